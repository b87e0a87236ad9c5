/- FnBlockText: the law. -/
import Derived.Test.YtamajbaojbghcaaBt4
namespace Go.Proofs.Ytamajbaojbghcaa.Bt
open Go.RowKit Go.Proofs.YtamajbaojbghcaaW.PrintWords Go.Proofs.YtamajbaojbghcaaW.PrintLast Go.Proofs.YtamajbaojbghcaaW.PrintMore Go.Proofs.Ytamajbaojbghcaa.PB Go.Proofs.Ytamajbaojbghcaa.K
set_option linter.unusedVariables false
set_option linter.unusedSimpArgs false
theorem doorW (s : ByteArray) (w : World) (hs : s.size ≤ 65536) : Calls Try.prog 44 #[.string s] w fun e w' => e = .returned (.string ⟨(blkV (bs s)).toArray⟩) ∧ Below w.heap.size w w' := by
  go_enter Try.func44, Try.ntmps44
  go_wp2_with fail
  refine (blockW s w hs).mono ?_
  rintro e w1 ⟨rfl, hb⟩
  go_wp2_with fail
  go_ret
  exact ⟨rfl, hb⟩
theorem textW (s : ByteArray) (w : World) (hs : s.size ≤ 65536) : Calls Try.prog 21 #[.string s] w fun e w' => e = .returned (.string ⟨(blkV (bs s)).toArray⟩) ∧ Below w.heap.size w w' := by
  go_enter Try.func21, Try.ntmps21
  go_wp2_with fail
  refine (doorW s w hs).mono ?_
  rintro e w1 ⟨rfl, hb⟩
  go_wp2_with fail
  go_ret
  exact ⟨rfl, hb⟩
set_option maxHeartbeats 4000000 in
set_option maxRecDepth 100000 in
theorem walkB (s : ByteArray) (w : World) (_hs : s.size ≤ 140737488351232) : Calls Try.prog 6 #[.string s] w fun e w' => e = .returned (.bool true) ∧ Below w.heap.size w w' := by
  have HPL := Lib.hid (plainW s)
  by_cases hbig : s.size ≤ 2147483647
  · obtain ⟨pb, hpb⟩ : ∃ b, plainB s = b := ⟨_, rfl⟩
    rw [hpb] at HPL
    clear hpb
    by_cases h16 : 65536 < s.size
    · have hd : decide ((s.size : Int) > 65536) = true := decide_eq_true (by omega)
      go_enter Try.func6, Try.ntmps6
      go_wp2_with fail
      refine (HPL.out w).mono ?_
      rintro e w1 ⟨rfl, hb⟩
      cases pb with
      | false =>
        go_wp2_with fail
        go_ret
        exact ⟨rfl, hb⟩
      | true =>
        go_wp2_with fail
        go_ret
        exact ⟨by simp, hb⟩
    · have hd : decide ((s.size : Int) > 65536) = false := decide_eq_false (by omega)
      have hd' : decide ((65536 : Int) < (s.size : Int)) = false := decide_eq_false (by omega)
      obtain ⟨lb, ⟨K, hK⟩, hlb⟩ := levelE s (by omega)
      have HK := Lib.hid (hK K (Nat.le_refl _))
      have HLB := Lib.hid hlb
      clear hK hlb
      go_enter Try.func6, Try.ntmps6
      go_wp2_with fail
      refine (HPL.out w).mono ?_
      rintro e w1 ⟨rfl, hb⟩
      have HB1 := Lib.hid hb
      clear hb
      cases pb with
      | false =>
        go_wp2_with fail
        go_ret
        exact ⟨rfl, HB1.out⟩
      | true =>
        go_wp2_with fail
        refine (spec_Level.calls K s lb w1 HK.out).mono ?_
        rintro e w2 ⟨rfl, hb2⟩
        have HB2 := Lib.hid (HB1.out.trans (hb2.mono HB1.out.size))
        clear hb2
        cases lb with
        | false =>
          go_wp2_with fail
          go_ret
          exact ⟨by simp, HB2.out⟩
        | true =>
          have hLev := HLB.out rfl
          have hc := com_eq (bs s) hLev
          have heq : blkV (bs s) = bval (bs s) := by unfold blkV bval; rw [hc]
          have h13 := hLev.1
          have HT := Lib.hid (fun w => textW s w (by omega))
          have HW := Lib.hid (fun w => valueW s w (by omega) h13)
          rw [heq] at HT
          obtain ⟨V, hV⟩ : ∃ V : ByteArray, (⟨(bval (bs s)).toArray⟩ : ByteArray) = V := ⟨_, rfl⟩
          rw [hV] at HT HW
          have hself : (V.toList == V.toList) = true := beq_self_eq_true _
          clear hLev hc heq h13 hV
          go_wp2_with fail
          refine (HT.out w2).mono ?_
          rintro e w3 ⟨rfl, hb3⟩
          have HB3 := Lib.hid (HB2.out.trans (hb3.mono HB2.out.size))
          clear hb3
          go_wp2_with fail
          refine (HW.out w3).mono ?_
          rintro e w4 ⟨rfl, hb4⟩
          have HB4 := Lib.hid (HB3.out.trans (hb4.mono HB3.out.size))
          clear hb4
          go_wp2_with fail
          go_ret
          exact ⟨by simp, HB4.out⟩
  · go_enter Try.func6, Try.ntmps6
    go_wp2_with fail
    go_ret
    exact ⟨rfl, Below.refl _ _⟩
end Go.Proofs.Ytamajbaojbghcaa.Bt
