/- FnQuoteText: the law. -/
import Derived.Test.YtamajbaojbghcaaQtA
namespace Go.Proofs.Ytamajbaojbghcaa.Qt
open Go.RowKit Go.Lib Go.Proofs.YtamajbaojbghcaaW.PrintWords Go.Proofs.YtamajbaojbghcaaW.PrintLast Go.Proofs.YtamajbaojbghcaaW.PrintMore Go.Proofs.Ytamajbaojbghcaa.PX Go.Proofs.Ytamajbaojbghcaa.K Go.Proofs.Ytamajbaojbghcaa.Lx
set_option linter.unusedVariables false
set_option linter.unusedSimpArgs false
theorem doorW (s : ByteArray) (w : World) (hs : s.size ≤ 2147483647) : Calls Try.prog 46 #[.string s] w fun e w' => e = .returned (.string ⟨(34 :: (qB (bs s) ++ [34])).toArray⟩) ∧ Below w.heap.size w w' := by
  go_enter Try.func46, Try.ntmps46
  go_wp2_with fail
  refine (quoteW s w hs).mono ?_
  rintro e w1 ⟨rfl, hb⟩
  go_wp2_with fail
  go_ret
  exact ⟨rfl, hb⟩
theorem textW (s : ByteArray) (w : World) (hs : s.size ≤ 2147483647) : Calls Try.prog 24 #[.string s] w fun e w' => e = .returned (.string ⟨(34 :: (qB (bs s) ++ [34])).toArray⟩) ∧ Below w.heap.size w w' := by
  go_enter Try.func24, Try.ntmps24
  go_wp2_with fail
  refine (doorW s w hs).mono ?_
  rintro e w1 ⟨rfl, hb⟩
  go_wp2_with fail
  go_ret
  exact ⟨rfl, hb⟩
theorem qRs_len : ∀ (R : List Nat), (qRs R).length ≤ 6 * R.length := by
  intro R
  induction R with
  | nil => exact Nat.le_refl _
  | cons r R ih =>
    rw [qRs, List.length_append, List.length_cons]
    have : (qR r).length ≤ 6 := by rcases qR_cases r with ⟨h, _⟩ | ⟨y, h, _⟩ | ⟨h, _⟩ <;> rw [h] <;> simp
    omega
set_option maxHeartbeats 4000000 in
set_option maxRecDepth 100000 in
theorem walkQ (s : ByteArray) (w : World) (_hs : s.size ≤ 140737488351232) : Calls Try.prog 7 #[.string s] w fun e w' => e = .returned (.bool true) ∧ Below w.heap.size w w' := by
  have HPL := Lib.hid (Bt.plainW s)
  by_cases hbig : s.size ≤ 2147483647
  · obtain ⟨pb, hpb⟩ : ∃ b, Bt.plainB s = b := ⟨_, rfl⟩
    rw [hpb] at HPL
    by_cases h16 : 65536 < s.size
    · have hd : decide ((s.size : Int) > 65536) = true := decide_eq_true (by omega)
      clear hpb
      go_enter Try.func7, Try.ntmps7
      go_wp2_with fail
      refine (HPL.out w).mono ?_
      rintro e w1 ⟨rfl, hb⟩
      cases pb with
      | false =>
        go_wp2_with fail
        go_ret
        exact ⟨rfl, hb⟩
      | true =>
        go_wp2_with fail
        go_ret
        exact ⟨by simp, hb⟩
    · have hd : decide ((s.size : Int) > 65536) = false := decide_eq_false (by omega)
      have hd' : decide ((65536 : Int) < (s.size : Int)) = false := decide_eq_false (by omega)
      have HPB := Lib.hid hpb
      have hrl : (rs s).length ≤ s.size := by
        have := (Al.start s).length_le
        unfold rs; rw [List.length_map]; omega
      have hql : (qRs (rs s)).length ≤ 6 * (rs s).length := qRs_len _
      have HT := Lib.hid (fun w => textW s w (by omega))
      have HL := Lib.hid (fun (hp : Bt.plainB s = true) w => lexW ⟨(34 :: (qB (bs s) ++ [34])).toArray⟩ (rs s) w (quote_rs s hp) (plain_rs s hp).2 (by unfold qz; simp; omega) (by omega))
      have HV := Lib.hid (fun (hp : Bt.plainB s = true) => show runesBytes (zs (rs s)) = s from runesBytes_rs s hp)
      obtain ⟨V, hV⟩ : ∃ V : ByteArray, (⟨(34 :: (qB (bs s) ++ [34])).toArray⟩ : ByteArray) = V := ⟨_, rfl⟩
      rw [hV] at HT HL
      have hself : (s.toList == s.toList) = true := beq_self_eq_true _
      clear hpb hV hrl hql
      go_enter Try.func7, Try.ntmps7
      go_wp2_with fail
      refine (HPL.out w).mono ?_
      rintro e w1 ⟨rfl, hb⟩
      have HB1 := Lib.hid hb
      clear hb
      cases pb with
      | false =>
        go_wp2_with fail
        go_ret
        exact ⟨rfl, HB1.out⟩
      | true =>
        go_wp2_with fail
        refine (HT.out w1).mono ?_
        rintro e w2 ⟨rfl, hb2⟩
        have HB2 := Lib.hid (HB1.out.trans (hb2.mono HB1.out.size))
        clear hb2
        go_wp2_with fail
        refine (HL.out HPB.out w2).mono ?_
        rintro e w3 ⟨A2, c2, rfl, hc2, hC, hb3⟩
        have HB3 := Lib.hid (HB2.out.trans (hb3.mono HB2.out.size))
        rw [HV.out HPB.out] at hC
        obtain ⟨ad, rfl, k0, k1, _⟩ := at_T36 hC 0 (by omega) (by omega)
        have k0' : w3.cell? ad = some (.int .i64 18) := k0
        have k1' : w3.cell? ⟨ad.block, ad.off + 1, none⟩ = some (.string s) := k1
        clear hb3 k0 k1 hC
        go_wp2_with fail
        go_ret
        exact ⟨by simp, HB3.out⟩
  · go_enter Try.func7, Try.ntmps7
    go_wp2_with fail
    go_ret
    exact ⟨rfl, Below.refl _ _⟩
end Go.Proofs.Ytamajbaojbghcaa.Qt
