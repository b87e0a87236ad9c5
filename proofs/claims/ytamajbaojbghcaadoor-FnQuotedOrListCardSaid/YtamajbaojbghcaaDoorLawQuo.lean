/- laws.FnQuotedOrList: the walk. -/
import Derived.Test.YtamajbaojbghcaaDoorOr2
namespace Go.Proofs.YtamajbaojbghcaaDoor.Or
open Go.RowKit Go.Proofs.YtamajbaojbghcaaDoorW.PrintWords Go.Proofs.YtamajbaojbghcaaDoorW.PrintLast Go.Proofs.YtamajbaojbghcaaDoorW.PrintMore Go.Proofs.YtamajbaojbghcaaDoor.PO Go.Proofs.YtamajbaojbghcaaDoor.K
set_option linter.unusedVariables false
set_option linter.unusedSimpArgs false
theorem implQuo (l : List ByteArray) (A : Option Addr) (c : Nat) (w : World) (hC : Kd.string.C w A l.length l) (hc : l.length ≤ c) (h5 : l.length ≤ 5) (hs : ∀ s ∈ l, s.size ≤ 2147483647) : Calls Tryd.prog 8 #[.slice A l.length c] w fun e w' => e = .returned (.string (orS (l.map quo) l.length)) ∧ Below w.heap.size w w' := by
  have HC := Lib.hid (coreQuo l A c w hC hc h5 hs)
  clear hC hs
  go_enter Tryd.func8, Tryd.ntmps8
  go_wp2_with fail
  refine HC.out.mono ?_
  rintro e w1 ⟨rfl, hb⟩
  go_wp2_with fail
  go_ret
  exact ⟨rfl, hb⟩
set_option maxHeartbeats 4000000 in
set_option maxRecDepth 100000 in
theorem walkQuo (A : Option Addr) (c : Nat) (l : List ByteArray) (w : World) (hr : Kd.string.C w A l.length l) (hc : l.length ≤ c) : Calls Tryd.prog 4 #[.slice A l.length c] w fun e w' => e = .returned (.bool true) ∧ Below w.heap.size w w' := by
  obtain ⟨z, ⟨KZ, hKZ⟩, hz⟩ := zz4E l
  have EZ := Lib.hid (laws_zzFits4.calls KZ A c l z w hr hc (hKZ KZ (Nat.le_refl _)))
  have HR := Lib.hid hr
  have HC := Lib.hid hc
  have HZ := Lib.hid hz
  clear hr hc hz hKZ
  by_cases h5 : l.length ≤ 5
  · have hd : decide ((l.length : Int) > 5) = false := by simp; omega
    have hd' : decide ((5 : Int) < (l.length : Int)) = false := by simp; omega
    have H5 := Lib.hid h5
    clear h5
    go_enter Tryd.func4, Tryd.ntmps4
    go_wp2_with fail
    refine EZ.out.mono ?_
    rintro e w1 ⟨rfl, hb⟩
    have hb1 := hb.below
    clear hb
    cases z
    · go_wp2_with fail
      go_ret
      exact ⟨rfl, hb1⟩
    have hs := HZ.out rfl
    obtain ⟨KO, hKO⟩ := quotedE l H5.out hs
    have EI := Lib.hid (implQuo l A c w1 (Kd.C_below HR.out hb1) HC.out H5.out hs)
    have ES := Lib.hid (fun (W : World) (h : Below w.heap.size w W) => spec_QuotedOrList.calls KO A c l (orS (l.map quo) l.length) W (Kd.C_below HR.out h) HC.out (hKO KO (Nat.le_refl _)))
    obtain ⟨r, hr⟩ : ∃ r, orS (l.map quo) l.length = r := ⟨_, rfl⟩
    rw [hr] at EI ES
    clear hs hKO hr
    go_wp2_with fail
    refine EI.out.mono ?_
    rintro e w2 ⟨rfl, hb⟩
    have hb2 := hb1.trans (hb.mono hb1.size)
    clear hb
    go_wp2_with fail
    refine (ES.out w2 hb2).mono ?_
    rintro e w3 ⟨rfl, hb⟩
    have hb3 : Below w.heap.size w w3 := hb2.trans ((hb).mono hb2.size)
    have hrr : (r.toList == r.toList) = true := by simp
    go_wp2_with fail
    go_ret
    exact ⟨by simp, hb3⟩
  · have hd : decide ((l.length : Int) > 5) = true := by simp; omega
    have hd' : decide ((5 : Int) < (l.length : Int)) = true := by simp; omega
    clear h5
    go_enter Tryd.func4, Tryd.ntmps4
    go_wp2_with fail
    refine EZ.out.mono ?_
    rintro e w1 ⟨rfl, hb⟩
    have hb1 := hb.below
    clear hb
    cases z
    · go_wp2_with fail
      go_ret
      exact ⟨rfl, hb1⟩
    go_wp2_with fail
    go_ret
    exact ⟨rfl, hb1⟩
end Go.Proofs.YtamajbaojbghcaaDoor.Or
