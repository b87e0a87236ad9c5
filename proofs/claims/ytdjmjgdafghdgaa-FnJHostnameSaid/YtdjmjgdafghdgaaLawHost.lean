/- FnJHostname: for every text of at most 2^31-1 bytes that is not odd impl.JHostname and spec.JHostname answer the same. -/
import Derived.Test.YtdjmjgdafghdgaaSpecHost
namespace Go.Proofs.Ytdjmjgdafghdgaa.LHost
open Go.RowKit Go.Proofs.YtdjmjgdafghdgaaW.PrintWords Go.Proofs.YtdjmjgdafghdgaaW.PrintLast Go.Proofs.Ytdjmjgdafghdgaa.K Go.Proofs.Ytdjmjgdafghdgaa.Fmt
set_option linter.unusedVariables false
set_option linter.unusedSimpArgs false

theorem bool_of_iff {b c : Bool} {p q : Prop} (h1 : b = true ↔ p) (h2 : c = true ↔ q) (h : p ↔ q) : b = c := by
  rw [Bool.eq_iff_iff, h1, h2, h]

set_option maxHeartbeats 1000000 in
theorem walk (s : ByteArray) (w : World) (_hs : s.size ≤ 140737488351232) :
    Calls Try.prog 12 #[.string s] w fun e w' => e = .returned (.bool true) ∧ Below w.heap.size w w' := by
  by_cases hbig : s.size ≤ 2147483647
  · obtain ⟨o, ⟨K0, hK0⟩, ho⟩ := SHostFnJHostname.oddS s hbig
    obtain ⟨c, ⟨K, hK⟩, hc⟩ := SHostFnJHostname.hostS s hbig
    have HK := Lib.hid (hK K (Nat.le_refl _))
    have HK0 := Lib.hid (hK0 K0 (Nat.le_refl _))
    have HC := Lib.hid hc
    have HO := Lib.hid ho
    clear hK hc hK0 ho
    go_enter Try.func12, Try.ntmps12
    go_wp2_with fail
    refine (PFnJHostname.laws_jOdd.calls K0 s o _ HK0.out).mono ?_
    rintro e w2 ⟨rfl, ⟨n, rfl⟩⟩
    cases o with
    | true =>
      go_wp2_with fail
      go_ret
      exact ⟨rfl, pw_below_drewN (Below.refl _ _) n⟩
    | false =>
      go_wp2_with fail
      refine (implHost s _ hbig).mono ?_
      rintro e w1 ⟨⟨b, rfl, hb1⟩, hb⟩
      have HB := Lib.hid hb1
      clear hb1
      go_wp2_with fail
      refine (PFnJHostname.spec_JHostname.calls K s c _ HK.out).mono ?_
      rintro e w2 ⟨rfl, ⟨n2, rfl⟩⟩
      go_wp2_with fail
      go_ret
      have hbc : b = c := by
        refine bool_of_iff HB.out HC.out ?_
        unfold hostOk trimDot
        rw [if_neg (HO.out (by simp))]
      subst hbc
      exact ⟨by simp, pw_below_drewN ((pw_below_drewN (Below.refl _ _) n).trans hb) n2⟩
  · go_enter Try.func12, Try.ntmps12
    go_wp2_with fail
    go_ret
    exact ⟨rfl, Below.refl _ _⟩
end Go.Proofs.Ytdjmjgdafghdgaa.LHost
