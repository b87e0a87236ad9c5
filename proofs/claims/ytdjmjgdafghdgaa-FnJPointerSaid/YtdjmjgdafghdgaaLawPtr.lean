/- FnJPointer: for every text of UTF-8 of at most 2^31-1 bytes impl.JPointer and spec.JPointer answer the same. -/
import Derived.Test.YtdjmjgdafghdgaaFmtPtr
import Derived.Test.YtdjmjgdafghdgaaSpecPtrFnJPointer
import Derived.Test.YtdjmjgdafghdgaaSpecUtf8FnJPointer
namespace Go.Proofs.Ytdjmjgdafghdgaa.LPtr
open Go.RowKit Go.Proofs.YtdjmjgdafghdgaaW.PrintWords Go.Proofs.YtdjmjgdafghdgaaW.PrintLast Go.Proofs.Ytdjmjgdafghdgaa.K Go.Proofs.Ytdjmjgdafghdgaa.Fmt
set_option linter.unusedVariables false
set_option linter.unusedSimpArgs false

theorem bool_of_iff {b c : Bool} {p q : Prop} (h1 : b = true ↔ p) (h2 : c = true ↔ q) (h : p ↔ q) : b = c := by
  rw [Bool.eq_iff_iff, h1, h2, h]

set_option maxHeartbeats 1000000 in
theorem walk (s : ByteArray) (w : World) (_hs : s.size ≤ 140737488351232) :
    Calls Try.prog 6 #[.string s] w fun e w' => e = .returned (.bool true) ∧ Below w.heap.size w w' := by
  by_cases hbig : s.size ≤ 2147483647
  · obtain ⟨o, ⟨K0, hK0⟩⟩ := SUtf8FnJPointer.utfE s hbig
    obtain ⟨c, ⟨K, hK⟩, hc⟩ := SPtrFnJPointer.ptrS s hbig
    have HK := Lib.hid (hK K (Nat.le_refl _))
    have HK0 := Lib.hid (hK0 K0 (Nat.le_refl _))
    have HC := Lib.hid hc
    clear hK hc hK0
    go_enter Try.func6, Try.ntmps6
    go_wp2_with fail
    refine (PFnJPointer.spec_JUtf8.calls K0 s o _ HK0.out).mono ?_
    rintro e w2 ⟨rfl, ⟨n, rfl⟩⟩
    have hbr := pw_below_drewN (Below.refl w.heap.size w) n
    generalize w.drewN n = wa at *
    cases o with
    | false =>
      go_wp2_with fail
      go_ret
      exact ⟨rfl, hbr⟩
    | true =>
      go_wp2_with fail
      refine (implPtr s _ (by omega)).mono ?_
      rintro e w1 ⟨⟨b, rfl, hb1⟩, hb⟩
      have hbr := fin0 hbr hbr.size hb
      have hbc : b = c := bool_of_iff hb1 HC.out Iff.rfl
      subst hbc
      have hself : (b == b) = true := by simp
      clear hb1
      go_wp2_with fail
      refine (PFnJPointer.spec_JPointer.calls K s b _ HK.out).mono ?_
      rintro e w2 ⟨rfl, ⟨n2, rfl⟩⟩
      go_wp2_with fail
      go_ret
      exact ⟨by simp, pw_below_drewN hbr n2⟩
  · go_enter Try.func6, Try.ntmps6
    go_wp2_with fail
    go_ret
    exact ⟨rfl, Below.refl _ _⟩
end Go.Proofs.Ytdjmjgdafghdgaa.LPtr
