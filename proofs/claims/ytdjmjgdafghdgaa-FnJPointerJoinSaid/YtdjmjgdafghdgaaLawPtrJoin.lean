/- FnJPointerJoin: for any three texts of UTF-8, each at most 2^31-1 bytes: two pointers one behind the other are one, and an escaped token behind a slash is one. -/
import Derived.Test.YtdjmjgdafghdgaaFmtPtr
import Derived.Test.YtdjmjgdafghdgaaPureFnJEscape
import Derived.Test.YtdjmjgdafghdgaaSpecUtf8FnJPointerJoin
namespace Go.Proofs.Ytdjmjgdafghdgaa.LPtrJ
open Go.RowKit Go.Proofs.YtdjmjgdafghdgaaW.PrintWords Go.Proofs.YtdjmjgdafghdgaaW.PrintLast Go.Proofs.Ytdjmjgdafghdgaa.K Go.Proofs.Ytdjmjgdafghdgaa.Fmt
set_option linter.unusedVariables false
set_option linter.unusedSimpArgs false

theorem esc_app (r : List UInt8) : ∀ (e : Bool) (a : List UInt8), esc e a = true → esc e (a ++ r) = esc false r
  | true, [], h => by simp [esc] at h
  | false, [], _ => rfl
  | true, x :: a, h => by
    simp only [esc, if_true, Bool.and_eq_true] at h
    simp only [List.cons_append, esc, if_true]
    rw [esc_app r false a h.2, h.1, Bool.true_and]
  | false, x :: a, h => by
    simp only [esc, Bool.false_eq_true, if_false] at h
    simp only [List.cons_append, esc, Bool.false_eq_true, if_false]
    exact esc_app r _ a h

theorem esc_flat (r : List UInt8) (t : List UInt8) : esc false (t.flatMap Pure.esc ++ r) = esc false r := by
  induction t with
  | nil => rfl
  | cons x t ih =>
    simp only [List.flatMap_cons, List.append_assoc]
    rw [show Pure.esc x = if x = 126 then [126, 48] else if x = 47 then [126, 49] else [x] from rfl]
    by_cases h1 : x = 126
    · subst h1; rw [if_pos rfl]; simpa [esc] using ih
    · rw [if_neg h1]
      by_cases h2 : x = 47
      · subst h2; rw [if_pos rfl]; simpa [esc] using ih
      · rw [if_neg h2]
        have : (x == 126) = false := by rw [beq_eq_false_iff_ne]; exact h1
        simpa [esc, this] using ih

theorem one_ok (t : List UInt8) : ptrOk (47 :: t.flatMap Pure.esc) := by
  rw [ptr_esc]
  refine ⟨.inr rfl, ?_⟩
  have := esc_flat [] t
  rw [List.append_nil] at this
  simpa [esc] using this
theorem one_bad (t : List UInt8) : ¬ ptrOk (47 :: t.flatMap Pure.esc ++ [126]) := by
  rw [ptr_esc]
  rintro ⟨_, h⟩
  have := esc_flat [126] t
  simp only [List.cons_append, esc, Bool.false_eq_true, if_false] at h
  rw [show ((47 : UInt8) == 126) = false from rfl, this] at h
  simp [esc] at h
theorem join_ok (a b : List UInt8) (ha : ptrOk a) (hb : ptrOk b) : ptrOk (a ++ b) := by
  rw [ptr_esc] at *
  refine ⟨?_, by rw [esc_app b false a ha.2]; exact hb.2⟩
  rcases ha.1 with rfl | h
  · exact hb.1
  · right
    cases a with
    | nil => simp at h
    | cons x a => exact h

set_option maxHeartbeats 4000000 in
theorem walk (a b t : ByteArray) (w : World) (_ha : a.size ≤ 140737488351232) (_hb : b.size ≤ 140737488351232) (_ht : t.size ≤ 140737488351232) :
    Calls Try.prog 7 #[.string a, .string b, .string t] w fun e w' => e = .returned (.bool true) ∧ Below w.heap.size w w' := by
  have hbr : Below w.heap.size w w := Below.refl _ _
  by_cases h1 : a.size ≤ 2147483647
  case neg =>
    go_enter Try.func7, Try.ntmps7
    go_wp2_with fail
    go_ret
    exact ⟨rfl, hbr⟩
  by_cases h2 : b.size ≤ 2147483647
  case neg =>
    go_enter Try.func7, Try.ntmps7
    go_wp2_with fail
    go_ret
    exact ⟨rfl, hbr⟩
  by_cases h3 : t.size ≤ 2147483647
  case neg =>
    go_enter Try.func7, Try.ntmps7
    go_wp2_with fail
    go_ret
    exact ⟨rfl, hbr⟩
  obtain ⟨oa, ⟨Ka, hKa⟩⟩ := SUtf8FnJPointerJoin.utfE a h1
  obtain ⟨ob, ⟨Kb, hKb⟩⟩ := SUtf8FnJPointerJoin.utfE b h2
  obtain ⟨ot, ⟨Kt, hKt⟩⟩ := SUtf8FnJPointerJoin.utfE t h3
  obtain ⟨r, ⟨Kr, hKr⟩, hr⟩ := Pure.implEsc t h3
  have HKa := Lib.hid (hKa Ka (Nat.le_refl _))
  have HKb := Lib.hid (hKb Kb (Nat.le_refl _))
  have HKt := Lib.hid (hKt Kt (Nat.le_refl _))
  have HKr := Lib.hid (hKr Kr (Nat.le_refl _))
  have hrs : r.size ≤ 4294967294 := by
    have := Pure.esc_length (bs t)
    rw [← hr, bs_len, bs_len] at this
    omega
  have HR := Lib.hid hr
  clear hKa hKb hKt hKr hr
  go_enter Try.func7, Try.ntmps7
  go_wp2_with fail
  refine (PFnJPointerJoin.spec_JUtf8.calls Ka a oa _ HKa.out).mono ?_
  rintro e w2 ⟨rfl, ⟨n, rfl⟩⟩
  have hbr := pw_below_drewN hbr n
  generalize w.drewN n = wa at *
  cases oa with
  | false =>
    go_wp2_with fail
    go_ret
    exact ⟨rfl, hbr⟩
  | true =>
  go_wp2_with fail
  refine (PFnJPointerJoin.spec_JUtf8.calls Kb b ob _ HKb.out).mono ?_
  rintro e w2 ⟨rfl, ⟨n2, rfl⟩⟩
  have hbr := pw_below_drewN hbr n2
  generalize wa.drewN n2 = wb at *
  cases ob with
  | false =>
    go_wp2_with fail
    go_ret
    exact ⟨rfl, hbr⟩
  | true =>
  go_wp2_with fail
  refine (PFnJPointerJoin.spec_JUtf8.calls Kt t ot _ HKt.out).mono ?_
  rintro e w2 ⟨rfl, ⟨n3, rfl⟩⟩
  have hbr := pw_below_drewN hbr n3
  generalize wb.drewN n3 = wc at *
  cases ot with
  | false =>
    go_wp2_with fail
    go_ret
    exact ⟨rfl, hbr⟩
  | true =>
  go_wp2_with fail
  refine (PFnJEscape.impl_JEscape.calls Kr t r _ HKr.out).mono ?_
  rintro e w2 ⟨rfl, hw2⟩
  have hbr := fin0 hbr hbr.size hw2
  have k1 : (⟨#[47]⟩ : ByteArray).size = 1 := rfl
  have k2 : (⟨#[126]⟩ : ByteArray).size = 1 := rfl
  have e1 : bs ((⟨#[47]⟩ : ByteArray) ++ r) = 47 :: (bs t).flatMap Pure.esc := by rw [bs_append, HR.out]; rfl
  have hone : ptrOk (bs ((⟨#[47]⟩ : ByteArray) ++ r)) := by rw [e1]; exact one_ok _
  have hbad : ¬ ptrOk (bs ((⟨#[47]⟩ : ByteArray) ++ r ++ ⟨#[126]⟩)) := by rw [bs_append, e1]; exact one_bad _
  have HONE := Lib.hid hone
  have HBAD := Lib.hid hbad
  clear e1 hone hbad
  go_wp2_with fail
  refine (implPtr a _ (by omega)).mono ?_
  rintro e w3 ⟨⟨c1, rfl, hc1⟩, hb3⟩
  have hbr := fin0 hbr hbr.size hb3
  have HC1 := Lib.hid hc1
  clear hc1
  cases c1 with
  | false =>
    go_wp2_with fail
    refine (implPtr _ _ (by rw [ByteArray.size_append]; omega)).mono ?_
    rintro e w4 ⟨⟨d1, rfl, hd1⟩, hb4⟩
    have hbr := fin0 hbr hbr.size hb4
    obtain rfl : d1 = true := hd1.2 HONE.out
    clear hd1
    go_wp2_with fail
    refine (implPtr _ _ (by rw [ByteArray.size_append, ByteArray.size_append]; omega)).mono ?_
    rintro e w5 ⟨⟨d2, rfl, hd2⟩, hb5⟩
    have hbr := fin0 hbr hbr.size hb5
    obtain rfl : d2 = false := by
      cases d2 with
      | false => rfl
      | true => exact absurd (hd2.1 rfl) HBAD.out
    clear hd2
    go_wp2_with fail
    refine (implPtr _ _ (by decide)).mono ?_
    rintro e w6 ⟨⟨d3, rfl, hd3⟩, hb6⟩
    have hbr := fin0 hbr hbr.size hb6
    obtain rfl : d3 = true := hd3.2 (.inl rfl)
    clear hd3
    go_wp2_with fail
    go_ret
    exact ⟨rfl, hbr⟩

  | true =>
    go_wp2_with fail
    refine (implPtr _ _ (by rw [ByteArray.size_append, ByteArray.size_append]; omega)).mono ?_
    rintro e wd ⟨⟨c2, rfl, hc2⟩, hbd⟩
    have hbr := fin0 hbr hbr.size hbd
    obtain rfl : c2 = true := hc2.2 (by rw [bs_append]; exact join_ok _ _ (HC1.out.1 (by simp)) HONE.out)
    clear hc2
    go_wp2_with fail
    refine (implPtr b _ (by omega)).mono ?_
    rintro e we ⟨⟨c3, rfl, hc3⟩, hbe⟩
    have hbr := fin0 hbr hbr.size hbe
    have HC3 := Lib.hid hc3
    clear hc3
    cases c3 with
    | false =>
      go_wp2_with fail
      refine (implPtr _ _ (by rw [ByteArray.size_append]; omega)).mono ?_
      rintro e w4 ⟨⟨d1, rfl, hd1⟩, hb4⟩
      have hbr := fin0 hbr hbr.size hb4
      obtain rfl : d1 = true := hd1.2 HONE.out
      clear hd1
      go_wp2_with fail
      refine (implPtr _ _ (by rw [ByteArray.size_append, ByteArray.size_append]; omega)).mono ?_
      rintro e w5 ⟨⟨d2, rfl, hd2⟩, hb5⟩
      have hbr := fin0 hbr hbr.size hb5
      obtain rfl : d2 = false := by
        cases d2 with
        | false => rfl
        | true => exact absurd (hd2.1 rfl) HBAD.out
      clear hd2
      go_wp2_with fail
      refine (implPtr _ _ (by decide)).mono ?_
      rintro e w6 ⟨⟨d3, rfl, hd3⟩, hb6⟩
      have hbr := fin0 hbr hbr.size hb6
      obtain rfl : d3 = true := hd3.2 (.inl rfl)
      clear hd3
      go_wp2_with fail
      go_ret
      exact ⟨rfl, hbr⟩

    | true =>
      go_wp2_with fail
      refine (implPtr _ _ (by rw [ByteArray.size_append]; omega)).mono ?_
      rintro e wf ⟨⟨c4, rfl, hc4⟩, hbf⟩
      have hbr := fin0 hbr hbr.size hbf
      obtain rfl : c4 = true := hc4.2 (by rw [bs_append]; exact join_ok _ _ (HC1.out.1 (by simp)) (HC3.out.1 (by simp)))
      clear hc4
      go_wp2_with fail
      refine (implPtr _ _ (by rw [ByteArray.size_append]; omega)).mono ?_
      rintro e w4 ⟨⟨d1, rfl, hd1⟩, hb4⟩
      have hbr := fin0 hbr hbr.size hb4
      obtain rfl : d1 = true := hd1.2 HONE.out
      clear hd1
      go_wp2_with fail
      refine (implPtr _ _ (by rw [ByteArray.size_append, ByteArray.size_append]; omega)).mono ?_
      rintro e w5 ⟨⟨d2, rfl, hd2⟩, hb5⟩
      have hbr := fin0 hbr hbr.size hb5
      obtain rfl : d2 = false := by
        cases d2 with
        | false => rfl
        | true => exact absurd (hd2.1 rfl) HBAD.out
      clear hd2
      go_wp2_with fail
      refine (implPtr _ _ (by decide)).mono ?_
      rintro e w6 ⟨⟨d3, rfl, hd3⟩, hb6⟩
      have hbr := fin0 hbr hbr.size hb6
      obtain rfl : d3 = true := hd3.2 (.inl rfl)
      clear hd3
      go_wp2_with fail
      go_ret
      exact ⟨rfl, hbr⟩
end Go.Proofs.Ytdjmjgdafghdgaa.LPtrJ
