/- FnJEscapeBack: for any two texts of at most 2^31-1 bytes: what is escaped is read back, tokens that are different are so when they are escaped, and what is escaped has no slash. -/
import Derived.Test.YtdjmjgdafghdgaaFmtUnesc
import Derived.Test.YtdjmjgdafghdgaaPureFnJEscape
import Derived.Test.YtdjmjgdafghdgaaPFnJEscapeBackx1
namespace Go.Proofs.Ytdjmjgdafghdgaa.LEscB
open Go.RowKit Go.Proofs.YtdjmjgdafghdgaaW.PrintWords Go.Proofs.YtdjmjgdafghdgaaW.PrintLast Go.Proofs.YtdjmjgdafghdgaaW.PrintMore Go.Proofs.Ytdjmjgdafghdgaa.K Go.Proofs.Ytdjmjgdafghdgaa.Fmt
set_option linter.unusedVariables false
set_option linter.unusedSimpArgs false

theorem esc_cases (x : UInt8) : (x = 126 ∧ Pure.esc x = [126, 48]) ∨ (x = 47 ∧ Pure.esc x = [126, 49]) ∨ (x ≠ 126 ∧ x ≠ 47 ∧ Pure.esc x = [x]) := by
  unfold Pure.esc
  by_cases h1 : x = 126
  · exact .inl ⟨h1, if_pos h1⟩
  · by_cases h2 : x = 47
    · exact .inr (.inl ⟨h2, by rw [if_neg h1, if_pos h2]⟩)
    · exact .inr (.inr ⟨h1, h2, by rw [if_neg h1, if_neg h2]⟩)

theorem back (l : List UInt8) : unesc (l.flatMap Pure.esc) = some l := by
  induction l with
  | nil => rfl
  | cons x l ih =>
    rw [List.flatMap_cons]
    rcases esc_cases x with ⟨h, e⟩ | ⟨h, e⟩ | ⟨h, _, e⟩
    · rw [e]
      show unesc (126 :: 48 :: l.flatMap Pure.esc) = _
      rw [unesc_0, ih, h]; rfl
    · rw [e]
      show unesc (126 :: 49 :: l.flatMap Pure.esc) = _
      rw [unesc_1, ih, h]; rfl
    · rw [e, unesc_free _ (by simpa using fun k => h k.symm), ih]
      rfl

theorem noSlash (l : List UInt8) : (47 : UInt8) ∉ l.flatMap Pure.esc := by
  induction l with
  | nil => simp
  | cons x l ih =>
    rw [List.flatMap_cons, List.mem_append]
    rintro (h | h)
    · rcases esc_cases x with ⟨_, e⟩ | ⟨_, e⟩ | ⟨_, h2, e⟩
      · rw [e] at h; revert h; decide
      · rw [e] at h; revert h; decide
      · rw [e, List.mem_singleton] at h; exact h2 h.symm
    · exact ih h

theorem hasNo (s : ByteArray) (hs : s.size ≤ 4294967296) (hn : (47 : UInt8) ∉ bs s) (d : Nat) : ∀ i : Nat, i ≤ s.size → s.size - i ≤ d → Ev (fun k => PFnJEscapeBack.spec_JHas.l0 k s 47 i) false := by
  have hl := bs_len s
  induction d with
  | zero =>
    intro i hi hd
    refine ev_succ 0 fun k _ => ?_
    simp only [PFnJEscapeBack.spec_JHas.l0]
    rw [if_neg (by omega)]
  | succ d ih =>
    intro i hi hd
    by_cases he : i = s.size
    · refine ev_succ 0 fun k _ => ?_
      simp only [PFnJEscapeBack.spec_JHas.l0]
      rw [if_neg (by omega)]
    have hlt : i < (bs s).length := by omega
    have ew : wrap64 ((i : Int) + 1) = ((i + 1 : Nat) : Int) := by rw [wrap_in (by omega) (by omega)]; omega
    have hbt := bt_nat s i hlt
    have hq : ¬ bt s i = 47 := by
      rw [hbt]
      exact fun e => hn ((eq_toNat _ 47).1 e ▸ List.getElem_mem hlt)
    obtain ⟨K, hK⟩ := ih (i + 1) (by omega) (by omega)
    simp only at hK
    refine ev_succ K fun k hk => ?_
    simp only [PFnJEscapeBack.spec_JHas.l0, ew]
    rw [if_pos (by omega), if_pos (by omega), if_neg hq, hK k hk]

set_option maxHeartbeats 4000000 in
theorem walk (a b : ByteArray) (w : World) (_ha : a.size ≤ 140737488351232) (_hb : b.size ≤ 140737488351232) :
    Calls Try.prog 5 #[.string a, .string b] w fun e w' => e = .returned (.bool true) ∧ Below w.heap.size w w' := by
  have hbr : Below w.heap.size w w := Below.refl _ _
  by_cases h1 : a.size ≤ 2147483647
  case neg =>
    go_enter Try.func5, Try.ntmps5
    go_wp2_with fail
    go_ret
    exact ⟨rfl, hbr⟩
  by_cases h2 : b.size ≤ 2147483647
  case neg =>
    go_enter Try.func5, Try.ntmps5
    go_wp2_with fail
    go_ret
    exact ⟨rfl, hbr⟩
  obtain ⟨x, ⟨Ka, hKa⟩, hx⟩ := Pure.implEsc a h1
  obtain ⟨y, ⟨Kb, hKb⟩, hy⟩ := Pure.implEsc b h2
  have HKa := Lib.hid (hKa Ka (Nat.le_refl _))
  have HKb := Lib.hid (hKb Kb (Nat.le_refl _))
  have hxs : x.size ≤ 4294967294 := by
    have := Pure.esc_length (bs a)
    rw [← hx, bs_len, bs_len] at this
    omega
  obtain ⟨Kh, hKh⟩ := hasNo x (by omega) (by rw [hx]; exact noSlash _) x.size 0 (Nat.zero_le _) (by omega)
  have HKh := Lib.hid (hKh Kh (Nat.le_refl _))
  have hback : unesc (bs x) = some (bs a) := by rw [hx, back]
  have hinj : bs x = bs y → bs a = bs b := by
    intro h
    have h2 : unesc (bs y) = some (bs b) := by rw [hy, back]
    rw [← h, hback] at h2
    exact Option.some.inj h2
  have heq : ∃ β : Bool, (a.toList == b.toList) = β ∧ (x.toList == y.toList) = β := by
    by_cases h : a = b
    · refine ⟨true, ?_, ?_⟩
      · rw [h]; simp
      · rw [beq_iff_eq, toList_inj, hx, hy, h]
    · refine ⟨false, ?_, ?_⟩
      · rw [beq_eq_false_iff_ne, Ne, toList_inj]; exact fun k => h (bs_ext k)
      · rw [beq_eq_false_iff_ne, Ne, toList_inj]; exact fun k => h (bs_ext (hinj k))
  obtain ⟨β, hab, hxy⟩ := heq
  have HBACK := Lib.hid hback
  have hself : (a.toList == a.toList) = true := by simp
  clear hKa hKb hx hy hKh hback hinj
  go_enter Try.func5, Try.ntmps5
  go_wp2_with fail
  refine (PFnJEscape.impl_JEscape.calls Ka a x _ HKa.out).mono ?_
  rintro e w1 ⟨rfl, hb1⟩
  have hbr := fin0 hbr hbr.size hb1
  clear hb1
  go_wp2_with fail
  refine (PFnJEscape.impl_JEscape.calls Kb b y _ HKb.out).mono ?_
  rintro e w2 ⟨rfl, hb2⟩
  have hbr := fin0 hbr hbr.size hb2
  clear hb2
  go_wp2_with fail
  refine (implUnesc x _ (by omega)).mono ?_
  rintro e w3 ⟨hr, hb3⟩
  have hbr := fin0 hbr hbr.size hb3
  rcases hr with ⟨t, hu, rfl⟩ | ⟨hu, rfl⟩
  case inr => rw [HBACK.out] at hu; cases hu
  obtain rfl : a = t := by
    rw [HBACK.out] at hu
    exact bs_ext (Option.some.inj hu)
  clear hu hb3
  cases β
  all_goals
    go_wp2_with fail
    refine (PFnJEscapeBack.spec_JHas.calls Kh x 47 false _ HKh.out).mono ?_
    rintro e w4 ⟨rfl, ⟨n, rfl⟩⟩
    go_wp2_with fail
    go_ret
    exact ⟨by simp, pw_below_drewN hbr n⟩
end Go.Proofs.Ytdjmjgdafghdgaa.LEscB
