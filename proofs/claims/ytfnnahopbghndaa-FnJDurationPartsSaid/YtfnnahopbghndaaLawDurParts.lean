/- FnJDurationParts: of any two texts without T, each at most 2^31-1 bytes, the first one not ending with W: impl.JDuration takes them as days and hours together just if it takes each. -/
import Derived.Test.YtfnnahopbghndaaFmtDur
import Derived.Test.YtfnnahopbghndaaPFnJDurationPartsx
namespace Go.Proofs.Ytfnnahopbghndaa.LDurP
open Go.RowKit Go.Proofs.Ytfnnahopbghndaa.PFnJDurationParts Go.Proofs.YtfnnahopbghndaaW.PrintWords Go.Proofs.YtfnnahopbghndaaW.PrintLast Go.Proofs.Ytfnnahopbghndaa.K Go.Proofs.Ytfnnahopbghndaa.Fmt
set_option linter.unusedVariables false
set_option linter.unusedSimpArgs false

theorem hasLoop (s : ByteArray) (hs : s.size ≤ 2147483647) (c : UInt8) (d : Nat) : ∀ i : Nat, i ≤ s.size → s.size - i = d → Free c (bs s) 0 i →
    ∃ b, Ev (fun k => spec_JHas.l0 k s (c.toNat : Int) i) b ∧ (b = true ↔ c ∈ bs s) := by
  have hl := bs_len s
  induction d with
  | zero =>
    intro i hi hd hf
    refine ⟨false, ev_succ 0 fun k _ => ?_, ?_⟩
    · simp only [spec_JHas.l0]; rw [if_neg (by omega)]
    · have hm := hf.mem
      rw [List.drop_zero, List.take_of_length_le (by omega)] at hm
      simp [hm]
  | succ d ih =>
    intro i hi hd hf
    have hlt : i < (bs s).length := by omega
    have ew' : wrap64 ((i : Int) + 1) = ((i + 1 : Nat) : Int) := by rw [wrap_in (by omega) (by omega)]; omega
    have hbt := bt_nat s i hlt
    by_cases h : (bs s)[i] = c
    · refine ⟨true, ev_succ 0 fun k _ => ?_, ?_⟩
      · simp only [spec_JHas.l0, hbt]
        rw [if_pos (by omega), if_pos (by omega), if_pos (by rw [h])]
      · simp only [true_iff]; rw [← h]; exact List.getElem_mem hlt
    · obtain ⟨b, ⟨K, hK⟩, hb⟩ := ih (i + 1) (by omega) (by omega) (hf.step hlt h)
      refine ⟨b, ev_succ K fun k hk => ?_, hb⟩
      simp only [spec_JHas.l0, hbt, ew']
      rw [if_pos (by omega), if_pos (by omega), if_neg (show ¬ ((((bs s)[i]).toNat : Int) = (c.toNat : Int)) from fun e => h ((eq_toNat _ _).1 e))]
      exact hK k hk

theorem hasS (s : ByteArray) (hs : s.size ≤ 2147483647) (c : UInt8) : ∃ b, Ev (fun k => spec_JHas.f k s (c.toNat : Int)) b ∧ (b = true ↔ c ∈ bs s) :=
  hasLoop s hs c s.size 0 (Nat.zero_le _) rfl (Free.self _ _ _)

theorem dur_days (a : List UInt8) (ha : (84 : UInt8) ∉ a) (hw : a.getLast? ≠ some 87) : (a = [] ∨ durOk (80 :: a)) ↔ partOk 0 a := by
  unfold durOk
  simp only [List.head?_cons, List.drop_succ_cons, List.drop_zero, true_and, if_neg hw]
  rw [splitL_none ha]
  constructor
  · rintro (rfl | ⟨_, h⟩)
    · exact ⟨fun k => absurd rfl k, by omega, rfl⟩
    · exact h 0 (by simp)
  · intro h
    by_cases e : a = []
    · exact .inl e
    · refine .inr ⟨e, fun n hn => ?_⟩
      simp at hn
      subst hn
      exact h

theorem dur_hours (a b : List UInt8) (ha : (84 : UInt8) ∉ a) (hb : (84 : UInt8) ∉ b) : durOk (80 :: (a ++ 84 :: b)) ↔ b.getLast? ≠ some 87 ∧ partOk 0 a ∧ partOk 1 b := by
  unfold durOk
  simp only [List.head?_cons, List.drop_succ_cons, List.drop_zero, true_and]
  rw [splitL_some ha, splitL_none hb]
  have hlast : (a ++ 84 :: b).getLast? = some 87 ↔ b.getLast? = some 87 := by
    rw [List.getLast?_append]
    cases b with
    | nil => simp
    | cons x b =>
      have e : ((84 : UInt8) :: x :: b).getLast? = (x :: b).getLast? := rfl
      rw [e, List.getLast?_eq_some_getLast (by simp)]
      rfl
  by_cases hW : b.getLast? = some 87
  · rw [if_pos (hlast.2 hW)]
    constructor
    · rintro ⟨_, _, h⟩
      exfalso
      have : (84 : UInt8) ∈ (a ++ 84 :: b).dropLast := by
        rw [List.dropLast_append_of_ne_nil (by simp)]
        cases b with
        | nil => simp at hW
        | cons x b => simp
      exact absurd (h 84 this) (by decide)
    · rintro ⟨h, _⟩; exact absurd hW h
  · rw [if_neg (fun h => hW (hlast.1 h))]
    constructor
    · rintro ⟨_, h⟩
      exact ⟨hW, h 0 (by simp), h 1 (by simp)⟩
    · rintro ⟨_, h0, h1⟩
      refine ⟨by simp, fun n hn => ?_⟩
      simp at hn
      rcases (by omega : n = 0 ∨ n = 1) with rfl | rfl
      · exact h0
      · exact h1

theorem parts_ok (a b : List UInt8) (ha : (84 : UInt8) ∉ a) (hb : (84 : UInt8) ∉ b) (hw : a.getLast? ≠ some 87) :
    durOk (80 :: (a ++ 84 :: b)) ↔ (a = [] ∨ durOk (80 :: a)) ∧ durOk (80 :: 84 :: b) := by
  have h0 : partOk 0 [] := ⟨fun k => absurd rfl k, by omega, rfl⟩
  have h2 := dur_hours [] b (by simp) hb
  simp only [List.nil_append] at h2
  rw [dur_hours a b ha hb, dur_days a ha hw, h2]
  constructor
  · rintro ⟨x, y, z⟩; exact ⟨y, x, h0, z⟩
  · rintro ⟨y, x, _, z⟩; exact ⟨x, y, z⟩

theorem awake_ok : durOk (bs ⟨#[80, 49, 68, 84, 49, 72]⟩) := by
  have e : bs ⟨#[80, 49, 68, 84, 49, 72]⟩ = 80 :: ([49, 68] ++ 84 :: [49, 72]) := rfl
  rw [e, dur_hours _ _ (by decide) (by decide)]
  refine ⟨by decide, ⟨by decide, by omega, by decide⟩, ⟨by decide, by omega, by decide⟩⟩

theorem last_at (a : ByteArray) (h : 0 < a.size) (h' : a.size - 1 < a.size) : (bs a).getLast? = some (a[a.size - 1]'h') := by
  have hla := bs_len a
  have hne : bs a ≠ [] := by intro e; rw [e] at hla; simp at hla; omega
  rw [List.getLast?_eq_some_getLast hne, List.getLast_eq_getElem]
  simp only [hla]
  rw [bs_at a (a.size - 1) h' (by omega)]

set_option maxHeartbeats 4000000 in
theorem walk (a b : ByteArray) (w : World) (_ha : a.size ≤ 140737488351232) (_hb : b.size ≤ 140737488351232) :
    Calls Try.prog 3 #[.string a, .string b] w fun e w' => e = .returned (.bool true) ∧ Below w.heap.size w w' := by
  have hbr : Below w.heap.size w w := Below.refl _ _
  by_cases h1 : a.size ≤ 2147483647
  case neg =>
    go_enter Try.func3, Try.ntmps3
    go_wp2_with fail
    go_ret
    exact ⟨rfl, hbr⟩
  by_cases h2 : b.size ≤ 2147483647
  case neg =>
    go_enter Try.func3, Try.ntmps3
    go_wp2_with fail
    go_ret
    exact ⟨rfl, hbr⟩
  obtain ⟨oa, ⟨Ka, hKa⟩, hoa⟩ := hasS a h1 84
  obtain ⟨ob, ⟨Kb, hKb⟩, hob⟩ := hasS b h2 84
  have HKa : Hid (spec_JHas.f Ka a 84 = some oa) := Lib.hid (hKa Ka (Nat.le_refl _))
  have HKb : Hid (spec_JHas.f Kb b 84 = some ob) := Lib.hid (hKb Kb (Nat.le_refl _))
  have HOA := Lib.hid hoa
  have HOB := Lib.hid hob
  clear hKa hKb hoa hob
  go_enter Try.func3, Try.ntmps3
  go_wp2_with fail
  refine (spec_JHas.calls Ka a 84 oa _ HKa.out).mono ?_
  rintro e w2 ⟨rfl, hd2⟩
  have hbr : Below w.heap.size w w2 := fin0 hbr hbr.size (by first | exact hd2.below | exact hd2)
  cases oa with
  | true =>
    go_wp2_with fail
    go_ret
    exact ⟨rfl, hbr⟩
  | false =>
  go_wp2_with fail
  refine (spec_JHas.calls Kb b 84 ob _ HKb.out).mono ?_
  rintro e w3 ⟨rfl, hd3⟩
  have hbr : Below w.heap.size w w3 := fin0 hbr hbr.size (by first | exact hd3.below | exact hd3)
  cases ob with
  | true =>
    go_wp2_with fail
    go_ret
    exact ⟨rfl, hbr⟩
  | false =>
  have hTa : (84 : UInt8) ∉ bs a := fun h => by have := HOA.out.2 h; simp at this
  have hTb : (84 : UInt8) ∉ bs b := fun h => by have := HOB.out.2 h; simp at this
  have HTA := Lib.hid hTa
  have HTB := Lib.hid hTb
  clear hTa hTb hd2 hd3
  by_cases ha0 : a.size = 0
  · have hE : a.toList.isEmpty = true := by rw [ByteArray.toList_eq, bs_data, List.isEmpty_iff]; apply List.eq_nil_of_length_eq_zero; rw [bs_len]; exact ha0
    have hnil : bs a = [] := by apply List.eq_nil_of_length_eq_zero; rw [bs_len]; exact ha0
    have HW : Hid ((bs a).getLast? ≠ some 87) := Lib.hid (by rw [hnil]; simp)
    have HNIL := Lib.hid hnil
    have ha1 : ¬ 0 < a.size := by omega
    have HA0 := Lib.hid ha0
    clear hnil ha0
    have hok := parts_ok (bs a) (bs b) HTA.out HTB.out HW.out
    have HOK := Lib.hid hok
    clear hok
    have e1 : bs ((⟨#[80]⟩ : ByteArray) ++ a ++ ⟨#[84]⟩ ++ b) = 80 :: (bs a ++ 84 :: bs b) := by
      rw [bs_append, bs_append, bs_append]; simp [show bs ⟨#[80]⟩ = [80] from rfl, show bs ⟨#[84]⟩ = [84] from rfl]
    have e2 : bs ((⟨#[80]⟩ : ByteArray) ++ a) = 80 :: bs a := by rw [bs_append]; rfl
    have e3 : bs ((⟨#[80, 84]⟩ : ByteArray) ++ b) = 80 :: 84 :: bs b := by rw [bs_append]; rfl
    have E1 := Lib.hid e1
    have E2 := Lib.hid e2
    have E3 := Lib.hid e3
    clear e1 e2 e3
    have z1 : (⟨#[80]⟩ : ByteArray).size = 1 := rfl
    have z2 : (⟨#[84]⟩ : ByteArray).size = 1 := rfl
    have z3 : (⟨#[80, 84]⟩ : ByteArray).size = 2 := rfl
    go_wp2_with fail
    refine (implDur _ _ (by rw [ByteArray.size_append, ByteArray.size_append, ByteArray.size_append]; omega)).mono ?_
    rintro e w4 ⟨⟨c1, rfl, hc1⟩, hb4⟩
    have hbr := fin0 hbr hbr.size hb4
    rw [E1.out, HOK.out] at hc1
    have HC1 := Lib.hid hc1
    clear hc1

    go_wp2_with fail
    refine (implDur _ _ (by rw [ByteArray.size_append]; omega)).mono ?_
    rintro e w6 ⟨⟨c3, rfl, hc3⟩, hb6⟩
    have hbr := fin0 hbr hbr.size hb6
    rw [E3.out] at hc3
    obtain rfl : c1 = c3 := by
      have q := HC1.out
      rw [Bool.eq_iff_iff, q, hc3]
      exact ⟨fun h => h.2, fun h => ⟨.inl HNIL.out, h⟩⟩
    clear hc3
    have hself : (c1 == c1) = true := by simp
    go_wp2_with fail
    refine (implDur _ _ (by decide)).mono ?_
    rintro e w8 ⟨⟨c4, rfl, hc4⟩, hb8⟩
    have hbr := fin0 hbr hbr.size hb8
    obtain rfl : c4 = true := hc4.2 awake_ok
    clear hc4
    go_wp2_with fail
    go_ret
    exact ⟨rfl, hbr⟩

  · have hE : a.toList.isEmpty = false := by
      rw [ByteArray.toList_eq, bs_data, List.isEmpty_eq_false_iff]
      intro e; apply ha0; rw [← bs_len, e]; rfl
    have ha1 : 0 < a.size := by omega
    have hlt1 : a.size - 1 < a.size := by omega
    have hne : bs a ≠ [] := by intro e; apply ha0; rw [← bs_len, e]; rfl
    have HNE := Lib.hid hne
    clear hne
    by_cases h87 : (a[a.size - 1]'hlt1).toNat = 87
    · have hb87 : (((a[a.size - 1]'hlt1).toNat : Int) == 87) = true := by rw [beq_iff_eq]; omega
      have H87 := Lib.hid h87
      clear h87
      go_wp2_with fail
      go_ret
      exact ⟨rfl, hbr⟩
    · have hb87 : (((a[a.size - 1]'hlt1).toNat : Int) == 87) = false := by rw [beq_eq_false_iff_ne]; omega
      have HW : Hid ((bs a).getLast? ≠ some 87) := Lib.hid (by rw [last_at a ha1 hlt1]; intro e; exact h87 (by rw [Option.some.inj e]; rfl))
      clear h87
      have hok := parts_ok (bs a) (bs b) HTA.out HTB.out HW.out
      have HOK := Lib.hid hok
      clear hok
      have e1 : bs ((⟨#[80]⟩ : ByteArray) ++ a ++ ⟨#[84]⟩ ++ b) = 80 :: (bs a ++ 84 :: bs b) := by
        rw [bs_append, bs_append, bs_append]; simp [show bs ⟨#[80]⟩ = [80] from rfl, show bs ⟨#[84]⟩ = [84] from rfl]
      have e2 : bs ((⟨#[80]⟩ : ByteArray) ++ a) = 80 :: bs a := by rw [bs_append]; rfl
      have e3 : bs ((⟨#[80, 84]⟩ : ByteArray) ++ b) = 80 :: 84 :: bs b := by rw [bs_append]; rfl
      have E1 := Lib.hid e1
      have E2 := Lib.hid e2
      have E3 := Lib.hid e3
      clear e1 e2 e3
      have z1 : (⟨#[80]⟩ : ByteArray).size = 1 := rfl
      have z2 : (⟨#[84]⟩ : ByteArray).size = 1 := rfl
      have z3 : (⟨#[80, 84]⟩ : ByteArray).size = 2 := rfl
      go_wp2_with fail
      refine (implDur _ _ (by rw [ByteArray.size_append, ByteArray.size_append, ByteArray.size_append]; omega)).mono ?_
      rintro e w4 ⟨⟨c1, rfl, hc1⟩, hb4⟩
      have hbr := fin0 hbr hbr.size hb4
      rw [E1.out, HOK.out] at hc1
      have HC1 := Lib.hid hc1
      clear hc1

      go_wp2_with fail
      refine (implDur _ _ (by rw [ByteArray.size_append]; omega)).mono ?_
      rintro e w5 ⟨⟨c2, rfl, hc2⟩, hb5⟩
      have hbr := fin0 hbr hbr.size hb5
      rw [E2.out] at hc2
      have HC2 := Lib.hid hc2
      clear hc2
      cases c2 with
      | true =>
        go_wp2_with fail
        refine (implDur _ _ (by rw [ByteArray.size_append]; omega)).mono ?_
        rintro e w6 ⟨⟨c3, rfl, hc3⟩, hb6⟩
        have hbr := fin0 hbr hbr.size hb6
        rw [E3.out] at hc3
        obtain rfl : c1 = c3 := by
          have q := HC1.out
          rw [Bool.eq_iff_iff, q, hc3]
          exact ⟨fun h => h.2, fun h => ⟨.inr (HC2.out.1 (by simp)), h⟩⟩
        clear hc3
        have hself : (c1 == c1) = true := by simp
        go_wp2_with fail
        refine (implDur _ _ (by decide)).mono ?_
        rintro e w8 ⟨⟨c4, rfl, hc4⟩, hb8⟩
        have hbr := fin0 hbr hbr.size hb8
        obtain rfl : c4 = true := hc4.2 awake_ok
        clear hc4
        go_wp2_with fail
        go_ret
        exact ⟨rfl, hbr⟩

      | false =>
        obtain rfl : c1 = false := by
          cases c1 with
          | false => rfl
          | true =>
            have q := (HC1.out.1 (by simp)).1
            rcases q with q | q
            · exact absurd q HNE.out
            · have := HC2.out.2 q
              simp at this
        go_wp2_with fail
        refine (implDur _ _ (by decide)).mono ?_
        rintro e w8 ⟨⟨c4, rfl, hc4⟩, hb8⟩
        have hbr := fin0 hbr hbr.size hb8
        obtain rfl : c4 = true := hc4.2 awake_ok
        clear hc4
        go_wp2_with fail
        go_ret
        exact ⟨rfl, hbr⟩
end Go.Proofs.Ytfnnahopbghndaa.LDurP
