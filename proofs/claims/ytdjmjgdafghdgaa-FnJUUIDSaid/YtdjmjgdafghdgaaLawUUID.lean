/- FnJUUID: for every text of at most 2^31-1 bytes impl.JUUID and spec.JUUID answer the same. -/
import Derived.Test.YtdjmjgdafghdgaaFmtUUID
import Derived.Test.YtdjmjgdafghdgaaPFnJUUIDx1
namespace Go.Proofs.Ytdjmjgdafghdgaa.LUUID
open Go.RowKit Go.Proofs.Ytdjmjgdafghdgaa.PFnJUUID Go.Proofs.YtdjmjgdafghdgaaW.PrintWords Go.Proofs.YtdjmjgdafghdgaaW.PrintLast Go.Proofs.Ytdjmjgdafghdgaa.K Go.Proofs.Ytdjmjgdafghdgaa.Fmt
set_option linter.unusedVariables false
set_option linter.unusedSimpArgs false

theorem digitS (b : UInt8) : spec_jDigit.f (b.toNat : Int) = some (decide (48 ≤ b.toNat ∧ b.toNat ≤ 57)) := by
  unfold spec_jDigit.f
  by_cases h : (b.toNat : Int) ≥ 48
  · rw [if_pos h]; congr 1; rw [decide_eq_decide]; omega
  · rw [if_neg h]; congr 1; symm; rw [decide_eq_false_iff_not]; omega

theorem hexS (b : UInt8) : spec_jHex.f (b.toNat : Int) = some (hexB b) := by
  have hb := hexB_iff b
  unfold hexR at hb
  unfold spec_jHex.f
  rw [digitS]
  simp only [Option.bind_some, decide_eq_true_eq]
  generalize hexB b = x at hb
  repeat' split
  all_goals (congr 1; cases x <;> simp at hb ⊢ <;> omega)

/-- What stands at each place of a UUID. -/
def goodAt (j : Nat) (b : UInt8) : Prop := if j = 8 ∨ j = 13 ∨ j = 18 ∨ j = 23 then b = 45 else hexB b = true

theorem specU (s : ByteArray) (hs : s.size = 36) (d : Nat) : ∀ (i k : Nat), i ≤ 36 → 36 - i = d → 2 * d < k →
    ∃ b, spec_JUUID.l0 k s i = some b ∧ (b = true ↔ ∀ j, (h : j < (bs s).length) → i ≤ j → goodAt j (bs s)[j]) := by
  have hl := bs_len s
  induction d with
  | zero =>
    intro i k hi hd hk
    obtain ⟨k, rfl⟩ : ∃ m, k = m + 1 := ⟨k - 1, by omega⟩
    refine ⟨true, ?_, ?_⟩
    · simp only [spec_JUUID.l0]; rw [if_neg (by omega)]
    · simp only [true_iff]; intro j h hj; omega
  | succ d ih =>
    intro i k hi hd hk
    obtain ⟨k, rfl⟩ : ∃ m, k = m + 1 + 1 := ⟨k - 2, by omega⟩
    have hlt : i < (bs s).length := by omega
    have ew' : wrap64 ((i : Int) + 1) = ((i + 1 : Nat) : Int) := by rw [wrap_in (by omega) (by omega)]; omega
    obtain ⟨b, hb, hb2⟩ := ih (i + 1) k (by omega) (by omega) (by omega)
    have hbt := bt_nat s i hlt
    have key : ∀ P : Prop, (P ↔ goodAt i (bs s)[i]) → (P ∧ (b = true) ↔ ∀ j, (h : j < (bs s).length) → i ≤ j → goodAt j (bs s)[j]) := by
      intro P hP
      rw [hP, hb2]
      constructor
      · intro ⟨h1, h2⟩ j hj hij
        by_cases e : j = i
        · subst e; exact h1
        · exact h2 j hj (by omega)
      · intro h
        exact ⟨h i hlt (Nat.le_refl _), fun j hj hij => h j hj (by omega)⟩
    have hj1 : ∀ z : Bool, (z = true ↔ (i = 8 ∨ i = 13 ∨ i = 18 ∨ i = 23)) → ∃ r, spec_JUUID.j1 (k + 1) s i z = some r ∧ (r = true ↔ ∀ j, (h : j < (bs s).length) → i ≤ j → goodAt j (bs s)[j]) := by
      intro z hz
      simp only [spec_JUUID.j1, hbt, ew', hexS, Option.bind_some]
      cases z with
      | true =>
        have hi8 := hz.1 rfl
        rw [if_pos rfl, if_pos (by omega), if_pos (by omega)]
        by_cases h45 : (bs s)[i] = 45
        · rw [if_pos (by rw [h45]; rfl)]
          refine ⟨b, hb, ?_⟩
          rw [← key True (by unfold goodAt; rw [if_pos hi8]; simp [h45])]
          simp
        · rw [if_neg (fun e => h45 (UInt8.toNat_inj.1 (by simpa using Int.ofNat.inj e)))]
          refine ⟨false, rfl, ?_⟩
          rw [← key False (by unfold goodAt; rw [if_pos hi8]; simp [h45])]
          simp
      | false =>
        have hi8 : ¬ (i = 8 ∨ i = 13 ∨ i = 18 ∨ i = 23) := fun h => by simpa using hz.2 h
        rw [if_neg (by simp), if_pos (by omega), if_pos (by omega)]
        by_cases h45 : hexB (bs s)[i] = true
        · rw [if_pos h45]
          refine ⟨b, hb, ?_⟩
          rw [← key True (by unfold goodAt; rw [if_neg hi8]; simp [h45])]
          simp
        · rw [if_neg h45]
          refine ⟨false, rfl, ?_⟩
          rw [← key False (by unfold goodAt; rw [if_neg hi8]; simp [h45])]
          simp
    simp only [spec_JUUID.l0]
    rw [if_pos (by omega)]
    by_cases h8 : (i : Int) = 8
    · rw [if_pos h8]; exact hj1 true (by simp; omega)
    rw [if_neg h8]
    by_cases h13 : (i : Int) = 13
    · rw [if_pos h13]; exact hj1 true (by simp; omega)
    rw [if_neg h13]
    by_cases h18 : (i : Int) = 18
    · rw [if_pos h18]; exact hj1 true (by simp; omega)
    rw [if_neg h18]
    exact hj1 _ (by simp; omega)

theorem hex_no45 : hexB 45 = false := by decide

/-- A UUID by its groups is one by its places. -/
theorem uuid_places (l : List UInt8) : uuidOk l ↔ l.length = 36 ∧ ∀ j, (h : j < l.length) → goodAt j l[j] := by
  constructor
  · intro ⟨h5, hg⟩
    have hj := join_split 45 l
    generalize splitL 45 l = gs at h5 hg hj
    match gs, h5 with
    | [a, b, c, d, e], _ =>
      have ha := hg 0 (by omega); have hb := hg 1 (by omega); have hc := hg 2 (by omega); have hd := hg 3 (by omega); have he := hg 4 (by omega)
      simp only [List.getD_cons_zero, List.getD_cons_succ, wants] at ha hb hc hd he
      simp at ha hb hc hd he
      simp only [joinL] at hj
      subst hj
      refine ⟨by simp [ha.1, hb.1, hc.1, hd.1, he.1], ?_⟩
      intro j h
      simp at h
      unfold goodAt
      have A := fun i (hi : i < a.length) => ha.2 _ (List.getElem_mem hi)
      have B := fun i (hi : i < b.length) => hb.2 _ (List.getElem_mem hi)
      have C := fun i (hi : i < c.length) => hc.2 _ (List.getElem_mem hi)
      have D := fun i (hi : i < d.length) => hd.2 _ (List.getElem_mem hi)
      have E := fun i (hi : i < e.length) => he.2 _ (List.getElem_mem hi)
      rcases (by omega : j < 8 ∨ j = 8 ∨ (9 ≤ j ∧ j < 13) ∨ j = 13 ∨ (14 ≤ j ∧ j < 18) ∨ j = 18 ∨ (19 ≤ j ∧ j < 23) ∨ j = 23 ∨ 24 ≤ j) with hj | rfl | hj | rfl | hj | rfl | hj | rfl | hj
      · rw [if_neg (by omega), List.getElem_append_left (by omega)]; exact A _ _
      · rw [if_pos (by omega)]; simp [List.getElem_append, List.getElem_cons, ha.1]
      · rw [if_neg (by omega)]
        simp only [List.getElem_append, List.getElem_cons, ha.1, hb.1]
        rw [dif_neg (by omega), dif_neg (by omega), dif_pos (by omega)]; exact B _ _
      · rw [if_pos (by omega)]; simp [List.getElem_append, List.getElem_cons, ha.1, hb.1]
      · rw [if_neg (by omega)]
        simp only [List.getElem_append, List.getElem_cons, ha.1, hb.1, hc.1]
        rw [dif_neg (by omega), dif_neg (by omega), dif_neg (by omega), dif_neg (by omega), dif_pos (by omega)]; exact C _ _
      · rw [if_pos (by omega)]; simp [List.getElem_append, List.getElem_cons, ha.1, hb.1, hc.1]
      · rw [if_neg (by omega)]
        simp only [List.getElem_append, List.getElem_cons, ha.1, hb.1, hc.1, hd.1]
        rw [dif_neg (by omega), dif_neg (by omega), dif_neg (by omega), dif_neg (by omega), dif_neg (by omega), dif_neg (by omega), dif_pos (by omega)]; exact D _ _
      · rw [if_pos (by omega)]; simp [List.getElem_append, List.getElem_cons, ha.1, hb.1, hc.1, hd.1]
      · rw [if_neg (by omega)]
        simp only [List.getElem_append, List.getElem_cons, ha.1, hb.1, hc.1, hd.1]
        rw [dif_neg (by omega), dif_neg (by omega), dif_neg (by omega), dif_neg (by omega), dif_neg (by omega), dif_neg (by omega), dif_neg (by omega), dif_neg (by omega)]; exact E _ _
  · intro ⟨h36, hg⟩
    have hx : ∀ j, (h : j < l.length) → ¬ (j = 8 ∨ j = 13 ∨ j = 18 ∨ j = 23) → hexB l[j] = true := by
      intro j h hn; have := hg j h; unfold goodAt at this; rwa [if_neg hn] at this
    have h8 : ∀ j, (h : j < l.length) → (j = 8 ∨ j = 13 ∨ j = 18 ∨ j = 23) → l[j] = 45 := by
      intro j h hn; have := hg j h; unfold goodAt at this; rwa [if_pos hn] at this
    have part : ∀ a n, a + n ≤ 36 → (∀ j, a ≤ j → j < a + n → ¬ (j = 8 ∨ j = 13 ∨ j = 18 ∨ j = 23)) → ((l.drop a).take n).length = n ∧ (∀ b ∈ (l.drop a).take n, hexB b = true) := by
      intro a n han hno
      refine ⟨by simp; omega, ?_⟩
      intro b hb
      obtain ⟨i, hi, rfl⟩ := List.getElem_of_mem hb
      simp at hi
      simp only [List.getElem_take, List.getElem_drop]
      exact hx _ _ (hno _ (by omega) (by omega))
    have e : l = joinL 45 [(l.drop 0).take 8, (l.drop 9).take 4, (l.drop 14).take 4, (l.drop 19).take 4, (l.drop 24).take 12] := by
      simp only [joinL]
      apply List.ext_getElem
      · simp; omega
      · intro i h1 h2
        simp only [List.getElem_append, List.getElem_cons, List.length_take, List.length_drop, List.getElem_take, List.getElem_drop]
        repeat' split
        all_goals first
          | (congr 1; omega)
          | (exact h8 i h1 (by omega))
    have p0 := part 0 8 (by omega) (by omega)
    have p1 := part 9 4 (by omega) (by omega)
    have p2 := part 14 4 (by omega) (by omega)
    have p3 := part 19 4 (by omega) (by omega)
    have p4 := part 24 12 (by omega) (by omega)
    have free : ∀ g : List UInt8, (∀ b ∈ g, hexB b = true) → (45 : UInt8) ∉ g := fun g h hm => by have := h _ hm; rw [hex_no45] at this; cases this
    have hs : splitL 45 l = [(l.drop 0).take 8, (l.drop 9).take 4, (l.drop 14).take 4, (l.drop 19).take 4, (l.drop 24).take 12] := by
      conv => lhs; rw [e]
      apply split_join (by simp)
      intro g hg
      simp only [List.mem_cons, List.not_mem_nil, or_false] at hg
      rcases hg with rfl | rfl | rfl | rfl | rfl
      · exact free _ p0.2
      · exact free _ p1.2
      · exact free _ p2.2
      · exact free _ p3.2
      · exact free _ p4.2
    unfold uuidOk
    rw [hs]
    refine ⟨rfl, ?_⟩
    intro i hi
    rcases (by omega : i = 0 ∨ i = 1 ∨ i = 2 ∨ i = 3 ∨ i = 4) with rfl | rfl | rfl | rfl | rfl
    · exact p0
    · exact p1
    · exact p2
    · exact p3
    · exact p4

theorem specUUID (s : ByteArray) : ∃ b, Ev (fun k => spec_JUUID.f k s) b ∧ (b = true ↔ uuidOk (bs s)) := by
  unfold spec_JUUID.f
  rw [uuid_places]
  have hl := bs_len s
  by_cases h : (s.size : Int) = 36
  · obtain ⟨b, hb, hb2⟩ := specU s (by omega) 36 0 73 (by omega) (by omega) (by omega)
    refine ⟨b, ?_, ?_⟩
    · refine Ev.of (k := 73) (fun k => ?_) ?_
      · have := spec_JUUID.mono s k
        unfold spec_JUUID.f at this
        exact this
      · rw [if_pos h]; exact hb
    · rw [hb2]
      constructor
      · intro hh; exact ⟨by omega, fun j hj => hh j hj (by omega)⟩
      · intro hh j hj _; exact hh.2 j hj
  · refine ⟨false, ⟨0, fun k _ => if_neg h⟩, ?_⟩
    simp; omega

set_option maxHeartbeats 1000000 in
theorem walk (s : ByteArray) (w : World) (_hs : s.size ≤ 140737488351232) :
    Calls Try.prog 10 #[.string s] w fun e w' => e = .returned (.bool true) ∧ Below w.heap.size w w' := by
  by_cases hbig : s.size ≤ 2147483647
  · obtain ⟨c, ⟨K, hK⟩, hc⟩ := specUUID s
    have HK := Lib.hid (hK K (Nat.le_refl _))
    have HC := Lib.hid hc
    clear hK hc
    go_enter Try.func10, Try.ntmps10
    go_wp2_with fail
    refine (implUUID s _ hbig).mono ?_
    rintro e w1 ⟨⟨b, rfl, hb1⟩, hb⟩
    have HB := Lib.hid hb1
    clear hb1
    go_wp2_with fail
    refine (spec_JUUID.calls K s c _ HK.out).mono ?_
    rintro e w2 ⟨rfl, ⟨n, rfl⟩⟩
    go_wp2_with fail
    go_ret
    have hbc : b = c := by
      have h1 := HB.out; have h2 := HC.out
      cases b <;> cases c <;> simp at h1 h2 ⊢ <;> first | exact absurd h2 h1 | exact absurd h1 h2
    subst hbc
    exact ⟨by simp, pw_below_drewN hb n⟩
  · go_enter Try.func10, Try.ntmps10
    go_wp2_with fail
    go_ret
    exact ⟨rfl, Below.refl _ _⟩
end Go.Proofs.Ytdjmjgdafghdgaa.LUUID
