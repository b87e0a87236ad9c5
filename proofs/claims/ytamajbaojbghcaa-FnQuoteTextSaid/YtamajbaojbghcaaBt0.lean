/- The lines of a block string, plain: what the specification's Lines, leading and Level say. -/
import Derived.Test.YtamajbaojbghcaaBtSplit
namespace Go.Proofs.Ytamajbaojbghcaa.Bt
open Go.RowKit Go.Proofs.YtamajbaojbghcaaW.PrintWords Go.Proofs.YtamajbaojbghcaaW.PrintLast Go.Proofs.YtamajbaojbghcaaW.PrintMore Go.Proofs.Ytamajbaojbghcaa.PB Go.Proofs.Ytamajbaojbghcaa.K
set_option linter.unusedVariables false
set_option linter.unusedSimpArgs false
/-- A blank or a tab. -/
def ws (b : UInt8) : Bool := b == 32 || b == 9
/-- How many of them a line begins with. -/
def ld (l : List UInt8) : Nat := (l.takeWhile ws).length
theorem ld_le (l : List UInt8) : ld l ≤ l.length := by unfold ld; exact (List.takeWhile_prefix ws).length_le
theorem ld_cons (b : UInt8) (l : List UInt8) : ld (b :: l) = if ws b = true then ld l + 1 else 0 := by
  unfold ld
  rw [List.takeWhile_cons]
  split <;> simp
theorem ws_iff (b : UInt8) : ws b = true ↔ (b.toNat : Int) = 32 ∨ (b.toNat : Int) = 9 := by
  unfold ws
  rw [Bool.or_eq_true, beq_iff_eq, beq_iff_eq]
  constructor
  · rintro (rfl | rfl)
    · exact .inl rfl
    · exact .inr rfl
  · rintro (h | h)
    · exact .inl (UInt8.toNat_inj.1 (by have : b.toNat = 32 := by omega
                                        rw [this]; rfl))
    · exact .inr (UInt8.toNat_inj.1 (by have : b.toNat = 9 := by omega
                                        rw [this]; rfl))
theorem leadE (s : ByteArray) (hs : s.size ≤ 1099511627776) : Ev (fun k => spec_leading.f k s) (ld (bs s) : Int) := by
  have hl := bs_len s
  have loop : ∀ d i : Nat, s.size - i = d → i ≤ s.size → Ev (fun k => spec_leading.l0 k s (i : Int)) ((i + ld ((bs s).drop i) : Nat) : Int) := by
    intro d
    induction d with
    | zero =>
      intro i hd hi
      refine ⟨1, fun k hk => ?_⟩
      obtain ⟨k', rfl⟩ : ∃ k', k = k' + 1 := ⟨k - 1, by omega⟩
      show spec_leading.l0 (k' + 1) s (i : Int) = _
      rw [spec_leading.l0, if_neg (by omega), List.drop_of_length_le (by omega)]
      simp [ld]
    | succ d ih =>
      intro i hd hi
      have hlt : i < (bs s).length := by omega
      obtain ⟨K, hK⟩ := ih (i + 1) (by omega) (by omega)
      refine ⟨K + 1, fun k hk => ?_⟩
      obtain ⟨k', rfl⟩ : ∃ k', k = k' + 1 := ⟨k - 1, by omega⟩
      have h1 := hK k' (by omega)
      simp only at h1
      have hw : wrap64 ((i : Int) + 1) = ((i + 1 : Nat) : Int) := by rw [wrap_in (by omega) (by omega)]; omega
      show spec_leading.l0 (k' + 1) s (i : Int) = _
      rw [spec_leading.l0, if_pos (by omega), if_pos (by omega), bt_nat s i hlt, hw, List.drop_eq_getElem_cons hlt, ld_cons]
      by_cases hb : ws (bs s)[i] = true
      · rw [if_pos hb]
        have e : i + (ld ((bs s).drop (i + 1)) + 1) = i + 1 + ld ((bs s).drop (i + 1)) := by omega
        rw [e]
        rcases (ws_iff _).1 hb with h | h
        · rw [if_pos h]; exact h1
        · by_cases h32 : (((bs s)[i]).toNat : Int) = 32
          · rw [if_pos h32]; exact h1
          · rw [if_neg h32, if_pos h]; exact h1
      · rw [if_neg hb, if_neg (fun h => hb ((ws_iff _).2 (.inl h))), if_neg (fun h => hb ((ws_iff _).2 (.inr h)))]
        simp
  obtain ⟨K, hK⟩ := loop s.size 0 (by omega) (by omega)
  exact ⟨K, fun k hk => by have := hK k hk; show spec_leading.l0 k s 0 = _; simpa using this⟩
theorem linesE (s : ByteArray) (hs : s.size ≤ 1099511627776) (h13 : (13 : UInt8) ∉ bs s) : ∃ r : List ByteArray, Ev (fun k => spec_Lines.f k s) r ∧ r.map bs = splitL 10 (bs s) := by
  have hl := bs_len s
  have loop : ∀ d i a : Nat, ∀ out : List ByteArray, s.size - i = d → i ≤ s.size → a ≤ i → out.length ≤ a → Free 10 (bs s) a i → ∃ r : List ByteArray, Ev (fun k => spec_Lines.l0 k s out (a : Int) (i : Int)) r ∧ r.map bs = out.map bs ++ splitL 10 ((bs s).drop a) := by
    intro d
    induction d with
    | zero =>
      intro i a out hd hi ha ho hf
      obtain rfl : i = s.size := by omega
      refine ⟨out ++ [s.extract a s.size], ⟨1, fun k hk => ?_⟩, ?_⟩
      · obtain ⟨k', rfl⟩ : ∃ k', k = k' + 1 := ⟨k - 1, by omega⟩
        show spec_Lines.l0 (k' + 1) s out (a : Int) (s.size : Int) = _
        rw [spec_Lines.l0, if_neg (by omega), if_pos (by omega), if_pos (by omega), if_pos (by omega)]
        rfl
      · rw [List.map_append, List.map_singleton, bs_drop, seg_end (by rw [hl]; exact hf)]
    | succ d ih =>
      intro i a out hd hi ha ho hf
      have hlt : i < (bs s).length := by omega
      have hw : wrap64 ((i : Int) + 1) = ((i + 1 : Nat) : Int) := by rw [wrap_in (by omega) (by omega)]; omega
      have hbt := bt_nat s i hlt
      have hn13 : ¬ ((((bs s)[i]).toNat : Int) = 13) := fun h => h13 (by
        have : (bs s)[i] = 13 := UInt8.toNat_inj.1 (by have : ((bs s)[i]).toNat = 13 := by omega
                                                       rw [this]; rfl)
        rw [← this]; exact List.getElem_mem _)
      by_cases h10 : (((bs s)[i]).toNat : Int) = 10
      · have hc : (bs s)[i] = 10 := UInt8.toNat_inj.1 (by have : ((bs s)[i]).toNat = 10 := by omega
                                                          rw [this]; rfl)
        obtain ⟨r, ⟨K, hK⟩, hr⟩ := ih (i + 1) (i + 1) (out ++ [s.extract a i]) (by omega) (by omega) (by omega) (by simp; omega) (Free.self _ _ _)
        refine ⟨r, ⟨K + 2, fun k hk => ?_⟩, ?_⟩
        · obtain ⟨k', rfl⟩ : ∃ k', k = k' + 1 + 1 := ⟨k - 2, by omega⟩
          have h1 := hK k' (by omega)
          simp only at h1
          show spec_Lines.l0 (k' + 1 + 1) s out (a : Int) (i : Int) = _
          rw [spec_Lines.l0, if_pos (by omega), if_pos (by omega), hbt, if_pos h10, spec_Lines.j1, if_neg (by simp), if_pos (by omega), if_pos (by omega), if_pos (by omega), if_pos (by omega), Option.bind_some, if_pos (by omega), if_pos (by omega), hbt, if_neg hn13, hw]
          exact h1
        · rw [hr, List.map_append, List.map_singleton, bs_extract, seg_cut hf ha hlt hc]
          simp
      · obtain ⟨r, ⟨K, hK⟩, hr⟩ := ih (i + 1) a out (by omega) (by omega) (by omega) ho (hf.step hlt (fun h => h10 (by rw [h]; rfl)))
        refine ⟨r, ⟨K + 2, fun k hk => ?_⟩, hr⟩
        obtain ⟨k', rfl⟩ : ∃ k', k = k' + 1 + 1 := ⟨k - 2, by omega⟩
        have h1 := hK k' (by omega)
        simp only at h1
        have hb : ((((bs s)[i]).toNat : Int) != 13) = true := by simpa using hn13
        show spec_Lines.l0 (k' + 1 + 1) s out (a : Int) (i : Int) = _
        rw [spec_Lines.l0, if_pos (by omega), if_pos (by omega), hbt, if_neg h10, hb, spec_Lines.j1, if_pos rfl, hw]
        exact h1
  obtain ⟨r, ⟨K, hK⟩, hr⟩ := loop s.size 0 0 [] (by omega) (by omega) (by omega) (by simp) (Free.self _ _ _)
  exact ⟨r, ⟨K, fun k hk => hK k hk⟩, by simpa using hr⟩
/-- What Level lets in. -/
def Lev (l : List UInt8) : Prop := (13 : UInt8) ∉ l ∧ (ld ((splitL 10 l).headD []) = ((splitL 10 l).headD []).length ∨ ((splitL 10 l).length = 1 ∧ ld l = 0))
theorem levelE (s : ByteArray) (hs : s.size ≤ 1099511627776) : ∃ b, Ev (fun k => spec_Level.f k s) b ∧ (b = true → Lev (bs s)) := by
  have hl := bs_len s
  have loop : ∀ d i : Nat, s.size - i = d → i ≤ s.size → Free 13 (bs s) 0 i → ∃ b, Ev (fun k => spec_Level.l0 k s (i : Int)) b ∧ (b = true → Lev (bs s)) := by
    intro d
    induction d with
    | zero =>
      intro i hd hi hf
      obtain rfl : i = s.size := by omega
      have h13 : (13 : UInt8) ∉ bs s := by
        have := Free.mem (show Free 13 (bs s) 0 (bs s).length by rw [hl]; exact hf)
        simpa using this
      obtain ⟨r, ⟨K1, hK1⟩, hr⟩ := linesE s hs h13
      have hne := splitL_ne 10 (bs s)
      obtain ⟨x, xs, hx⟩ : ∃ x xs, r = x :: xs := by
        cases r with
        | nil => rw [← hr] at hne; simp at hne
        | cons x xs => exact ⟨x, xs, rfl⟩
      have hxs : x.size ≤ 1099511627776 := by
        have : bs x ∈ splitL 10 (bs s) := by rw [← hr, hx]; simp
        have := split_le 10 (bs s) _ this
        rw [bs_len, bs_len] at this
        omega
      obtain ⟨K2, hK2⟩ := leadE x hxs
      obtain ⟨K3, hK3⟩ := leadE s hs
      have hrd : rdOf ByteArray.empty r 0 = x := by rw [hx]; rfl
      have hhd : (splitL 10 (bs s)).headD [] = bs x := by rw [← hr, hx]; rfl
      have hlen : (splitL 10 (bs s)).length = r.length := by rw [← hr, List.length_map]
      have hpos : 0 < (r.length : Int) := by rw [hx]; simp
      by_cases h1 : (ld (bs x) : Int) = (x.size : Int)
      · refine ⟨true, ⟨K1 + K2 + K3 + 1, fun k hk => ?_⟩, fun _ => ⟨h13, .inl (by rw [hhd, bs_len]; omega)⟩⟩
        obtain ⟨k', rfl⟩ : ∃ k', k = k' + 1 := ⟨k - 1, by omega⟩
        have q1 := hK1 k' (by omega)
        have q2 := hK2 k' (by omega)
        simp only at q1 q2
        show spec_Level.l0 (k' + 1) s (s.size : Int) = _
        rw [spec_Level.l0, if_neg (by omega), q1, Option.bind_some, if_pos hpos, hrd, q2, Option.bind_some, if_pos h1]
      · by_cases h2 : (r.length : Int) = 1
        · refine ⟨((ld (bs s) : Int) == 0), ⟨K1 + K2 + K3 + 1, fun k hk => ?_⟩, fun hb => ⟨h13, .inr ⟨by omega, by simpa using hb⟩⟩⟩
          obtain ⟨k', rfl⟩ : ∃ k', k = k' + 1 := ⟨k - 1, by omega⟩
          have q1 := hK1 k' (by omega)
          have q2 := hK2 k' (by omega)
          have q3 := hK3 k' (by omega)
          simp only at q1 q2 q3
          show spec_Level.l0 (k' + 1) s (s.size : Int) = _
          rw [spec_Level.l0, if_neg (by omega), q1, Option.bind_some, if_pos hpos, hrd, q2, Option.bind_some, if_neg h1, if_pos h2, q3, Option.bind_some]
        · refine ⟨false, ⟨K1 + K2 + K3 + 1, fun k hk => ?_⟩, fun hb => by cases hb⟩
          obtain ⟨k', rfl⟩ : ∃ k', k = k' + 1 := ⟨k - 1, by omega⟩
          have q1 := hK1 k' (by omega)
          have q2 := hK2 k' (by omega)
          simp only at q1 q2
          show spec_Level.l0 (k' + 1) s (s.size : Int) = _
          rw [spec_Level.l0, if_neg (by omega), q1, Option.bind_some, if_pos hpos, hrd, q2, Option.bind_some, if_neg h1, if_neg h2]
    | succ d ih =>
      intro i hd hi hf
      have hlt : i < (bs s).length := by omega
      have hw : wrap64 ((i : Int) + 1) = ((i + 1 : Nat) : Int) := by rw [wrap_in (by omega) (by omega)]; omega
      have hbt := bt_nat s i hlt
      by_cases h13 : (((bs s)[i]).toNat : Int) = 13
      · refine ⟨false, ⟨1, fun k hk => ?_⟩, fun hb => by cases hb⟩
        obtain ⟨k', rfl⟩ : ∃ k', k = k' + 1 := ⟨k - 1, by omega⟩
        show spec_Level.l0 (k' + 1) s (i : Int) = _
        rw [spec_Level.l0, if_pos (by omega), if_pos (by omega), hbt, if_pos h13]
      · obtain ⟨b, ⟨K, hK⟩, hb⟩ := ih (i + 1) (by omega) (by omega) (hf.step hlt (fun h => h13 (by rw [h]; rfl)))
        refine ⟨b, ⟨K + 1, fun k hk => ?_⟩, hb⟩
        obtain ⟨k', rfl⟩ : ∃ k', k = k' + 1 := ⟨k - 1, by omega⟩
        have q := hK k' (by omega)
        simp only at q
        show spec_Level.l0 (k' + 1) s (i : Int) = _
        rw [spec_Level.l0, if_pos (by omega), if_pos (by omega), hbt, if_neg h13, hw]
        exact q
  obtain ⟨b, ⟨K, hK⟩, hb⟩ := loop s.size 0 (by omega) (by omega) (Free.self _ _ _)
  exact ⟨b, ⟨K, fun k hk => hK k hk⟩, hb⟩
end Go.Proofs.Ytamajbaojbghcaa.Bt
