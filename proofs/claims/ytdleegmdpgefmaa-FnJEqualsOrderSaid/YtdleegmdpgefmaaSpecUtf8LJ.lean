/- spec.JUtf8: it answers. -/
import Derived.Test.YtdleegmdpgefmaaK
import Derived.Test.YtdleegmdpgefmaaPJx
namespace Go.Proofs.Ytdleegmdpgefmaa.SUtf8LJ
open Go.RowKit Go.Proofs.Ytdleegmdpgefmaa.PJ Go.Proofs.YtdleegmdpgefmaaW.PrintWords Go.Proofs.YtdleegmdpgefmaaW.PrintLast Go.Proofs.Ytdleegmdpgefmaa.K
set_option linter.unusedVariables false
set_option linter.unusedSimpArgs false

/-- It answers 0 or n. -/
def Or0 (n : Int) (g : Nat → Option Int) : Prop := ∃ r, Ev g r ∧ (r = 0 ∨ r = n)
theorem or0_of {n : Int} {g h : Nat → Option Int} (K : Nat) (hh : Or0 n h) (e : ∀ k, K ≤ k → g (k + 1) = h k) : Or0 n g := by
  obtain ⟨r, ⟨K', hK⟩, hr⟩ := hh
  exact ⟨r, ev_succ (max K K') fun k hk => by rw [e k (by omega)]; exact hK k (by omega), hr⟩
theorem or0_zero {n : Int} {g : Nat → Option Int} (e : ∀ k, g (k + 1) = some 0) : Or0 n g := ⟨0, ev_succ 0 fun k _ => e k, .inl rfl⟩
theorem or0_n {n : Int} {g : Nat → Option Int} (e : ∀ k, g (k + 1) = some n) : Or0 n g := ⟨n, ev_succ 0 fun k _ => e k, .inr rfl⟩

theorem l0E (s : ByteArray) (hs : s.size ≤ 140737488351232) (i n : Nat) (hn : i + n ≤ s.size) (d : Nat) : ∀ j : Nat, 2 ≤ j → j ≤ n → n - j = d → Or0 n (fun k => spec_jWidth.l0 k s i n j) := by
  induction d with
  | zero =>
    intro j h2 hj hd
    refine or0_n fun k => ?_
    simp only [spec_jWidth.l0]
    rw [if_neg (by omega)]
  | succ d ih =>
    intro j h2 hj hd
    have e1 : wrap64 ((i : Int) + (j : Int)) = (i : Int) + j := by rw [wrap_in (by omega) (by omega)]
    have e2 : wrap64 ((j : Int) + 1) = ((j + 1 : Nat) : Int) := by rw [wrap_in (by omega) (by omega)]; omega
    have hx := ih (j + 1) (by omega) (by omega) (by omega)
    by_cases h128 : bt s ((i : Int) + j) < 128
    · refine or0_zero fun k => ?_
      simp only [spec_jWidth.l0, e1]
      rw [if_pos (by omega), if_pos (by omega), if_pos (by omega), if_pos h128]
    · by_cases h191 : bt s ((i : Int) + j) > 191
      · refine or0_zero fun k => ?_
        simp only [spec_jWidth.l0, e1]
        rw [if_pos (by omega), if_pos (by omega), if_pos (by omega), if_neg h128, if_pos h191]
      · refine or0_of 0 hx fun k _ => ?_
        simp only [spec_jWidth.l0, e1, e2]
        rw [if_pos (by omega), if_pos (by omega), if_pos (by omega), if_neg h128, if_neg h191]

theorem j4E (s : ByteArray) (hs : s.size ≤ 140737488351232) (i n : Nat) (h2 : 2 ≤ n) (z : Bool) (hn : z = true ∨ i + n ≤ s.size) : Or0 n (fun k => spec_jWidth.j4 k s i n z) := by
  cases z with
  | true => exact or0_zero fun k => by simp only [spec_jWidth.j4, if_true]
  | false =>
    have hn' : i + n ≤ s.size := by rcases hn with h | h; cases h; exact h
    refine or0_of 0 (l0E s hs i n hn' (n - 2) 2 (Nat.le_refl _) h2 rfl) fun k _ => ?_
    simp only [spec_jWidth.j4, Bool.false_eq_true, if_false]
    rfl

/-- It answers 0, or how many bytes there are. -/
def Width (s : ByteArray) (i : Nat) (g : Nat → Option Int) : Prop := ∃ r : Int, Ev g r ∧ (r = 0 ∨ 1 ≤ r ∧ r ≤ 4 ∧ i + r ≤ s.size)
theorem width_of {s : ByteArray} {i : Nat} {g h : Nat → Option Int} (hh : Width s i h) (e : ∀ k, g (k + 1) = h k) : Width s i g := by
  obtain ⟨r, ⟨K', hK⟩, hr⟩ := hh
  exact ⟨r, ev_succ K' fun k hk => by rw [e k]; exact hK k (by omega), hr⟩
theorem width_zero {s : ByteArray} {i : Nat} {g : Nat → Option Int} (e : ∀ k, g (k + 1) = some 0) : Width s i g := ⟨0, ev_succ 0 fun k _ => e k, .inl rfl⟩

theorem j3E (s : ByteArray) (hs : s.size ≤ 140737488351232) (i : Nat) (hi : i < s.size) (n : Nat) (h2 : 2 ≤ n) (h4 : n ≤ 4) (x y : Int) : Width s i (fun k => spec_jWidth.j3 k s i n x y) := by
  have e1 : wrap64 ((i : Int) + (n : Int)) = (i : Int) + n := by rw [wrap_in (by omega) (by omega)]
  have e2 : wrap64 ((i : Int) + 1) = (i : Int) + 1 := by rw [wrap_in (by omega) (by omega)]
  have up : ∀ z : Bool, i + n ≤ s.size → Width s i (fun k => spec_jWidth.j4 k s i n z) := by
    intro z hn
    obtain ⟨r, hr, h⟩ := j4E s hs i n h2 z (.inr hn)
    exact ⟨r, hr, by rcases h with h | h; exact .inl h; exact .inr ⟨by omega, by omega, by omega⟩⟩
  by_cases hbig : i + n ≤ s.size
  · by_cases hx : bt s ((i : Int) + 1) < x
    · refine width_of (up true hbig) fun k => ?_
      simp only [spec_jWidth.j3, e1, e2]
      rw [if_neg (by omega), if_pos (by omega), if_pos (by omega), if_pos hx]
    · refine width_of (up (decide (bt s ((i : Int) + 1) > y)) hbig) fun k => ?_
      simp only [spec_jWidth.j3, e1, e2]
      rw [if_neg (by omega), if_pos (by omega), if_pos (by omega), if_neg hx]
  · obtain ⟨r, hr, h⟩ := j4E s hs i n h2 true (.inl rfl)
    have hz : Width s i (fun k => spec_jWidth.j4 k s i n true) := width_zero fun k => by simp only [spec_jWidth.j4, if_true]
    refine width_of hz fun k => ?_
    simp only [spec_jWidth.j3, e1]
    rw [if_pos (by omega)]

theorem j2E (s : ByteArray) (hs : s.size ≤ 140737488351232) (i : Nat) (hi : i < s.size) (c x y : Int) (z : Bool) : Width s i (fun k => spec_jWidth.j2 k s i c x y z) := by
  cases z with
  | false => exact width_zero fun k => by simp only [spec_jWidth.j2, Bool.false_eq_true, if_false]
  | true =>
    by_cases h1 : c = 240
    · by_cases h2 : c = 244
      · exact width_of (j3E s hs i hi 4 (by omega) (by omega) 144 143) fun k => by simp only [spec_jWidth.j2, if_true]; rw [if_pos h1, if_pos h2]; rfl
      · exact width_of (j3E s hs i hi 4 (by omega) (by omega) 144 y) fun k => by simp only [spec_jWidth.j2, if_true]; rw [if_pos h1, if_neg h2]; rfl
    · by_cases h2 : c = 244
      · exact width_of (j3E s hs i hi 4 (by omega) (by omega) x 143) fun k => by simp only [spec_jWidth.j2, if_true]; rw [if_neg h1, if_pos h2]; rfl
      · exact width_of (j3E s hs i hi 4 (by omega) (by omega) x y) fun k => by simp only [spec_jWidth.j2, if_true]; rw [if_neg h1, if_neg h2]; rfl

theorem j1E (s : ByteArray) (hs : s.size ≤ 140737488351232) (i : Nat) (hi : i < s.size) (c x y : Int) (z : Bool) : Width s i (fun k => spec_jWidth.j1 k s i c x y z) := by
  cases z with
  | false =>
    by_cases h1 : c ≥ 240
    · exact width_of (j2E s hs i hi c x y (decide (c ≤ 244))) fun k => by simp only [spec_jWidth.j1, Bool.false_eq_true, if_false]; rw [if_pos h1]
    · exact width_of (j2E s hs i hi c x y false) fun k => by simp only [spec_jWidth.j1, Bool.false_eq_true, if_false]; rw [if_neg h1]
  | true =>
    by_cases h1 : c = 224
    · by_cases h2 : c = 237
      · exact width_of (j3E s hs i hi 3 (by omega) (by omega) 160 159) fun k => by simp only [spec_jWidth.j1, if_true]; rw [if_pos h1, if_pos h2]; rfl
      · exact width_of (j3E s hs i hi 3 (by omega) (by omega) 160 y) fun k => by simp only [spec_jWidth.j1, if_true]; rw [if_pos h1, if_neg h2]; rfl
    · by_cases h2 : c = 237
      · exact width_of (j3E s hs i hi 3 (by omega) (by omega) x 159) fun k => by simp only [spec_jWidth.j1, if_true]; rw [if_neg h1, if_pos h2]; rfl
      · exact width_of (j3E s hs i hi 3 (by omega) (by omega) x y) fun k => by simp only [spec_jWidth.j1, if_true]; rw [if_neg h1, if_neg h2]; rfl

theorem j0E (s : ByteArray) (hs : s.size ≤ 140737488351232) (i : Nat) (hi : i < s.size) (c x y : Int) (z : Bool) : Width s i (fun k => spec_jWidth.j0 k s i c x y z) := by
  cases z with
  | true => exact width_of (j3E s hs i hi 2 (by omega) (by omega) x y) fun k => by simp only [spec_jWidth.j0, if_true]; rfl
  | false =>
    by_cases h1 : c ≥ 224
    · exact width_of (j1E s hs i hi c x y (decide (c ≤ 239))) fun k => by simp only [spec_jWidth.j0, Bool.false_eq_true, if_false]; rw [if_pos h1]
    · exact width_of (j1E s hs i hi c x y false) fun k => by simp only [spec_jWidth.j0, Bool.false_eq_true, if_false]; rw [if_neg h1]

theorem widthE (s : ByteArray) (hs : s.size ≤ 140737488351232) (i : Nat) (hi : i < s.size) : Width s i (fun k => spec_jWidth.f k s i) := by
  have base : ∀ h : Nat → Option Int, Width s i h → (∀ k, spec_jWidth.f k s i = h k) → Width s i (fun k => spec_jWidth.f k s i) := by
    rintro h ⟨r, ⟨K, hK⟩, hr⟩ e
    exact ⟨r, ev_from K fun k hk => by rw [e k]; exact hK k hk, hr⟩
  by_cases h1 : bt s i < 128
  · exact base (fun _ => some 1) ⟨1, ⟨0, fun _ _ => rfl⟩, .inr ⟨by omega, by omega, by omega⟩⟩ fun k => by unfold spec_jWidth.f; rw [if_pos (by omega), if_pos (by omega), if_pos h1]
  · by_cases h2 : bt s i ≥ 194
    · exact base _ (j0E s hs i hi (bt s i) 128 191 (decide (bt s i ≤ 223))) fun k => by unfold spec_jWidth.f; rw [if_pos (by omega), if_pos (by omega), if_neg h1, if_pos h2]
    · exact base _ (j0E s hs i hi (bt s i) 128 191 false) fun k => by unfold spec_jWidth.f; rw [if_pos (by omega), if_pos (by omega), if_neg h1, if_neg h2]

theorem utfLoop (s : ByteArray) (hs : s.size ≤ 140737488351232) (d : Nat) : ∀ i : Nat, i ≤ s.size → s.size - i = d → ∃ b, Ev (fun k => spec_JUtf8.l0 k s i) b := by
  induction d using Nat.strongRecOn with
  | ind d ih =>
    intro i hi hd
    by_cases hlt : i < s.size
    · obtain ⟨r, ⟨K, hK⟩, hr⟩ := widthE s hs i hlt
      rcases hr with rfl | ⟨h1, h4, hle⟩
      · refine ⟨false, ev_succ K fun k hk => ?_⟩
        simp only [spec_JUtf8.l0, hK k hk, Option.bind_some]
        rw [if_pos (by omega), if_pos trivial]
      · obtain ⟨n, rfl⟩ := Int.eq_ofNat_of_zero_le (by omega : 0 ≤ r)
        have ew : wrap64 ((i : Int) + (n : Int)) = ((i + n : Nat) : Int) := by rw [wrap_in (by omega) (by omega)]; omega
        obtain ⟨b, ⟨K2, hK2⟩⟩ := ih (s.size - (i + n)) (by omega) (i + n) (by omega) rfl
        refine ⟨b, ev_succ (max K K2) fun k hk => ?_⟩
        simp only [spec_JUtf8.l0, hK k (by omega), Option.bind_some, ew]
        rw [if_pos (by omega), if_neg (by omega)]
        exact hK2 k (by omega)
    · refine ⟨true, ev_succ 0 fun k hk => ?_⟩
      simp only [spec_JUtf8.l0]
      rw [if_neg (by omega)]

theorem utfE (s : ByteArray) (hs : s.size ≤ 140737488351232) : ∃ b, Ev (fun k => spec_JUtf8.f k s) b := utfLoop s hs s.size 0 (Nat.zero_le _) rfl
end Go.Proofs.Ytdleegmdpgefmaa.SUtf8LJ
