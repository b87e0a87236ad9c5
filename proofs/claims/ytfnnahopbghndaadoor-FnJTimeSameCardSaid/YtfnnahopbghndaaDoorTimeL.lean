/- Times that are written by numbers; remainders. -/
import Derived.Test.YtfnnahopbghndaaDoorFmtTime2
import Derived.Test.YtfnnahopbghndaaDoorDec
import Derived.Test.YtfnnahopbghndaaDoorPjWholex1
import Derived.Test.YtfnnahopbghndaaDoorPjRestx1
namespace Go.Proofs.YtfnnahopbghndaaDoor.Fmt
open Go.RowKit Go.Proofs.YtfnnahopbghndaaDoorW.PrintWords Go.Proofs.YtfnnahopbghndaaDoorW.PrintLast Go.Proofs.YtfnnahopbghndaaDoorW.PrintMore Go.Proofs.YtfnnahopbghndaaDoor.K
set_option linter.unusedVariables false
set_option linter.unusedSimpArgs false

theorem tm_ (a m : Int) : Int.tmod a m = if 0 ≤ a then a % m else -((-a) % m) := by
  split
  · exact Int.tmod_eq_emod_of_nonneg (by assumption)
  · have := Int.neg_tmod (-a) m
    rw [Int.neg_neg] at this
    rw [this, Int.tmod_eq_emod_of_nonneg (by omega)]
theorem rest24 (a : Int) : PjRest.laws_jRest.f a 24 = some (a % 24) := by
  unfold PjRest.laws_jRest.f
  rw [tm_, if_neg (by omega)]
  split <;> split <;> (try rw [wrap_in (by omega) (by omega)]) <;> (refine congrArg some ?_; omega)
theorem rest60 (a : Int) : PjRest.laws_jRest.f a 60 = some (a % 60) := by
  unfold PjRest.laws_jRest.f
  rw [tm_, if_neg (by omega)]
  split <;> split <;> (try rw [wrap_in (by omega) (by omega)]) <;> (refine congrArg some ?_; omega)
theorem rest100 (a : Int) : PjRest.laws_jRest.f a 100 = some (a % 100) := by
  unfold PjRest.laws_jRest.f
  rw [tm_, if_neg (by omega)]
  split <;> split <;> (try rw [wrap_in (by omega) (by omega)]) <;> (refine congrArg some ?_; omega)
theorem rest1440 (a : Int) : PjRest.laws_jRest.f a 1440 = some (a % 1440) := by
  unfold PjRest.laws_jRest.f
  rw [tm_, if_neg (by omega)]
  split <;> split <;> (try rw [wrap_in (by omega) (by omega)]) <;> (refine congrArg some ?_; omega)

/-- Two digits. -/
def dA (n : Nat) : UInt8 := UInt8.ofNat (48 + n / 10 % 10)
def dB (n : Nat) : UInt8 := UInt8.ofNat (48 + n % 10)
theorem dig_all : ∀ n : Fin 100, ((PjWhole.laws_jTwo.f (n.val : Int)).map bs == some [dA n.val, dB n.val]) && (numTok [dA n.val, dB n.val] == some n.val) && (dA n.val != 58) && (dB n.val != 58) && digB (dA n.val) && digB (dB n.val) = true := by decide +kernel
theorem dig_ok (n : Nat) (h : n < 100) : (∃ r, PjWhole.laws_jTwo.f (n : Int) = some r ∧ bs r = [dA n, dB n]) ∧ numTok [dA n, dB n] = some n ∧ dA n ≠ 58 ∧ dB n ≠ 58 := by
  have := dig_all ⟨n, h⟩
  simp only [Bool.and_eq_true, beq_iff_eq, bne_iff_ne] at this
  obtain ⟨⟨⟨⟨⟨h1, h2⟩, h3⟩, h4⟩, _⟩, _⟩ := this
  obtain ⟨r, h1, h1'⟩ := Option.map_eq_some_iff.1 h1
  exact ⟨⟨r, h1, h1'⟩, h2, h3, h4⟩
theorem toks3 (a b c d e f : UInt8) (ha : a ≠ 58) (hb : b ≠ 58) (hc : c ≠ 58) (hd : d ≠ 58) : SplitN.toks 58 3 [a, b, 58, c, d, 58, e, f] = [[a, b], [c, d], [e, f]] := by
  simp [SplitN.toks, idx1, ha, hb, hc, hd]
theorem toks2 (a b c d : UInt8) (ha : a ≠ 58) (hb : b ≠ 58) : SplitN.toks 58 2 [a, b, 58, c, d] = [[a, b], [c, d]] := by
  simp [SplitN.toks, idx1, ha, hb]
/-- A time whose clock is written by numbers. -/
theorem clock (h m sec : Nat) (t : List UInt8) (h1 : h < 100) (h2 : m < 100) (h3 : sec < 100) :
    timeOk (dA h :: dB h :: 58 :: dA m :: dB m :: 58 :: dA sec :: dB sec :: t) ↔ 1 ≤ t.length ∧ h ≤ 23 ∧ m ≤ 59 ∧ sec ≤ 60 ∧ ∃ r, fracOf t r ∧ ∃ h' m', zoneOf h m r h' m' ∧ ¬ (60 ≤ sec ∧ (h' ≠ 23 ∨ m' ≠ 59)) := by
  obtain ⟨_, n1, a1, b1⟩ := dig_ok h h1
  obtain ⟨_, n2, a2, b2⟩ := dig_ok m h2
  obtain ⟨_, n3, _, _⟩ := dig_ok sec h3
  have hn : nums_ (SplitN.toks 58 3 ((dA h :: dB h :: 58 :: dA m :: dB m :: 58 :: dA sec :: dB sec :: t).take 8)) [h, m, sec] := by
    show nums_ (SplitN.toks 58 3 [dA h, dB h, 58, dA m, dB m, 58, dA sec, dB sec]) _
    rw [toks3 _ _ _ _ _ _ a1 b1 a2 b2]
    unfold nums_
    simp [n1, n2, n3]
  unfold timeOk
  constructor
  · rintro ⟨k1, _, _, h', m', sec', hn', z1, z2, z3, r, hf, hz⟩
    have := nums_inj hn hn'
    simp at this
    obtain ⟨rfl, rfl, rfl⟩ := this
    exact ⟨by simp at k1; omega, z1, z2, z3, r, hf, hz⟩
  · rintro ⟨k1, z1, z2, z3, r, hf, hz⟩
    exact ⟨by simp; omega, rfl, rfl, h, m, sec, hn, z1, z2, z3, r, hf, hz⟩
/-- Where no fraction stands. -/
theorem nofrac {t : List UInt8} (h : t.head? ≠ some 46) (P : List UInt8 → Prop) : (∃ r, fracOf t r ∧ P r) ↔ P t := by
  constructor
  · rintro ⟨r, ⟨_, rfl⟩ | ⟨k, _⟩, hp⟩
    · exact hp
    · exact absurd k h
  · intro hp; exact ⟨t, .inl ⟨h, rfl⟩, hp⟩
theorem zone_z (h m sec : Nat) (r : List UInt8) (hr : r = [122] ∨ r = [90]) : (∃ h' m', zoneOf h m r h' m' ∧ ¬ (60 ≤ sec ∧ (h' ≠ 23 ∨ m' ≠ 59))) ↔ ¬ (60 ≤ sec ∧ (h ≠ 23 ∨ m ≠ 59)) := by
  have hz : zoneOf h m r h m := .inl ⟨hr, rfl, rfl⟩
  constructor
  · rintro ⟨a, b, hz', k⟩
    obtain ⟨rfl, rfl⟩ := zone_inj hz' hz
    omega
  · intro k
    exact ⟨_, _, hz, by omega⟩
theorem zone_p (h m sec zh zm : Nat) (h1 : zh < 100) (h2 : zm < 100) : (∃ h' m', zoneOf h m [43, dA zh, dB zh, 58, dA zm, dB zm] h' m' ∧ ¬ (60 ≤ sec ∧ (h' ≠ 23 ∨ m' ≠ 59))) ↔
    zh ≤ 23 ∧ zm ≤ 59 ∧ ¬ (60 ≤ sec ∧ (over (60 * h + m - (60 * zh + zm)) / 60 ≠ 23 ∨ over (60 * h + m - (60 * zh + zm)) % 60 ≠ 59)) := by
  obtain ⟨_, n1, a1, b1⟩ := dig_ok zh h1
  obtain ⟨_, n2, _, _⟩ := dig_ok zm h2
  have hn : nums_ (SplitN.toks 58 2 ([43, dA zh, dB zh, 58, dA zm, dB zm].drop 1)) [zh, zm] := by
    show nums_ (SplitN.toks 58 2 [dA zh, dB zh, 58, dA zm, dB zm]) _
    rw [toks2 _ _ _ _ a1 b1]
    unfold nums_
    simp [n1, n2]
  constructor
  · rintro ⟨a, b, hz, k⟩
    have hz0 := hz
    rcases hz with ⟨hz | hz, _⟩ | ⟨_, _, _, _, zh', zm', hn', z1, z2, hh⟩
    · simp at hz
    · simp at hz
    · have := nums_inj hn hn'
      simp at this
      obtain ⟨rfl, rfl⟩ := this
      rcases hh with ⟨_, rfl, rfl⟩ | ⟨e, _⟩
      · exact ⟨z1, z2, k⟩
      · simp at e
  · rintro ⟨z1, z2, k⟩
    exact ⟨_, _, .inr ⟨by simp, by simp, rfl, rfl, zh, zm, hn, z1, z2, .inl ⟨rfl, rfl, rfl⟩⟩, k⟩
theorem zone_m (h m sec zh zm : Nat) (h1 : zh < 100) (h2 : zm < 100) : (∃ h' m', zoneOf h m [45, dA zh, dB zh, 58, dA zm, dB zm] h' m' ∧ ¬ (60 ≤ sec ∧ (h' ≠ 23 ∨ m' ≠ 59))) ↔
    zh ≤ 23 ∧ zm ≤ 59 ∧ ¬ (60 ≤ sec ∧ (over (60 * h + m + (60 * zh + zm)) / 60 ≠ 23 ∨ over (60 * h + m + (60 * zh + zm)) % 60 ≠ 59)) := by
  obtain ⟨_, n1, a1, b1⟩ := dig_ok zh h1
  obtain ⟨_, n2, _, _⟩ := dig_ok zm h2
  have hn : nums_ (SplitN.toks 58 2 ([45, dA zh, dB zh, 58, dA zm, dB zm].drop 1)) [zh, zm] := by
    show nums_ (SplitN.toks 58 2 [dA zh, dB zh, 58, dA zm, dB zm]) _
    rw [toks2 _ _ _ _ a1 b1]
    unfold nums_
    simp [n1, n2]
  constructor
  · rintro ⟨a, b, hz, k⟩
    rcases hz with ⟨hz | hz, _⟩ | ⟨_, _, _, _, zh', zm', hn', z1, z2, hh⟩
    · simp at hz
    · simp at hz
    · have := nums_inj hn hn'
      simp at this
      obtain ⟨rfl, rfl⟩ := this
      rcases hh with ⟨e, _⟩ | ⟨_, rfl, rfl⟩
      · simp at e
      · exact ⟨z1, z2, k⟩
  · rintro ⟨z1, z2, k⟩
    exact ⟨_, _, .inr ⟨by simp, by simp, rfl, rfl, zh, zm, hn, z1, z2, .inr ⟨rfl, rfl, rfl⟩⟩, k⟩
end Go.Proofs.YtfnnahopbghndaaDoor.Fmt
