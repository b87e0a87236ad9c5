/- Decimal numerals and strconv.Atoi as a plain function. -/
import Derived.Test.YtfnnahopbghndaaDoorFmtBase
import Derived.Lib.AtoiAll
namespace Go.Proofs.YtfnnahopbghndaaDoor.Fmt
open Go.RowKit Go.Proofs.YtfnnahopbghndaaDoorW.PrintWords Go.Proofs.YtfnnahopbghndaaDoorW.PrintLast Go.Proofs.YtfnnahopbghndaaDoorW.PrintMore Go.Proofs.YtfnnahopbghndaaDoor.K
set_option linter.unusedVariables false
set_option linter.unusedSimpArgs false

/-- The number that digits write, behind those that were read. -/
def decF (acc : Nat) (l : List UInt8) : Nat := l.foldl (fun n b => 10 * n + (b.toNat - 48)) acc
theorem decF_cons (acc : Nat) (c : UInt8) (l : List UInt8) : decF acc (c :: l) = decF (10 * acc + (c.toNat - 48)) l := by simp only [decF, List.foldl_cons]
theorem ten_mul (acc p : Nat) : acc * (p * 10) = 10 * acc * p := by rw [Nat.mul_comm p 10, ← Nat.mul_assoc, Nat.mul_comm acc 10]
theorem decF_ge (l : List UInt8) : ∀ acc, acc * 10 ^ l.length ≤ decF acc l := by
  induction l with
  | nil => intro acc; simp [decF]
  | cons c l ih =>
    intro acc
    rw [decF_cons, List.length_cons, Nat.pow_succ, ten_mul]
    have := ih (10 * acc + (c.toNat - 48))
    rw [Nat.add_mul] at this
    exact Nat.le_trans (Nat.le_add_right _ _) this
theorem decF_lo (l : List UInt8) (acc : Nat) : acc ≤ decF acc l := by
  have h := decF_ge l acc
  have h1 : 1 ≤ 10 ^ l.length := Nat.one_le_pow _ _ (by omega)
  have h2 := Nat.mul_le_mul_left acc h1
  rw [Nat.mul_one] at h2
  exact Nat.le_trans h2 h
theorem digB_iff (b : UInt8) : digB b = true ↔ 48 ≤ b.toNat ∧ b.toNat ≤ 57 := digK.iff b
theorem decF_hi (l : List UInt8) (hd : ∀ b ∈ l, digB b = true) : ∀ acc, decF acc l + 1 ≤ (acc + 1) * 10 ^ l.length := by
  induction l with
  | nil => intro acc; simp [decF]
  | cons c l ih =>
    intro acc
    rw [decF_cons, List.length_cons, Nat.pow_succ, ten_mul]
    have hc := (digB_iff c).1 (hd c (by simp))
    have := ih (fun b hb => hd b (by simp [hb])) (10 * acc + (c.toNat - 48))
    exact Nat.le_trans this (Nat.mul_le_mul_right _ (by omega))
theorem parse_of (l : List UInt8) : ∀ acc, (∀ b ∈ l, digB b = true) → decF acc l ≤ 1000000000000000000 → Lib.parseUint10 acc l = .ok (decF acc l) := by
  induction l with
  | nil => intro acc _ _; rfl
  | cons c l ih =>
    intro acc hd hb
    have hc := (digB_iff c).1 (hd c (by simp))
    rw [decF_cons] at hb ⊢
    have hlo := decF_lo l (10 * acc + (c.toNat - 48))
    have e : acc * 10 + (c.toNat - 48) = 10 * acc + (c.toNat - 48) := by omega
    rw [Lib.parseUint10, if_pos hc, if_neg (by omega), if_neg (by omega), e]
    exact ih _ (fun b hb => hd b (by simp [hb])) hb
theorem of_parse (l : List UInt8) : ∀ acc u, Lib.parseUint10 acc l = .ok u → (∀ b ∈ l, digB b = true) ∧ u = decF acc l := by
  induction l with
  | nil => intro acc u h; simp only [Lib.parseUint10] at h; cases h; exact ⟨by simp, rfl⟩
  | cons c l ih =>
    intro acc u h
    simp only [Lib.parseUint10] at h
    split at h
    · rename_i hc
      split at h
      · cases h
      · split at h
        · cases h
        · obtain ⟨h1, h2⟩ := ih _ _ h
          refine ⟨fun b hb => ?_, by rw [h2, decF_cons]; congr 1; omega⟩
          rcases List.mem_cons.1 hb with rfl | hb
          · exact (digB_iff _).2 hc
          · exact h1 b hb
    · cases h
theorem atoi_digs (l : List UInt8) (hne : l ≠ []) (hd : ∀ b ∈ l, digB b = true) (hb : decF 0 l ≤ 1000000000000000000) : Lib.atoiAll l = .ok (decF 0 l : Int) := by
  cases l with
  | nil => exact absurd rfl hne
  | cons c r =>
    have hc := (digB_iff c).1 (hd c (by simp))
    have hp : Lib.parseMag (c :: r) = .ok (decF 0 (c :: r)) := by
      unfold Lib.parseMag
      rw [if_neg (by simp), parse_of _ 0 hd hb]
    simp only [Lib.atoiAll]
    rw [if_neg (by omega), hp]
    simp only
    rw [if_neg (by omega), if_neg (by omega), if_neg (by omega)]
theorem of_atoi (l : List UInt8) (v : Int) (h : Lib.atoiAll l = .ok v) (h43 : l.head? ≠ some 43) (h45 : l.head? ≠ some 45) : l ≠ [] ∧ (∀ b ∈ l, digB b = true) ∧ v = (decF 0 l : Int) := by
  cases l with
  | nil => simp [Lib.atoiAll] at h
  | cons c r =>
    have h3 : ¬ c.toNat = 43 := fun e => h43 (by rw [List.head?_cons]; congr 1; exact UInt8.toNat_inj.1 e)
    have h5 : ¬ c.toNat = 45 := fun e => h45 (by rw [List.head?_cons]; congr 1; exact UInt8.toNat_inj.1 e)
    simp only [Lib.atoiAll] at h
    rw [if_neg (by omega)] at h
    unfold Lib.parseMag at h
    rw [if_neg (by simp)] at h
    split at h
    · cases h
    · cases h
    · rename_i u hu
      obtain ⟨h1, h2⟩ := of_parse _ _ _ hu
      rw [if_neg h5] at h
      split at h
      · cases h
      · split at h
        · cases h
        · cases h
          exact ⟨by simp, h1, by rw [h2]⟩

/-- A number from 0 to 255 without a 0 ahead. -/
def octetOk (g : List UInt8) : Prop := g.length ≤ 3 ∧ g ≠ [] ∧ (∀ b ∈ g, digB b = true) ∧ decF 0 g ≤ 255 ∧ (g.length = 1 ∨ g.head? ≠ some 48)
end Go.Proofs.YtfnnahopbghndaaDoor.Fmt
