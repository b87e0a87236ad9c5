/- spec.JHas: whether a byte is in a text. -/
import Derived.Test.YtfnnahopbghndaaDoorK
import Derived.Test.YtfnnahopbghndaaDoorPjQuotedx1
namespace Go.Proofs.YtfnnahopbghndaaDoor.SHasjQuoted
open Go.RowKit Go.Proofs.YtfnnahopbghndaaDoor.PjQuoted Go.Proofs.YtfnnahopbghndaaDoorW.PrintWords Go.Proofs.YtfnnahopbghndaaDoorW.PrintLast Go.Proofs.YtfnnahopbghndaaDoor.K
set_option linter.unusedVariables false
set_option linter.unusedSimpArgs false
theorem hasLoop (s : ByteArray) (c : UInt8) (hs : s.size ≤ 4294967296) (d : Nat) : ∀ i : Nat, i ≤ s.size → s.size - i = d →
    ∃ b, Ev (fun k => spec_JHas.l0 k s (c.toNat : Int) i) b ∧ (b = true ↔ c ∈ (bs s).drop i) := by
  have hl := bs_len s
  induction d with
  | zero =>
    intro i hi hd
    refine ⟨false, ev_succ 0 fun k _ => ?_, ?_⟩
    · simp only [spec_JHas.l0]; rw [if_neg (by omega)]
    · rw [List.drop_of_length_le (by omega)]; simp
  | succ d ih =>
    intro i hi hd
    have hlt : i < (bs s).length := by omega
    have ew' : wrap64 ((i : Int) + 1) = ((i + 1 : Nat) : Int) := by rw [wrap_in (by omega) (by omega)]; omega
    have hbt := bt_nat s i hlt
    obtain ⟨b, ⟨K, hK⟩, hb⟩ := ih (i + 1) (by omega) (by omega)
    rw [List.drop_eq_getElem_cons hlt]
    by_cases hx : (bs s)[i] = c
    · refine ⟨true, ev_succ 0 fun k hk => ?_, by rw [List.mem_cons]; simp only [hx, true_or]⟩
      simp only [spec_JHas.l0, hbt]
      rw [if_pos (by omega), if_pos (by omega), if_pos ((eq_toNat _ _).2 hx)]
    · refine ⟨b, ev_succ K fun k hk => ?_, by rw [hb, List.mem_cons]; exact ⟨fun h => .inr h, fun h => h.resolve_left (Ne.symm hx)⟩⟩
      simp only [spec_JHas.l0, hbt, ew']
      rw [if_pos (by omega), if_pos (by omega), if_neg (fun e => hx ((eq_toNat _ _).1 e))]
      exact hK k hk
theorem hasS (s : ByteArray) (c : UInt8) (hs : s.size ≤ 4294967296) : ∃ b, Ev (fun k => spec_JHas.f k s (c.toNat : Int)) b ∧ (b = true ↔ c ∈ bs s) := by
  obtain ⟨b, h1, h2⟩ := hasLoop s c hs s.size 0 (by omega) (by omega)
  exact ⟨b, h1, by rwa [List.drop_zero] at h2⟩
end Go.Proofs.YtfnnahopbghndaaDoor.SHasjQuoted
