/- FnJCycle: spec.JCycle, what it answers. -/
import Derived.Test.YtabadjidlfpngaaCycle2
namespace Go.Proofs.Ytabadjidlfpngaa.Cyc
open Go.RowKit Go.Proofs.Ytabadjidlfpngaa.PFnJCycle Go.Proofs.YtabadjidlfpngaaW.PrintWords Go.Proofs.YtabadjidlfpngaaW.PrintLast Go.Proofs.YtabadjidlfpngaaW.PrintMore Go.Proofs.Ytabadjidlfpngaa.K
set_option linter.unusedVariables false
set_option linter.unusedSimpArgs false

def pr (x : S40) : Int × Int := (x.f0, x.f1)
theorem rd_nat (l : List S40) (i : Nat) (h : i < l.length) : rd_T40 l (i : Int) = l[i] := by
  unfold rd_T40
  rw [Int.toNat_natCast, List.getD_eq_getElem?_getD, List.getElem?_eq_getElem h]; rfl
theorem stopS (l : List S40) (h1 : 1 ≤ l.length) : Ev (fun k => spec_JCycle.l0 k l (-1)) (-1) := by
  refine ev_succ 1 fun k hk => ?_
  obtain ⟨k, rfl⟩ : ∃ m, k = m + 1 := ⟨k - 1, by omega⟩
  simp only [spec_JCycle.l0, spec_JCycle.j1]
  rw [if_neg (by omega), if_neg (by simp)]
theorem cycS (l : List S40) (hl : l.length ≤ 2147483647) (z : S40) (hz : 1 ≤ l.length) (hzl : rd_T40 l (wrap64 ((l.length : Int) - 1)) = z) : ∀ i : Nat, i + 1 < l.length →
    Ev (fun k => spec_JCycle.l0 k l (i : Int)) (cy z.f0 z.f1 ((l.take (i + 1)).map pr).reverse (l.length - 2 - i)) := by
  have w1 : wrap64 ((l.length : Int) - 1) = (l.length : Int) - 1 := wrap_in (by omega) (by omega)
  have w2 : wrap64 ((l.length : Int) - 2) = (l.length : Int) - 2 := wrap_in (by omega) (by omega)
  rw [w1] at hzl
  have main : ∀ (i : Nat) (hi : i + 1 < l.length) (r : Int), Ev (fun k => spec_JCycle.l0 k l ((i : Int) - 1)) r →
      Ev (fun k => spec_JCycle.l0 k l (i : Int)) (if (l[i]'(by omega)).f1 = z.f1 then (if (l[i]'(by omega)).f0 = z.f0 then ((l.length - 2 - i : Nat) : Int) else r) else -1) := by
    rintro i hi r ⟨K, hK⟩
    have w3 : wrap64 ((i : Int) - 1) = (i : Int) - 1 := wrap_in (by omega) (by omega)
    have w4 : wrap64 ((l.length : Int) - 2 - i) = ((l.length - 2 - i : Nat) : Int) := by rw [wrap_in (by omega) (by omega)]; omega
    refine ev_succ (K + 1) fun k hk => ?_
    obtain ⟨k, rfl⟩ : ∃ m, k = m + 1 := ⟨k - 1, by omega⟩
    simp only [spec_JCycle.l0, spec_JCycle.j1, w1, w2, w3, w4, hzl, rd_nat l i (by omega)]
    rw [if_pos (by omega), if_pos (by omega), if_pos (by omega), if_pos (by omega), if_pos (by omega)]
    by_cases hv : (l[i]'(by omega)).f1 = z.f1
    · rw [if_pos (by rw [beq_iff_eq]; exact hv), if_pos (by omega), if_pos (by omega), if_pos (by omega), if_pos (by omega), if_pos hv]
      by_cases hs : (l[i]'(by omega)).f0 = z.f0
      · rw [if_pos hs, if_pos hs]
      · rw [if_neg hs, if_neg hs]
        exact hK k (by omega)
    · rw [if_neg (by rw [beq_iff_eq]; exact hv), if_neg hv]
  intro i
  induction i with
  | zero =>
    intro hi
    have := main 0 hi (-1) (stopS l hz)
    rw [List.take_succ_eq_append_getElem (by omega)]
    simpa [cy, pr] using this
  | succ i ih =>
    intro hi
    have h1 := ih (by omega)
    have e : ((i + 1 : Nat) : Int) - 1 = (i : Int) := by omega
    have := main (i + 1) hi _ (by rw [e]; exact h1)
    rw [List.take_succ_eq_append_getElem (by omega), List.map_append, List.reverse_append]
    have e2 : l.length - 2 - (i + 1) + 1 = l.length - 2 - i := by omega
    simp only [List.map_cons, List.map_nil, List.reverse_singleton, List.singleton_append, cy, e2]
    exact this
theorem specCy (l : List S40) (hl : l.length ≤ 2147483647) (p : Int × Int) (t : List (Int × Int)) (h : (l.map pr).reverse = p :: t) : Ev (fun k => spec_JCycle.f k l) (cy p.1 p.2 t 0) := by
  have hn : l.length = t.length + 1 := by have := congrArg List.length h; simpa using this
  have w1 : wrap64 ((l.length : Int) - 1) = (l.length : Int) - 1 := wrap_in (by omega) (by omega)
  have w2 : wrap64 ((l.length : Int) - 2) = (l.length : Int) - 2 := wrap_in (by omega) (by omega)
  have hlast : l.map pr = t.reverse ++ [p] := by
    have := congrArg List.reverse h
    simpa using this
  have hz : pr (rd_T40 l (wrap64 ((l.length : Int) - 1))) = p := by
    rw [w1, show (l.length : Int) - 1 = ((l.length - 1 : Nat) : Int) by omega, rd_nat l _ (by omega)]
    have e := congrArg (fun m => m[l.length - 1]?) hlast
    simp only [List.getElem?_map, List.getElem?_eq_getElem (show l.length - 1 < l.length by omega), Option.map_some] at e
    rw [List.getElem?_append_right (by simp; omega)] at e
    simp [hn] at e
    simpa [hn] using e
  unfold spec_JCycle.f
  rw [w2]
  by_cases h1 : l.length = 1
  · have ht : t = [] := List.eq_nil_of_length_eq_zero (by omega)
    rw [ht, h1]
    exact stopS l (by omega)
  · have := cycS l hl _ (by omega) rfl (l.length - 2) (by omega)
    rw [show (l.length : Int) - 2 = ((l.length - 2 : Nat) : Int) by omega]
    have e : ((l.take (l.length - 2 + 1)).map pr).reverse = t := by
      rw [List.map_take, hlast, List.take_append_of_le_length (by simp; omega), List.take_of_length_le (by simp; omega), List.reverse_reverse]
    rw [e, Nat.sub_self] at this
    rw [← hz]
    exact this
end Go.Proofs.Ytabadjidlfpngaa.Cyc
