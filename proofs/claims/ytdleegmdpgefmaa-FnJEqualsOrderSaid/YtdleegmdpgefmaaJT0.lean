/- laws.jTurned: what it makes, plain. -/
import Derived.Test.YtdleegmdpgefmaaJV
import Derived.Test.YtdleegmdpgefmaaJS
namespace Go.Proofs.Ytdleegmdpgefmaa.J
open Go.RowKit Go.Proofs.YtdleegmdpgefmaaW.PrintWords Go.Proofs.YtdleegmdpgefmaaW.PrintLast Go.Proofs.YtdleegmdpgefmaaW.PrintMore Go.Proofs.Ytdleegmdpgefmaa.PJ Go.Proofs.Ytdleegmdpgefmaa.K Go.Maps
set_option linter.unusedVariables false
set_option linter.unusedSimpArgs false

/-- The places of the members that count, the last one first. -/
noncomputable def memR (x : JV) : List Int := (memL x.f4 x.f4.length).reverse
noncomputable def turn : Nat → JV → JV
  | 0, x => x
  | n + 1, x => ⟨x.f0, x.f1, x.f2, x.f3, if x.f0 = 5 then (memR x).map (rdOf ByteArray.empty x.f4) else [], if x.f0 = 4 then x.f5.map (turn n) else if x.f0 = 5 then (memR x).map (fun i => turn n (rd_T25 x.f5 i)) else []⟩
theorem memR_get {x : JV} {j : Nat} (h : j < (memR x).length) : ∃ i s, (memR x)[j] = ((i : Nat) : Int) ∧ i < x.f4.length ∧ Last x.f4 s i := by
  have hm : (memR x)[j] ∈ memL x.f4 x.f4.length := by
    have := List.getElem_mem h
    unfold memR at this
    exact List.mem_reverse.1 this
  obtain ⟨i, e, hi, s, hs⟩ := (mem_memL _ _ _).1 hm
  exact ⟨i, s, e, hi, hs⟩
theorem memR_mem {x : JV} {s : ByteArray} {i : Nat} (h : Last x.f4 s i) : (i : Int) ∈ memR x := by
  unfold memR
  exact List.mem_reverse.2 ((mem_memL _ _ _).2 ⟨i, rfl, h.lt, s, h⟩)
theorem memR_len (x : JV) : (memR x).length ≤ x.f4.length := by
  unfold memR
  rw [List.length_reverse]
  exact memL_len _ _
theorem memR_in {x : JV} (i : Int) (h : i ∈ memR x) : ∃ j : Nat, i = j ∧ j < x.f4.length := by
  unfold memR at h
  obtain ⟨j, e, hj, _⟩ := (mem_memL _ _ _).1 (List.mem_reverse.1 h)
  exact ⟨j, e, hj⟩
theorem turn_f0 {n : Nat} (x : JV) : (turn n x).f0 = x.f0 := by cases n <;> rfl
theorem turn_dp : ∀ {n : Nat} {x : JV}, Dp n x → Dp n (turn n x)
  | 0, x, h => h
  | n + 1, x, h => by
    obtain ⟨h0, h5, hn, hd⟩ := h.inv
    refine Dp.mk _ _ h0 h5 (fun k => ?_) (fun y hy => ?_)
    · have k' : x.f0 = 5 := k
      simp [turn, k']
    · simp only [turn] at hy
      split at hy
      · obtain ⟨z, hz, rfl⟩ := List.mem_map.1 hy
        exact turn_dp (hd z hz)
      · split at hy
        · rename_i k5
          obtain ⟨i, hi, rfl⟩ := List.mem_map.1 hy
          obtain ⟨j, rfl, hj⟩ := memR_in i hi
          have hj5 : j < x.f5.length := by rw [← hn k5]; exact hj
          rw [rdJ _ _ hj5]
          exact turn_dp (hd _ (List.getElem_mem _))
        · cases hy
theorem turn_wf : ∀ {n : Nat} {x : JV}, Dp n x → wfJ x → wfJ (turn n x)
  | 0, x, _, h => h
  | n + 1, x, hd, h => by
    obtain ⟨_, _, hn, hds⟩ := hd.inv
    have hall := h.inv.2.2.2
    have hs4 := h.inv.2.1
    have hs5 := h.inv.2.2.1
    cases h with
    | mk _ h0 h1 h2 h3 h4 h5 h6 =>
      have hlen := memR_len x
      refine Op.wf_k25.mk _ h0 h1 h2 h3 ?_ ?_ ?_
      · show _ ∧ _
        simp only [turn]
        split
        · refine ⟨by simp; omega, fun s hs => ?_⟩
          obtain ⟨i, hi, rfl⟩ := List.mem_map.1 hs
          obtain ⟨j, rfl, hj⟩ := memR_in i hi
          rw [rdS _ _ hj]
          exact hs4.2 _ (List.getElem_mem _)
        · exact ⟨by simp, fun s hs => by cases hs⟩
      · simp only [turn]
        split
        · simpa using hs5
        · split
          · rename_i k5
            have := hn k5
            simp only [List.length_map]
            omega
          · simp
      · intro y hy
        simp only [turn] at hy
        split at hy
        · obtain ⟨z, hz, rfl⟩ := List.mem_map.1 hy
          exact turn_wf (hds z hz) (hall z hz)
        · split at hy
          · rename_i k5
            obtain ⟨i, hi, rfl⟩ := List.mem_map.1 hy
            obtain ⟨j, rfl, hj⟩ := memR_in i hi
            have hj5 : j < x.f5.length := by rw [← hn k5]; exact hj
            rw [rdJ _ _ hj5]
            exact turn_wf (hds _ (List.getElem_mem _)) (hall _ (List.getElem_mem _))
          · cases hy
theorem turn_toD : ∀ {n : Nat} {x : JV}, Dp n x → toD n (turn n x) = toD n x
  | 0, x, h => rfl
  | n + 1, x, h => by
    obtain ⟨h0, h5, hn, hd⟩ := h.inv
    by_cases k4 : x.f0 = 4
    · rw [toD_arr (show (turn (n + 1) x).f0 = 4 from k4), toD_arr k4]
      have : (turn (n + 1) x).f5.map (toD n) = x.f5.map (toD n) := by
        simp only [turn, k4, if_true, List.map_map]
        exact List.map_congr_left fun y hy => turn_toD (hd y hy)
      rw [this]
    by_cases k5 : x.f0 = 5
    · have hx : x.f4.length = x.f5.length := hn k5
      have e4 : (turn (n + 1) x).f4 = (memR x).map (rdOf ByteArray.empty x.f4) := by simp [turn, k5]
      have e5 : (turn (n + 1) x).f5 = (memR x).map (fun i => turn n (rd_T25 x.f5 i)) := by simp [turn, k5]
      have hy : (turn (n + 1) x).f4.length = (turn (n + 1) x).f5.length := by rw [e4, e5]; simp
      rw [toD_obj (show (turn (n + 1) x).f0 = 5 from k5), toD_obj k5]
      -- a name's last place in the one tells its last place in the other
      have fwd : ∀ (s : ByteArray) (j : Nat), Last (turn (n + 1) x).f4 s j → ∃ i, Last x.f4 s i ∧ ∃ (hj : j < (turn (n + 1) x).f5.length) (hi : i < x.f5.length), toD n (turn (n + 1) x).f5[j] = toD n x.f5[i] := by
        intro s j hj
        have hjl : j < (memR x).length := by have := hj.lt; rw [e4] at this; simpa using this
        obtain ⟨i, t, e, hi, ht⟩ := memR_get hjl
        have hs : t = s := by
          have h1 := hj.1
          rw [e4, List.getElem?_map, List.getElem?_eq_getElem hjl, e] at h1
          have h2 : rdOf ByteArray.empty x.f4 (i : Int) = s := Option.some.inj h1
          rw [rdS _ _ hi] at h2
          have h3 := ht.1
          rw [List.getElem?_eq_getElem hi] at h3
          rw [← Option.some.inj h3, h2]
        subst hs
        refine ⟨i, ht, by rw [e5]; simpa using hjl, by omega, ?_⟩
        have : (turn (n + 1) x).f5[j]'(by rw [e5]; simpa using hjl) = turn n x.f5[i] := by
          simp only [e5, List.getElem_map, e]
          rw [rdJ _ _ (by omega)]
        rw [this]
        exact turn_toD (hd _ (List.getElem_mem _))
      refine eq_of_within hy hx fwd fun s i hi => ?_
      rcases last_or (turn (n + 1) x).f4 s with ⟨j, hj⟩ | hno
      · obtain ⟨i', hi', a, b, e⟩ := fwd s j hj
        obtain rfl : i = i' := hi.uniq hi'
        exact ⟨j, hj, b, a, e.symm⟩
      · exfalso
        obtain ⟨j, hj, e⟩ := List.getElem_of_mem (memR_mem hi)
        refine hno j ?_
        rw [e4, List.getElem?_map, List.getElem?_eq_getElem hj, e]
        have := hi.1
        rw [List.getElem?_eq_getElem hi.lt] at this
        show some (rdOf ByteArray.empty x.f4 (i : Int)) = some s
        rw [rdS _ _ hi.lt, Option.some.inj this]
    · simp [toD, turn, k4, k5]
end Go.Proofs.Ytdleegmdpgefmaa.J
