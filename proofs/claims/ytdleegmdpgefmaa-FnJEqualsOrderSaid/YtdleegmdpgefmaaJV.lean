/- When the data of two values are one: plain laws. -/
import Derived.Test.YtdleegmdpgefmaaJM
namespace Go.Proofs.Ytdleegmdpgefmaa.J
open Go.RowKit Go.Proofs.YtdleegmdpgefmaaW.PrintWords Go.Proofs.YtdleegmdpgefmaaW.PrintLast Go.Proofs.YtdleegmdpgefmaaW.PrintMore Go.Proofs.Ytdleegmdpgefmaa.PJ Go.Proofs.Ytdleegmdpgefmaa.K Go.Maps
set_option linter.unusedVariables false
set_option linter.unusedSimpArgs false

theorem canonS_ext {d1 d2 : D0} (c1 : CanonS d1) (c2 : CanonS d2) (h : ∀ k, Maps.has d1 k = Maps.has d2 k ∧ (Maps.has d1 k = true → d1.atKey k .nil = d2.atKey k .nil)) : d1 = d2 := by
  obtain ⟨es1, rfl, p1, s1⟩ := c1
  obtain ⟨es2, rfl, p2, s2⟩ := c2
  have k1 : ∀ p ∈ es1, WideAt.IsKeyLit p.1 := fun p hp => by obtain ⟨s, e⟩ := s1 p hp; rw [e]; trivial
  have k2 : ∀ p ∈ es2, WideAt.IsKeyLit p.1 := fun p hp => by obtain ⟨s, e⟩ := s2 p hp; rw [e]; trivial
  have a1 := apart_of_rising p1
  have a2 := apart_of_rising p2
  have sub : ∀ {u v : List (Lit × D0)}, (∀ p ∈ u, WideAt.IsKeyLit p.1) → _ → _ → (∀ k, Maps.has (.map u) k = true → Maps.has (.map v) k = true ∧ (DataW.map u).atKey k .nil = (DataW.map v).atKey k .nil) → ∀ p ∈ u, p ∈ v := fun {u v} ku au av h p hp => by
    have h1 : Maps.has (.map u) p.1 = true := List.any_eq_true.2 ⟨p, hp, WideAt.sameKey_self (ku p hp)⟩
    obtain ⟨h2, h3⟩ := h _ h1
    obtain ⟨q, hq, hqs⟩ := List.any_eq_true.1 h2
    have e1 : q.1 = p.1 := WideAt.sameKey_eq hqs
    have e2 : (DataW.map u).atKey p.1 .nil = p.2 := WideAt.atKey_mem .nil (ku p hp) au hp
    have e3 : (DataW.map v).atKey p.1 .nil = q.2 := WideAt.atKey_mem .nil (ku p hp) av (by rw [← e1]; exact hq)
    have : q = p := Prod.ext e1 (by rw [← e3, ← h3, e2])
    exact this ▸ hq
  rw [eq_of_mem_rising p1 p2 fun p => ⟨sub k1 a1 a2 (fun k hk => ⟨(h k).1 ▸ hk, (h k).2 hk⟩) p, sub k2 a2 a1 (fun k hk => ⟨(h k).1.symm ▸ hk, ((h k).2 ((h k).1.symm ▸ hk)).symm⟩) p⟩]
/-- The kind of a value as its data tell it. -/
def kindD : D0 → Int
  | .lit (.bool _) => 1
  | .lit (.int _ _) => 2
  | .lit (.string _) => 3
  | .slice _ _ => 4
  | .map _ => 5
  | _ => 0
theorem kind_toD {n : Nat} {x : JV} (hd : Dp (n + 1) x) : kindD (toD (n + 1) x) = x.f0 := by
  obtain ⟨h0, h5, _, _⟩ := hd.inv
  by_cases h1 : x.f0 = 1
  · simp [toD, h1, kindD]
  by_cases h2 : x.f0 = 2
  · simp [toD, h2, kindD]
  by_cases h3 : x.f0 = 3
  · simp [toD, h3, kindD]
  by_cases h4 : x.f0 = 4
  · simp [toD, h4, kindD]
  by_cases h6 : x.f0 = 5
  · obtain ⟨es, e, _⟩ := objD_canon (x.f4.zip (x.f5.map (toD n)))
    simp [toD, h6, e, kindD]
  · obtain h : x.f0 = 0 := by omega
    simp [toD, h, kindD]
theorem eqB_kind {n : Nat} {x y : JV} (hx : Dp (n + 1) x) (hy : Dp (n + 1) y) (h : x.f0 ≠ y.f0) : eqB (toD (n + 1) x) (toD (n + 1) y) = false := by
  refine eqB_false.2 fun e => h ?_
  rw [← kind_toD hx, ← kind_toD hy, e]
/-- Each member of the one is a member of the other, and the same. -/
def Within (n : Nat) (x y : JV) : Prop := ∀ (s : ByteArray) (i : Nat), Last x.f4 s i → ∃ j, Last y.f4 s j ∧ ∃ (hi : i < x.f5.length) (hj : j < y.f5.length), toD n x.f5[i] = toD n y.f5[j]
noncomputable def withinB (n : Nat) (x y : JV) : Bool := @decide (Within n x y) (Classical.propDecidable _)
theorem withinB_true {n : Nat} {x y : JV} : withinB n x y = true ↔ Within n x y := by unfold withinB; exact @decide_eq_true_iff _ (Classical.propDecidable _)
theorem withinB_false {n : Nat} {x y : JV} : withinB n x y = false ↔ ¬ Within n x y := by unfold withinB; exact @decide_eq_false_iff_not _ (Classical.propDecidable _)
theorem toD_obj {n : Nat} {x : JV} (h : x.f0 = 5) : toD (n + 1) x = objD (x.f4.zip (x.f5.map (toD n))) := by simp [toD, h]
theorem toD_arr {n : Nat} {x : JV} (h : x.f0 = 4) : toD (n + 1) x = .slice (x.f5.map (toD n)) [] := by simp [toD, h]
theorem within_of_eq {n : Nat} {x y : JV} (hx : x.f4.length = x.f5.length) (hy : y.f4.length = y.f5.length) (e : objD (x.f4.zip (x.f5.map (toD n))) = objD (y.f4.zip (y.f5.map (toD n)))) : Within n x y := by
  intro s i hi
  have h1 := objD_last x.f4 (x.f5.map (toD n)) (by simpa using hx) s i hi
  rcases last_or y.f4 s with ⟨j, hj⟩ | hno
  · have h2 := objD_last y.f4 (y.f5.map (toD n)) (by simpa using hy) s j hj
    refine ⟨j, hj, by have := hi.lt; omega, by have := hj.lt; omega, ?_⟩
    rw [e] at h1
    have h3 := h1.2.symm.trans h2.2
    simpa using h3
  · have h2 := objD_none y.f4 (y.f5.map (toD n)) (by simpa using hy) s hno
    rw [e, h2] at h1
    cases h1.1
theorem eq_of_within {n : Nat} {x y : JV} (hx : x.f4.length = x.f5.length) (hy : y.f4.length = y.f5.length) (h1 : Within n x y) (h2 : Within n y x) : objD (x.f4.zip (x.f5.map (toD n))) = objD (y.f4.zip (y.f5.map (toD n))) := by
  have side : ∀ s : ByteArray, Maps.has (objD (x.f4.zip (x.f5.map (toD n)))) (.string (bs s)) = Maps.has (objD (y.f4.zip (y.f5.map (toD n)))) (.string (bs s)) ∧ (Maps.has (objD (x.f4.zip (x.f5.map (toD n)))) (.string (bs s)) = true → (objD (x.f4.zip (x.f5.map (toD n)))).atKey (.string (bs s)) .nil = (objD (y.f4.zip (y.f5.map (toD n)))).atKey (.string (bs s)) .nil) := by
    intro s
    rcases last_or x.f4 s with ⟨i, hi⟩ | hno
    · obtain ⟨j, hj, h3, h4, e⟩ := h1 s i hi
      have a := objD_last x.f4 (x.f5.map (toD n)) (by simpa using hx) s i hi
      have b := objD_last y.f4 (y.f5.map (toD n)) (by simpa using hy) s j hj
      refine ⟨by rw [a.1, b.1], fun _ => ?_⟩
      rw [a.2, b.2]
      simpa using e
    · have a := objD_none x.f4 (x.f5.map (toD n)) (by simpa using hx) s hno
      rcases last_or y.f4 s with ⟨j, hj⟩ | hno2
      · obtain ⟨i, hi, _⟩ := h2 s j hj
        exact absurd hi.1 (hno i)
      · rw [a, objD_none y.f4 (y.f5.map (toD n)) (by simpa using hy) s hno2]
        exact ⟨rfl, fun h => by cases h⟩
  have keys : ∀ k, Maps.has (objD (x.f4.zip (x.f5.map (toD n)))) k = Maps.has (objD (y.f4.zip (y.f5.map (toD n)))) k ∧ (Maps.has (objD (x.f4.zip (x.f5.map (toD n)))) k = true → (objD (x.f4.zip (x.f5.map (toD n)))).atKey k .nil = (objD (y.f4.zip (y.f5.map (toD n)))).atKey k .nil) := by
    intro k
    obtain ⟨a, ha⟩ : ∃ a, Maps.has (objD (x.f4.zip (x.f5.map (toD n)))) k = a := ⟨_, rfl⟩
    obtain ⟨b, hb⟩ : ∃ b, Maps.has (objD (y.f4.zip (y.f5.map (toD n)))) k = b := ⟨_, rfl⟩
    cases a
    · cases b
      · rw [ha, hb]; exact ⟨rfl, fun h => by cases h⟩
      · obtain ⟨s, rfl⟩ := objD_key _ k hb
        exact side s
    · obtain ⟨s, rfl⟩ := objD_key _ k ha
      exact side s
  exact canonS_ext (objD_canon _) (objD_canon _) fun k => keys k
theorem eqB_obj {n : Nat} {x y : JV} (hx5 : x.f0 = 5) (hy5 : y.f0 = 5) (hx : x.f4.length = x.f5.length) (hy : y.f4.length = y.f5.length) : eqB (toD (n + 1) x) (toD (n + 1) y) = (withinB n x y && withinB n y x) := by
  rw [toD_obj hx5, toD_obj hy5]
  by_cases h1 : Within n x y
  · by_cases h2 : Within n y x
    · rw [withinB_true.2 h1, withinB_true.2 h2]
      exact eqB_true.2 (eq_of_within hx hy h1 h2)
    · rw [withinB_false.2 h2, Bool.and_false]
      exact eqB_false.2 fun e => h2 (within_of_eq hy hx e.symm)
  · rw [withinB_false.2 h1, Bool.false_and]
    exact eqB_false.2 fun e => h1 (within_of_eq hx hy e)
/-- The members that count of an object without numbers hold none. -/
theorem noNum_member {n : Nat} {x : JV} (h5 : x.f0 = 5) (hx : x.f4.length = x.f5.length) (hn : NoNum (toD (n + 1) x)) (s : ByteArray) (i : Nat) (hi : Last x.f4 s i) (hlt : i < x.f5.length) : NoNum (toD n x.f5[i]) := by
  rw [toD_obj h5] at hn
  have a := objD_last x.f4 (x.f5.map (toD n)) (by simpa using hx) s i hi
  obtain ⟨es, e, _⟩ := objD_canon (x.f4.zip (x.f5.map (toD n)))
  rw [e] at hn a
  have := hn.map_inv _ a.1
  rw [a.2] at this
  simpa using this
theorem noNum_item {n : Nat} {x : JV} (h4 : x.f0 = 4) (hn : NoNum (toD (n + 1) x)) (i : Nat) (hlt : i < x.f5.length) : NoNum (toD n x.f5[i]) := by
  rw [toD_arr h4] at hn
  exact hn.slice_inv _ (List.mem_map.2 ⟨_, List.getElem_mem _, rfl⟩)
theorem eqB_arr {n : Nat} {x y : JV} (hx4 : x.f0 = 4) (hy4 : y.f0 = 4) (b : Bool) (hb : b = true ↔ x.f5.length = y.f5.length ∧ ∀ i (h1 : i < x.f5.length) (h2 : i < y.f5.length), eqB (toD n x.f5[i]) (toD n y.f5[i]) = true) : eqB (toD (n + 1) x) (toD (n + 1) y) = b := by
  rw [toD_arr hx4, toD_arr hy4]
  have key : (DataW.slice (x.f5.map (toD n)) [] : D0) = .slice (y.f5.map (toD n)) [] ↔ b = true := by
    rw [hb]
    constructor
    · intro e
      injection e with e _
      have hl : x.f5.length = y.f5.length := by simpa using congrArg List.length e
      refine ⟨hl, fun i h1 h2 => eqB_true.2 ?_⟩
      have := congrArg (fun l => l[i]?) e
      simpa [List.getElem?_eq_getElem h1, List.getElem?_eq_getElem h2] using this
    · rintro ⟨hl, h⟩
      have : x.f5.map (toD n) = y.f5.map (toD n) := by
        apply List.ext_getElem
        · simpa using hl
        · intro i h1 h2
          simp only [List.length_map] at h1 h2
          simp only [List.getElem_map]
          exact eqB_true.1 (h i h1 h2)
      rw [this]
  cases b
  · exact eqB_false.2 fun e => by have := key.1 e; cases this
  · exact eqB_true.2 (key.2 rfl)
end Go.Proofs.Ytdleegmdpgefmaa.J
