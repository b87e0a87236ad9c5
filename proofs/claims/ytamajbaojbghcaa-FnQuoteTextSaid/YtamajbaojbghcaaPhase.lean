/- A region in two phases: what stands behind the first operations waits for all of them. -/
import Derived.Test.YtamajbaojbghcaaProg
import Derived.Deep.RegionHeld3
namespace Go.Proofs.Ytamajbaojbghcaa.Ph
set_option linter.unusedVariables false
set_option linter.unusedSimpArgs false
section
variable {P : Program} {md : Region.Mode} {Q : Exit → Act → World → Prop}

theorem wpAny_more {ops : Array Oper} : ∀ (fuel : Nat) (listed : Array Bool) (a : Act) (w : World), wpAny P md ops Q fuel listed a w → wpAny P md ops Q (fuel + 1) listed a w
  | 0, _, _, _, h => ⟨fun _ => h.2, fun i hi => by rw [h.1] at hi; cases hi⟩
  | fuel + 1, _, _, _, h => ⟨h.1, fun i hi => wpOp_mono (fun a' w' h' => wpAny_more fuel _ a' w' h') (h.2 i hi)⟩
theorem wpAny_add {ops : Array Oper} (m : Nat) (listed : Array Bool) (a : Act) (w : World) (h : wpAny P md ops Q m listed a w) : ∀ k, wpAny P md ops Q (k + m) listed a w
  | 0 => by rw [Nat.zero_add]; exact h
  | k + 1 => by rw [Nat.succ_add]; exact wpAny_more _ _ _ _ (wpAny_add m listed a w h k)

/-- Each waits for earlier ones alone, guards too. -/
def early (ops : Array Oper) : Bool :=
  (List.range ops.size).all fun j => match ops[j]? with
    | none => false
    | some o => (o.after.all fun e => decide (e.on < j)) && (match o.guard with | some (g, _) => decide (g < ops.size) | none => true)
/-- What number j waits for. -/
def waits (md : Region.Mode) (ops : Array Oper) (j : Nat) : List Nat := match ops[j]? with
  | none => []
  | some o => (o.after.toList.filter fun e => Region.binds md e).map fun e => e.on
/-- What those of a list wait for, and so on; from number k - 1 down. -/
def sweep (md : Region.Mode) (ops : Array Oper) : Nat → List Nat → List Nat
  | 0, s => s
  | k + 1, s => sweep md ops k (if s.contains k then waits md ops k ++ s else s)
/-- Those behind number n wait for all ahead of it. -/
def late (md : Region.Mode) (ops : Array Oper) (n : Nat) : Bool :=
  (List.range ops.size).all fun j => decide (j < n) || (List.range n).all fun k => (sweep md ops n (waits md ops j)).contains k
theorem early_spec {ops : Array Oper} (h : early ops = true) {j : Nat} {o : Oper} (hj : ops[j]? = some o) : (∀ e ∈ o.after, e.on < j) ∧ ∀ g b, o.guard = some (g, b) → g < ops.size := by
  have hlt : j < ops.size := by
    rcases Nat.lt_or_ge j ops.size with h' | h'
    · exact h'
    · rw [Array.getElem?_eq_none h'] at hj; cases hj
  have := List.all_eq_true.1 h j (List.mem_range.2 hlt)
  rw [hj] at this
  simp only [Bool.and_eq_true, Array.all_eq_true_iff_forall_mem, decide_eq_true_eq] at this
  refine ⟨this.1, fun g b hg => ?_⟩
  have h2 := this.2
  rw [hg] at h2
  simpa using h2
theorem late_spec {ops : Array Oper} {n : Nat} (h : late md ops n = true) {j : Nat} (hj : j < ops.size) (hn : n ≤ j) (k : Nat) (hk : k < n) : k ∈ sweep md ops n (waits md ops j) := by
  have := List.all_eq_true.1 h j (List.mem_range.2 hj)
  simp only [Bool.or_eq_true, decide_eq_true_eq] at this
  rcases this with h' | h'
  · omega
  have := List.all_eq_true.1 h' k (List.mem_range.2 hk)
  simpa using this
theorem mem_waits {ops : Array Oper} {j k : Nat} : k ∈ waits md ops j ↔ ∃ o, ops[j]? = some o ∧ ∃ e ∈ o.after, Region.binds md e = true ∧ e.on = k := by
  unfold waits
  cases h : ops[j]? with
  | none => simp
  | some o => simp [and_assoc]
theorem sweep_sub {ops : Array Oper} {n : Nat} {p : Nat → Prop} (hc : ∀ j, j < n → p j → ∀ k ∈ waits md ops j, k < n → p k) : ∀ (f : Nat) (s : List Nat), f ≤ n → (∀ k ∈ s, k < n → p k) → ∀ k ∈ sweep md ops f s, k < n → p k
  | 0, s, _, hs => hs
  | f + 1, s, hf, hs => by
    intro k hk hkn
    refine sweep_sub hc f _ (by omega) (fun k' hk' hk2 => ?_) k hk hkn
    split at hk'
    · rename_i hcon
      rcases List.mem_append.1 hk' with h' | h'
      · exact hc f (by omega) (hs f (by simpa using hcon) (by omega)) k' h' hk2
      · exact hs k' h' hk2
    · exact hs k' hk' hk2
/-- Nothing may come up: all have. -/
theorem all_listed {ops : Array Oper} (h : early ops = true) {l : Array Bool} (hl : l.size = ops.size) (hr : Region.ready md ops l = []) : ∀ k, k < ops.size → l[k]? = some true := by
  intro k
  induction k using Nat.strongRecOn with
  | _ k ih =>
    intro hk
    rcases hb : l[k]? with _ | b
    · rw [Array.getElem?_eq_none_iff] at hb; omega
    cases b
    · exfalso
      have hm : k ∈ Region.ready md ops l := by
        rw [mem_ready]
        refine ⟨by simp [Array.getD_eq_getD_getElem?, hb], ops[k], Array.getElem?_eq_getElem hk, fun e he _ => ?_⟩
        have := (early_spec h (Array.getElem?_eq_getElem hk)).1 e he
        simp [Array.getD_eq_getD_getElem?, ih e.on this (by omega)]
      rw [hr] at hm
      cases hm
    · rfl
/-- What is to be shown behind the first phase. -/
def Then (P : Program) (md : Region.Mode) (ops : Array Oper) (n m : Nat) (Q : Exit → Act → World → Prop) : Exit → Act → World → Prop
  | .normal, a, w => wpAny P md ops Q m (Array.replicate n true ++ Array.replicate (ops.size - n) false) a w
  | _, _, _ => False
theorem Then.no {ops : Array Oper} {n m : Nat} (e : Exit) (he : e ≠ .normal) (a : Act) (w : World) (h : Then P md ops n m Q e a w) : False := by
  cases e <;> first | exact he rfl | exact h
theorem op_then {o : Oper} {a : Act} {w : World} {K K' : Act → World → Prop} {ops : Array Oper} {n m : Nat} (h : ∀ a w, K a w → K' a w) (hh : o.wp P a w K (Then P md ops n m Q)) : o.wp P a w K' Q := by
  unfold Oper.wp at *
  generalize (execOp a.eval o).run P w = r at *
  cases r with
  | ok x w' =>
    cases x with
    | value v => exact h _ _ hh
    | skip => exact h _ _ hh
    | defer d => exact h _ _ hh
    | enter f args =>
      refine Calls.mono hh fun e w'' he => ?_
      cases e with
      | returned v => exact h _ _ he
      | panicked c => exact (Then.no _ (by simp) _ _ he).elim
      | outgrown => obtain ⟨a', w', h'⟩ := he; exact (Then.no _ (by simp) _ _ h').elim
    | row row args => exact Rows.mono hh fun _ _ he => h _ _ he
    | _ => exact (hh : False).elim
  | halt x w' =>
    cases x with
    | panic v => exact (show False from hh).elim
    | _ => exact (hh : False).elim
theorem phase {ops₁ ops₂ : Array Oper} (he : early ops₁ = true) (hl : late md (ops₁ ++ ops₂) ops₁.size = true) (m : Nat) :
    ∀ (fuel : Nat) (l1 L : Array Bool) (a : Act) (w : World), l1.size = ops₁.size → L.size = (ops₁ ++ ops₂).size → (∀ k, k < ops₁.size → l1[k]? = L[k]?) → (∀ k, ops₁.size ≤ k → k < (ops₁ ++ ops₂).size → L[k]? = some false) → (∀ j, j < ops₁.size → l1[j]? = some true → ∀ k ∈ waits md ops₁ j, k < ops₁.size → l1[k]? = some true) →
      wpAny P md ops₁ (Then P md (ops₁ ++ ops₂) ops₁.size m Q) fuel l1 a w → wpAny P md (ops₁ ++ ops₂) Q (fuel + m) L a w := by
  have full : ∀ (l1 L : Array Bool), l1.size = ops₁.size → L.size = (ops₁ ++ ops₂).size → (∀ k, k < ops₁.size → l1[k]? = L[k]?) → (∀ k, ops₁.size ≤ k → k < (ops₁ ++ ops₂).size → L[k]? = some false) → Region.ready md ops₁ l1 = [] →
      L = Array.replicate ops₁.size true ++ Array.replicate ((ops₁ ++ ops₂).size - ops₁.size) false := fun l1 L h1 h2 h3 h4 hr => by
    have hall := all_listed he h1 hr
    have hsz : (ops₁ ++ ops₂).size = ops₁.size + ops₂.size := Array.size_append ..
    apply Array.ext_getElem?
    intro k
    rcases Nat.lt_or_ge k ops₁.size with hk | hk
    · rw [← h3 k hk, hall k hk, Array.getElem?_append_left (by simpa using hk), Array.getElem?_replicate, if_pos hk]
    · rw [Array.getElem?_append_right (by simpa using hk), Array.getElem?_replicate]
      rcases Nat.lt_or_ge k (ops₁ ++ ops₂).size with hk2 | hk2
      · rw [h4 k hk hk2, if_pos (by rw [Array.size_replicate]; omega)]
      · rw [Array.getElem?_eq_none (by omega), if_neg (by rw [Array.size_replicate]; omega)]
  intro fuel
  induction fuel with
  | zero =>
    intro l1 L a w h1 h2 h3 h4 hcl h
    rw [full l1 L h1 h2 h3 h4 h.1, Nat.zero_add]
    exact h.2
  | succ fuel ih =>
    intro l1 L a w h1 h2 h3 h4 hcl h
    by_cases hr : Region.ready md ops₁ l1 = []
    · rw [full l1 L h1 h2 h3 h4 hr]
      exact wpAny_add m _ a w (h.1 hr) _
    have hsz : (ops₁ ++ ops₂).size = ops₁.size + ops₂.size := Array.size_append ..
    obtain ⟨i0, hi0⟩ := List.exists_mem_of_ne_nil _ hr
    have up : ∀ i, i ∈ Region.ready md ops₁ l1 → i ∈ Region.ready md (ops₁ ++ ops₂) L := fun i hi => by
      obtain ⟨h0, o, ho, hall⟩ := mem_ready.1 hi
      have hlt : i < ops₁.size := by
        rcases Nat.lt_or_ge i ops₁.size with h' | h'
        · exact h'
        · rw [Array.getElem?_eq_none h'] at ho; cases ho
      refine mem_ready.2 ⟨by rw [Array.getD_eq_getD_getElem?, ← h3 i hlt, ← Array.getD_eq_getD_getElem?]; exact h0, o, by rw [Array.getElem?_append_left hlt]; exact ho, fun e hee hb => ?_⟩
      have := (early_spec he ho).1 e hee
      rw [Array.getD_eq_getD_getElem?, ← h3 e.on (by omega), ← Array.getD_eq_getD_getElem?]
      exact hall e hee hb
    have down : ∀ i, i ∈ Region.ready md (ops₁ ++ ops₂) L → i < ops₁.size ∧ i ∈ Region.ready md ops₁ l1 := fun i hi => by
      obtain ⟨h0, o, ho, hall⟩ := mem_ready.1 hi
      have hlt : i < ops₁.size := by
        rcases Nat.lt_or_ge i ops₁.size with h' | h'
        · exact h'
        · exfalso
          obtain ⟨g0, o', ho', _⟩ := mem_ready.1 hi0
          have hlt0 : i0 < ops₁.size := by
            rcases Nat.lt_or_ge i0 ops₁.size with h'' | h''
            · exact h''
            · rw [Array.getElem?_eq_none h''] at ho'; cases ho'
          have hlt2 : i < (ops₁ ++ ops₂).size := by
            rcases Nat.lt_or_ge i (ops₁ ++ ops₂).size with h'' | h''
            · exact h''
            · rw [Array.getElem?_eq_none h''] at ho; cases ho
          have hsame : ∀ j, j < ops₁.size → waits md (ops₁ ++ ops₂) j = waits md ops₁ j := fun j hj => by unfold waits; rw [Array.getElem?_append_left hj]
          have h5 : l1[i0]? = some true := by
            refine sweep_sub (n := ops₁.size) (p := fun k => l1[k]? = some true) (fun j hj hp k hk hkn => hcl j hj hp k (by rw [← hsame j hj]; exact hk) hkn) _ _ (Nat.le_refl _) (fun k hk hkn => ?_) i0 (late_spec hl hlt2 h' i0 hlt0) hlt0
            obtain ⟨o2, ho2, e, hee, hb, hon⟩ := mem_waits.1 hk
            rw [ho] at ho2
            cases ho2
            have h6 := hall e hee hb
            rw [hon, Array.getD_eq_getD_getElem?, ← h3 k hkn] at h6
            cases hx : l1[k]? with
            | none => rw [hx] at h6; cases h6
            | some b => rw [hx] at h6; simp at h6; rw [h6]
          rw [Array.getD_eq_getD_getElem?, h5] at g0
          cases g0
      rw [Array.getElem?_append_left hlt] at ho
      refine ⟨hlt, mem_ready.2 ⟨by rw [Array.getD_eq_getD_getElem?, h3 i hlt, ← Array.getD_eq_getD_getElem?]; exact h0, o, ho, fun e hee hb => ?_⟩⟩
      have := (early_spec he ho).1 e hee
      rw [Array.getD_eq_getD_getElem?, h3 e.on (by omega), ← Array.getD_eq_getD_getElem?]
      exact hall e hee hb
    rw [show fuel + 1 + m = (fuel + m) + 1 by omega]
    refine ⟨fun h0 => (by have := up i0 hi0; rw [h0] at this; cases this), fun i hi => ?_⟩
    obtain ⟨hlt, hi1⟩ := down i hi
    have hop := h.2 i hi1
    obtain ⟨_, o, ho, _⟩ := mem_ready.1 hi1
    have ho2 : (ops₁ ++ ops₂)[i]? = some o := by rw [Array.getElem?_append_left hlt]; exact ho
    have hK : ∀ a' w', wpAny P md ops₁ (Then P md (ops₁ ++ ops₂) ops₁.size m Q) fuel (l1.setIfInBounds i true) a' w' → wpAny P md (ops₁ ++ ops₂) Q (fuel + m) (L.setIfInBounds i true) a' w' := fun a' w' h' => by
      refine ih _ _ a' w' (by simpa using h1) (by simpa using h2) (fun k hk => ?_) (fun k hk hk2 => ?_) (fun j hj hjl k hk hkn => ?_) h'
      · rw [Array.getElem?_setIfInBounds, Array.getElem?_setIfInBounds, h3 k hk, h1, h2]
        by_cases hik : i = k
        · subst hik
          rw [if_pos rfl, if_pos rfl, if_pos hlt, if_pos (by omega)]
        · rw [if_neg hik, if_neg hik]
      · rw [Array.getElem?_setIfInBounds, if_neg (by omega)]
        exact h4 k hk hk2
      · rw [Array.getElem?_setIfInBounds]
        have hkl : l1[k]? = some true := by
          by_cases hij : i = j
          · subst hij
            obtain ⟨_, o3, ho3, hall3⟩ := mem_ready.1 hi1
            obtain ⟨o4, ho4, e, hee, hb, hon⟩ := mem_waits.1 hk
            rw [ho3] at ho4
            cases ho4
            have h6 := hall3 e hee hb
            rw [hon, Array.getD_eq_getD_getElem?] at h6
            cases hx : l1[k]? with
            | none => rw [hx] at h6; cases h6
            | some b => rw [hx] at h6; simp at h6; rw [h6]
          · rw [Array.getElem?_setIfInBounds, if_neg hij] at hjl
            exact hcl j hj hjl k hk hkn
        split
        · rename_i hik
          rw [if_pos (by omega)]
        · exact hkl
    have hw : Region.wanted o (yielded (ops₁ ++ ops₂) a.tmps) = Region.wanted o (yielded ops₁ a.tmps) := by
      unfold Region.wanted
      cases hg : o.guard with
      | none => rfl
      | some gb =>
        obtain ⟨g, b⟩ := gb
        have := (early_spec he ho).2 g b hg
        simp only [yielded, Array.getElem?_append_left this]
    unfold wpOp at hop ⊢
    rw [ho] at hop
    rw [ho2]
    simp only [hw] at hop ⊢
    split
    · rename_i hwt
      rw [if_pos hwt] at hop
      rcases hop with hop | ⟨_, a', w', h'⟩
      · exact .inl (op_then hK hop)
      · exact (Then.no _ (by simp) _ _ h').elim
    · rename_i hwt
      rw [if_neg hwt] at hop
      exact hK _ _ hop
/-- The beginning: the first phase under a condition, the second one behind it. -/
theorem region_phases {ops ops₁ : Array Oper} {S : World → Prop} {id : Nat} {a : Act} {w : World} (n m : Nat) (hm : P.follows .mixedOrders = true) (hops : (ops.toList.take n).toArray = ops₁) (hn : ops₁.size = n) (hsz : ops.size = n + m) (he : early ops₁ = true) (hl : late .any ops n = true)
    (h : wpAnyH P .any ops₁ (Then P .any ops n m Q) S n (Array.replicate n false) a w.drew) : (Code.region id ops true).wp P Q a w := by
  obtain ⟨ops₂, hop2⟩ : ∃ ops₂, (ops.toList.drop n).toArray = ops₂ := ⟨_, rfl⟩
  have heq : ops = ops₁ ++ ops₂ := by
    apply Array.toList_inj.1
    rw [Array.toList_append, ← hops, ← hop2]
    simp
  subst heq
  have hs2 : (ops₁ ++ ops₂).size = ops₁.size + ops₂.size := Array.size_append ..
  have hm2 : m = ops₂.size := by omega
  clear hops hop2
  subst hn
  subst hm2
  refine wp_region_any hm ?_
  have := phase he hl ops₂.size ops₁.size (Array.replicate ops₁.size false) (Array.replicate (ops₁ ++ ops₂).size false) a w.drew (by simp) (by simp) (fun k hk => ?_) (fun k hk hk2 => ?_) (fun j hj hjl => by rw [Array.getElem?_replicate, if_pos hj] at hjl; cases hjl) (wpAny_of_held _ _ _ _ h)
  · rw [hs2] at this ⊢
    exact this
  · rw [Array.getElem?_replicate, Array.getElem?_replicate, if_pos hk, if_pos (by omega)]
  · rw [Array.getElem?_replicate, if_pos hk2]
/-- Into the second phase. -/
theorem Then.go {ops : Array Oper} {n m : Nat} {a : Act} {w : World} (h : wpAnyH P md ops Q (fun _ => True) m (Array.replicate n true ++ Array.replicate (ops.size - n) false) a w) : Then P md ops n m Q .normal a w := wpAny_of_held _ _ _ _ h
end
end Go.Proofs.Ytamajbaojbghcaa.Ph
