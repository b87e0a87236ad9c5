/- FnJCycle, the plain part: the scopes' answer and the specification's are one recursion. -/
import Derived.Test.YtabadjidlfpngaaCycle1
namespace Go.Proofs.Ytabadjidlfpngaa.Cyc
open Go.RowKit Go.Proofs.YtabadjidlfpngaaW.PrintWords Go.Proofs.YtabadjidlfpngaaW.PrintLast Go.Proofs.YtabadjidlfpngaaW.PrintMore Go.Proofs.Ytabadjidlfpngaa.K
set_option linter.unusedVariables false
set_option linter.unusedSimpArgs false

/-- How many steps lie between: the steps ahead, the last one first. -/
def cy (i0 v0 : Int) : List (Int × Int) → Nat → Int
  | [], _ => -1
  | p :: t, n => if p.2 = v0 then (if p.1 = i0 then n else cy i0 v0 t (n + 1)) else -1
theorem fnd_len (s : Addr) (v : Int) (m : List Sc) : (fnd s v m).length ≤ m.length := (fnd_suffix s v m).length_le
/-- A scope stands for a step. -/
def Rep (f : Int → Int) (x : Sc) (p : Int × Int) : Prop := (∃ b : Nat, x.s = ⟨b, 0, none⟩ ∧ f p.1 = b + 1) ∧ x.v = p.2
theorem rep_iff {f : Int → Int} (hi : ∀ k k' : Int, f k = f k' → f k ≠ 0 → k = k') {x y : Sc} {p q : Int × Int} (hx : Rep f x p) (hy : Rep f y q) : (y.s = x.s ↔ q.1 = p.1) ∧ (y.v = x.v ↔ q.2 = p.2) := by
  obtain ⟨⟨b, e1, e2⟩, e3⟩ := hx
  obtain ⟨⟨c, d1, d2⟩, d3⟩ := hy
  rw [e1, d1, e3, d3]
  refine ⟨⟨fun h => ?_, fun h => ?_⟩, Iff.rfl⟩
  · simp at h
    exact hi _ _ (by rw [d2, e2, h]) (by omega)
  · rw [h, e2] at d2
    have : b = c := by omega
    rw [this]
/-- Lists that stand for each other. -/
def Reps (f : Int → Int) : List Sc → List (Int × Int) → Prop
  | [], [] => True
  | x :: m, p :: l => Rep f x p ∧ Reps f m l
  | _, _ => False
theorem ans_cy {f : Int → Int} (hi : ∀ k k' : Int, f k = f k' → f k ≠ 0 → k = k') {x : Sc} {p : Int × Int} (hx : Rep f x p) : ∀ (m : List Sc) (l : List (Int × Int)) (n : Nat), Reps f m l →
    (if fnd x.s x.v m = [] then (-1 : Int) else ((n + (m.length - (fnd x.s x.v m).length) : Nat) : Int)) = cy p.1 p.2 l n
  | [], [], n, _ => by simp [fnd, cy]
  | [], _ :: _, _, h => h.elim
  | _ :: _, [], _, h => h.elim
  | y :: m, q :: l, n, ⟨hy, h⟩ => by
    obtain ⟨e1, e2⟩ := rep_iff hi hx hy
    have ih := ans_cy hi hx m l (n + 1) h
    have hl := fnd_len x.s x.v m
    unfold fnd cy
    by_cases hv : y.v = x.v
    · rw [if_pos hv, if_pos (e2.1 hv)]
      by_cases hs : y.s = x.s
      · rw [if_pos hs, if_pos (e1.1 hs)]; simp
      · rw [if_neg hs, if_neg (fun k => hs (e1.2 k)), ← ih]
        split
        · rfl
        · congr 1; simp only [List.length_cons]; omega
    · rw [if_neg hv, if_neg (fun k => hv (e2.2 k))]; simp
theorem reps_of {f : Int → Int} : ∀ (A : List Sc) (B : List (Int × Int)), A.length = B.length → (∀ j, (h : j < A.length) → (h' : j < B.length) → Rep f A[j] B[j]) → Reps f A B
  | [], [], _, _ => trivial
  | [], _ :: _, h, _ => by simp at h
  | _ :: _, [], h, _ => by simp at h
  | x :: A, p :: B, h, hr => ⟨hr 0 (by simp) (by simp), reps_of A B (by simpa using h) fun j h1 h2 => hr (j + 1) (by simpa using h1) (by simpa using h2)⟩
theorem good_reps {ids vs : List Int} {x : Sc} {m : List Sc} (h : Good ids vs x m) (hlen : vs.length = ids.length) : ∃ f : Int → Int, (∀ k k' : Int, f k = f k' → f k ≠ 0 → k = k') ∧ Reps f (x :: m) (ids.zip vs).reverse := by
  obtain ⟨f, ss, hout, hl, hp, hi⟩ := h
  refine ⟨f, hi, ?_⟩
  have hrev : (x :: m).map (fun y => (y.s, y.v)) = (ss.zip vs).reverse := by
    rw [← hout]; simp [outer]
  have hlm : (x :: m).length = ids.length := by
    have := congrArg List.length hrev
    simp [hl, hlen] at this ⊢
    omega
  refine reps_of _ _ (by rw [hlm]; simp [hlen]) fun j h1 h2 => ?_
  have e := congrArg (fun l => l[j]?) hrev
  simp only [List.getElem?_map, List.getElem?_eq_getElem h1, Option.map_some] at e
  have h3 : j < (ss.zip vs).reverse.length := by simp [hl, hlen]; omega
  rw [List.getElem?_eq_getElem h3, Option.some.injEq, List.getElem_reverse, List.getElem_zip] at e
  simp only [Prod.mk.injEq] at e
  rw [List.getElem_reverse, List.getElem_zip]
  have hz1 : (ss.zip vs).length = ids.length := by simp [hl, hlen]
  have hz2 : (ids.zip vs).length = ids.length := by simp [hlen]
  have hj : (ids.zip vs).length - 1 - j < ids.length := by omega
  obtain ⟨b, q1, q2⟩ := hp ((ids.zip vs).length - 1 - j) (by omega) hj
  refine ⟨⟨b, ?_, q2⟩, ?_⟩
  · rw [e.1, ← q1]; congr 1; omega
  · rw [e.2]; congr 1; omega
theorem good_ans {ids vs : List Int} {x : Sc} {m : List Sc} (h : Good ids vs x m) (hlen : vs.length = ids.length) : ∃ p l, (ids.zip vs).reverse = p :: l ∧ ans (fnd x.s x.v m) m = cy p.1 p.2 l 0 := by
  obtain ⟨f, hi, hr⟩ := good_reps h hlen
  generalize (ids.zip vs).reverse = L at hr
  cases L with
  | nil => exact hr.elim
  | cons p l =>
    refine ⟨p, l, rfl, ?_⟩
    have := ans_cy hi hr.1 m l 0 hr.2
    rw [← this]
    unfold ans
    simp
end Go.Proofs.Ytabadjidlfpngaa.Cyc
