/- The GraphQL lexer, plain: a text as a list of characters (of one byte where it is no UTF-8). -/
import Derived.Test.YtamajbaojbghcaaK
import Derived.Lib.TrimUEq
import Derived.Lib.SpaceUEq
import Derived.Lib.Hide
namespace Go.Proofs.Ytamajbaojbghcaa.Lx
open Go.RowKit Go.Lib Go.Proofs.YtamajbaojbghcaaW.PrintWords Go.Proofs.YtamajbaojbghcaaW.PrintLast Go.Proofs.Ytamajbaojbghcaa.K
set_option linter.unusedVariables false
set_option linter.unusedSimpArgs false
/-- A character: its number, its bytes. -/
structure Ch where
  r : Nat
  b : List UInt8
theorem decN_le_n (n b0 b1 b2 b3 : Nat) (hn : 1 ≤ n) : (decodeN n b0 b1 b2 b3).2 ≤ n := by
  unfold decodeN
  repeat' split
  all_goals simp only
  all_goals omega
theorem dec_pos (l : List UInt8) : 1 ≤ (decodeL l).2 := by rw [decodeL_N]; exact decodeN_ge1 _ _ _ _ _
theorem dec_le (l : List UInt8) (h : l ≠ []) : (decodeL l).2 ≤ l.length := by
  rw [decodeL_N]
  exact decN_le_n _ _ _ _ _ (by cases l with | nil => exact absurd rfl h | cons a t => simp)
theorem dec_ascii (a : UInt8) (l : List UInt8) (h : a.toNat < 128) : decodeL (a :: l) = (a.toNat, 1) := by
  rw [decodeL_N, decodeN_ascii _ _ _ _ _ (by simpa [List.getD] using h)]
  simp [List.getD]
theorem dec_high (a : UInt8) (l : List UInt8) (h : ¬ a.toNat < 128) : 128 ≤ (decodeL (a :: l)).1 := by
  rw [decodeL_N]
  rcases decodeN_cases (a :: l).length ((a :: l).getD 0 0).toNat ((a :: l).getD 1 0).toNat ((a :: l).getD 2 0).toNat ((a :: l).getD 3 0).toNat with ⟨c, e⟩ | ⟨c1, c2, c3, cv, e⟩ | ⟨c1, c2, c3, c4, cv, e⟩ | ⟨c, e⟩ | e
  · exact absurd c (by simpa [List.getD] using h)
  · rw [e]; exact cv
  · rw [e]; simp only; omega
  · omega
  · rw [e]; decide
def chF : Nat → List UInt8 → List Ch
  | 0, _ => []
  | _ + 1, [] => []
  | f + 1, a :: l => ⟨(decodeL (a :: l)).1, (a :: l).take (decodeL (a :: l)).2⟩ :: chF f ((a :: l).drop (decodeL (a :: l)).2)
/-- The characters of a text. -/
def chs (l : List UInt8) : List Ch := chF l.length l
theorem chF_more : ∀ (f : Nat) (l : List UInt8), l.length ≤ f → chF f l = chs l := by
  intro f
  induction f using Nat.strongRecOn with
  | ind f ih =>
    intro l hl
    cases l with
    | nil => cases f <;> rfl
    | cons a l =>
      cases f with
      | zero => simp at hl
      | succ f =>
        unfold chs
        rw [List.length_cons, chF, chF]
        have h1 := dec_pos (a :: l)
        have h2 : ((a :: l).drop (decodeL (a :: l)).2).length ≤ l.length := by rw [List.length_drop, List.length_cons]; omega
        have hl' : l.length ≤ f := by simpa using hl
        rw [ih f (by omega) _ (by omega)]
        by_cases e : f = l.length
        · rw [← e, ih f (by omega) _ (by omega)]
        · rw [ih l.length (by omega) _ h2]
theorem chs_nil : chs [] = [] := rfl
theorem chs_cons (a : UInt8) (l : List UInt8) : chs (a :: l) = ⟨(decodeL (a :: l)).1, (a :: l).take (decodeL (a :: l)).2⟩ :: chs ((a :: l).drop (decodeL (a :: l)).2) := by
  have h1 := dec_pos (a :: l)
  have : chs (a :: l) = chF (l.length + 1) (a :: l) := rfl
  rw [this, chF, chF_more _ _ (by rw [List.length_drop, List.length_cons]; omega)]
theorem chs_ascii (a : UInt8) (l : List UInt8) (h : a.toNat < 128) : chs (a :: l) = ⟨a.toNat, [a]⟩ :: chs l := by
  rw [chs_cons, dec_ascii a l h]; rfl
/-- From a place on a text is those characters. -/
structure Al (s : ByteArray) (e : Nat) (l : List Ch) : Prop where
  le : e ≤ s.size
  eq : chs ((bs s).drop e) = l
theorem Al.start (s : ByteArray) : Al s 0 (chs (bs s)) := ⟨Nat.zero_le _, rfl⟩
theorem Al.nil {s : ByteArray} {e : Nat} (h : Al s e []) : e = s.size := by
  have hl := bs_len s
  have h1 := h.le
  by_cases hlt : e < s.size
  · have := h.eq
    rw [List.drop_eq_getElem_cons (by omega : e < (bs s).length), chs_cons] at this
    cases this
  · omega
theorem Al.lt {s : ByteArray} {e : Nat} {c : Ch} {t : List Ch} (h : Al s e (c :: t)) : e < s.size := by
  have hl := bs_len s
  have h1 := h.le
  by_cases hlt : e < s.size
  · exact hlt
  · have := h.eq
    rw [List.drop_of_length_le (by omega)] at this
    cases this
/-- A character's bytes stand there; the rest stands behind them. -/
theorem Al.next {s : ByteArray} {e : Nat} {c : Ch} {t : List Ch} (h : Al s e (c :: t)) : Al s (e + c.b.length) t ∧ 1 ≤ c.b.length ∧ bs (s.extract e (e + c.b.length)) = c.b ∧ Utf8.decode s e = (c.r, c.b.length) := by
  have hl := bs_len s
  have hlt := h.lt
  have he := h.eq
  have hd : decodeL ((bs s).drop e) = Utf8.decode s e := decodeL_drop s e
  rw [List.drop_eq_getElem_cons (by omega : e < (bs s).length), chs_cons, ← List.drop_eq_getElem_cons (by omega : e < (bs s).length)] at he
  injection he with h1 h2
  have hp := dec_pos ((bs s).drop e)
  have hle := dec_le ((bs s).drop e) (by intro h0; have := congrArg List.length h0; rw [List.length_drop] at this; simp at this; omega)
  rw [List.length_drop] at hle
  have hb : c.b.length = (decodeL ((bs s).drop e)).2 := by
    rw [← h1]; simp only [List.length_take, List.length_drop]; omega
  refine ⟨⟨by omega, ?_⟩, by omega, ?_, ?_⟩
  · rw [hb, ← h2, List.drop_drop]
  · rw [bs_extract, List.drop_take, hb, show e + (decodeL ((bs s).drop e)).2 - e = (decodeL ((bs s).drop e)).2 by omega, ← h1]
  · rw [← hd, hb, ← h1]
theorem Al.byte {s : ByteArray} {e : Nat} {c : Ch} {t : List Ch} (h : Al s e (c :: t)) : ∃ x : UInt8, (bs s)[e]? = some x ∧ ((x.toNat < 128 ∧ c.r = x.toNat ∧ c.b = [x] ∧ Al s (e + 1) t) ∨ (¬ x.toNat < 128 ∧ 128 ≤ c.r)) := by
  have hl := bs_len s
  have hlt := h.lt
  have he := h.eq
  have hlt' : e < (bs s).length := by omega
  refine ⟨(bs s)[e], List.getElem?_eq_getElem hlt', ?_⟩
  rw [List.drop_eq_getElem_cons hlt'] at he
  by_cases hx : ((bs s)[e]).toNat < 128
  · left
    rw [chs_ascii _ _ hx] at he
    injection he with h1 h2
    exact ⟨hx, by rw [← h1], by rw [← h1], by omega, h2⟩
  · right
    rw [chs_cons] at he
    injection he with h1 h2
    exact ⟨hx, by rw [← h1]; exact dec_high _ _ hx⟩
/-- The bytes of characters. -/
def flat (l : List Ch) : List UInt8 := (l.map Ch.b).flatten
theorem Al.drop {s : ByteArray} : ∀ (k : Nat) {e : Nat} {l : List Ch}, Al s e l → k ≤ l.length → ∃ e', Al s e' (l.drop k) ∧ e + k ≤ e' ∧ bs (s.extract e e') = flat (l.take k) := by
  intro k
  induction k with
  | zero =>
    intro e l h hk
    refine ⟨e, h, Nat.le_refl _, ?_⟩
    rw [bs_extract, List.drop_of_length_le (by rw [List.length_take]; omega)]; rfl
  | succ k ih =>
    intro e l h hk
    cases l with
    | nil => simp at hk
    | cons c t =>
      obtain ⟨h1, h2, h3, _⟩ := h.next
      obtain ⟨e', h4, h5, h6⟩ := ih h1 (by simpa using hk)
      refine ⟨e', h4, by omega, ?_⟩
      rw [List.take_succ_cons]
      unfold flat at h6 ⊢
      rw [List.map_cons, List.flatten_cons, ← h6]
      rw [bs_extract] at h3
      simp only [bs_extract]
      have e1 : ((bs s).take e').drop e = ((bs s).take (e + c.b.length)).drop e ++ ((bs s).take e').drop (e + c.b.length) := by
        have := h4.le
        have hl := bs_len s
        apply List.ext_getElem?
        intro j
        by_cases hj : j < c.b.length
        · rw [List.getElem?_append_left (by rw [List.length_drop, List.length_take]; omega)]
          simp only [List.getElem?_drop, List.getElem?_take]
          rw [if_pos (by omega), if_pos (by omega)]
        · rw [List.getElem?_append_right (by rw [List.length_drop, List.length_take]; omega)]
          simp only [List.getElem?_drop, List.getElem?_take, List.length_drop, List.length_take]
          have : e + c.b.length + (j - (min (e + c.b.length) (bs s).length - e)) = e + j := by omega
          rw [this]
      rw [e1, h3]
/-- A place is told by what follows it. -/
theorem Al.length_le {s : ByteArray} {e : Nat} {l : List Ch} (h : Al s e l) : e + l.length ≤ s.size := by
  obtain ⟨e', h1, h2, _⟩ := h.drop l.length (Nat.le_refl _)
  have := h1.le
  omega
end Go.Proofs.Ytamajbaojbghcaa.Lx
