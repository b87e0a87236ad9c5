/- GraphQL types, plain: a name or a list, each with a mark; how a type in memory reads. -/
import Derived.Test.YtamajbaojbghcaaK
import Derived.Test.YtamajbaojbghcaaOPT
import Derived.Test.YtamajbaojbghcaaPTx2
import Derived.Lib.Hide
import Derived.WalkSpells
import Derived.WalkLawsBesides
import Derived.StillTailTactics
import Derived.Deep.QuietTactic
import Derived.BigQuiet
import Derived.Deep.RegionHeld3
import Derived.Deep.RegionWith
namespace Go.Proofs.Ytamajbaojbghcaa.Ty
open Go.RowKit Go.Proofs.YtamajbaojbghcaaW.PrintWords Go.Proofs.YtamajbaojbghcaaW.PrintLast Go.Proofs.YtamajbaojbghcaaW.PrintMore Go.Proofs.Ytamajbaojbghcaa.PT Go.Proofs.Ytamajbaojbghcaa.K
set_option linter.unusedVariables false
set_option linter.unusedSimpArgs false
abbrev TV := S24
/-- A type. -/
inductive Ty where
  | named (s : ByteArray) (b : Bool)
  | list (e : Ty) (b : Bool)
def toT : Nat → TV → Ty
  | 0, t => .named t.f0 t.f2
  | n + 1, t => match t.f1 with
    | [] => .named t.f0 t.f2
    | e :: _ => .list (toT n e) t.f2
/-- As FitsTyp says: at most so deep. -/
inductive Ft : Nat → TV → Prop
  | name (n : Nat) (t : TV) : t.f1 = [] → t.f0 ≠ ByteArray.empty → Ft n t
  | list (n : Nat) (t e : TV) : t.f1 = [e] → t.f0 = ByteArray.empty → Ft n e → Ft (n + 1) t
theorem toT_name {n : Nat} {t : TV} (h : t.f1 = []) : toT n t = .named t.f0 t.f2 := by
  cases n <;> simp [toT, h]
theorem toT_list {n : Nat} {t e : TV} (h : t.f1 = [e]) : toT (n + 1) t = .list (toT n e) t.f2 := by simp [toT, h]
/-- Names are not empty. -/
def Good : Ty → Prop
  | .named s _ => s ≠ ByteArray.empty
  | .list e _ => Good e
theorem Ft.good : ∀ {n : Nat} {t : TV}, Ft n t → Good (toT n t) := by
  intro n t h
  induction h with
  | name n t h1 h2 => rw [toT_name h1]; exact h2
  | list n t e h1 h2 h3 ih => rw [toT_list h1]; exact ih
/-- AreTypesCompatible, as the code has it. -/
noncomputable def compat : Ty → Ty → Bool
  | .named s b, .named s' b' => (s.toList == s'.toList) && (!b' || b)
  | .list e b, .list e' b' => compat e e' && (!b' || b)
  | _, _ => false
theorem compat_refl : ∀ t, compat t t = true
  | .named s b => by cases b <;> simp [compat]
  | .list e b => by cases b <;> simp [compat, compat_refl e]
theorem compat_trans : ∀ t u v, compat t u = true → compat u v = true → compat t v = true
  | .named s b, .named s' b', .named s'' b'', h1, h2 => by
    simp only [compat, Bool.and_eq_true, beq_iff_eq] at *
    obtain ⟨e1, h1⟩ := h1
    obtain ⟨e2, h2⟩ := h2
    refine ⟨e1.trans e2, ?_⟩
    cases b <;> cases b' <;> cases b'' <;> simp_all
  | .list e b, .list e' b', .list e'' b'', h1, h2 => by
    simp only [compat, Bool.and_eq_true] at *
    refine ⟨compat_trans e e' e'' h1.1 h2.1, ?_⟩
    cases b <;> cases b' <;> cases b'' <;> simp_all
  | .named _ _, .list _ _, _, h1, _ => by cases h1
  | .list _ _, .named _ _, _, h1, _ => by cases h1
  | .named _ _, .named _ _, .list _ _, _, h2 => by cases h2
  | .list _ _, .list _ _, .named _ _, _, h2 => by cases h2
/-- A type in memory, all of it behind some block. -/
def TyAt (w : World) (base : Nat) : Ty → Value → Prop
  | .named s b, p => ∃ g P, p = .pointer (some ⟨g, 0, none⟩) ∧ base ≤ g ∧ w.heap[g]? = some (.cells #[.string s, .pointer none, .bool b, P] 117 (0, 0))
  | .list e b, p => ∃ g P q, p = .pointer (some ⟨g, 0, none⟩) ∧ base ≤ g ∧ w.heap[g]? = some (.cells #[.string ByteArray.empty, q, .bool b, P] 117 (0, 0)) ∧ TyAt w base e q
abbrev wfT : TV → Prop := Op.wf_k24
theorem _root_.Go.Proofs.Ytamajbaojbghcaa.Op.wf_k24.name {t : TV} (h : Op.wf_k24 t) : t.f0.size ≤ 140737488351232 := by
  cases h with | mk _ h0 _ _ _ => exact h0
theorem _root_.Go.Proofs.Ytamajbaojbghcaa.Op.wf_k24.elem {t : TV} (h : Op.wf_k24 t) : ∀ e ∈ t.f1, Op.wf_k24 e := by
  cases h with | mk _ _ _ h2 _ => exact h2
theorem heap_lt {w : World} {g : Nat} {o : Obj} (h : w.heap[g]? = some o) : g < w.heap.size := by
  rcases Nat.lt_or_ge g w.heap.size with h' | h'
  · exact h'
  · rw [Array.getElem?_eq_none h'] at h; cases h
theorem TyAt.keep {w w' : World} {base : Nat} (hk : ∀ k, base ≤ k → k < w.heap.size → w'.heap[k]? = w.heap[k]?) : ∀ {t : Ty} {p : Value}, TyAt w base t p → TyAt w' base t p
  | .named s b, p, ⟨g, P, e, hg, hh⟩ => ⟨g, P, e, hg, (hk g hg (heap_lt hh)).trans hh⟩
  | .list e b, p, ⟨g, P, q, e', hg, hh, ht⟩ => ⟨g, P, q, e', hg, (hk g hg (heap_lt hh)).trans hh, TyAt.keep hk ht⟩
theorem TyAt.below {w w' : World} {base : Nat} {t : Ty} {p : Value} (h : TyAt w base t p) (hb : Below w.heap.size w w') : TyAt w' base t p := h.keep fun k _ hk => hb.block k hk
theorem TyAt.mono {w : World} {b b' : Nat} (hb : b ≤ b') : ∀ {t : Ty} {p : Value}, TyAt w b' t p → TyAt w b t p
  | .named s b, p, ⟨g, P, e, hg, hh⟩ => ⟨g, P, e, by omega, hh⟩
  | .list e b, p, ⟨g, P, q, e', hg, hh, ht⟩ => ⟨g, P, q, e', by omega, hh, TyAt.mono hb ht⟩
/-- The name at the base. -/
def baseN : Ty → ByteArray
  | .named s _ => s
  | .list e _ => baseN e
/-- As a text. -/
def text : Ty → ByteArray
  | .named s b => s ++ (if b then "!".toUTF8 else ByteArray.empty)
  | .list e b => "[".toUTF8 ++ text e ++ "]".toUTF8 ++ (if b then "!".toUTF8 else ByteArray.empty)
end Go.Proofs.Ytamajbaojbghcaa.Ty
