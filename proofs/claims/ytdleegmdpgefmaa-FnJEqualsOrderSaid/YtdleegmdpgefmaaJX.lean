/- jsonschema.equals: whether two values are equal. -/
import Derived.Test.YtdleegmdpgefmaaJA
import Derived.Maps.RangeWalk
import Derived.Deep.RegionHeld3
namespace Go.Proofs.Ytdleegmdpgefmaa.J
open Go.RowKit Go.Proofs.YtdleegmdpgefmaaW.PrintWords Go.Proofs.YtdleegmdpgefmaaW.PrintLast Go.Proofs.YtdleegmdpgefmaaW.PrintMore Go.Proofs.Ytdleegmdpgefmaa.PJ Go.Proofs.Ytdleegmdpgefmaa.K Go.Maps
set_option linter.unusedVariables false
set_option linter.unusedSimpArgs false

/-- No number is in it. -/
inductive NoNum : D0 → Prop
  | nil : NoNum .nil
  | bool (b : Bool) : NoNum (.lit (.bool b))
  | str (s : List UInt8) : NoNum (.lit (.string s))
  | slice (l sp : List D0) : (∀ e ∈ l, NoNum e) → NoNum (.slice l sp)
  | map (es : List (Lit × D0)) : (∀ k, Maps.has (.map es) k = true → NoNum ((DataW.map es).atKey k .nil)) → NoNum (.map es)
/-- Whether two data are one. -/
noncomputable def eqB (a b : D0) : Bool := @decide (a = b) (Classical.propDecidable _)
theorem eqB_true {a b : D0} : eqB a b = true ↔ a = b := by unfold eqB; exact @decide_eq_true_iff (a = b) (Classical.propDecidable _)
theorem eqB_false {a b : D0} : eqB a b = false ↔ a ≠ b := by unfold eqB; exact @decide_eq_false_iff_not (a = b) (Classical.propDecidable _)
def EqP (a b : D0) (w : World) (e : Ending) (w' : World) : Prop := e = .returned (.tuple #[.bool (eqB a b), .nilIface]) ∧ Below w.heap.size w w'
theorem eq_no {a b : D0} {w w' : World} (h : a ≠ b) (hb : Below w.heap.size w w') : EqP a b w (.returned (.tuple #[.bool false, .nilIface])) w' := ⟨by rw [eqB_false.2 h], hb⟩
theorem eq_yes {a b : D0} {w w' : World} (h : a = b) (hb : Below w.heap.size w w') : EqP a b w (.returned (.tuple #[.bool true, .nilIface])) w' := ⟨by rw [eqB_true.2 h], hb⟩
theorem eq_at {a b : D0} {w w' : World} {t : Bool} (h : t = true ↔ a = b) (hb : Below w.heap.size w w') : EqP a b w (.returned (.tuple #[.bool t, .nilIface])) w' := by
  cases t
  · exact eq_no (fun e => by have := h.2 e; cases this) hb
  · exact eq_yes (h.1 rfl) hb
theorem errT : Try.prog.underlying 34 = some (.interface (Try.prog.methodsAt 34)) := by kernel_rfl
theorem neq_err (W : World) : (Go.binOp .neq 34 .nilIface .nilIface).run Try.prog W = .ok (.bool false) W := run_neq_nil_nil _ _ errT
theorem eql_nn (W : World) : (Go.binOp .eql 20 .nilIface .nilIface).run Try.prog W = .ok (.bool true) W := run_eql_nil_nil _ _ ifaceT
attribute [local go_sem] eql_nil as_yes_b as_yes_i as_yes_s as_yes_a as_yes_m as_no_0 as_nil_0 as_no_1 as_nil_1 as_no_2 as_nil_2 as_no_3 as_nil_3 as_no_4 as_nil_4 as_no_5 as_nil_5 as_no_6 as_nil_6 as_no_7 as_nil_7 as_no_8 as_nil_8 as_no_9 as_nil_9 as_no_10 as_nil_10 as_no_11 as_nil_11 as_no_12 as_nil_12 as_no_13 as_nil_13 as_no_14 as_nil_14 as_no_15 as_nil_15 neq_err eql_nn
/-- Rep with another shape than these. -/
def Shape (v : Value) : Prop := v = .nilIface ∨ (∃ b, v = .iface 4 (.bool b)) ∨ (∃ k, v = .iface 3 (.int .i64 k)) ∨ (∃ s : ByteArray, v = .iface 9 (.string s)) ∨ (∃ A n c, v = .iface 42 (.slice A n c)) ∨ ∃ b, v = .iface 44 (.map (some b))
set_option maxHeartbeats 4000000 in
set_option maxRecDepth 100000 in
theorem eq_nil {m : Nat} {ok : Nat → Prop} {w : World} {v : Value} {d : D0} (h : Rep m ok w v d) : Calls Try.prog 21 #[.nilIface, v] w (EqP .nil d w) := by
  obtain ⟨m, rfl⟩ := h.pos
  rcases h with ⟨rfl, rfl⟩ | ⟨b, rfl, rfl⟩ | ⟨k, rfl, rfl⟩ | ⟨s, rfl, rfl⟩ | ⟨A, c, l, rfl, rfl, _⟩ | ⟨b, D, rfl, hc, _⟩
  case inr.inr.inr.inr.inr => obtain ⟨es, rfl, _⟩ := hc; (go_enter Try.func21, Try.ntmps21; go_wp2_with fail; go_ret2; exact eq_no (by simp) (Below.refl _ _))
  case inl => (go_enter Try.func21, Try.ntmps21; go_wp2_with fail; go_ret2; exact eq_yes rfl (Below.refl _ _))
  all_goals (go_enter Try.func21, Try.ntmps21; go_wp2_with fail; go_ret2; exact eq_no (by simp) (Below.refl _ _))
set_option maxHeartbeats 4000000 in
set_option maxRecDepth 100000 in
theorem eq_bool {m : Nat} {ok : Nat → Prop} {w : World} {v : Value} {d : D0} (x : Bool) (h : Rep m ok w v d) : Calls Try.prog 21 #[.iface 4 (.bool x), v] w (EqP (.lit (.bool x)) d w) := by
  obtain ⟨m, rfl⟩ := h.pos
  rcases h with ⟨rfl, rfl⟩ | ⟨b, rfl, rfl⟩ | ⟨k, rfl, rfl⟩ | ⟨s, rfl, rfl⟩ | ⟨A, c, l, rfl, rfl, _⟩ | ⟨b, D, rfl, hc, _⟩
  case inr.inr.inr.inr.inr => obtain ⟨es, rfl, _⟩ := hc; (go_enter Try.func21, Try.ntmps21; go_wp2_with fail; go_ret2; exact eq_no (by simp) (Below.refl _ _))
  case inr.inl =>
    go_enter Try.func21, Try.ntmps21
    go_wp2_with fail
    go_ret2
    exact eq_at (by cases x <;> cases b <;> simp) (Below.refl _ _)
  all_goals (go_enter Try.func21, Try.ntmps21; go_wp2_with fail; go_ret2; exact eq_no (by simp) (Below.refl _ _))
set_option maxHeartbeats 4000000 in
set_option maxRecDepth 100000 in
theorem eq_str {m : Nat} {ok : Nat → Prop} {w : World} {v : Value} {d : D0} (x : ByteArray) (h : Rep m ok w v d) : Calls Try.prog 21 #[.iface 9 (.string x), v] w (EqP (.lit (.string (bs x))) d w) := by
  obtain ⟨m, rfl⟩ := h.pos
  rcases h with ⟨rfl, rfl⟩ | ⟨b, rfl, rfl⟩ | ⟨k, rfl, rfl⟩ | ⟨s, rfl, rfl⟩ | ⟨A, c, l, rfl, rfl, _⟩ | ⟨b, D, rfl, hc, _⟩
  case inr.inr.inr.inr.inr => obtain ⟨es, rfl, _⟩ := hc; (go_enter Try.func21, Try.ntmps21; go_wp2_with fail; go_ret2; exact eq_no (by simp) (Below.refl _ _))
  case inr.inr.inr.inl =>
    obtain ⟨t, ht⟩ : ∃ t, (x.toList == s.toList) = t := ⟨_, rfl⟩
    go_enter Try.func21, Try.ntmps21
    go_wp2_with fail
    go_ret2
    refine eq_at ?_ (Below.refl _ _)
    rw [← ht, beq_iff_eq, toList_inj]
    simp
  all_goals (go_enter Try.func21, Try.ntmps21; go_wp2_with fail; go_ret2; exact eq_no (by simp) (Below.refl _ _))
end Go.Proofs.Ytdleegmdpgefmaa.J
