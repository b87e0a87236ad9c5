/- jsonschema.typeOf, of what ofJValue makes. -/
import Derived.Test.YtdleegmdpgefmaaJA
namespace Go.Proofs.Ytdleegmdpgefmaa.J
open Go.RowKit Go.Proofs.YtdleegmdpgefmaaW.PrintWords Go.Proofs.YtdleegmdpgefmaaW.PrintLast Go.Proofs.YtdleegmdpgefmaaW.PrintMore Go.Proofs.Ytdleegmdpgefmaa.PJ Go.Proofs.Ytdleegmdpgefmaa.K Go.Maps
set_option linter.unusedVariables false
set_option linter.unusedSimpArgs false

/-- The code of a type. -/
def codeD : D0 → Int
  | .nil => 2
  | .lit (.bool _) => 4
  | .lit (.int _ _) => 8
  | .lit (.string _) => 32
  | .slice _ _ => 64
  | _ => 128
attribute [local go_sem] eql_nil as_yes_b as_yes_i as_yes_s as_yes_a as_yes_m as_no_0 as_nil_0 as_no_1 as_nil_1 as_no_2 as_nil_2 as_no_3 as_nil_3 as_no_4 as_nil_4 as_no_5 as_nil_5 as_no_6 as_nil_6 as_no_7 as_nil_7 as_no_8 as_nil_8 as_no_9 as_nil_9 as_no_10 as_nil_10 as_no_11 as_nil_11 as_no_12 as_nil_12 as_no_13 as_nil_13 as_no_14 as_nil_14 as_no_15 as_nil_15
set_option maxHeartbeats 4000000 in
set_option maxRecDepth 100000 in
theorem typeOf {n : Nat} {ok : Nat → Prop} {w : World} {v : Value} {d : D0} (h : Rep n ok w v d) : Calls Try.prog 24 #[v] w fun e w' => e = .returned (.int .i64 (codeD d)) ∧ w = w' := by
  obtain ⟨m, rfl⟩ := h.pos
  rcases h with ⟨rfl, rfl⟩ | ⟨b, rfl, rfl⟩ | ⟨k, rfl, rfl⟩ | ⟨s, rfl, rfl⟩ | ⟨A, c, l, rfl, rfl, _⟩ | ⟨b, D, rfl, hc, _⟩
  · go_enter Try.func24, Try.ntmps24
    go_wp2_with fail
    go_ret
    exact ⟨rfl, rfl⟩
  · go_enter Try.func24, Try.ntmps24
    go_wp2_with fail
    go_ret
    exact ⟨rfl, rfl⟩
  · go_enter Try.func24, Try.ntmps24
    go_wp2_with fail
    go_ret
    exact ⟨rfl, rfl⟩
  · go_enter Try.func24, Try.ntmps24
    go_wp2_with fail
    go_ret
    exact ⟨rfl, rfl⟩
  · go_enter Try.func24, Try.ntmps24
    go_wp2_with fail
    go_ret
    exact ⟨rfl, rfl⟩
  · obtain ⟨es, rfl, _⟩ := hc
    go_enter Try.func24, Try.ntmps24
    go_wp2_with fail
    go_ret
    exact ⟨rfl, rfl⟩
end Go.Proofs.Ytdleegmdpgefmaa.J
