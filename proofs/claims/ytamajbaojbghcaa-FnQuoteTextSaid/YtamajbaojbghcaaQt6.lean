/- The specification's lexer at a quoted text: lines, put. -/
import Derived.Test.YtamajbaojbghcaaQt5
import Derived.Test.YtamajbaojbghcaaPhase
import Derived.Deep.RegionHeld3
namespace Go.Proofs.Ytamajbaojbghcaa.Qt
open Go.RowKit Go.Lib Go.Proofs.YtamajbaojbghcaaW.PrintWords Go.Proofs.YtamajbaojbghcaaW.PrintLast Go.Proofs.YtamajbaojbghcaaW.PrintMore Go.Proofs.Ytamajbaojbghcaa.PX Go.Proofs.Ytamajbaojbghcaa.K Go.Proofs.Ytamajbaojbghcaa.Lx
set_option linter.unusedVariables false
set_option linter.unusedSimpArgs false
theorem lt_of_cell {w : World} {a : Addr} {v : Value} (h : w.cell? a = some v) : a.block < w.heap.size := by
  rcases Nat.lt_or_ge a.block w.heap.size with h' | h'
  · exact h'
  · simp [World.cell?, Array.getElem?_eq_none h'] at h
theorem linesW {wi : World} {b g c a : Nat} {Z : List Nat} (h : Sl wi b g c Z a) : Calls Try.prog 99 #[.pointer (some ⟨g, 0, none⟩), .int .i64 0] wi fun e w' => e = .returned (.tuple #[]) ∧ w' = wi := by
  have c4 := h.cN 4 _ rfl
  go_enter Try.func99, Try.ntmps99
  go_wp2_with fail
  go_loopw [] (fun wk => wk = wi) (fun _ => 0)
  case atStart => rfl
  case round =>
    obtain rfl := hrel
    go_wp2_with fail
    (try simp only [Exit.inBlock, Exit.then]); first | refine bodyPost_ret (results_none rfl _ _ _) rfl ?_ | refine bodyPost_end (results_none rfl _ _ _) rfl ?_
    exact ⟨rfl, rfl⟩
/-- The token of a string. -/
def tok (v : ByteArray) (a : Nat) : S36 := ⟨18, v, 0, a, 1, 1⟩
/-- The lexer behind its token. -/
structure Sd (wi w' : World) (b g c : Nat) (Z : List Nat) (a : Nat) (v : ByteArray) : Prop where
  ex : ∃ A2 c2, w'.heap[g]? = some (.cells #[.slice (some ⟨b, 0, none⟩) Z.length c, .int .i64 a, .slice A2 1 c2, .bool true, .int .i64 0, .int .i64 1, .int .i64 0] 65 (0, 0)) ∧ 1 ≤ c2 ∧ Kd.C k36 w' A2 1 [tok v a]
  gb : wi.grownBy w' (some g)
set_option maxHeartbeats 8000000 in
set_option maxRecDepth 100000 in
theorem putW {wi : World} {b g c a : Nat} {Z : List Nat} (v : ByteArray) (h : Sl wi b g c Z a) (ha : a ≤ 1099511627776) : Calls Try.prog 72 #[.pointer (some ⟨g, 0, none⟩), .int .i64 18, .string v, .int .i64 0] wi fun e w' => e = .returned (.tuple #[]) ∧ Sd wi w' b g c Z a v := by
  have H := Lib.hid h
  have HL := Lib.hid (linesW h)
  have c1 := h.cN 1 _ rfl
  have c2 := h.cN 2 _ rfl
  have c5 := h.cN 5 _ rfl
  have c6 := h.cN 6 _ rfl
  have hgl := blk_lt h.blk
  have HSS := Lib.hid (show ∀ W : World, (∀ (i : Nat) (v : Value), wi.cell? ⟨g, i, none⟩ = some v → W.cell? ⟨g, i, none⟩ = some v) → (fun w' : World => w'.cell? ⟨g, 1, none⟩ = some (.int .i64 a) ∧ w'.cell? ⟨g, 2, none⟩ = some (.slice none 0 0) ∧ w'.cell? ⟨g, 5, none⟩ = some (.int .i64 1) ∧ w'.cell? ⟨g, 6, none⟩ = some (.int .i64 0)) W from fun W k => ⟨k _ _ c1, k _ _ c2, k _ _ c5, k _ _ c6⟩)
  clear h
  go_enter Try.func72, Try.ntmps72
  go_wp2_with fail
  refine HL.out.mono ?_
  rintro e w1 ⟨rfl, rfl⟩
  go_wp2_with fail
  refine Ph.region_phases (S := (fun w' : World => w'.cell? ⟨g, 1, none⟩ = some (.int .i64 a) ∧ w'.cell? ⟨g, 2, none⟩ = some (.slice none 0 0) ∧ w'.cell? ⟨g, 5, none⟩ = some (.int .i64 1) ∧ w'.cell? ⟨g, 6, none⟩ = some (.int .i64 0))) (ops₁ := ?qops) 28 1 (by kernel_rfl) ?qhops ?qhn ?qhsz ?qhe ?qhl ?qh
  case qhops => simp only [List.take_succ_cons, List.take_zero]; exact rfl
  case qhn => kernel_rfl
  case qhsz => kernel_rfl
  case qhe => kernel_rfl
  case qhl => kernel_rfl
  have hH0 : ((fun w' : World => w'.cell? ⟨g, 1, none⟩ = some (.int .i64 a) ∧ w'.cell? ⟨g, 2, none⟩ = some (.slice none 0 0) ∧ w'.cell? ⟨g, 5, none⟩ = some (.int .i64 1) ∧ w'.cell? ⟨g, 6, none⟩ = some (.int .i64 0))) _ := HSS.out _ (fun _ _ hv => hv)
  refine wpAnyH_take (i := 0) (oi := ?q0toi) (v := ?q0tv) ?q0thi (by kernel_rfl) (by kernel_rfl) (by kernel_rfl) ?q0thq ?q0thy (by assumption) ?q0trest
  case q0thi => simp only [List.getElem?_toArray, List.getElem?_cons_succ, List.getElem?_cons_zero]; exact rfl
  case q0thq => exact fun _ _ _ h => h
  case q0thy => (refine Or.inl ⟨by rfl, ?_⟩; intro w' hSw; (try dsimp only at hSw); go_simp; try with_reducible rfl)
  try simp only [Act.put, List.setIfInBounds_toArray, List.set_cons_zero, List.set_cons_succ]
  refine wpAnyH_take (i := 1) (oi := ?q1toi) (v := ?q1tv) ?q1thi (by kernel_rfl) (by kernel_rfl) (by kernel_rfl) ?q1thq ?q1thy (by assumption) ?q1trest
  case q1thi => simp only [List.getElem?_toArray, List.getElem?_cons_succ, List.getElem?_cons_zero]; exact rfl
  case q1thq => exact fun _ _ _ h => h
  case q1thy => (refine Or.inl ⟨by rfl, ?_⟩; intro w' hSw; (try dsimp only at hSw); go_simp; try with_reducible rfl)
  try simp only [Act.put, List.setIfInBounds_toArray, List.set_cons_zero, List.set_cons_succ]
  refine wpAnyH_take (i := 2) (oi := ?q2toi) (v := ?q2tv) ?q2thi (by kernel_rfl) (by kernel_rfl) (by kernel_rfl) ?q2thq ?q2thy (by assumption) ?q2trest
  case q2thi => simp only [List.getElem?_toArray, List.getElem?_cons_succ, List.getElem?_cons_zero]; exact rfl
  case q2thq => exact fun _ _ _ h => h
  case q2thy => (refine Or.inl ⟨by rfl, ?_⟩; intro w' hSw; (try dsimp only at hSw); go_simp; try with_reducible rfl)
  try simp only [Act.put, List.setIfInBounds_toArray, List.set_cons_zero, List.set_cons_succ]
  refine wpAnyH_take (i := 3) (oi := ?q3toi) (v := ?q3tv) ?q3thi (by kernel_rfl) (by kernel_rfl) (by kernel_rfl) ?q3thq ?q3thy (by assumption) ?q3trest
  case q3thi => simp only [List.getElem?_toArray, List.getElem?_cons_succ, List.getElem?_cons_zero]; exact rfl
  case q3thq => exact fun _ _ _ h => h
  case q3thy => (refine Or.inl ⟨by rfl, ?_⟩; intro w' hSw; (try dsimp only at hSw); go_simp; try with_reducible rfl)
  try simp only [Act.put, List.setIfInBounds_toArray, List.set_cons_zero, List.set_cons_succ]
  refine wpAnyH_take (i := 4) (oi := ?q4toi) (v := ?q4tv) ?q4thi (by kernel_rfl) (by kernel_rfl) (by kernel_rfl) ?q4thq ?q4thy (by assumption) ?q4trest
  case q4thi => simp only [List.getElem?_toArray, List.getElem?_cons_succ, List.getElem?_cons_zero]; exact rfl
  case q4thq => exact fun _ _ _ h => h
  case q4thy => (refine Or.inl ⟨by rfl, ?_⟩; intro w' hSw; (try dsimp only at hSw); go_simp; try with_reducible rfl)
  try simp only [Act.put, List.setIfInBounds_toArray, List.set_cons_zero, List.set_cons_succ]
  refine wpAnyH_take (i := 5) (oi := ?q5toi) (v := ?q5tv) ?q5thi (by kernel_rfl) (by kernel_rfl) (by kernel_rfl) ?q5thq ?q5thy (by assumption) ?q5trest
  case q5thi => simp only [List.getElem?_toArray, List.getElem?_cons_succ, List.getElem?_cons_zero]; exact rfl
  case q5thq => exact fun _ _ _ h => h
  case q5thy => (refine Or.inl ⟨by rfl, ?_⟩; intro w' hSw; (try dsimp only at hSw); go_simp; try with_reducible rfl)
  try simp only [Act.put, List.setIfInBounds_toArray, List.set_cons_zero, List.set_cons_succ]
  refine wpAnyH_take (i := 6) (oi := ?q6toi) (v := ?q6tv) ?q6thi (by kernel_rfl) (by kernel_rfl) (by kernel_rfl) ?q6thq ?q6thy (by assumption) ?q6trest
  case q6thi => simp only [List.getElem?_toArray, List.getElem?_cons_succ, List.getElem?_cons_zero]; exact rfl
  case q6thq => exact fun _ _ _ h => h
  case q6thy => (refine Or.inl ⟨by rfl, ?_⟩; intro w' hSw; (try dsimp only at hSw); go_simp; try with_reducible rfl)
  try simp only [Act.put, List.setIfInBounds_toArray, List.set_cons_zero, List.set_cons_succ]
  refine wpAnyH_take (i := 7) (oi := ?q7toi) (v := ?q7tv) ?q7thi (by kernel_rfl) (by kernel_rfl) (by kernel_rfl) ?q7thq ?q7thy (by assumption) ?q7trest
  case q7thi => simp only [List.getElem?_toArray, List.getElem?_cons_succ, List.getElem?_cons_zero]; exact rfl
  case q7thq => exact fun _ _ _ h => h
  case q7thy => (refine Or.inl ⟨by rfl, ?_⟩; intro w' hSw; (try dsimp only at hSw); go_simp; try with_reducible rfl)
  try simp only [Act.put, List.setIfInBounds_toArray, List.set_cons_zero, List.set_cons_succ]
  refine wpAnyH_take (i := 8) (oi := ?q8toi) (v := ?q8tv) ?q8thi (by kernel_rfl) (by kernel_rfl) (by kernel_rfl) ?q8thq ?q8thy (by assumption) ?q8trest
  case q8thi => simp only [List.getElem?_toArray, List.getElem?_cons_succ, List.getElem?_cons_zero]; exact rfl
  case q8thq => exact fun _ _ _ h => h
  case q8thy => (refine Or.inl ⟨by rfl, ?_⟩; intro w' hSw; (try dsimp only at hSw); go_simp; try with_reducible rfl)
  try simp only [Act.put, List.setIfInBounds_toArray, List.set_cons_zero, List.set_cons_succ]
  refine wpAnyH_take (i := 9) (oi := ?q9toi) (v := ?q9tv) ?q9thi (by kernel_rfl) (by kernel_rfl) (by kernel_rfl) ?q9thq ?q9thy (by assumption) ?q9trest
  case q9thi => simp only [List.getElem?_toArray, List.getElem?_cons_succ, List.getElem?_cons_zero]; exact rfl
  case q9thq => exact fun _ _ _ h => h
  case q9thy => (refine Or.inl ⟨by rfl, ?_⟩; intro w' hSw; (try dsimp only at hSw); go_simp; try with_reducible rfl)
  try simp only [Act.put, List.setIfInBounds_toArray, List.set_cons_zero, List.set_cons_succ]
  refine wpAnyH_take (i := 10) (oi := ?q10toi) (v := ?q10tv) ?q10thi (by kernel_rfl) (by kernel_rfl) (by kernel_rfl) ?q10thq ?q10thy (by assumption) ?q10trest
  case q10thi => simp only [List.getElem?_toArray, List.getElem?_cons_succ, List.getElem?_cons_zero]; exact rfl
  case q10thq => exact fun _ _ _ h => h
  case q10thy => (refine Or.inl ⟨by rfl, ?_⟩; intro w' hSw; (try dsimp only at hSw); go_simp; try with_reducible rfl)
  try simp only [Act.put, List.setIfInBounds_toArray, List.set_cons_zero, List.set_cons_succ]
  refine wpAnyH_take (i := 11) (oi := ?q11toi) (v := ?q11tv) ?q11thi (by kernel_rfl) (by kernel_rfl) (by kernel_rfl) ?q11thq ?q11thy (by assumption) ?q11trest
  case q11thi => simp only [List.getElem?_toArray, List.getElem?_cons_succ, List.getElem?_cons_zero]; exact rfl
  case q11thq => exact fun _ _ _ h => h
  case q11thy => (refine Or.inl ⟨by rfl, ?_⟩; intro w' hSw; (try dsimp only at hSw); go_simp; try with_reducible rfl)
  try simp only [Act.put, List.setIfInBounds_toArray, List.set_cons_zero, List.set_cons_succ]
  refine wpAnyH_take (i := 12) (oi := ?q12toi) (v := ?q12tv) ?q12thi (by kernel_rfl) (by kernel_rfl) (by kernel_rfl) ?q12thq ?q12thy (by assumption) ?q12trest
  case q12thi => simp only [List.getElem?_toArray, List.getElem?_cons_succ, List.getElem?_cons_zero]; exact rfl
  case q12thq => exact fun _ _ _ h => h
  case q12thy => (refine Or.inl ⟨by rfl, ?_⟩; intro w' hSw; (try dsimp only at hSw); go_simp; try with_reducible rfl)
  try simp only [Act.put, List.setIfInBounds_toArray, List.set_cons_zero, List.set_cons_succ]
  refine wpAnyH_take (i := 13) (oi := ?q13toi) (v := ?q13tv) ?q13thi (by kernel_rfl) (by kernel_rfl) (by kernel_rfl) ?q13thq ?q13thy (by assumption) ?q13trest
  case q13thi => simp only [List.getElem?_toArray, List.getElem?_cons_succ, List.getElem?_cons_zero]; exact rfl
  case q13thq => exact fun _ _ _ h => h
  case q13thy => (refine Or.inl ⟨by rfl, ?_⟩; intro w' hSw; (try dsimp only at hSw); go_simp; try with_reducible rfl)
  try simp only [Act.put, List.setIfInBounds_toArray, List.set_cons_zero, List.set_cons_succ]
  refine wpAnyH_take (i := 14) (oi := ?q14toi) (v := ?q14tv) ?q14thi (by kernel_rfl) (by kernel_rfl) (by kernel_rfl) ?q14thq ?q14thy (by assumption) ?q14trest
  case q14thi => simp only [List.getElem?_toArray, List.getElem?_cons_succ, List.getElem?_cons_zero]; exact rfl
  case q14thq => exact fun _ _ _ h => h
  case q14thy => (refine Or.inl ⟨by rfl, ?_⟩; intro w' hSw; (try dsimp only at hSw); go_simp; try with_reducible rfl)
  try simp only [Act.put, List.setIfInBounds_toArray, List.set_cons_zero, List.set_cons_succ]
  refine wpAnyH_take (i := 15) (oi := ?q15toi) (v := ?q15tv) ?q15thi (by kernel_rfl) (by kernel_rfl) (by kernel_rfl) ?q15thq ?q15thy (by assumption) ?q15trest
  case q15thi => simp only [List.getElem?_toArray, List.getElem?_cons_succ, List.getElem?_cons_zero]; exact rfl
  case q15thq => exact fun _ _ _ h => h
  case q15thy => (refine Or.inl ⟨by rfl, ?_⟩; intro w' hSw; (try dsimp only at hSw); go_simp; try with_reducible rfl)
  try simp only [Act.put, List.setIfInBounds_toArray, List.set_cons_zero, List.set_cons_succ]
  refine wpAnyH_take (i := 16) (oi := ?q16toi) (v := ?q16tv) ?q16thi (by kernel_rfl) (by kernel_rfl) (by kernel_rfl) ?q16thq ?q16thy (by assumption) ?q16trest
  case q16thi => simp only [List.getElem?_toArray, List.getElem?_cons_succ, List.getElem?_cons_zero]; exact rfl
  case q16thq => exact fun _ _ _ h => h
  case q16thy => (refine Or.inl ⟨by rfl, ?_⟩; intro w' hSw; (try dsimp only at hSw); go_simp; try with_reducible rfl)
  try simp only [Act.put, List.setIfInBounds_toArray, List.set_cons_zero, List.set_cons_succ]
  refine wpAnyH_take (i := 17) (oi := ?q17toi) (v := ?q17tv) ?q17thi (by kernel_rfl) (by kernel_rfl) (by kernel_rfl) ?q17thq ?q17thy (by assumption) ?q17trest
  case q17thi => simp only [List.getElem?_toArray, List.getElem?_cons_succ, List.getElem?_cons_zero]; exact rfl
  case q17thq => exact fun _ _ _ h => h
  case q17thy => (refine Or.inl ⟨by rfl, ?_⟩; intro w' hSw; (try dsimp only at hSw); go_simp; try with_reducible rfl)
  try simp only [Act.put, List.setIfInBounds_toArray, List.set_cons_zero, List.set_cons_succ]
  refine wpAnyH_take (i := 18) (oi := ?q18toi) (v := ?q18tv) ?q18thi (by kernel_rfl) (by kernel_rfl) (by kernel_rfl) ?q18thq ?q18thy (by assumption) ?q18trest
  case q18thi => simp only [List.getElem?_toArray, List.getElem?_cons_succ, List.getElem?_cons_zero]; exact rfl
  case q18thq => exact fun _ _ _ h => h
  case q18thy => (refine Or.inl ⟨by rfl, ?_⟩; intro w' hSw; (try dsimp only at hSw); go_simp; try with_reducible rfl)
  try simp only [Act.put, List.setIfInBounds_toArray, List.set_cons_zero, List.set_cons_succ]
  refine wpAnyH_take (i := 19) (oi := ?q19toi) (v := ?q19tv) ?q19thi (by kernel_rfl) (by kernel_rfl) (by kernel_rfl) ?q19thq ?q19thy (by assumption) ?q19trest
  case q19thi => simp only [List.getElem?_toArray, List.getElem?_cons_succ, List.getElem?_cons_zero]; exact rfl
  case q19thq => exact fun _ _ _ h => h
  case q19thy => (refine Or.inl ⟨by rfl, ?_⟩; intro w' hSw; (try dsimp only at hSw); go_simp; try with_reducible rfl)
  try simp only [Act.put, List.setIfInBounds_toArray, List.set_cons_zero, List.set_cons_succ]
  refine wpAnyH_take (i := 20) (oi := ?q20toi) (v := ?q20tv) ?q20thi (by kernel_rfl) (by kernel_rfl) (by kernel_rfl) ?q20thq ?q20thy (by assumption) ?q20trest
  case q20thi => simp only [List.getElem?_toArray, List.getElem?_cons_succ, List.getElem?_cons_zero]; exact rfl
  case q20thq => exact fun _ _ _ h => h
  case q20thy => (refine Or.inl ⟨by rfl, ?_⟩; intro w' hSw; (try dsimp only at hSw); go_simp; try with_reducible rfl)
  try simp only [Act.put, List.setIfInBounds_toArray, List.set_cons_zero, List.set_cons_succ]
  refine wpAnyH_take (i := 21) (oi := ?q21toi) (v := ?q21tv) ?q21thi (by kernel_rfl) (by kernel_rfl) (by kernel_rfl) ?q21thq ?q21thy (by assumption) ?q21trest
  case q21thi => simp only [List.getElem?_toArray, List.getElem?_cons_succ, List.getElem?_cons_zero]; exact rfl
  case q21thq => exact fun _ _ _ h => h
  case q21thy => (refine Or.inl ⟨by rfl, ?_⟩; intro w' hSw; (try dsimp only at hSw); go_simp; try with_reducible rfl)
  try simp only [Act.put, List.setIfInBounds_toArray, List.set_cons_zero, List.set_cons_succ]
  refine wpAnyH_take (i := 22) (oi := ?q22toi) (v := ?q22tv) ?q22thi (by kernel_rfl) (by kernel_rfl) (by kernel_rfl) ?q22thq ?q22thy (by assumption) ?q22trest
  case q22thi => simp only [List.getElem?_toArray, List.getElem?_cons_succ, List.getElem?_cons_zero]; exact rfl
  case q22thq => exact fun _ _ _ h => h
  case q22thy => (refine Or.inl ⟨by rfl, ?_⟩; intro w' hSw; (try dsimp only at hSw); go_simp; try with_reducible rfl)
  try simp only [Act.put, List.setIfInBounds_toArray, List.set_cons_zero, List.set_cons_succ]
  refine wpAnyH_take (i := 23) (oi := ?q23toi) (v := ?q23tv) ?q23thi (by kernel_rfl) (by kernel_rfl) (by kernel_rfl) ?q23thq ?q23thy (by assumption) ?q23trest
  case q23thi => simp only [List.getElem?_toArray, List.getElem?_cons_succ, List.getElem?_cons_zero]; exact rfl
  case q23thq => exact fun _ _ _ h => h
  case q23thy => (refine Or.inl ⟨by rfl, ?_⟩; intro w' hSw; (try dsimp only at hSw); go_simp; try with_reducible rfl)
  try simp only [Act.put, List.setIfInBounds_toArray, List.set_cons_zero, List.set_cons_succ]
  refine wpAnyH_ready (rs := [24]) (by kernel_rfl) (by simp) ?_
  refine AllReadyH.cons (o := ?q24so) ?q24sho (fun K hK => ?q24shs) AllReadyH.nil
  case q24sho => simp only [List.getElem?_toArray, List.getElem?_cons_succ, List.getElem?_cons_zero]; exact rfl
  go_simp
  refine hK.out _ _ ?_ (fun hH1 => ?_)
  · exact HSS.out _ (fun i v hv => ((Below.alloc (Below.refl _ _) (Nat.le_refl _) _).cell (lt_of_cell hv)).trans hv)
  clear hK K hH0
  try simp only [Act.put, List.setIfInBounds_toArray, List.set_cons_zero, List.set_cons_succ]
  refine wpAnyH_ready (rs := [25]) (by kernel_rfl) (by simp) ?_
  refine AllReadyH.cons (o := ?q25so) ?q25sho (fun K hK => ?q25shs) AllReadyH.nil
  case q25sho => simp only [List.getElem?_toArray, List.getElem?_cons_succ, List.getElem?_cons_zero]; exact rfl
  have hp := k36_mkM w1.drew w1.heap.size (fun _ => False) (tok v a)
  refine Kd.R_append_step k36 (W := w1.drew) (w0 := w1) w1.heap.size (by rfl) (.tmp 15) (.tmp 35) 32 36 (.agg #[.int .i64 0, .string ⟨#[]⟩, .int .i64 0, .int .i64 0, .int .i64 0, .int .i64 0]) 56 (by rfl) Try.underlying32 (by kernel_rfl) (by rfl) (by decide) (by decide) (.slice none 0 0) [] (tok v a) [.int .i64 18, .string v, .int .i64 0, .int .i64 a, .int .i64 1, .int .i64 1] (fun k => w1.heap.size ≤ k) (fun _ => False) (by rfl) (by rfl) hp (fun k hk => hk.elim) (fun k hk => hk) (Kd.R_nil _ _ _ _ _) (Below.refl _ _).drew (Nat.le_refl _) (by decide) ?_
  intro v1 w2 hR hb2 hg2 hat2
  have hk2 : ∀ (i : Nat) (v : Value), w1.cell? ⟨g, i, none⟩ = some v → w2.cell? ⟨g, i, none⟩ = some v := fun i v hv => (hb2.cell (lt_of_cell hv)).trans hv
  obtain ⟨A2, c2', rfl, hc2, hC2⟩ := Kd.R_reads hR
  have hbk : w2.heap[g]? = some (.cells #[.slice (some ⟨b, 0, none⟩) Z.length c, .int .i64 a, .slice none 0 0, .bool true, .int .i64 0, .int .i64 1, .int .i64 0] 65 (0, 0)) := (hb2.block _ hgl).trans H.out.blk
  have d2 := hk2 _ _ c2
  have fz2 : w2.frozen? ⟨g, 2, none⟩ = false := blk_frozen hbk 2
  refine hK.out _ _ ?_ (fun hH2 => ?_)
  · exact HSS.out _ hk2
  clear hK K hH1
  try simp only [Act.put, List.setIfInBounds_toArray, List.set_cons_zero, List.set_cons_succ]
  refine wpAnyH_take (i := 26) (oi := ?q26toi) (v := ?q26tv) ?q26thi (by kernel_rfl) (by kernel_rfl) (by kernel_rfl) ?q26thq ?q26thy (by assumption) ?q26trest
  case q26thi => simp only [List.getElem?_toArray, List.getElem?_cons_succ, List.getElem?_cons_zero]; exact rfl
  case q26thq => exact fun _ _ _ h => h
  case q26thy => (refine Or.inl ⟨by rfl, ?_⟩; intro w' hSw; (try dsimp only at hSw); go_simp; try with_reducible rfl)
  try simp only [Act.put, List.setIfInBounds_toArray, List.set_cons_zero, List.set_cons_succ]
  refine wpAnyH_take (i := 27) (oi := ?q27toi) (v := ?q27tv) ?q27thi (by kernel_rfl) (by kernel_rfl) (by kernel_rfl) ?q27thq ?q27thy (by assumption) ?q27trest
  case q27thi => simp only [List.getElem?_toArray, List.getElem?_cons_succ, List.getElem?_cons_zero]; exact rfl
  case q27thq => exact fun _ _ _ h => h
  case q27thy => (refine Or.inl ⟨by rfl, ?_⟩; intro w' hSw; (try dsimp only at hSw); go_simp; try with_reducible rfl)
  try simp only [Act.put, List.setIfInBounds_toArray, List.set_cons_zero, List.set_cons_succ]
  refine wpAnyH_done (by kernel_rfl) ?_ _
  refine Ph.Then.go ?_
  clear hH2
  refine wpAnyH_ready (rs := [28]) (by kernel_rfl) (by simp) ?_
  refine AllReadyH.cons (o := ?q28so) ?q28sho (fun K hK => ?q28shs) AllReadyH.nil
  case q28sho => simp only [List.getElem?_toArray, List.getElem?_cons_succ, List.getElem?_cons_zero]; exact rfl
  go_simp
  refine hK.out _ _ trivial (fun _ => ?_)
  clear hK K
  try simp only [Act.put, List.setIfInBounds_toArray, List.set_cons_zero, List.set_cons_succ]
  refine wpAnyH_done (by kernel_rfl) ?_ _
  go_wp2_with fail
  (try simp only [Exit.inBlock, Exit.then]); first | refine bodyPost_ret (results_none rfl _ _ _) rfl ?_ | refine bodyPost_end (results_none rfl _ _ _) rfl ?_
  refine ⟨rfl, ⟨⟨A2, c2', ?_, ?_, ?_⟩, ?_⟩⟩
  · exact blk_put hbk 2 _ rfl
  · exact hc2
  · exact (Kd.R_reads' (Kd.R_far hR (p := ⟨g, 2, none⟩) (fun k hk => by have h3 : w1.heap.size ≤ k := hk; show k ≠ g; omega) _)).2.2
  · exact gb_trans (gb_below (gb_refl _ _) hb2) (gb_set _ _ _ _)
end Go.Proofs.Ytamajbaojbghcaa.Qt
