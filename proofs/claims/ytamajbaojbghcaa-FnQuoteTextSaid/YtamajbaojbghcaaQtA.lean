/- The specification's lexer at a quoted text: the walk of Lex. -/
import Derived.Test.YtamajbaojbghcaaQt9
import Derived.Laws.IdiomStrings
import Derived.OwnWalk
namespace Go.Proofs.Ytamajbaojbghcaa.Qt
open Go.RowKit Go.Lib Go.Proofs.YtamajbaojbghcaaW.PrintWords Go.Proofs.YtamajbaojbghcaaW.PrintLast Go.Proofs.YtamajbaojbghcaaW.PrintMore Go.Proofs.Ytamajbaojbghcaa.PX Go.Proofs.Ytamajbaojbghcaa.K Go.Proofs.Ytamajbaojbghcaa.Lx
set_option linter.unusedVariables false
set_option linter.unusedSimpArgs false
theorem below_gb {w W w' : World} {g n : Nat} (h : Below n w W) (hg : W.grownBy w' (some g)) (h1 : n ≤ g) (h2 : n ≤ W.heap.size) : Below n w w' := ⟨hg.os.trans h.os, hg.tape.trans h.tape, hg.output.trans h.output, Nat.le_trans h.size hg.size, fun k hk => (hg.block k (by omega) (by simp; omega)).trans (h.block k hk)⟩
/-- What a text's characters are in memory. -/
theorem runes_at (s : ByteArray) (R : List Nat) (w : World) (hs : rs s = qz R) (hZ : (qz R).length ≤ 70368744177664) : ∃ (A : Array Value) (c : Nat), (qz R).length ≤ c ∧ (∀ (i x : Nat), (qz R)[i]? = some x → A[i]? = some (.int .i32 (x : Int))) ∧ (convert 9 63 (.string s)).run Try.prog w = .ok (.slice (some ⟨w.heap.size, 0, none⟩) (qz R).length c) (w.drew.alloc (.cells A 21)) := by
  have e : Conv.runesFrom s s.size 0 #[] = (((qz R).map fun r : Nat => (r : Int)).map fun z => Value.int .i32 z).toArray := by rw [runesFrom_rs, hs]
  have hl : (Conv.runesFrom s s.size 0 #[]).size = (qz R).length := by rw [e]; simp
  have := run_runes_of_string w 9 63 21 s Try.underlying9 Try.underlying63 Try.underlying21 (by rw [hl]; exact hZ)
  rw [hl] at this
  refine ⟨_, _, ?_, ?_, this⟩
  · have := grownCap_ge w (qz R).length 0 21; omega
  · intro i x hx
    have hlt : i < (qz R).length := (List.getElem?_eq_some_iff.1 hx).1
    rw [Array.getElem?_append_left (by rw [hl]; exact hlt), e]
    simp [hx]
theorem Sd.aOf {wi w' : World} {b g c a : Nat} {Z : List Nat} {v : ByteArray} (h : Sd wi w' b g c Z a v) : Qt.aOf g w' = a := by
  obtain ⟨A2, c2, hb, _⟩ := h.ex
  unfold Qt.aOf
  rw [Lib.cell_of_heap hb]
  simp
theorem Sd.cN {wi w' : World} {b g c a : Nat} {Z : List Nat} {v : ByteArray} (h : Sd wi w' b g c Z a v) : ∃ A2 c2, 1 ≤ c2 ∧ Kd.C k36 w' A2 1 [tok v a] ∧ w'.cell? ⟨g, 0, none⟩ = some (.slice (some ⟨b, 0, none⟩) Z.length c) ∧ w'.cell? ⟨g, 1, none⟩ = some (.int .i64 a) ∧ w'.cell? ⟨g, 2, none⟩ = some (.slice A2 1 c2) ∧ w'.cell? ⟨g, 3, none⟩ = some (.bool true) := by
  obtain ⟨A2, c2, hb, h1, hc⟩ := h.ex
  refine ⟨A2, c2, h1, hc, ?_, ?_, ?_, ?_⟩ <;> rw [Lib.cell_of_heap hb] <;> rfl
theorem sl_new (w : World) (A : Array Value) (c : Nat) (Z : List Nat) (hc : Z.length ≤ c) (hA : ∀ (i x : Nat), Z[i]? = some x → A[i]? = some (.int .i32 (x : Int))) :
    Sl (((w.alloc (.cells A 21)).alloc (.cells #[.slice (some ⟨w.heap.size, 0, none⟩) Z.length c, .int .i64 0, .slice none 0 0, .bool true, .int .i64 0, .int .i64 1, .int .i64 0] 65)).drew) w.heap.size (w.heap.size + 1) c Z 0 := by
  refine ⟨?_, ?_, by omega, hc, ?_⟩
  · show ((w.heap.push _).push _)[w.heap.size + 1]? = _
    rw [Array.getElem?_push, if_pos (by simp)]; rfl
  · intro i x hx
    have h0 : (((w.alloc (.cells A 21)).alloc (.cells #[.slice (some ⟨w.heap.size, 0, none⟩) Z.length c, .int .i64 0, .slice none 0 0, .bool true, .int .i64 0, .int .i64 1, .int .i64 0] 65)).drew).heap[w.heap.size]? = some (.cells A 21 (0, 0)) := by
      show ((w.heap.push _).push _)[w.heap.size]? = _
      rw [Array.getElem?_push, if_neg (by simp)]
      simp
    rw [Lib.cell_of_heap h0]
    exact hA i x hx
  · show w.heap.size < ((w.heap.push _).push _).size
    simp; omega
theorem below_new (w : World) (o1 o2 : Obj) : Below w.heap.size w ((w.alloc o1).alloc o2).drew := by
  refine ⟨rfl, rfl, rfl, ?_, ?_⟩
  · show w.heap.size ≤ ((w.heap.push _).push _).size
    simp; omega
  · intro k hk
    show ((w.heap.push _).push _)[k]? = _
    rw [Array.getElem?_push, if_neg (by simp; omega), Array.getElem?_push, if_neg (by omega)]
set_option maxHeartbeats 8000000 in
set_option maxRecDepth 100000 in
theorem lexW (s : ByteArray) (R : List Nat) (w : World) (hs : rs s = qz R) (hv : ∀ r ∈ R, val r) (hZ : (qz R).length ≤ 1099511627776) (hRl : R.length ≤ 1099511627776) : Calls Try.prog 23 #[.string s] w fun e w' => ∃ A2 c2, e = .returned (.tuple #[.slice A2 1 c2, .bool true, .bool true]) ∧ 1 ≤ c2 ∧ Kd.C k36 w' A2 1 [tok (runesBytes (zs R)) (pos R R.length + 1)] ∧ Below w.heap.size w w' := by
  obtain ⟨A, c, hc, hA, hrun⟩ := runes_at s R w hs (by omega)
  have HS := Lib.hid (sl_new w A c (qz R) hc hA)
  have HB := Lib.hid (below_new w (.cells A 21) (.cells #[.slice (some ⟨w.heap.size, 0, none⟩) (qz R).length c, .int .i64 0, .slice none 0 0, .bool true, .int .i64 0, .int .i64 1, .int .i64 0] 65))
  have HT := Lib.hid (fun (wi : World) (b g c : Nat) (h : Sl wi b g c (qz R) 0) => tokenW h hv hZ hRl)
  have HPL := Lib.hid (qz_len R)
  have hpos : 0 < (qz R).length := by unfold qz; simp
  have HZ := Lib.hid hZ
  clear hA hc hs hv hZ hRl
  go_enter Try.func23, Try.ntmps23
  go_wp2_with fail
  obtain ⟨W0, hW0⟩ : ∃ W0, ((w.alloc (.cells A 21)).alloc (.cells #[.slice (some ⟨w.heap.size, 0, none⟩) (qz R).length c, .int .i64 0, .slice none 0 0, .bool true, .int .i64 0, .int .i64 1, .int .i64 0] 65)).drew = W0 := ⟨_, rfl⟩
  rw [hW0] at HS HB ⊢
  clear hW0 hrun
  go_loopw [] (fun wk => Hid (Sl wk w.heap.size (w.heap.size + 1) c (qz R) 0 ∧ Below w.heap.size w wk) ∨ Hid (∃ W1, Below w.heap.size w W1 ∧ w.heap.size ≤ W1.heap.size ∧ Sd W1 wk w.heap.size (w.heap.size + 1) c (qz R) (pos R R.length + 1) (runesBytes (zs R)))) (fun wk => (qz R).length - aOf (w.heap.size + 1) wk)
  case atStart => exact .inl ⟨HS.out, HB.out⟩
  case round =>
    clear HS HB
    obtain ⟨N, hN⟩ : ∃ N, (qz R).length = N := ⟨_, rfl⟩
    have HN := Lib.hid hN
    rcases hrel with hrel | hrel
    · have c0 := hrel.out.1.c0
      have c1 := hrel.out.1.c1
      rw [hN] at c0 hpos ⊢
      have hd : decide ((0 : Int) < (N : Int)) = true := decide_eq_true (by omega)
      clear hN
      go_wp2_with fail
      go_quiet (fail)
      go_wp2_with fail
      refine (HT.out _ _ _ _ (hrel.out.1.drewN _)).mono ?_
      rintro e w2 ⟨rfl, m, hsd⟩
      have HSD := Lib.hid hsd
      clear hsd
      have HA0 := Lib.hid hrel.out.1.aOf
      have HA1 := Lib.hid HSD.out.aOf
      go_wp2_with fail
      go_roundw
      case rel => exact .inr ⟨_, pw_below_drewN (pw_below_drewN hrel.out.2 _) _, by have := hrel.out.2.size; simpa using this, HSD.out⟩
      case measure => rw [HA1.out, HA0.out, ← HPL.out, HN.out]; omega
    · obtain ⟨W1, hb1, hl1, hsd⟩ := hrel.out
      obtain ⟨A2, c2, h1, hC, c0, c1, c2', c3⟩ := hsd.cN
      have HSD := Lib.hid hsd
      have HC := Lib.hid hC
      have HB := Lib.hid (below_gb hb1 hsd.gb (by omega) hl1)
      have hp : pos R R.length + 1 = N := by rw [← HPL.out, HN.out]
      rw [hp] at c1
      rw [hN] at c0
      have hd : decide ((N : Int) < (N : Int)) = false := decide_eq_false (by omega)
      clear hN hrel hsd hC hp
      go_wp2_with fail
      go_quiet (fail)
      go_wp2_with fail
      go_quiet (fail)
      go_wp2_with fail
      go_ret3
      exact ⟨A2, c2, rfl, h1, Kd.C_drewN (Kd.C_drewN HC.out _) _, pw_below_drewN (pw_below_drewN HB.out _) _⟩
end Go.Proofs.Ytamajbaojbghcaa.Qt
