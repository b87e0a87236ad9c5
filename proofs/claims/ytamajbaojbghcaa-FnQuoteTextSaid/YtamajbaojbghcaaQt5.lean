/- The specification's lexer at a quoted text: the walks of peek and escape. -/
import Derived.Test.YtamajbaojbghcaaQt4
import Derived.StillTailTactics
import Derived.Deep.QuietTactic
import Derived.BigQuiet
namespace Go.Proofs.Ytamajbaojbghcaa.Qt
open Go.RowKit Go.Lib Go.Proofs.YtamajbaojbghcaaW.PrintWords Go.Proofs.YtamajbaojbghcaaW.PrintLast Go.Proofs.YtamajbaojbghcaaW.PrintMore Go.Proofs.Ytamajbaojbghcaa.PX Go.Proofs.Ytamajbaojbghcaa.K Go.Proofs.Ytamajbaojbghcaa.Lx
set_option linter.unusedVariables false
set_option linter.unusedSimpArgs false
theorem gb_refl (w : World) (r : Option Nat) : w.grownBy w r := ⟨rfl, rfl, rfl, Nat.le_refl _, fun _ _ _ => rfl⟩
theorem gb_set (w : World) (g i : Nat) (v : Value) : w.grownBy (w.setCell ⟨g, i, none⟩ v) (some g) := ⟨rfl, rfl, rfl, by rw [World.size_setCell]; exact Nat.le_refl _, fun k _ hne => Below.heap_setCell _ _ _ _ (fun e => hne (by rw [show k = g from e]))⟩
theorem gb_below {w w1 w2 : World} {r : Option Nat} (h : w.grownBy w1 r) (hb : Below w1.heap.size w1 w2) : w.grownBy w2 r := ⟨hb.os.trans h.os, hb.tape.trans h.tape, hb.output.trans h.output, Nat.le_trans h.size hb.size, fun k hk hne => (hb.block k (Nat.lt_of_lt_of_le hk h.size)).trans (h.block k hk hne)⟩
theorem gb_trans {w w1 w2 : World} {r : Option Nat} (h : w.grownBy w1 r) (h2 : w1.grownBy w2 r) : w.grownBy w2 r := ⟨h2.os.trans h.os, h2.tape.trans h.tape, h2.output.trans h.output, Nat.le_trans h.size h2.size, fun k hk hne => (h2.block k (Nat.lt_of_lt_of_le hk h.size) hne).trans (h.block k hk hne)⟩
/-- The lexer's block before the first token; the characters' block. -/
structure Sl (wi : World) (b g c : Nat) (Z : List Nat) (a : Nat) : Prop where
  blk : wi.heap[g]? = some (.cells #[.slice (some ⟨b, 0, none⟩) Z.length c, .int .i64 a, .slice none 0 0, .bool true, .int .i64 0, .int .i64 1, .int .i64 0] 65 (0, 0))
  txt : ∀ (i x : Nat), Z[i]? = some x → wi.cell? ⟨b, i, none⟩ = some (.int .i32 (x : Int))
  ne : b ≠ g
  cap : Z.length ≤ c
  blt : b < wi.heap.size
theorem Sl.c0 {wi : World} {b g c a : Nat} {Z : List Nat} (h : Sl wi b g c Z a) : wi.cell? ⟨g, 0, none⟩ = some (.slice (some ⟨b, 0, none⟩) Z.length c) := by rw [Lib.cell_of_heap h.blk]; rfl
theorem Sl.c1 {wi : World} {b g c a : Nat} {Z : List Nat} (h : Sl wi b g c Z a) : wi.cell? ⟨g, 1, none⟩ = some (.int .i64 a) := by rw [Lib.cell_of_heap h.blk]; rfl
theorem Sl.cN {wi : World} {b g c a : Nat} {Z : List Nat} (h : Sl wi b g c Z a) (i : Nat) (v : Value) (hi : (#[.slice (some ⟨b, 0, none⟩) Z.length c, .int .i64 a, .slice none 0 0, .bool true, .int .i64 0, .int .i64 1, .int .i64 0] : Array Value)[i]? = some v) : wi.cell? ⟨g, i, none⟩ = some v := by rw [Lib.cell_of_heap h.blk]; exact hi
theorem Sl.fz {wi : World} {b g c a : Nat} {Z : List Nat} (h : Sl wi b g c Z a) (i : Nat) : wi.frozen? ⟨g, i, none⟩ = false := blk_frozen h.blk i
theorem cell_block {w w' : World} {b i : Nat} (h : w'.heap[b]? = w.heap[b]?) : w'.cell? ⟨b, i, none⟩ = w.cell? ⟨b, i, none⟩ := by
  unfold World.cell?; rw [show w'.heap[(⟨b, i, none⟩ : Addr).block]? = w.heap[(⟨b, i, none⟩ : Addr).block]? from h]
theorem Sl.grown {wi w' : World} {b g c a : Nat} {Z : List Nat} {r : Option Nat} (h : Sl wi b g c Z a) (hg : wi.grownBy w' r) (h1 : some g ≠ r) (h2 : some b ≠ r) : Sl w' b g c Z a :=
  ⟨(hg.block _ (blk_lt h.blk) h1).trans h.blk, fun i x hx => (cell_block (hg.block _ h.blt h2)).trans (h.txt i x hx), h.ne, h.cap, Nat.lt_of_lt_of_le h.blt hg.size⟩
theorem Sl.step {wi w' : World} {b g c a : Nat} {Z : List Nat} (h : Sl wi b g c Z a) (hb : Below wi.heap.size wi w') : Sl w' b g c Z a := h.grown (gb_below (gb_refl wi none) hb) (by simp) (by simp)
theorem Sl.drewN {wi : World} {b g c a : Nat} {Z : List Nat} (h : Sl wi b g c Z a) (n : Nat) : Sl (wi.drewN n) b g c Z a := h.step (pw_below_drewN (Below.refl _ _) n)
theorem Sl.set {wi : World} {b g c a : Nat} {Z : List Nat} (h : Sl wi b g c Z a) (a' : Nat) : Sl (wi.setCell ⟨g, 1, none⟩ (.int .i64 a')) b g c Z a' :=
  ⟨blk_put h.blk 1 _ rfl, fun i x hx => (cell_block (Below.heap_setCell _ _ _ _ (show b ≠ g from h.ne))).trans (h.txt i x hx), h.ne, h.cap, by rw [World.size_setCell]; exact h.blt⟩
set_option maxHeartbeats 4000000 in
set_option maxRecDepth 100000 in
theorem peekW {wi : World} {b g c a : Nat} {Z : List Nat} (i x : Nat) (h : Sl wi b g c Z a) (hx : Z[a + i]? = some x) (hZ : Z.length ≤ 1099511627776) : Calls Try.prog 74 #[.pointer (some ⟨g, 0, none⟩), .int .i64 i] wi fun e w' => e = .returned (.int .i32 x) ∧ ∃ m, w' = wi.drewN m := by
  have hlt : a + i < Z.length := (List.getElem?_eq_some_iff.1 hx).1
  have c0 := h.c0
  have c1 := h.c1
  have tx := h.txt _ _ hx
  have hw : wrap64 ((a : Int) + (i : Int)) = ((a + i : Nat) : Int) := by rw [wrap_in (by omega) (by omega)]; omega
  have hw' : IntKind.i64.wrap ((a : Int) + (i : Int)) = ((a + i : Nat) : Int) := by rw [i64_w]; exact hw
  obtain ⟨p, hp⟩ : ∃ p, a + i = p := ⟨_, rfl⟩
  rw [hp] at hw hw' tx hlt
  have hd : decide ((p : Int) < (Z.length : Int)) = true := decide_eq_true (by omega)
  have q0 : (0 : Int) ≤ (p : Int) := Int.natCast_nonneg _
  have q1 : (p : Int) < (Z.length : Int) := by omega
  clear hx hp h
  go_enter Try.func74, Try.ntmps74
  go_wp2_with fail
  go_quiet (fail)
  go_wp2_with fail
  go_quiet (fail)
  go_wp2_with fail
  go_ret
  exact ⟨rfl, _, World.drewN_drewN _ _ _⟩
set_option maxHeartbeats 4000000 in
set_option maxRecDepth 100000 in
theorem escOne {wi : World} {b g c a : Nat} {Z : List Nat} (x r : Nat) (h : Sl wi b g c Z a) (hx : Z[a]? = some x) (hZ : Z.length ≤ 1099511627776) (hr : (x = 34 ∧ r = 34) ∨ (x = 92 ∧ r = 92) ∨ (x = 98 ∧ r = 8) ∨ (x = 102 ∧ r = 12) ∨ (x = 110 ∧ r = 10) ∨ (x = 114 ∧ r = 13) ∨ (x = 116 ∧ r = 9)) :
    Calls Try.prog 101 #[.pointer (some ⟨g, 0, none⟩)] wi fun e w' => e = .returned (.tuple #[.int .i32 r, .bool true]) ∧ Sl w' b g c Z (a + 1) ∧ wi.grownBy w' (some g) := by
  have hlt : a < Z.length := (List.getElem?_eq_some_iff.1 hx).1
  have HP := Lib.hid (peekW 0 x h (show Z[a + 0]? = some x from hx) hZ)
  have c1 := h.c1
  have f1 := h.fz 1
  have H := Lib.hid h
  clear h hx
  rcases hr with ⟨rfl, rfl⟩ | ⟨rfl, rfl⟩ | ⟨rfl, rfl⟩ | ⟨rfl, rfl⟩ | ⟨rfl, rfl⟩ | ⟨rfl, rfl⟩ | ⟨rfl, rfl⟩
  all_goals
    go_enter Try.func101, Try.ntmps101
    go_wp2_with fail
    refine HP.out.mono ?_
    rintro e w1 ⟨rfl, m, rfl⟩
    go_wp2_with fail
    go_ret2
    exact ⟨rfl, (H.out.drewN _).set (a + 1), gb_trans (gb_below (gb_refl _ _) (pw_below_drewN (Below.refl _ _) _)) (gb_set _ _ _ _)⟩
/-- The value of the first digits. -/
def vv (r i : Nat) : Nat := if i ≤ 2 then 0 else if i = 3 then r / 16 else r
def dd (r i : Nat) : Nat := if i ≤ 1 then 0 else if i = 2 then r / 16 else r % 16
theorem vv_next (r i : Nat) (hr : r < 160) (hi : i < 4) : 16 * vv r i + dd r i = vv r (i + 1) ∧ dd r i < 16 ∧ vv r i < 160 := by
  have : i = 0 ∨ i = 1 ∨ i = 2 ∨ i = 3 := by omega
  rcases this with rfl | rfl | rfl | rfl
  · simp [vv, dd]
  · simp [vv, dd]
  · simp [vv, dd]; omega
  · simp [vv, dd]; omega
theorem hexW (d : Nat) (hd : d < 16) (w : World) : Calls Try.prog 115 #[.int .i32 (hn d)] w fun e w' => e = .returned (.int .i64 d) ∧ ∃ m, w' = w.drewN m := by
  refine (spec_Hex.calls 3 _ _ w (hex_at 0 d hd)).mono ?_
  rintro e w' ⟨rfl, ⟨m, rfl⟩⟩
  exact ⟨rfl, m, rfl⟩
set_option maxHeartbeats 8000000 in
set_option maxRecDepth 100000 in
theorem escUni {wi : World} {b g c a : Nat} {Z : List Nat} (r : Nat) (h : Sl wi b g c Z a) (h0 : Z[a]? = some 117) (hd : ∀ i, i < 4 → Z[a + 1 + i]? = some (hn (dd r i))) (hZ : Z.length ≤ 1099511627776) (hr : r < 160) :
    Calls Try.prog 101 #[.pointer (some ⟨g, 0, none⟩)] wi fun e w' => e = .returned (.tuple #[.int .i32 r, .bool true]) ∧ Sl w' b g c Z (a + 5) ∧ wi.grownBy w' (some g) := by
  have hlt : a < Z.length := (List.getElem?_eq_some_iff.1 h0).1
  have HP := Lib.hid (peekW 0 117 h (show Z[a + 0]? = some 117 from h0) hZ)
  have c1 := h.c1
  have f1 := h.fz 1
  have H := Lib.hid h
  have HD := Lib.hid hd
  clear h h0 hd
  go_enter Try.func101, Try.ntmps101
  go_wp2_with fail
  refine HP.out.mono ?_
  rintro e w1 ⟨rfl, m, rfl⟩
  go_wp2_with fail
  have H2 := Lib.hid ((H.out.drewN m).set (a + 1))
  have HG2 := Lib.hid (gb_trans (gb_below (gb_refl wi (some g)) (pw_below_drewN (Below.refl _ _) m)) (gb_set _ g 1 (.int .i64 ((a + 1 : Nat) : Int))))
  refine (peekW 0 48 H2.out (by have := HD.out 0 (by decide); simpa [dd, hn] using this) hZ).mono ?_
  rintro e w2 ⟨rfl, m2, rfl⟩
  have H3 := Lib.hid (H2.out.drewN m2)
  have HG3 := Lib.hid (gb_below HG2.out (pw_below_drewN (Below.refl _ _) m2))
  clear c1 f1 HP H H2 HG2
  generalize hwq : World.drewN _ m2 = wq at *
  clear hwq
  go_wp2_with fail
  go_loopw [5, 40] (fun nv iv wk => ∃ i : Nat, nv = .int .i64 (vv r i) ∧ iv = .int .i64 i ∧ i ≤ 4 ∧ Hid (Sl wk b g c Z (a + 1 + i)) ∧ Hid (wi.grownBy wk (some g))) (fun nv iv _ => 4 - (RowKit.intOf iv).toNat)
  case atStart => exact ⟨0, rfl, rfl, by omega, H3, HG3⟩
  case round =>
    obtain ⟨i, rfl, rfl, hi4, HI, HG⟩ := hrel
    clear H3 HG3
    by_cases hlt4 : i < 4
    · have hd1 : decide ((i : Int) < 4) = true := decide_eq_true (by omega)
      obtain ⟨n1, n2, n3⟩ := vv_next r i hr hlt4
      have HPK := Lib.hid (peekW 0 _ HI.out (HD.out i hlt4) hZ)
      have HX := Lib.hid (hexW (dd r i) n2)
      have HN1 := Lib.hid n1
      obtain ⟨d, hde⟩ : ∃ d, dd r i = d := ⟨_, rfl⟩
      obtain ⟨v, hve⟩ : ∃ v, vv r i = v := ⟨_, rfl⟩
      rw [hde] at HPK HX HN1 n2
      rw [hve] at HN1 n3
      rw [hve]
      obtain ⟨x, hx⟩ : ∃ x, hn d = x := ⟨_, rfl⟩
      rw [hx] at HPK HX
      have q1 : decide ((d : Int) < 0) = false := decide_eq_false (by omega)
      have q1' : ¬ (d : Int) < 0 := by omega
      have c1 := HI.out.c1
      have f1 := HI.out.fz 1
      have HAL := Lib.hid (List.getElem?_eq_some_iff.1 (HD.out i hlt4)).1
      have ha : a + 1 + i < Z.length := HAL.out
      obtain ⟨p, hp⟩ : ∃ p, a + 1 + i = p := ⟨_, rfl⟩
      rw [hp] at c1 ha HI
      have HPP := Lib.hid (show p + 1 = a + 1 + (i + 1) by omega)
      clear hde hve hx n1 hp HAL
      go_wp2_with fail
      refine HPK.out.mono ?_
      rintro e w2 ⟨rfl, m3, rfl⟩
      go_wp2_with fail
      refine (HX.out _).mono ?_
      rintro e w3 ⟨rfl, m4, rfl⟩
      go_wp2_with fail
      go_roundw
      case rel => exact ⟨i + 1, by rw [← HN1.out]; go_num, by go_num, by omega, Lib.hid (HPP.out ▸ (HI.out.drewN (m3 + m4)).set (p + 1)), Lib.hid (gb_trans (gb_below HG.out (pw_below_drewN (Below.refl _ _) _)) (gb_set _ _ _ _))⟩
      case measure => first | (simp [RowKit.intOf]; done) | (simp [RowKit.intOf]; omega)
    · obtain rfl : i = 4 := by omega
      have hv : vv r 4 = r := by simp [vv]
      rw [hv]
      have q1 : decide ((r : Int) ≥ 55296) = false := decide_eq_false (by omega)
      have q2 : decide ((55296 : Int) ≤ (r : Int)) = false := decide_eq_false (by omega)
      have q3 : ¬ (55296 : Int) ≤ (r : Int) := by omega
      have w32 : wrap32 (r : Int) = (r : Int) := by unfold wrap32; omega
      clear hlt4 hv
      go_wp2_with fail
      go_ret2
      exact ⟨by rfl, HI.out, HG.out⟩
end Go.Proofs.Ytamajbaojbghcaa.Qt
