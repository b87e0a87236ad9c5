/- The specification's lexer at a quoted text, plain: its escapes. -/
import Derived.Test.YtamajbaojbghcaaQt3
import Derived.Test.YtamajbaojbghcaaPXx1
import Derived.Test.YtamajbaojbghcaaPXx2
namespace Go.Proofs.Ytamajbaojbghcaa.Qt
open Go.RowKit Go.Lib Go.Proofs.YtamajbaojbghcaaW.PrintWords Go.Proofs.YtamajbaojbghcaaW.PrintLast Go.Proofs.YtamajbaojbghcaaW.PrintMore Go.Proofs.Ytamajbaojbghcaa.PX Go.Proofs.Ytamajbaojbghcaa.K Go.Proofs.Ytamajbaojbghcaa.Lx
set_option linter.unusedVariables false
set_option linter.unusedSimpArgs false
/-- Numbers as the program has them. -/
def zs (l : List Nat) : List Int := l.map fun r : Nat => (r : Int)
theorem zs_len (l : List Nat) : (zs l).length = l.length := by simp [zs]
theorem rd_at {Z : List Nat} {a x : Nat} (h : Z[a]? = some x) : rd (zs Z) (a : Int) = x := by
  unfold rd zs
  simp [h]
theorem peek_at {Z : List Nat} {a x i : Nat} (hZ : Z.length ≤ 1099511627776) (h : Z[a + i]? = some x) : spec_lexer_peek.f (zs Z) (a : Int) [] true 0 1 0 (i : Int) = some ((x : Int), (a : Int), true, 0, 1, 0) := by
  have hlt : a + i < Z.length := (List.getElem?_eq_some_iff.1 h).1
  have hw : wrap64 ((a : Int) + (i : Int)) = ((a + i : Nat) : Int) := by rw [wrap_in (by omega) (by omega)]; omega
  unfold spec_lexer_peek.f
  rw [hw, zs_len, if_pos (by omega), if_pos (by omega), rd_at h]
theorem hex_at (k d : Nat) (h : d < 16) : spec_Hex.f (k + 3) ((hn d : Nat) : Int) = some (d : Int) := by
  have : d = 0 ∨ d = 1 ∨ d = 2 ∨ d = 3 ∨ d = 4 ∨ d = 5 ∨ d = 6 ∨ d = 7 ∨ d = 8 ∨ d = 9 ∨ d = 10 ∨ d = 11 ∨ d = 12 ∨ d = 13 ∨ d = 14 ∨ d = 15 := by omega
  rcases this with rfl | rfl | rfl | rfl | rfl | rfl | rfl | rfl | rfl | rfl | rfl | rfl | rfl | rfl | rfl | rfl
  all_goals (simp [spec_Hex.f, spec_Hex.j0, spec_IsDigit.f, hn, wrap64, wrap32])
/-- An escape of one character. -/
theorem esc_one {Z : List Nat} {a x r : Nat} (hZ : Z.length ≤ 1099511627776) (h : Z[a]? = some x) (hx : (x = 34 ∧ r = 34) ∨ (x = 92 ∧ r = 92) ∨ (x = 98 ∧ r = 8) ∨ (x = 102 ∧ r = 12) ∨ (x = 110 ∧ r = 10) ∨ (x = 114 ∧ r = 13) ∨ (x = 116 ∧ r = 9)) :
    Ev (fun k => spec_lexer_escape.f k (zs Z) (a : Int) [] true 0 1 0) ((r : Int), true, ((a + 1 : Nat) : Int), true, 0, 1, 0) := by
  have hlt : a < Z.length := (List.getElem?_eq_some_iff.1 h).1
  have hp := peek_at (i := 0) hZ (show Z[a + 0]? = some x from h)
  have hw : wrap64 ((a : Int) + 1) = ((a + 1 : Nat) : Int) := by rw [wrap_in (by omega) (by omega)]; omega
  refine ⟨1, fun k hk => ?_⟩
  obtain ⟨k, rfl⟩ : ∃ k', k = k' + 1 := ⟨k - 1, by omega⟩
  show spec_lexer_escape.f (k + 1) (zs Z) (a : Int) [] true 0 1 0 = _
  unfold spec_lexer_escape.f
  have hp' : spec_lexer_peek.f (zs Z) (a : Int) [] true 0 1 0 0 = some ((x : Int), (a : Int), true, 0, 1, 0) := hp
  rw [hp', Option.bind_some]
  simp only [hw]
  rcases hx with ⟨rfl, rfl⟩ | ⟨rfl, rfl⟩ | ⟨rfl, rfl⟩ | ⟨rfl, rfl⟩ | ⟨rfl, rfl⟩ | ⟨rfl, rfl⟩ | ⟨rfl, rfl⟩
  all_goals rfl
theorem hex_step {Z : List Nat} {a d v i : Nat} (k : Nat) (hZ : Z.length ≤ 1099511627776) (h : Z[a]? = some (hn d)) (hd : d < 16) (hi : i < 4) (hv : v ≤ 1000) :
    spec_lexer_escape.l0 (k + 4) (v : Int) (i : Int) (zs Z) (a : Int) [] true 0 1 0 = spec_lexer_escape.l0 (k + 3) ((16 * v + d : Nat) : Int) ((i + 1 : Nat) : Int) (zs Z) ((a + 1 : Nat) : Int) [] true 0 1 0 := by
  have hlt : a < Z.length := (List.getElem?_eq_some_iff.1 h).1
  have hp := peek_at (i := 0) hZ (show Z[a + 0]? = some (hn d) from h)
  have hp' : spec_lexer_peek.f (zs Z) (a : Int) [] true 0 1 0 0 = some (((hn d : Nat) : Int), (a : Int), true, 0, 1, 0) := hp
  have w1 : wrap64 ((a : Int) + 1) = ((a + 1 : Nat) : Int) := by rw [wrap_in (by omega) (by omega)]; omega
  have w2 : wrap64 ((wrap64 (16 * (v : Int))) + (d : Int)) = ((16 * v + d : Nat) : Int) := by
    rw [wrap_in (x := 16 * (v : Int)) (by omega) (by omega), wrap_in (by omega) (by omega)]; omega
  have w3 : wrap64 ((i : Int) + 1) = ((i + 1 : Nat) : Int) := by rw [wrap_in (by omega) (by omega)]; omega
  rw [spec_lexer_escape.l0, if_pos (by omega), hp', Option.bind_some]
  simp only
  rw [hex_at k d hd, Option.bind_some, if_neg (by omega), w1, w2, w3]
/-- An escape of four digits. -/
theorem esc_uni {Z : List Nat} {a r : Nat} (hZ : Z.length ≤ 1099511627776) (hr : r < 160) (h0 : Z[a]? = some 117) (h1 : Z[a + 1]? = some 48) (h2 : Z[a + 2]? = some 48) (h3 : Z[a + 3]? = some (hn (r / 16))) (h4 : Z[a + 4]? = some (hn (r % 16))) :
    Ev (fun k => spec_lexer_escape.f k (zs Z) (a : Int) [] true 0 1 0) ((r : Int), true, ((a + 5 : Nat) : Int), true, 0, 1, 0) := by
  have hlt : a + 4 < Z.length := (List.getElem?_eq_some_iff.1 h4).1
  have hp' : spec_lexer_peek.f (zs Z) (a : Int) [] true 0 1 0 0 = some (((117 : Nat) : Int), (a : Int), true, 0, 1, 0) := peek_at (i := 0) hZ (show Z[a + 0]? = some 117 from h0)
  have hp2 : spec_lexer_peek.f (zs Z) ((a + 1 : Nat) : Int) [] true 0 1 0 0 = some (((48 : Nat) : Int), ((a + 1 : Nat) : Int), true, 0, 1, 0) := peek_at (i := 0) hZ (show Z[a + 1 + 0]? = some 48 from h1)
  have hw : wrap64 ((a : Int) + 1) = ((a + 1 : Nat) : Int) := by rw [wrap_in (by omega) (by omega)]; omega
  refine ⟨10, fun k hk => ?_⟩
  obtain ⟨k, rfl⟩ : ∃ k', k = k' + 9 := ⟨k - 9, by omega⟩
  show spec_lexer_escape.f (k + 9) (zs Z) (a : Int) [] true 0 1 0 = _
  unfold spec_lexer_escape.f
  rw [hp', Option.bind_some]
  simp only [hw]
  rw [if_neg (by decide), if_neg (by decide), spec_lexer_escape.j0, if_neg (by decide), if_neg (by decide), if_neg (by decide), if_neg (by decide), if_neg (by decide), if_neg (by decide), if_pos (by decide), hp2, Option.bind_some]
  simp only
  rw [if_neg (by decide)]
  have s1 := hex_step (Z := Z) (a := a + 1) (d := 0) (v := 0) (i := 0) (k + 4) hZ h1 (by decide) (by decide) (by decide)
  have s2 := hex_step (Z := Z) (a := a + 2) (d := 0) (v := 0) (i := 1) (k + 3) hZ h2 (by decide) (by decide) (by decide)
  have s3 := hex_step (Z := Z) (a := a + 3) (d := r / 16) (v := 0) (i := 2) (k + 2) hZ h3 (by omega) (by decide) (by decide)
  have s4 := hex_step (Z := Z) (a := a + 4) (d := r % 16) (v := r / 16) (i := 3) (k + 1) hZ h4 (by omega) (by decide) (by omega)
  have e1 : spec_lexer_escape.l0 (k + 8) 0 0 (zs Z) ((a + 1 : Nat) : Int) [] true 0 1 0 = spec_lexer_escape.l0 (k + 7) 0 1 (zs Z) ((a + 2 : Nat) : Int) [] true 0 1 0 := s1
  have e2 : spec_lexer_escape.l0 (k + 7) 0 1 (zs Z) ((a + 2 : Nat) : Int) [] true 0 1 0 = spec_lexer_escape.l0 (k + 6) 0 2 (zs Z) ((a + 3 : Nat) : Int) [] true 0 1 0 := s2
  have e3 : spec_lexer_escape.l0 (k + 6) 0 2 (zs Z) ((a + 3 : Nat) : Int) [] true 0 1 0 = spec_lexer_escape.l0 (k + 5) ((16 * 0 + r / 16 : Nat) : Int) 3 (zs Z) ((a + 4 : Nat) : Int) [] true 0 1 0 := s3
  have e4 : spec_lexer_escape.l0 (k + 5) ((r / 16 : Nat) : Int) 3 (zs Z) ((a + 4 : Nat) : Int) [] true 0 1 0 = spec_lexer_escape.l0 (k + 4) ((16 * (r / 16) + r % 16 : Nat) : Int) 4 (zs Z) ((a + 5 : Nat) : Int) [] true 0 1 0 := s4
  have em : 16 * (r / 16) + r % 16 = r := by omega
  have ez : 16 * 0 + r / 16 = r / 16 := by omega
  rw [ez] at e3
  rw [em] at e4
  rw [e1, e2, e3, e4, spec_lexer_escape.l0, if_neg (by decide), if_neg (by omega)]
  have w32 : wrap32 (r : Int) = (r : Int) := by unfold wrap32; omega
  rw [w32]
end Go.Proofs.Ytamajbaojbghcaa.Qt
