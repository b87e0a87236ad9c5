/- The specification's lexer at a quoted text: the walks of token and Lex. -/
import Derived.Test.YtamajbaojbghcaaQt8
namespace Go.Proofs.Ytamajbaojbghcaa.Qt
open Go.RowKit Go.Lib Go.Proofs.YtamajbaojbghcaaW.PrintWords Go.Proofs.YtamajbaojbghcaaW.PrintLast Go.Proofs.YtamajbaojbghcaaW.PrintMore Go.Proofs.Ytamajbaojbghcaa.PX Go.Proofs.Ytamajbaojbghcaa.K Go.Proofs.Ytamajbaojbghcaa.Lx
set_option linter.unusedVariables false
set_option linter.unusedSimpArgs false
theorem markW (w : World) : Calls Try.prog 73 #[.int .i32 34] w fun e w' => e = .returned (.int .i64 0) ∧ ∃ m, w' = w.drewN m := by
  refine (spec_Mark.calls 34 0 w (by decide)).mono ?_
  rintro e w' ⟨rfl, ⟨m, rfl⟩⟩
  exact ⟨rfl, m, rfl⟩
theorem startW (w : World) : Calls Try.prog 67 #[.int .i32 34] w fun e w' => e = .returned (.bool false) ∧ ∃ m, w' = w.drewN m := by
  refine (spec_IsStart.calls 34 false w (by decide)).mono ?_
  rintro e w' ⟨rfl, ⟨m, rfl⟩⟩
  exact ⟨rfl, m, rfl⟩
theorem digitW (w : World) : Calls Try.prog 68 #[.int .i32 34] w fun e w' => e = .returned (.bool false) ∧ ∃ m, w' = w.drewN m := by
  refine (spec_IsDigit.calls 34 false w (by decide)).mono ?_
  rintro e w' ⟨rfl, ⟨m, rfl⟩⟩
  exact ⟨rfl, m, rfl⟩
set_option maxHeartbeats 4000000 in
set_option maxRecDepth 100000 in
/-- Behind the end. -/
theorem peekE {wi : World} {b g c a : Nat} {Z : List Nat} (i : Nat) (h : Sl wi b g c Z a) (hx : Z.length = a + i) (hZ : Z.length ≤ 1099511627776) : Calls Try.prog 74 #[.pointer (some ⟨g, 0, none⟩), .int .i64 i] wi fun e w' => e = .returned (.int .i32 0) ∧ ∃ m, w' = wi.drewN m := by
  have c0 := h.c0
  have c1 := h.c1
  have hw : wrap64 ((a : Int) + (i : Int)) = ((a + i : Nat) : Int) := by rw [wrap_in (by omega) (by omega)]; omega
  have hw' : IntKind.i64.wrap ((a : Int) + (i : Int)) = ((a + i : Nat) : Int) := by rw [i64_w]; exact hw
  obtain ⟨p, hp⟩ : ∃ p, a + i = p := ⟨_, rfl⟩
  rw [hp] at hw hw' hx
  have hd : decide ((p : Int) < (Z.length : Int)) = false := decide_eq_false (by omega)
  have hd2 : ¬ p < Z.length := by omega
  clear hx hp h
  go_enter Try.func74, Try.ntmps74
  go_wp2_with fail
  go_quiet (fail)
  go_wp2_with fail
  go_ret
  exact ⟨rfl, _, rfl⟩
theorem qz_one (R : List Nat) : (R = [] ∧ (qz R)[1]? = some 34 ∧ (qz R).length = 2) ∨ ∃ y, y ≠ 34 ∧ (qz R)[1]? = some y := by
  cases R with
  | nil => exact .inl ⟨rfl, rfl, rfl⟩
  | cons r R =>
    right
    have h1 : 0 < (qR r).length := by rcases qR_cases r with ⟨h, _⟩ | ⟨y, h, _⟩ | ⟨h, _⟩ <;> rw [h] <;> simp
    have h2 := qz_at (r :: R) 0 0 (by simp) h1
    refine ⟨(qR r)[0], ?_, h2⟩
    rcases qR_cases r with ⟨h, _, h3, _⟩ | ⟨y, h, _⟩ | ⟨h, _⟩
    · simp only [h, List.getElem_cons_zero]; exact h3
    · simp only [h, List.getElem_cons_zero]; decide
    · simp only [h, List.getElem_cons_zero]; decide
set_option maxHeartbeats 8000000 in
set_option maxRecDepth 100000 in
theorem tokenW {wi : World} {b g c : Nat} {R : List Nat} (h : Sl wi b g c (qz R) 0) (hv : ∀ r ∈ R, val r) (hZ : (qz R).length ≤ 1099511627776) (hRl : R.length ≤ 1099511627776) : Calls Try.prog 45 #[.pointer (some ⟨g, 0, none⟩)] wi fun e w' => e = .returned (.bool true) ∧ ∃ m, Sd (wi.drewN m) w' b g c (qz R) (pos R R.length + 1) (runesBytes (zs R)) := by
  have c0 := h.c0
  have c1 := h.c1
  have tx := h.txt 0 34 rfl
  have HQ := Lib.hid (fun (m : Nat) => quotedW (h.drewN m) hv hZ hRl)
  have hlen : 0 < (qz R).length := by unfold qz; simp
  have HP1 := Lib.hid (fun (x : Nat) (hx : (qz R)[1]? = some x) (m : Nat) => peekW 1 x (h.drewN m) (show (qz R)[0 + 1]? = some x from hx) hZ)
  have HP2 := Lib.hid (fun (hx : (qz R).length = 2) (m : Nat) => peekE 2 (h.drewN m) (show (qz R).length = 0 + 2 from hx) hZ)
  have HO := Lib.hid (qz_one R)
  obtain ⟨N, hN⟩ : ∃ N, (qz R).length = N := ⟨_, rfl⟩
  rw [hN] at c0 hlen
  have hd : decide ((0 : Int) < (N : Int)) = true := decide_eq_true (by omega)
  have q1 : (0 : Int) < (N : Int) := by omega
  clear h hv hZ hRl hN
  go_enter Try.func45, Try.ntmps45
  go_wp2_with fail
  go_quiet (fail)
  go_wp2_with fail
  refine (markW _).mono ?_
  rintro e w2 ⟨rfl, m2, rfl⟩
  go_wp2_with fail
  refine (startW _).mono ?_
  rintro e w3 ⟨rfl, m3, rfl⟩
  go_wp2_with fail
  refine (digitW _).mono ?_
  rintro e w4 ⟨rfl, m4, rfl⟩
  rcases HO.out with ⟨rfl, hx1, hl2⟩ | ⟨y, hy, hx1⟩
  · go_wp2_with fail
    refine (HP1.out 34 hx1 _).mono ?_
    rintro e w5 ⟨rfl, m5, rfl⟩
    go_wp2_with fail
    refine (HP2.out hl2 _).mono ?_
    rintro e w6 ⟨rfl, m6, rfl⟩
    go_wp2_with fail
    refine (HQ.out _).mono ?_
    rintro e w7 ⟨rfl, hs⟩
    go_wp2_with fail
    go_ret
    exact ⟨rfl, _, hs⟩
  · have hyd : ((y : Int) == 34) = false := by simp; omega
    go_wp2_with fail
    refine (HP1.out y hx1 _).mono ?_
    rintro e w5 ⟨rfl, m5, rfl⟩
    go_wp2_with fail
    refine (HQ.out _).mono ?_
    rintro e w7 ⟨rfl, hs⟩
    go_wp2_with fail
    go_ret
    exact ⟨rfl, _, hs⟩
end Go.Proofs.Ytamajbaojbghcaa.Qt
