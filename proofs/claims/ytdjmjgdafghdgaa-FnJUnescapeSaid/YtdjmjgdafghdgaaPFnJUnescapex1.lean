-- PRINTED BY print.sh 35421559b90ae4d0a3588c463048766b98c2df88dd9212a6774a882060cdf62d: not written by this session
import Derived.Test.YtdjmjgdafghdgaaPFnJUnescapex0
namespace Go.Proofs.Ytdjmjgdafghdgaa.PFnJUnescape
open Go.RowKit Go.Proofs.YtdjmjgdafghdgaaW.PrintWords Go.Proofs.YtdjmjgdafghdgaaW.PrintLast Go.Proofs.YtdjmjgdafghdgaaW.PrintMore
attribute [local go_sem] max2_int min2_int max_two min_two max_three min_three max_four min_four   -- for this text's walks alone
set_option linter.unusedVariables false
set_option linter.unusedSimpArgs false

-- NOT PRINTED: function 87 (bytealg_IndexByteString)

-- NOT PRINTED: function 79 (stringslite_IndexByte)

-- NOT PRINTED: function 67 (strings_IndexByte)

-- NOT PRINTED: function 88 (abi_NoEscape)

-- NOT PRINTED: function 80 (strings_Builder_copyCheck)

-- NOT PRINTED: function 68 (strings_Builder_WriteString)

-- NOT PRINTED: function 69 (strings_Builder_WriteByte)

-- NOT PRINTED: function 70 (strings_Builder_String)

-- NOT PRINTED: function 56 (jsonschema_unescape)

-- NOT PRINTED: function 37 (jsonschema_Unescape)

-- NOT PRINTED: function 17 (impl_JUnescape)

/-! ### spec_JUnescape: function 18 -/
mutual
def spec_JUnescape.l0 : Nat → ByteArray → ByteArray → Int → Option (ByteArray × Bool)
  | 0, _, _, _ => none
  | k + 1, x0, x4, x5 => if x5 < (x0.size : Int) then (if 0 ≤ x5 then (if (bt x0 x5) = 126 then (if (wrap64 (x5 + 1)) = (x0.size : Int) then (spec_JUnescape.j1 k x0 x4 x5 true) else (if 0 ≤ (wrap64 (x5 + 1)) then (if (wrap64 (x5 + 1)) < (x0.size : Int) then (if (bt x0 (wrap64 (x5 + 1))) = 48 then (spec_JUnescape.j1 k x0 x4 x5 false) else (spec_JUnescape.j1 k x0 x4 x5 ((bt x0 (wrap64 (x5 + 1))) != 49))) else (none)) else (none))) else (if x5 ≤ (wrap64 (x5 + 1)) then (if (wrap64 (x5 + 1)) ≤ (x0.size : Int) then (if x4.size + (x0.extract (x5 : Int).toNat ((wrap64 (x5 + 1)) : Int).toNat).size ≤ 9223372036854775807 then (spec_JUnescape.l0 k x0 (x4 ++ (x0.extract (x5 : Int).toNat ((wrap64 (x5 + 1)) : Int).toNat)) (wrap64 (x5 + 1))) else (none)) else (none)) else (none))) else (none)) else (some (x4, true))
def spec_JUnescape.j1 : Nat → ByteArray → ByteArray → Int → Bool → Option (ByteArray × Bool)
  | 0, _, _, _, _ => none
  | k + 1, x0, x4, x5, x41 => if x41 = true then (some ((⟨#[]⟩ : ByteArray), false)) else (if 0 ≤ (wrap64 (x5 + 1)) then (if (wrap64 (x5 + 1)) < (x0.size : Int) then (if (bt x0 (wrap64 (x5 + 1))) = 48 then (if x4.size + 1 ≤ 9223372036854775807 then (spec_JUnescape.l0 k x0 (x4 ++ (⟨#[126]⟩ : ByteArray)) (wrap64 ((wrap64 (x5 + 1)) + 1))) else (none)) else (if x4.size + 1 ≤ 9223372036854775807 then (spec_JUnescape.l0 k x0 (x4 ++ (⟨#[47]⟩ : ByteArray)) (wrap64 ((wrap64 (x5 + 1)) + 1))) else (none))) else (none)) else (none))
end
def spec_JUnescape.f (k : Nat) (a0 : ByteArray) : Option (ByteArray × Bool) := spec_JUnescape.l0 k a0 (⟨#[]⟩ : ByteArray) 0
theorem spec_JUnescape.mono_l : ∀ k, (∀ y0 y1 y2, LeO (spec_JUnescape.l0 k y0 y1 y2) (spec_JUnescape.l0 (k + 1) y0 y1 y2)) ∧ (∀ y0 y1 y2 y3, LeO (spec_JUnescape.j1 k y0 y1 y2 y3) (spec_JUnescape.j1 (k + 1) y0 y1 y2 y3))
  | 0 => ⟨fun _ _ _ r h => by simp [spec_JUnescape.l0] at h, fun _ _ _ _ r h => by simp [spec_JUnescape.j1] at h⟩
  | k + 1 => by
    obtain ⟨ih0, ih1⟩ := spec_JUnescape.mono_l k
    refine ⟨?_, ?_⟩
    · intro y0 y1 y2
      unfold spec_JUnescape.l0
      repeat' first
      | (with_reducible exact ih0 _ _ _)
      | (with_reducible exact ih1 _ _ _ _)
      | (with_reducible exact LeO.refl _)
      | (with_reducible exact LeO.none _)
      | (with_reducible refine LeO.ite ?_ ?_)
      | (with_reducible refine LeO.bind ?_ (fun _ => ?_))
      | exact ih0 _ _ _
      | exact ih1 _ _ _ _
      | exact LeO.none _
      | refine LeO.ite ?_ ?_
      | refine LeO.bind ?_ (fun _ => ?_)
    · intro y0 y1 y2 y3
      unfold spec_JUnescape.j1
      repeat' first
      | (with_reducible exact ih0 _ _ _)
      | (with_reducible exact ih1 _ _ _ _)
      | (with_reducible exact LeO.refl _)
      | (with_reducible exact LeO.none _)
      | (with_reducible refine LeO.ite ?_ ?_)
      | (with_reducible refine LeO.bind ?_ (fun _ => ?_))
      | exact ih0 _ _ _
      | exact ih1 _ _ _ _
      | exact LeO.none _
      | refine LeO.ite ?_ ?_
      | refine LeO.bind ?_ (fun _ => ?_)
theorem spec_JUnescape.mono : ∀ a0 k, LeO (spec_JUnescape.f k a0) (spec_JUnescape.f (k + 1) a0) := by
  intro a0 k
  obtain ⟨ih0, ih1⟩ := spec_JUnescape.mono_l k
  unfold spec_JUnescape.f
  repeat' first
      | (with_reducible exact ih0 _ _ _)
      | (with_reducible exact ih1 _ _ _ _)
      | (with_reducible exact LeO.refl _)
      | (with_reducible exact LeO.none _)
      | (with_reducible refine LeO.ite ?_ ?_)
      | (with_reducible refine LeO.bind ?_ (fun _ => ?_))
      | exact ih0 _ _ _
      | exact ih1 _ _ _ _
      | exact LeO.none _
      | refine LeO.ite ?_ ?_
      | refine LeO.bind ?_ (fun _ => ?_)
set_option maxHeartbeats 8000000 in
set_option maxRecDepth 100000 in
theorem spec_JUnescape.calls (k : Nat) (a0 : ByteArray) (r1 : ByteArray) (r2 : Bool) (w : World) (h : spec_JUnescape.f k a0 = some (r1, r2)) :
    Calls Try.prog 18 #[.string a0] w fun e w' => e = .returned (.tuple #[.string r1, .bool r2]) ∧ Drawn0 w w' := by
  have H : (spec_JUnescape.l0 k a0 (⟨#[]⟩ : ByteArray) 0) = some (r1, r2) := h
  clear h
  have H' := Aside0.mk H
  clear H
  go_enter Try.func18, Try.ntmps18
  go_wp2
  go_loopg [4, 5] k (fun kq v4 v5 w' => ∃ (x4_1 : ByteArray) (x5_1 : Int), v4 = .string x4_1 ∧ v5 = .int .i64 x5_1 ∧ Aside0 (spec_JUnescape.l0 kq a0 x4_1 x5_1 = some (r1, r2)) ∧ Aside0 (kq ≤ k) ∧ Drawn0 w w')
  case atStart => exact ⟨((⟨#[]⟩ : ByteArray)), (0), (by first | rfl | (simp; done) | (simp [*]; done)), (by first | rfl | (simp; done) | (simp [*]; done)), H', ⟨Nat.le_refl _⟩, by repeat (first | exact Drawn0.refl _ | apply Drawn0.step)⟩
  case round =>
    clear H'
    try clear c1
    obtain ⟨x4_1, x5_1, rfl, rfl, HA, HK1, ⟨m1, rfl⟩⟩ := hrel
    cases gk with
    | zero => exact absurd HA.out (by simp [spec_JUnescape.l0])
    | succ k1 =>
      have H := HA.out
      clear HA
      simp only [spec_JUnescape.l0] at H
      by_cases c2 : x5_1 < (a0.size : Int)
      · rw [if_pos c2] at H
        have c2b0 : decide (x5_1 < (a0.size : Int)) = true := decide_eq_true c2
        clear c2
        by_cases c3 : 0 ≤ x5_1
        · rw [if_pos c3] at H
          have c3b0 : decide (0 ≤ x5_1) = true := decide_eq_true c3
          clear c3
          by_cases c5 : (bt a0 x5_1) = 126
          · rw [if_pos c5] at H
            have c5b0 : ((bt a0 x5_1) == 126) = true := beq_iff_eq.mpr c5
            have c5b1 : ((bt a0 x5_1) != 126) = false := bne_eq_false_iff_eq.mpr c5
            clear c5
            have HC6 := Aside0.mk H
            clear H
            have p4 : 0 ≤ (x5_1 : Int) := of_decide_eq_true (by first | (with_reducible assumption) | assumption)
            have q4 : x5_1 < (a0.size : Int) := of_decide_eq_true (by first | (with_reducible assumption) | assumption)
            have hx4 := bt_at a0 x5_1
            replace p4 := eq_true p4
            replace q4 := eq_true q4
            go_upto_region 7 with (fail)
            go_cut [41] (fun v41 wc => ∃ (kq : Nat) (x41_5 : Bool), v41 = .bool x41_5 ∧ Aside0 (spec_JUnescape.j1 kq a0 x4_1 x5_1 x41_5 = some (r1, r2)) ∧ Aside0 (kq ≤ k1) ∧ Drawn0 w wc)
            case first =>
              have H := HC6.out
              clear HC6
              by_cases c7 : (wrap64 (x5_1 + 1)) = (a0.size : Int)
              · rw [if_pos c7] at H
                have c7b0 : ((wrap64 (x5_1 + 1)) == (a0.size : Int)) = true := beq_iff_eq.mpr c7
                have c7b1 : ((wrap64 (x5_1 + 1)) != (a0.size : Int)) = false := bne_eq_false_iff_eq.mpr c7
                clear c7
                (first | rw [c7b0] | (simp only [i64_w, i32_w]; rw [c7b0]) | skip)
                have H' := Aside0.mk H
                clear H
                go_wp2
                go_meet
                case rel => exact ⟨_, (true), (by first | rfl | (simp; done) | (simp [*]; done)), H', ⟨by have := HK1.out; first | omega | exact Nat.le_refl _⟩, by repeat (first | exact Drawn0.refl _ | apply Drawn0.step)⟩
              · rw [if_neg c7] at H
                have c7b0 : ((wrap64 (x5_1 + 1)) == (a0.size : Int)) = false := beq_eq_false_iff_ne.mpr c7
                have c7b1 : ((wrap64 (x5_1 + 1)) != (a0.size : Int)) = true := bne_iff_ne.mpr c7
                (first | rw [c7b0] | (simp only [i64_w, i32_w]; rw [c7b0]) | skip)
                obtain ⟨ji8, hji8⟩ : ∃ j_ : Int, (wrap64 (x5_1 + 1)) = j_ := ⟨_, rfl⟩
                replace H : (if 0 ≤ (ji8) then (if (ji8) < (a0.size : Int) then (if (bt a0 (ji8)) = 48 then (spec_JUnescape.j1 k1 a0 x4_1 x5_1 false) else (spec_JUnescape.j1 k1 a0 x4_1 x5_1 ((bt a0 (ji8)) != 49))) else (none)) else (none)) = some (r1, r2) := by first | (rw [hji8] at H; exact H) | (simp only [hji8] at H ⊢; exact H)
                (try rw [hji8] at c7b0)
                (try rw [hji8] at c7b1)
                have hji8w : (IntKind.i64.wrap (x5_1 + 1)) = ji8 := (i64_w _).trans hji8
                by_cases c9 : 0 ≤ (ji8)
                · rw [if_pos c9] at H
                  have c9b0 : decide (0 ≤ (ji8)) = true := decide_eq_true c9
                  clear c9
                  by_cases c10 : (ji8) < (a0.size : Int)
                  · rw [if_pos c10] at H
                    have c10b0 : decide ((ji8) < (a0.size : Int)) = true := decide_eq_true c10
                    clear c10
                    by_cases c12 : (bt a0 (ji8)) = 48
                    · rw [if_pos c12] at H
                      have c12b0 : ((bt a0 (ji8)) == 48) = true := beq_iff_eq.mpr c12
                      have c12b1 : ((bt a0 (ji8)) != 48) = false := bne_eq_false_iff_eq.mpr c12
                      clear c12
                      have H' := Aside0.mk H
                      clear H
                      have p11 : 0 ≤ ((ji8) : Int) := of_decide_eq_true (by first | (with_reducible assumption) | assumption)
                      have q11 : (ji8) < (a0.size : Int) := of_decide_eq_true (by first | (with_reducible assumption) | assumption)
                      have hx11 := bt_at a0 (ji8)
                      replace p11 := eq_true p11
                      replace q11 := eq_true q11
                      go_wp2
                      go_meet
                      case rel => exact ⟨_, (false), (by first | rfl | (simp; done) | (simp [*]; done)), H', ⟨by have := HK1.out; first | omega | exact Nat.le_refl _⟩, by repeat (first | exact Drawn0.refl _ | apply Drawn0.step)⟩
                    · rw [if_neg c12] at H
                      have c12b0 : ((bt a0 (ji8)) == 48) = false := beq_eq_false_iff_ne.mpr c12
                      have c12b1 : ((bt a0 (ji8)) != 48) = true := bne_iff_ne.mpr c12
                      have H' := Aside0.mk H
                      clear H
                      have p11 : 0 ≤ ((ji8) : Int) := of_decide_eq_true (by first | (with_reducible assumption) | assumption)
                      have q11 : (ji8) < (a0.size : Int) := of_decide_eq_true (by first | (with_reducible assumption) | assumption)
                      have hx11 := bt_at a0 (ji8)
                      replace p11 := eq_true p11
                      replace q11 := eq_true q11
                      have p13 : 0 ≤ ((ji8) : Int) := of_decide_eq_true (by first | (with_reducible assumption) | assumption)
                      have q13 : (ji8) < (a0.size : Int) := of_decide_eq_true (by first | (with_reducible assumption) | assumption)
                      have hx13 := bt_at a0 (ji8)
                      replace p13 := eq_true p13
                      replace q13 := eq_true q13
                      go_wp2
                      go_meet
                      case rel => exact ⟨_, (((bt a0 (ji8)) != 49)), (by first | rfl | (simp; done) | (simp only [← hji8] <;> (first | rfl | simp)) | (simp [*]; done)), H', ⟨by have := HK1.out; first | omega | exact Nat.le_refl _⟩, by repeat (first | exact Drawn0.refl _ | apply Drawn0.step)⟩
                  · rw [if_neg c10] at H
                    exact absurd H (by simp)
                · rw [if_neg c9] at H
                  exact absurd H (by simp)
            case rest =>
              clear HC6
              try clear c1
              try clear p1
              try clear q1
              try clear hx1
              try clear c2
              try clear c2b0
              try clear p2
              try clear c3
              try clear c3b0
              try clear p4
              try clear q4
              try clear hx4
              try clear c5
              try clear c5b0
              try clear c5b1
              try clear p6
              try clear c7
              try clear c7b0
              try clear c7b1
              try clear c9
              try clear c9b0
              try clear c10
              try clear c10b0
              try clear p11
              try clear q11
              try clear hx11
              try clear c12
              try clear c12b0
              try clear c12b1
              try clear p13
              try clear q13
              try clear hx13
              try clear p11
              try clear p13
              try clear p4
              try clear q11
              try clear q13
              try clear q4
              obtain ⟨kq, x41_5, rfl, HA, HJ5, ⟨mc5, rfl⟩⟩ := hcut
              cases kq with
              | zero => exact absurd HA.out (by simp [spec_JUnescape.j1])
              | succ kj5 =>
                have H := HA.out
                clear HA
                simp only [spec_JUnescape.j1] at H
                by_cases c14 : x41_5 = true
                · subst c14
                  have H1 : (some ((⟨#[]⟩ : ByteArray), false)) = some (r1, r2) := by rw [if_pos rfl] at H; exact H
                  clear H
                  have H := H1
                  clear H1
                  simp only [Option.some.injEq, Prod.mk.injEq] at H
                  obtain ⟨rfl, rfl⟩ := H
                  go_wp2
                  go_ret2
                  exact ⟨by first | rfl | (simp; done) | (simp [*]; done), by repeat (first | exact Drawn0.refl _ | apply Drawn0.step)⟩
                · replace c14 := Bool.eq_false_iff.mpr c14
                  subst c14
                  have H1 : (if 0 ≤ (wrap64 (x5_1 + 1)) then (if (wrap64 (x5_1 + 1)) < (a0.size : Int) then (if (bt a0 (wrap64 (x5_1 + 1))) = 48 then (if x4_1.size + 1 ≤ 9223372036854775807 then (spec_JUnescape.l0 kj5 a0 (x4_1 ++ (⟨#[126]⟩ : ByteArray)) (wrap64 ((wrap64 (x5_1 + 1)) + 1))) else (none)) else (if x4_1.size + 1 ≤ 9223372036854775807 then (spec_JUnescape.l0 kj5 a0 (x4_1 ++ (⟨#[47]⟩ : ByteArray)) (wrap64 ((wrap64 (x5_1 + 1)) + 1))) else (none))) else (none)) else (none)) = some (r1, r2) := by rw [if_neg (show ¬ (false = true) by decide)] at H; exact H
                  clear H
                  have H := H1
                  clear H1
                  obtain ⟨ji15, hji15⟩ : ∃ j_ : Int, (wrap64 (x5_1 + 1)) = j_ := ⟨_, rfl⟩
                  replace H : (if 0 ≤ (ji15) then (if (ji15) < (a0.size : Int) then (if (bt a0 (ji15)) = 48 then (if x4_1.size + 1 ≤ 9223372036854775807 then (spec_JUnescape.l0 kj5 a0 (x4_1 ++ (⟨#[126]⟩ : ByteArray)) (wrap64 ((ji15) + 1))) else (none)) else (if x4_1.size + 1 ≤ 9223372036854775807 then (spec_JUnescape.l0 kj5 a0 (x4_1 ++ (⟨#[47]⟩ : ByteArray)) (wrap64 ((ji15) + 1))) else (none))) else (none)) else (none)) = some (r1, r2) := by first | (rw [hji15] at H; exact H) | (simp only [hji15] at H ⊢; exact H)
                  have hji15w : (IntKind.i64.wrap (x5_1 + 1)) = ji15 := (i64_w _).trans hji15
                  by_cases c16 : 0 ≤ (ji15)
                  · rw [if_pos c16] at H
                    have c16b0 : decide (0 ≤ (ji15)) = true := decide_eq_true c16
                    clear c16
                    by_cases c17 : (ji15) < (a0.size : Int)
                    · rw [if_pos c17] at H
                      have c17b0 : decide ((ji15) < (a0.size : Int)) = true := decide_eq_true c17
                      clear c17
                      by_cases c19 : (bt a0 (ji15)) = 48
                      · rw [if_pos c19] at H
                        have c19b0 : ((bt a0 (ji15)) == 48) = true := beq_iff_eq.mpr c19
                        have c19b1 : ((bt a0 (ji15)) != 48) = false := bne_eq_false_iff_eq.mpr c19
                        clear c19
                        by_cases c20 : x4_1.size + 1 ≤ 9223372036854775807
                        · rw [if_pos c20] at H
                          have c20b0 := eq_true c20
                          have c20b1 : decide (x4_1.size + 1 ≤ 9223372036854775807) = true := decide_eq_true c20
                          try have c20b2 : (9223372036854775807 < x4_1.size + 1) = False := eq_false (Nat.not_lt.2 c20)
                          have H' := Aside0.mk H
                          clear H
                          have p18 : 0 ≤ ((ji15) : Int) := of_decide_eq_true (by first | (with_reducible assumption) | assumption)
                          have q18 : (ji15) < (a0.size : Int) := of_decide_eq_true (by first | (with_reducible assumption) | assumption)
                          have hx18 := bt_at a0 (ji15)
                          replace p18 := eq_true p18
                          replace q18 := eq_true q18
                          go_wp2
                          go_roundg kj5
                          case measure => have := HK1.out; have := HJ5.out; omega
                          case rel => exact ⟨(x4_1 ++ (⟨#[126]⟩ : ByteArray)), (wrap64 ((ji15) + 1)), (by first | rfl | (simp; done) | (simp [*]; done)), (by first | rfl | (simp; done) | (simp only [← hji15] <;> (first | rfl | simp)) | (simp [*]; done)), H', ⟨by have := HK1.out; have := HJ5.out; omega⟩, by repeat (first | exact Drawn0.refl _ | apply Drawn0.step)⟩
                        · rw [if_neg c20] at H
                          exact absurd H (by simp)
                      · rw [if_neg c19] at H
                        have c19b0 : ((bt a0 (ji15)) == 48) = false := beq_eq_false_iff_ne.mpr c19
                        have c19b1 : ((bt a0 (ji15)) != 48) = true := bne_iff_ne.mpr c19
                        by_cases c21 : x4_1.size + 1 ≤ 9223372036854775807
                        · rw [if_pos c21] at H
                          have c21b0 := eq_true c21
                          have c21b1 : decide (x4_1.size + 1 ≤ 9223372036854775807) = true := decide_eq_true c21
                          try have c21b2 : (9223372036854775807 < x4_1.size + 1) = False := eq_false (Nat.not_lt.2 c21)
                          have H' := Aside0.mk H
                          clear H
                          have p18 : 0 ≤ ((ji15) : Int) := of_decide_eq_true (by first | (with_reducible assumption) | assumption)
                          have q18 : (ji15) < (a0.size : Int) := of_decide_eq_true (by first | (with_reducible assumption) | assumption)
                          have hx18 := bt_at a0 (ji15)
                          replace p18 := eq_true p18
                          replace q18 := eq_true q18
                          go_wp2
                          go_roundg kj5
                          case measure => have := HK1.out; have := HJ5.out; omega
                          case rel => exact ⟨(x4_1 ++ (⟨#[47]⟩ : ByteArray)), (wrap64 ((ji15) + 1)), (by first | rfl | (simp; done) | (simp [*]; done)), (by first | rfl | (simp; done) | (simp only [← hji15] <;> (first | rfl | simp)) | (simp [*]; done)), H', ⟨by have := HK1.out; have := HJ5.out; omega⟩, by repeat (first | exact Drawn0.refl _ | apply Drawn0.step)⟩
                        · rw [if_neg c21] at H
                          exact absurd H (by simp)
                    · rw [if_neg c17] at H
                      exact absurd H (by simp)
                  · rw [if_neg c16] at H
                    exact absurd H (by simp)
          · rw [if_neg c5] at H
            have c5b0 : ((bt a0 x5_1) == 126) = false := beq_eq_false_iff_ne.mpr c5
            have c5b1 : ((bt a0 x5_1) != 126) = true := bne_iff_ne.mpr c5
            have c22b0 := eq_true (of_decide_eq_true (by first | (with_reducible assumption) | assumption) : 0 ≤ x5_1)
            by_cases c23 : x5_1 ≤ (wrap64 (x5_1 + 1))
            · rw [if_pos c23] at H
              have c23b0 := eq_true c23
              have c23b1 : decide (x5_1 ≤ (wrap64 (x5_1 + 1))) = true := decide_eq_true c23
              by_cases c24 : (wrap64 (x5_1 + 1)) ≤ (a0.size : Int)
              · rw [if_pos c24] at H
                have c24b0 := eq_true c24
                have c24b1 : decide ((wrap64 (x5_1 + 1)) ≤ (a0.size : Int)) = true := decide_eq_true c24
                by_cases c25 : x4_1.size + (a0.extract (x5_1 : Int).toNat ((wrap64 (x5_1 + 1)) : Int).toNat).size ≤ 9223372036854775807
                · rw [if_pos c25] at H
                  have c25b0 := eq_true c25
                  have c25b1 : decide (x4_1.size + (a0.extract (x5_1 : Int).toNat ((wrap64 (x5_1 + 1)) : Int).toNat).size ≤ 9223372036854775807) = true := decide_eq_true c25
                  try have c25b2 : (9223372036854775807 < x4_1.size + (a0.extract (x5_1 : Int).toNat ((wrap64 (x5_1 + 1)) : Int).toNat).size) = False := eq_false (Nat.not_lt.2 c25)
                  have H' := Aside0.mk H
                  clear H
                  have p4 : 0 ≤ (x5_1 : Int) := of_decide_eq_true (by first | (with_reducible assumption) | assumption)
                  have q4 : x5_1 < (a0.size : Int) := of_decide_eq_true (by first | (with_reducible assumption) | assumption)
                  have hx4 := bt_at a0 x5_1
                  replace p4 := eq_true p4
                  replace q4 := eq_true q4
                  go_wp2
                  go_roundg k1
                  case measure => have := HK1.out; omega
                  case rel => exact ⟨(x4_1 ++ (a0.extract (x5_1 : Int).toNat ((wrap64 (x5_1 + 1)) : Int).toNat)), (wrap64 (x5_1 + 1)), (by first | rfl | (simp; done) | (simp [*]; done)), (by first | rfl | (simp; done) | (simp [*]; done)), H', ⟨by have := HK1.out; omega⟩, by repeat (first | exact Drawn0.refl _ | apply Drawn0.step)⟩
                · rw [if_neg c25] at H
                  exact absurd H (by simp)
              · rw [if_neg c24] at H
                exact absurd H (by simp)
            · rw [if_neg c23] at H
              exact absurd H (by simp)
        · rw [if_neg c3] at H
          exact absurd H (by simp)
      · rw [if_neg c2] at H
        have c2b0 : decide (x5_1 < (a0.size : Int)) = false := decide_eq_false c2
        clear c2
        simp only [Option.some.injEq, Prod.mk.injEq] at H
        obtain ⟨rfl, rfl⟩ := H
        go_wp2
        go_ret2
        exact ⟨by first | rfl | (simp; done) | (simp [*]; done), by repeat (first | exact Drawn0.refl _ | apply Drawn0.step)⟩

-- NOT PRINTED: function 4 (laws_FnJUnescape)

end Go.Proofs.Ytdjmjgdafghdgaa.PFnJUnescape
