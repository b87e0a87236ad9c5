-- PRINTED BY print.sh 35421559b90ae4d0a3588c463048766b98c2df88dd9212a6774a882060cdf62d: not written by this session
import Derived.Test.YtdjmjgdafghdgaaPFnJDurationx0
namespace Go.Proofs.Ytdjmjgdafghdgaa.PFnJDuration
open Go.RowKit Go.Proofs.YtdjmjgdafghdgaaW.PrintWords Go.Proofs.YtdjmjgdafghdgaaW.PrintLast Go.Proofs.YtdjmjgdafghdgaaW.PrintMore
attribute [local go_sem] max2_int min2_int max_two min_two max_three min_three max_four min_four   -- for this text's walks alone
set_option linter.unusedVariables false
set_option linter.unusedSimpArgs false

/-! ### spec_jDigit: function 40 -/
def spec_jDigit.f (a0 : Int) : Option (Bool) := if a0 ≥ 48 then (some (decide (a0 ≤ 57))) else (some false)
set_option maxHeartbeats 8000000 in
set_option maxRecDepth 100000 in
theorem spec_jDigit.calls (a0 : Int) (r : Bool) (w : World) (h : spec_jDigit.f a0 = some r) :
    Calls Try.prog 40 #[.int .u8 a0] w fun e w' => e = .returned (.bool r) ∧ Drawn0 w w' := by
  have H : (if a0 ≥ 48 then (some (decide (a0 ≤ 57))) else (some false)) = some r := h
  clear h
  by_cases c2 : a0 ≥ 48
  · rw [if_pos c2] at H
    have c2b0 : decide (48 ≤ a0) = true := decide_eq_true c2
    clear c2
    obtain rfl := Option.some.inj H
    go_enter Try.func40, Try.ntmps40
    go_wp2
    go_ret
    exact ⟨by first | rfl | (simp; done) | (simp [*]; done), by repeat (first | exact Drawn0.refl _ | apply Drawn0.step)⟩
  · rw [if_neg c2] at H
    have c2b0 : decide (48 ≤ a0) = false := decide_eq_false c2
    clear c2
    obtain rfl := Option.some.inj H
    go_enter Try.func40, Try.ntmps40
    go_wp2
    go_ret
    exact ⟨by first | rfl | (simp; done) | (simp [*]; done), by repeat (first | exact Drawn0.refl _ | apply Drawn0.step)⟩

/-! ### spec_jUnits: function 52 -/
def spec_jUnits.l0 : Nat → ByteArray → ByteArray → Int → Int → Option (ByteArray × Bool)
  | 0, _, _, _, _ => none
  | k + 1, x0, x4, x5, x6 => if x6 < (x0.size : Int) then (if 0 ≤ x6 then ((spec_jDigit.f (bt x0 x6)).bind fun t119 => (if t119 = true then (spec_jUnits.l0 k x0 x4 (wrap64 (x5 + 1)) (wrap64 (x6 + 1))) else (if x5 = 0 then (some ((⟨#[]⟩ : ByteArray), false)) else (if x6 ≤ (wrap64 (x6 + 1)) then (if (wrap64 (x6 + 1)) ≤ (x0.size : Int) then (if x4.size + (x0.extract (x6 : Int).toNat ((wrap64 (x6 + 1)) : Int).toNat).size ≤ 9223372036854775807 then (spec_jUnits.l0 k x0 (x4 ++ (x0.extract (x6 : Int).toNat ((wrap64 (x6 + 1)) : Int).toNat)) 0 (wrap64 (x6 + 1))) else (none)) else (none)) else (none))))) else (none)) else (some (x4, (x5 == 0)))
def spec_jUnits.f (k : Nat) (a0 : ByteArray) : Option (ByteArray × Bool) := spec_jUnits.l0 k a0 (⟨#[]⟩ : ByteArray) 0 0
theorem spec_jUnits.mono_l : ∀ k, (∀ y0 y1 y2 y3, LeO (spec_jUnits.l0 k y0 y1 y2 y3) (spec_jUnits.l0 (k + 1) y0 y1 y2 y3))
  | 0 => fun _ _ _ _ r h => by simp [spec_jUnits.l0] at h
  | k + 1 => by
    have ih0 := spec_jUnits.mono_l k
    · intro y0 y1 y2 y3
      unfold spec_jUnits.l0
      repeat' first
      | (with_reducible exact ih0 _ _ _ _)
      | (with_reducible exact LeO.refl _)
      | (with_reducible exact LeO.none _)
      | (with_reducible refine LeO.ite ?_ ?_)
      | (with_reducible refine LeO.bind ?_ (fun _ => ?_))
      | exact ih0 _ _ _ _
      | exact LeO.none _
      | refine LeO.ite ?_ ?_
      | refine LeO.bind ?_ (fun _ => ?_)
theorem spec_jUnits.mono : ∀ a0 k, LeO (spec_jUnits.f k a0) (spec_jUnits.f (k + 1) a0) := by
  intro a0 k
  have ih0 := spec_jUnits.mono_l k
  unfold spec_jUnits.f
  repeat' first
      | (with_reducible exact ih0 _ _ _ _)
      | (with_reducible exact LeO.refl _)
      | (with_reducible exact LeO.none _)
      | (with_reducible refine LeO.ite ?_ ?_)
      | (with_reducible refine LeO.bind ?_ (fun _ => ?_))
      | exact ih0 _ _ _ _
      | exact LeO.none _
      | refine LeO.ite ?_ ?_
      | refine LeO.bind ?_ (fun _ => ?_)
set_option maxHeartbeats 8000000 in
set_option maxRecDepth 100000 in
theorem spec_jUnits.calls (k : Nat) (a0 : ByteArray) (r1 : ByteArray) (r2 : Bool) (w : World) (h : spec_jUnits.f k a0 = some (r1, r2)) :
    Calls Try.prog 52 #[.string a0] w fun e w' => e = .returned (.tuple #[.string r1, .bool r2]) ∧ Drawn0 w w' := by
  have H : (spec_jUnits.l0 k a0 (⟨#[]⟩ : ByteArray) 0 0) = some (r1, r2) := h
  clear h
  have H' := Aside0.mk H
  clear H
  go_enter Try.func52, Try.ntmps52
  go_wp2
  go_loopg [4, 5, 6] k (fun kq v4 v5 v6 w' => ∃ (x4_1 : ByteArray) (x5_1 : Int) (x6_1 : Int), v4 = .string x4_1 ∧ v5 = .int .i64 x5_1 ∧ v6 = .int .i64 x6_1 ∧ Aside0 (spec_jUnits.l0 kq a0 x4_1 x5_1 x6_1 = some (r1, r2)) ∧ Aside0 (kq ≤ k) ∧ Drawn0 w w')
  case atStart => exact ⟨((⟨#[]⟩ : ByteArray)), (0), (0), (by first | rfl | (simp; done) | (simp [*]; done)), (by first | rfl | (simp; done) | (simp [*]; done)), (by first | rfl | (simp; done) | (simp [*]; done)), H', ⟨Nat.le_refl _⟩, by repeat (first | exact Drawn0.refl _ | apply Drawn0.step)⟩
  case round =>
    clear H'
    obtain ⟨x4_1, x5_1, x6_1, rfl, rfl, rfl, HA, HK1, ⟨m1, rfl⟩⟩ := hrel
    cases gk with
    | zero => exact absurd HA.out (by simp [spec_jUnits.l0])
    | succ k1 =>
      have H := HA.out
      clear HA
      simp only [spec_jUnits.l0] at H
      by_cases c2 : x6_1 < (a0.size : Int)
      · rw [if_pos c2] at H
        have c2b0 : decide (x6_1 < (a0.size : Int)) = true := decide_eq_true c2
        clear c2
        by_cases c3 : 0 ≤ x6_1
        · rw [if_pos c3] at H
          have c3b0 : decide (0 ≤ x6_1) = true := decide_eq_true c3
          clear c3
          replace H := Option.bind_eq_some_iff.mp H
          obtain ⟨t119, A50, H⟩ := H
          replace H : (if t119 = true then (spec_jUnits.l0 k1 a0 x4_1 (wrap64 (x5_1 + 1)) (wrap64 (x6_1 + 1))) else (if x5_1 = 0 then (some ((⟨#[]⟩ : ByteArray), false)) else (if x6_1 ≤ (wrap64 (x6_1 + 1)) then (if (wrap64 (x6_1 + 1)) ≤ (a0.size : Int) then (if x4_1.size + (a0.extract (x6_1 : Int).toNat ((wrap64 (x6_1 + 1)) : Int).toNat).size ≤ 9223372036854775807 then (spec_jUnits.l0 k1 a0 (x4_1 ++ (a0.extract (x6_1 : Int).toNat ((wrap64 (x6_1 + 1)) : Int).toNat)) 0 (wrap64 (x6_1 + 1))) else (none)) else (none)) else (none)))) = some (r1, r2) := H
          have A5 := Aside0.mk A50
          clear A50
          by_cases c6 : t119 = true
          · subst c6
            have H1 : (spec_jUnits.l0 k1 a0 x4_1 (wrap64 (x5_1 + 1)) (wrap64 (x6_1 + 1))) = some (r1, r2) := by rw [if_pos rfl] at H; exact H
            clear H
            have H := H1
            clear H1
            have H' := Aside0.mk H
            clear H
            have p4 : 0 ≤ (x6_1 : Int) := of_decide_eq_true (by first | (with_reducible assumption) | assumption)
            have q4 : x6_1 < (a0.size : Int) := of_decide_eq_true (by first | (with_reducible assumption) | assumption)
            have hx4 := bt_at a0 x6_1
            replace p4 := eq_true p4
            replace q4 := eq_true q4
            go_wp2_with (first | ((with_reducible refine gate_callee (f := 40) rfl ?_); refine goesL_ (some 16) rfl rfl Try.func40 (by kernel_rfl) rfl #[.int .u8 (bt a0 x6_1)] rfl (by (try simp only [List.map_toArray, List.map_cons, List.map_nil]); first | done | rfl | (simp only [List.length_drop, List.length_take]; rfl)) ?_; (with_reducible refine (spec_jDigit.calls (bt a0 x6_1) true _ A5.out).mono ?_); rintro e w' ⟨rfl, ⟨nd, rfl⟩⟩; refine ⟨_, rfl, ?_⟩))
            go_roundg k1
            case measure => have := HK1.out; omega
            case rel => exact ⟨(x4_1), (wrap64 (x5_1 + 1)), (wrap64 (x6_1 + 1)), (by first | rfl | (simp; done) | (simp [*]; done)), (by first | rfl | (simp; done) | (simp [*]; done)), (by first | rfl | (simp; done) | (simp [*]; done)), H', ⟨by have := HK1.out; omega⟩, by repeat (first | exact Drawn0.refl _ | apply Drawn0.step)⟩
          · replace c6 := Bool.eq_false_iff.mpr c6
            subst c6
            have H1 : (if x5_1 = 0 then (some ((⟨#[]⟩ : ByteArray), false)) else (if x6_1 ≤ (wrap64 (x6_1 + 1)) then (if (wrap64 (x6_1 + 1)) ≤ (a0.size : Int) then (if x4_1.size + (a0.extract (x6_1 : Int).toNat ((wrap64 (x6_1 + 1)) : Int).toNat).size ≤ 9223372036854775807 then (spec_jUnits.l0 k1 a0 (x4_1 ++ (a0.extract (x6_1 : Int).toNat ((wrap64 (x6_1 + 1)) : Int).toNat)) 0 (wrap64 (x6_1 + 1))) else (none)) else (none)) else (none))) = some (r1, r2) := by rw [if_neg (show ¬ (false = true) by decide)] at H; exact H
            clear H
            have H := H1
            clear H1
            by_cases c7 : x5_1 = 0
            · rw [if_pos c7] at H
              have c7b0 : (x5_1 == 0) = true := beq_iff_eq.mpr c7
              have c7b1 : (x5_1 != 0) = false := bne_eq_false_iff_eq.mpr c7
              clear c7
              simp only [Option.some.injEq, Prod.mk.injEq] at H
              obtain ⟨rfl, rfl⟩ := H
              have p4 : 0 ≤ (x6_1 : Int) := of_decide_eq_true (by first | (with_reducible assumption) | assumption)
              have q4 : x6_1 < (a0.size : Int) := of_decide_eq_true (by first | (with_reducible assumption) | assumption)
              have hx4 := bt_at a0 x6_1
              replace p4 := eq_true p4
              replace q4 := eq_true q4
              go_wp2_with (first | ((with_reducible refine gate_callee (f := 40) rfl ?_); refine goesL_ (some 16) rfl rfl Try.func40 (by kernel_rfl) rfl #[.int .u8 (bt a0 x6_1)] rfl (by (try simp only [List.map_toArray, List.map_cons, List.map_nil]); first | done | rfl | (simp only [List.length_drop, List.length_take]; rfl)) ?_; (with_reducible refine (spec_jDigit.calls (bt a0 x6_1) false _ A5.out).mono ?_); rintro e w' ⟨rfl, ⟨nd, rfl⟩⟩; refine ⟨_, rfl, ?_⟩))
              go_ret2
              exact ⟨by first | rfl | (simp; done) | (simp [*]; done), by repeat (first | exact Drawn0.refl _ | apply Drawn0.step)⟩
            · rw [if_neg c7] at H
              have c7b0 : (x5_1 == 0) = false := beq_eq_false_iff_ne.mpr c7
              have c7b1 : (x5_1 != 0) = true := bne_iff_ne.mpr c7
              have c8b0 := eq_true (of_decide_eq_true (by first | (with_reducible assumption) | assumption) : 0 ≤ x6_1)
              by_cases c9 : x6_1 ≤ (wrap64 (x6_1 + 1))
              · rw [if_pos c9] at H
                have c9b0 := eq_true c9
                have c9b1 : decide (x6_1 ≤ (wrap64 (x6_1 + 1))) = true := decide_eq_true c9
                by_cases c10 : (wrap64 (x6_1 + 1)) ≤ (a0.size : Int)
                · rw [if_pos c10] at H
                  have c10b0 := eq_true c10
                  have c10b1 : decide ((wrap64 (x6_1 + 1)) ≤ (a0.size : Int)) = true := decide_eq_true c10
                  by_cases c11 : x4_1.size + (a0.extract (x6_1 : Int).toNat ((wrap64 (x6_1 + 1)) : Int).toNat).size ≤ 9223372036854775807
                  · rw [if_pos c11] at H
                    have c11b0 := eq_true c11
                    have c11b1 : decide (x4_1.size + (a0.extract (x6_1 : Int).toNat ((wrap64 (x6_1 + 1)) : Int).toNat).size ≤ 9223372036854775807) = true := decide_eq_true c11
                    try have c11b2 : (9223372036854775807 < x4_1.size + (a0.extract (x6_1 : Int).toNat ((wrap64 (x6_1 + 1)) : Int).toNat).size) = False := eq_false (Nat.not_lt.2 c11)
                    have H' := Aside0.mk H
                    clear H
                    have p4 : 0 ≤ (x6_1 : Int) := of_decide_eq_true (by first | (with_reducible assumption) | assumption)
                    have q4 : x6_1 < (a0.size : Int) := of_decide_eq_true (by first | (with_reducible assumption) | assumption)
                    have hx4 := bt_at a0 x6_1
                    replace p4 := eq_true p4
                    replace q4 := eq_true q4
                    go_wp2_with (first | ((with_reducible refine gate_callee (f := 40) rfl ?_); refine goesL_ (some 16) rfl rfl Try.func40 (by kernel_rfl) rfl #[.int .u8 (bt a0 x6_1)] rfl (by (try simp only [List.map_toArray, List.map_cons, List.map_nil]); first | done | rfl | (simp only [List.length_drop, List.length_take]; rfl)) ?_; (with_reducible refine (spec_jDigit.calls (bt a0 x6_1) false _ A5.out).mono ?_); rintro e w' ⟨rfl, ⟨nd, rfl⟩⟩; refine ⟨_, rfl, ?_⟩))
                    go_roundg k1
                    case measure => have := HK1.out; omega
                    case rel => exact ⟨(x4_1 ++ (a0.extract (x6_1 : Int).toNat ((wrap64 (x6_1 + 1)) : Int).toNat)), (0), (wrap64 (x6_1 + 1)), (by first | rfl | (simp; done) | (simp [*]; done)), (by first | rfl | (simp; done) | (simp [*]; done)), (by first | rfl | (simp; done) | (simp [*]; done)), H', ⟨by have := HK1.out; omega⟩, by repeat (first | exact Drawn0.refl _ | apply Drawn0.step)⟩
                  · rw [if_neg c11] at H
                    exact absurd H (by simp)
                · rw [if_neg c10] at H
                  exact absurd H (by simp)
              · rw [if_neg c9] at H
                exact absurd H (by simp)
        · rw [if_neg c3] at H
          exact absurd H (by simp)
      · rw [if_neg c2] at H
        have c2b0 : decide (x6_1 < (a0.size : Int)) = false := decide_eq_false c2
        clear c2
        simp only [Option.some.injEq, Prod.mk.injEq] at H
        obtain ⟨rfl, rfl⟩ := H
        go_wp2
        go_ret2
        exact ⟨by first | rfl | (simp; done) | (simp [*]; done), by repeat (first | exact Drawn0.refl _ | apply Drawn0.step)⟩

/-! ### spec_jDaily: function 53 -/
def spec_jDaily.f (a0 : ByteArray) : Option (Bool) := if a0.toList = ([68] : List UInt8) then (some true) else (if a0.toList = ([77] : List UInt8) then (some true) else (if a0.toList = ([77, 68] : List UInt8) then (some true) else (if a0.toList = ([89] : List UInt8) then (some true) else (if a0.toList = ([89, 77] : List UInt8) then (some true) else (if a0.toList = ([89, 77, 68] : List UInt8) then (some true) else (some false))))))
set_option maxHeartbeats 8000000 in
set_option maxRecDepth 100000 in
theorem spec_jDaily.calls (a0 : ByteArray) (r : Bool) (w : World) (h : spec_jDaily.f a0 = some r) :
    Calls Try.prog 53 #[.string a0] w fun e w' => e = .returned (.bool r) ∧ Drawn0 w w' := by
  have H : (if a0.toList = ([68] : List UInt8) then (some true) else (if a0.toList = ([77] : List UInt8) then (some true) else (if a0.toList = ([77, 68] : List UInt8) then (some true) else (if a0.toList = ([89] : List UInt8) then (some true) else (if a0.toList = ([89, 77] : List UInt8) then (some true) else (if a0.toList = ([89, 77, 68] : List UInt8) then (some true) else (some false))))))) = some r := h
  clear h
  by_cases c2 : a0.toList = ([68] : List UInt8)
  · rw [if_pos c2] at H
    have c2b0 : (a0.toList == ([68] : List UInt8)) = true := beq_iff_eq.mpr c2
    have c2b1 : (a0.toList != ([68] : List UInt8)) = false := bne_eq_false_iff_eq.mpr c2
    clear c2
    obtain rfl := Option.some.inj H
    go_enter Try.func53, Try.ntmps53
    go_wp2
    go_ret
    exact ⟨by first | rfl | (simp; done) | (simp [*]; done), by repeat (first | exact Drawn0.refl _ | apply Drawn0.step)⟩
  · rw [if_neg c2] at H
    have c2b0 : (a0.toList == ([68] : List UInt8)) = false := beq_eq_false_iff_ne.mpr c2
    have c2b1 : (a0.toList != ([68] : List UInt8)) = true := bne_iff_ne.mpr c2
    by_cases c3 : a0.toList = ([77] : List UInt8)
    · rw [if_pos c3] at H
      have c3b0 : (a0.toList == ([77] : List UInt8)) = true := beq_iff_eq.mpr c3
      have c3b1 : (a0.toList != ([77] : List UInt8)) = false := bne_eq_false_iff_eq.mpr c3
      clear c3
      obtain rfl := Option.some.inj H
      go_enter Try.func53, Try.ntmps53
      go_wp2
      go_ret
      exact ⟨by first | rfl | (simp; done) | (simp [*]; done), by repeat (first | exact Drawn0.refl _ | apply Drawn0.step)⟩
    · rw [if_neg c3] at H
      have c3b0 : (a0.toList == ([77] : List UInt8)) = false := beq_eq_false_iff_ne.mpr c3
      have c3b1 : (a0.toList != ([77] : List UInt8)) = true := bne_iff_ne.mpr c3
      by_cases c4 : a0.toList = ([77, 68] : List UInt8)
      · rw [if_pos c4] at H
        have c4b0 : (a0.toList == ([77, 68] : List UInt8)) = true := beq_iff_eq.mpr c4
        have c4b1 : (a0.toList != ([77, 68] : List UInt8)) = false := bne_eq_false_iff_eq.mpr c4
        clear c4
        obtain rfl := Option.some.inj H
        go_enter Try.func53, Try.ntmps53
        go_wp2
        go_ret
        exact ⟨by first | rfl | (simp; done) | (simp [*]; done), by repeat (first | exact Drawn0.refl _ | apply Drawn0.step)⟩
      · rw [if_neg c4] at H
        have c4b0 : (a0.toList == ([77, 68] : List UInt8)) = false := beq_eq_false_iff_ne.mpr c4
        have c4b1 : (a0.toList != ([77, 68] : List UInt8)) = true := bne_iff_ne.mpr c4
        by_cases c5 : a0.toList = ([89] : List UInt8)
        · rw [if_pos c5] at H
          have c5b0 : (a0.toList == ([89] : List UInt8)) = true := beq_iff_eq.mpr c5
          have c5b1 : (a0.toList != ([89] : List UInt8)) = false := bne_eq_false_iff_eq.mpr c5
          clear c5
          obtain rfl := Option.some.inj H
          go_enter Try.func53, Try.ntmps53
          go_wp2
          go_ret
          exact ⟨by first | rfl | (simp; done) | (simp [*]; done), by repeat (first | exact Drawn0.refl _ | apply Drawn0.step)⟩
        · rw [if_neg c5] at H
          have c5b0 : (a0.toList == ([89] : List UInt8)) = false := beq_eq_false_iff_ne.mpr c5
          have c5b1 : (a0.toList != ([89] : List UInt8)) = true := bne_iff_ne.mpr c5
          by_cases c6 : a0.toList = ([89, 77] : List UInt8)
          · rw [if_pos c6] at H
            have c6b0 : (a0.toList == ([89, 77] : List UInt8)) = true := beq_iff_eq.mpr c6
            have c6b1 : (a0.toList != ([89, 77] : List UInt8)) = false := bne_eq_false_iff_eq.mpr c6
            clear c6
            obtain rfl := Option.some.inj H
            go_enter Try.func53, Try.ntmps53
            go_wp2
            go_ret
            exact ⟨by first | rfl | (simp; done) | (simp [*]; done), by repeat (first | exact Drawn0.refl _ | apply Drawn0.step)⟩
          · rw [if_neg c6] at H
            have c6b0 : (a0.toList == ([89, 77] : List UInt8)) = false := beq_eq_false_iff_ne.mpr c6
            have c6b1 : (a0.toList != ([89, 77] : List UInt8)) = true := bne_iff_ne.mpr c6
            by_cases c7 : a0.toList = ([89, 77, 68] : List UInt8)
            · rw [if_pos c7] at H
              have c7b0 : (a0.toList == ([89, 77, 68] : List UInt8)) = true := beq_iff_eq.mpr c7
              have c7b1 : (a0.toList != ([89, 77, 68] : List UInt8)) = false := bne_eq_false_iff_eq.mpr c7
              clear c7
              obtain rfl := Option.some.inj H
              go_enter Try.func53, Try.ntmps53
              go_wp2
              go_ret
              exact ⟨by first | rfl | (simp; done) | (simp [*]; done), by repeat (first | exact Drawn0.refl _ | apply Drawn0.step)⟩
            · rw [if_neg c7] at H
              have c7b0 : (a0.toList == ([89, 77, 68] : List UInt8)) = false := beq_eq_false_iff_ne.mpr c7
              have c7b1 : (a0.toList != ([89, 77, 68] : List UInt8)) = true := bne_iff_ne.mpr c7
              obtain rfl := Option.some.inj H
              go_enter Try.func53, Try.ntmps53
              go_wp2
              go_ret
              exact ⟨by first | rfl | (simp; done) | (simp [*]; done), by repeat (first | exact Drawn0.refl _ | apply Drawn0.step)⟩

/-! ### spec_jHourly: function 54 -/
def spec_jHourly.f (a0 : ByteArray) : Option (Bool) := if a0.toList = ([83] : List UInt8) then (some true) else (if a0.toList = ([77] : List UInt8) then (some true) else (if a0.toList = ([77, 83] : List UInt8) then (some true) else (if a0.toList = ([72] : List UInt8) then (some true) else (if a0.toList = ([72, 77] : List UInt8) then (some true) else (if a0.toList = ([72, 77, 83] : List UInt8) then (some true) else (some false))))))
set_option maxHeartbeats 8000000 in
set_option maxRecDepth 100000 in
theorem spec_jHourly.calls (a0 : ByteArray) (r : Bool) (w : World) (h : spec_jHourly.f a0 = some r) :
    Calls Try.prog 54 #[.string a0] w fun e w' => e = .returned (.bool r) ∧ Drawn0 w w' := by
  have H : (if a0.toList = ([83] : List UInt8) then (some true) else (if a0.toList = ([77] : List UInt8) then (some true) else (if a0.toList = ([77, 83] : List UInt8) then (some true) else (if a0.toList = ([72] : List UInt8) then (some true) else (if a0.toList = ([72, 77] : List UInt8) then (some true) else (if a0.toList = ([72, 77, 83] : List UInt8) then (some true) else (some false))))))) = some r := h
  clear h
  by_cases c2 : a0.toList = ([83] : List UInt8)
  · rw [if_pos c2] at H
    have c2b0 : (a0.toList == ([83] : List UInt8)) = true := beq_iff_eq.mpr c2
    have c2b1 : (a0.toList != ([83] : List UInt8)) = false := bne_eq_false_iff_eq.mpr c2
    clear c2
    obtain rfl := Option.some.inj H
    go_enter Try.func54, Try.ntmps54
    go_wp2
    go_ret
    exact ⟨by first | rfl | (simp; done) | (simp [*]; done), by repeat (first | exact Drawn0.refl _ | apply Drawn0.step)⟩
  · rw [if_neg c2] at H
    have c2b0 : (a0.toList == ([83] : List UInt8)) = false := beq_eq_false_iff_ne.mpr c2
    have c2b1 : (a0.toList != ([83] : List UInt8)) = true := bne_iff_ne.mpr c2
    by_cases c3 : a0.toList = ([77] : List UInt8)
    · rw [if_pos c3] at H
      have c3b0 : (a0.toList == ([77] : List UInt8)) = true := beq_iff_eq.mpr c3
      have c3b1 : (a0.toList != ([77] : List UInt8)) = false := bne_eq_false_iff_eq.mpr c3
      clear c3
      obtain rfl := Option.some.inj H
      go_enter Try.func54, Try.ntmps54
      go_wp2
      go_ret
      exact ⟨by first | rfl | (simp; done) | (simp [*]; done), by repeat (first | exact Drawn0.refl _ | apply Drawn0.step)⟩
    · rw [if_neg c3] at H
      have c3b0 : (a0.toList == ([77] : List UInt8)) = false := beq_eq_false_iff_ne.mpr c3
      have c3b1 : (a0.toList != ([77] : List UInt8)) = true := bne_iff_ne.mpr c3
      by_cases c4 : a0.toList = ([77, 83] : List UInt8)
      · rw [if_pos c4] at H
        have c4b0 : (a0.toList == ([77, 83] : List UInt8)) = true := beq_iff_eq.mpr c4
        have c4b1 : (a0.toList != ([77, 83] : List UInt8)) = false := bne_eq_false_iff_eq.mpr c4
        clear c4
        obtain rfl := Option.some.inj H
        go_enter Try.func54, Try.ntmps54
        go_wp2
        go_ret
        exact ⟨by first | rfl | (simp; done) | (simp [*]; done), by repeat (first | exact Drawn0.refl _ | apply Drawn0.step)⟩
      · rw [if_neg c4] at H
        have c4b0 : (a0.toList == ([77, 83] : List UInt8)) = false := beq_eq_false_iff_ne.mpr c4
        have c4b1 : (a0.toList != ([77, 83] : List UInt8)) = true := bne_iff_ne.mpr c4
        by_cases c5 : a0.toList = ([72] : List UInt8)
        · rw [if_pos c5] at H
          have c5b0 : (a0.toList == ([72] : List UInt8)) = true := beq_iff_eq.mpr c5
          have c5b1 : (a0.toList != ([72] : List UInt8)) = false := bne_eq_false_iff_eq.mpr c5
          clear c5
          obtain rfl := Option.some.inj H
          go_enter Try.func54, Try.ntmps54
          go_wp2
          go_ret
          exact ⟨by first | rfl | (simp; done) | (simp [*]; done), by repeat (first | exact Drawn0.refl _ | apply Drawn0.step)⟩
        · rw [if_neg c5] at H
          have c5b0 : (a0.toList == ([72] : List UInt8)) = false := beq_eq_false_iff_ne.mpr c5
          have c5b1 : (a0.toList != ([72] : List UInt8)) = true := bne_iff_ne.mpr c5
          by_cases c6 : a0.toList = ([72, 77] : List UInt8)
          · rw [if_pos c6] at H
            have c6b0 : (a0.toList == ([72, 77] : List UInt8)) = true := beq_iff_eq.mpr c6
            have c6b1 : (a0.toList != ([72, 77] : List UInt8)) = false := bne_eq_false_iff_eq.mpr c6
            clear c6
            obtain rfl := Option.some.inj H
            go_enter Try.func54, Try.ntmps54
            go_wp2
            go_ret
            exact ⟨by first | rfl | (simp; done) | (simp [*]; done), by repeat (first | exact Drawn0.refl _ | apply Drawn0.step)⟩
          · rw [if_neg c6] at H
            have c6b0 : (a0.toList == ([72, 77] : List UInt8)) = false := beq_eq_false_iff_ne.mpr c6
            have c6b1 : (a0.toList != ([72, 77] : List UInt8)) = true := bne_iff_ne.mpr c6
            by_cases c7 : a0.toList = ([72, 77, 83] : List UInt8)
            · rw [if_pos c7] at H
              have c7b0 : (a0.toList == ([72, 77, 83] : List UInt8)) = true := beq_iff_eq.mpr c7
              have c7b1 : (a0.toList != ([72, 77, 83] : List UInt8)) = false := bne_eq_false_iff_eq.mpr c7
              clear c7
              obtain rfl := Option.some.inj H
              go_enter Try.func54, Try.ntmps54
              go_wp2
              go_ret
              exact ⟨by first | rfl | (simp; done) | (simp [*]; done), by repeat (first | exact Drawn0.refl _ | apply Drawn0.step)⟩
            · rw [if_neg c7] at H
              have c7b0 : (a0.toList == ([72, 77, 83] : List UInt8)) = false := beq_eq_false_iff_ne.mpr c7
              have c7b1 : (a0.toList != ([72, 77, 83] : List UInt8)) = true := bne_iff_ne.mpr c7
              obtain rfl := Option.some.inj H
              go_enter Try.func54, Try.ntmps54
              go_wp2
              go_ret
              exact ⟨by first | rfl | (simp; done) | (simp [*]; done), by repeat (first | exact Drawn0.refl _ | apply Drawn0.step)⟩

/-! ### spec_JDuration: function 35 -/
mutual
def spec_JDuration.j0 : Nat → ByteArray → Bool → Option (Bool)
  | 0, _, _ => none
  | k + 1, x0, x15 => if x15 = true then (some false) else (spec_JDuration.l0 k x0 1)
def spec_JDuration.j2 : Nat → ByteArray → Int → Option (Bool)
  | 0, _, _ => none
  | k + 1, x0, x3 => if 1 ≤ x3 then (if x3 ≤ (x0.size : Int) then ((spec_jUnits.f k (x0.extract 1 (x3 : Int).toNat)).bind fun bt120 => (if bt120.2 = true then (if x3 = (x0.size : Int) then ((spec_jDaily.f bt120.1).bind fun t122 => (if t122 = true then (some true) else (some (bt120.1.toList == ([87] : List UInt8))))) else (if 0 ≤ (wrap64 (x3 + 1)) then (if (wrap64 (x3 + 1)) ≤ (x0.size : Int) then ((spec_jUnits.f k (x0.extract ((wrap64 (x3 + 1)) : Int).toNat x0.size)).bind fun bt123 => (if bt123.2 = true then ((spec_jHourly.f bt123.1).bind fun t125 => (if t125 = true then (if bt120.1.toList = ([] : List UInt8) then (some true) else ((spec_jDaily.f bt120.1).bind fun t126 => (some t126))) else (some false))) else (some false))) else (none)) else (none))) else (some false))) else (none)) else (none)
def spec_JDuration.l0 : Nat → ByteArray → Int → Option (Bool)
  | 0, _, _ => none
  | k + 1, x0, x3 => if x3 < (x0.size : Int) then (if 0 ≤ x3 then (if (bt x0 x3) = 84 then (spec_JDuration.j2 k x0 x3) else (spec_JDuration.l0 k x0 (wrap64 (x3 + 1)))) else (none)) else (spec_JDuration.j2 k x0 x3)
end
def spec_JDuration.f (k : Nat) (a0 : ByteArray) : Option (Bool) := if (a0.size : Int) < 3 then (spec_JDuration.j0 k a0 true) else (if 0 < (a0.size : Int) then (spec_JDuration.j0 k a0 ((bt a0 0) != 80)) else (none))
theorem spec_JDuration.mono_l : ∀ k, (∀ y0 y1, LeO (spec_JDuration.j0 k y0 y1) (spec_JDuration.j0 (k + 1) y0 y1)) ∧ (∀ y0 y1, LeO (spec_JDuration.j2 k y0 y1) (spec_JDuration.j2 (k + 1) y0 y1)) ∧ (∀ y0 y1, LeO (spec_JDuration.l0 k y0 y1) (spec_JDuration.l0 (k + 1) y0 y1))
  | 0 => ⟨fun _ _ r h => by simp [spec_JDuration.j0] at h, fun _ _ r h => by simp [spec_JDuration.j2] at h, fun _ _ r h => by simp [spec_JDuration.l0] at h⟩
  | k + 1 => by
    obtain ⟨ih0, ih1, ih2⟩ := spec_JDuration.mono_l k
    refine ⟨?_, ?_, ?_⟩
    · intro y0 y1
      unfold spec_JDuration.j0
      repeat' first
      | (with_reducible exact ih0 _ _)
      | (with_reducible exact ih1 _ _)
      | (with_reducible exact ih2 _ _)
      | (with_reducible exact spec_jUnits.mono _ _)
      | (with_reducible exact LeO.refl _)
      | (with_reducible exact LeO.none _)
      | (with_reducible refine LeO.ite ?_ ?_)
      | (with_reducible refine LeO.bind ?_ (fun _ => ?_))
      | exact ih0 _ _
      | exact ih1 _ _
      | exact ih2 _ _
      | exact spec_jUnits.mono _ _
      | exact LeO.none _
      | refine LeO.ite ?_ ?_
      | refine LeO.bind ?_ (fun _ => ?_)
    · intro y0 y1
      unfold spec_JDuration.j2
      repeat' first
      | (with_reducible exact ih0 _ _)
      | (with_reducible exact ih1 _ _)
      | (with_reducible exact ih2 _ _)
      | (with_reducible exact spec_jUnits.mono _ _)
      | (with_reducible exact LeO.refl _)
      | (with_reducible exact LeO.none _)
      | (with_reducible refine LeO.ite ?_ ?_)
      | (with_reducible refine LeO.bind ?_ (fun _ => ?_))
      | exact ih0 _ _
      | exact ih1 _ _
      | exact ih2 _ _
      | exact spec_jUnits.mono _ _
      | exact LeO.none _
      | refine LeO.ite ?_ ?_
      | refine LeO.bind ?_ (fun _ => ?_)
    · intro y0 y1
      unfold spec_JDuration.l0
      repeat' first
      | (with_reducible exact ih0 _ _)
      | (with_reducible exact ih1 _ _)
      | (with_reducible exact ih2 _ _)
      | (with_reducible exact spec_jUnits.mono _ _)
      | (with_reducible exact LeO.refl _)
      | (with_reducible exact LeO.none _)
      | (with_reducible refine LeO.ite ?_ ?_)
      | (with_reducible refine LeO.bind ?_ (fun _ => ?_))
      | exact ih0 _ _
      | exact ih1 _ _
      | exact ih2 _ _
      | exact spec_jUnits.mono _ _
      | exact LeO.none _
      | refine LeO.ite ?_ ?_
      | refine LeO.bind ?_ (fun _ => ?_)
theorem spec_JDuration.mono : ∀ a0 k, LeO (spec_JDuration.f k a0) (spec_JDuration.f (k + 1) a0) := by
  intro a0 k
  obtain ⟨ih0, ih1, ih2⟩ := spec_JDuration.mono_l k
  unfold spec_JDuration.f
  repeat' first
      | (with_reducible exact ih0 _ _)
      | (with_reducible exact ih1 _ _)
      | (with_reducible exact ih2 _ _)
      | (with_reducible exact spec_jUnits.mono _ _)
      | (with_reducible exact LeO.refl _)
      | (with_reducible exact LeO.none _)
      | (with_reducible refine LeO.ite ?_ ?_)
      | (with_reducible refine LeO.bind ?_ (fun _ => ?_))
      | exact ih0 _ _
      | exact ih1 _ _
      | exact ih2 _ _
      | exact spec_jUnits.mono _ _
      | exact LeO.none _
      | refine LeO.ite ?_ ?_
      | refine LeO.bind ?_ (fun _ => ?_)
set_option maxHeartbeats 8000000 in
set_option maxRecDepth 100000 in
theorem spec_JDuration.calls (k : Nat) (a0 : ByteArray) (r : Bool) (w : World) (h : spec_JDuration.f k a0 = some r) :
    Calls Try.prog 35 #[.string a0] w fun e w' => e = .returned (.bool r) ∧ Drawn0 w w' := by
  have H : (if (a0.size : Int) < 3 then (spec_JDuration.j0 k a0 true) else (if 0 < (a0.size : Int) then (spec_JDuration.j0 k a0 ((bt a0 0) != 80)) else (none))) = some r := h
  clear h
  have HC2 := Aside0.mk H
  clear H
  go_enter Try.func35, Try.ntmps35
  go_upto_region 1 with (fail)
  go_cut [15] (fun v15 wc => ∃ (kq : Nat) (x15_1 : Bool), v15 = .bool x15_1 ∧ Aside0 (spec_JDuration.j0 kq a0 x15_1 = some r) ∧ Aside0 (kq ≤ k) ∧ Drawn0 w wc)
  case first =>
    have H := HC2.out
    clear HC2
    by_cases c3 : (a0.size : Int) < 3
    · rw [if_pos c3] at H
      have c3b0 : decide ((a0.size : Int) < 3) = true := decide_eq_true c3
      have c3b1 : decide (a0.size < 3) = true := decide_eq_true (by omega)
      clear c3
      (first | rw [c3b0] | (simp only [i64_w, i32_w]; rw [c3b0]) | skip)
      have H' := Aside0.mk H
      clear H
      go_wp2
      go_meet
      case rel => exact ⟨_, (true), (by first | rfl | (simp; done) | (simp [*]; done)), H', ⟨by first | omega | exact Nat.le_refl _⟩, by repeat (first | exact Drawn0.refl _ | apply Drawn0.step)⟩
    · rw [if_neg c3] at H
      have c3b0 : decide ((a0.size : Int) < 3) = false := decide_eq_false c3
      have c3b1 : decide (a0.size < 3) = false := decide_eq_false (by omega)
      clear c3
      (first | rw [c3b0] | (simp only [i64_w, i32_w]; rw [c3b0]) | skip)
      by_cases c4 : 0 < (a0.size : Int)
      · rw [if_pos c4] at H
        have c4b0 : decide (0 < (a0.size : Int)) = true := decide_eq_true c4
        have c4b1 : decide (0 < a0.size) = true := decide_eq_true (by omega)
        clear c4
        have H' := Aside0.mk H
        clear H
        have p5 : 0 ≤ (0 : Int) := (by omega)
        have q5 : 0 < a0.size := (by have : (0 : Int) < (a0.size : Int) := of_decide_eq_true (by first | (with_reducible assumption) | assumption); omega)
        have hx5 : ∀ h : 0 < a0.size, ((a0[0]'h).toNat : Int) = bt a0 0 := bt_at a0 0
        clear p5
        have qi5 : (0 < (a0.size : Int)) = True := eq_true (of_decide_eq_true (by first | (with_reducible assumption) | assumption))
        replace q5 := eq_true q5
        go_wp2
        go_meet
        case rel => exact ⟨_, (((bt a0 0) != 80)), (by first | rfl | (simp; done) | (simp [*]; done)), H', ⟨by first | omega | exact Nat.le_refl _⟩, by repeat (first | exact Drawn0.refl _ | apply Drawn0.step)⟩
      · rw [if_neg c4] at H
        exact absurd H (by simp)
  case rest =>
    clear HC2
    try clear p2
    try clear c3
    try clear c3b0
    try clear c3b1
    try clear c4
    try clear c4b0
    try clear c4b1
    try clear p5
    try clear q5
    try clear hx5
    try clear qi5
    try clear p5
    try clear q5
    obtain ⟨kq, x15_1, rfl, HA, HJ1, ⟨mc1, rfl⟩⟩ := hcut
    cases kq with
    | zero => exact absurd HA.out (by simp [spec_JDuration.j0])
    | succ kj1 =>
      have H := HA.out
      clear HA
      simp only [spec_JDuration.j0] at H
      by_cases c6 : x15_1 = true
      · subst c6
        have H1 : (some false) = some r := by rw [if_pos rfl] at H; exact H
        clear H
        have H := H1
        clear H1
        obtain rfl := Option.some.inj H
        go_wp2
        go_ret
        exact ⟨by first | rfl | (simp; done) | (simp [*]; done), by repeat (first | exact Drawn0.refl _ | apply Drawn0.step)⟩
      · replace c6 := Bool.eq_false_iff.mpr c6
        subst c6
        have H1 : (spec_JDuration.l0 kj1 a0 1) = some r := by rw [if_neg (show ¬ (false = true) by decide)] at H; exact H
        clear H
        have H := H1
        clear H1
        have HC7 := Aside0.mk H
        clear H
        go_upto_block 0 with (fail)
        go_cut [3] (fun v3 wc => ∃ (kq : Nat) (x3_6 : Int), v3 = .int .i64 x3_6 ∧ Aside0 (spec_JDuration.j2 kq a0 x3_6 = some r) ∧ Aside0 (kq ≤ kj1) ∧ Drawn0 w wc)
        case first =>
          have H := HC7.out
          clear HC7
          have H' := Aside0.mk H
          clear H
          go_wp2
          go_loopg [3] kj1 (fun kq v3 w' => ∃ (x3_2 : Int), v3 = .int .i64 x3_2 ∧ Aside0 (spec_JDuration.l0 kq a0 x3_2 = some r) ∧ Aside0 (kq ≤ kj1) ∧ Drawn0 w w')
          case atStart => exact ⟨(1), (by first | rfl | (simp; done) | (simp [*]; done)), H', ⟨Nat.le_refl _⟩, by repeat (first | exact Drawn0.refl _ | apply Drawn0.step)⟩
          case round =>
            clear H'
            try clear c1
            try clear p2
            try clear c3
            try clear c3b0
            try clear c3b1
            try clear c4
            try clear c4b0
            try clear c4b1
            try clear p5
            try clear q5
            try clear hx5
            try clear qi5
            try clear c6
            try clear p2
            try clear p5
            try clear q5
            obtain ⟨x3_2, rfl, HA, HK2, ⟨m2, rfl⟩⟩ := hrel
            cases gk with
            | zero => exact absurd HA.out (by simp [spec_JDuration.l0])
            | succ k2 =>
              have H := HA.out
              clear HA
              simp only [spec_JDuration.l0] at H
              by_cases c8 : x3_2 < (a0.size : Int)
              · rw [if_pos c8] at H
                have c8b0 : decide (x3_2 < (a0.size : Int)) = true := decide_eq_true c8
                clear c8
                (first | rw [c8b0] | (simp only [i64_w, i32_w]; rw [c8b0]) | skip)
                by_cases c9 : 0 ≤ x3_2
                · rw [if_pos c9] at H
                  have c9b0 : decide (0 ≤ x3_2) = true := decide_eq_true c9
                  clear c9
                  by_cases c11 : (bt a0 x3_2) = 84
                  · rw [if_pos c11] at H
                    have c11b0 : ((bt a0 x3_2) == 84) = true := beq_iff_eq.mpr c11
                    have c11b1 : ((bt a0 x3_2) != 84) = false := bne_eq_false_iff_eq.mpr c11
                    clear c11
                    have H' := Aside0.mk H
                    clear H
                    have p10 : 0 ≤ (x3_2 : Int) := of_decide_eq_true (by first | (with_reducible assumption) | assumption)
                    have q10 : x3_2 < (a0.size : Int) := of_decide_eq_true (by first | (with_reducible assumption) | assumption)
                    have hx10 := bt_at a0 x3_2
                    replace p10 := eq_true p10
                    replace q10 := eq_true q10
                    go_wp2
                    go_meet
                    case rel => exact ⟨_, (x3_2), (by first | rfl | (simp; done) | (simp [*]; done)), H', ⟨by have := HJ1.out; have := HK2.out; first | omega | exact Nat.le_refl _⟩, by repeat (first | exact Drawn0.refl _ | apply Drawn0.step)⟩
                  · rw [if_neg c11] at H
                    have c11b0 : ((bt a0 x3_2) == 84) = false := beq_eq_false_iff_ne.mpr c11
                    have c11b1 : ((bt a0 x3_2) != 84) = true := bne_iff_ne.mpr c11
                    have H' := Aside0.mk H
                    clear H
                    have p10 : 0 ≤ (x3_2 : Int) := of_decide_eq_true (by first | (with_reducible assumption) | assumption)
                    have q10 : x3_2 < (a0.size : Int) := of_decide_eq_true (by first | (with_reducible assumption) | assumption)
                    have hx10 := bt_at a0 x3_2
                    replace p10 := eq_true p10
                    replace q10 := eq_true q10
                    go_wp2
                    go_roundg k2
                    case measure => have := HJ1.out; have := HK2.out; omega
                    case rel => exact ⟨(wrap64 (x3_2 + 1)), (by first | rfl | (simp; done) | (simp [*]; done)), H', ⟨by have := HJ1.out; have := HK2.out; omega⟩, by repeat (first | exact Drawn0.refl _ | apply Drawn0.step)⟩
                · rw [if_neg c9] at H
                  exact absurd H (by simp)
              · rw [if_neg c8] at H
                have c8b0 : decide (x3_2 < (a0.size : Int)) = false := decide_eq_false c8
                clear c8
                (first | rw [c8b0] | (simp only [i64_w, i32_w]; rw [c8b0]) | skip)
                have H' := Aside0.mk H
                clear H
                go_wp2
                go_meet
                case rel => exact ⟨_, (x3_2), (by first | rfl | (simp; done) | (simp [*]; done)), H', ⟨by have := HJ1.out; have := HK2.out; first | omega | exact Nat.le_refl _⟩, by repeat (first | exact Drawn0.refl _ | apply Drawn0.step)⟩
        case rest =>
          clear HC7
          try clear c1
          try clear p1
          try clear q1
          try clear hx1
          try clear p2
          try clear c3
          try clear c3b0
          try clear c3b1
          try clear c4
          try clear c4b0
          try clear c4b1
          try clear p5
          try clear q5
          try clear hx5
          try clear qi5
          try clear c6
          try clear p6
          try clear c8
          try clear c8b0
          try clear c9
          try clear c9b0
          try clear p10
          try clear q10
          try clear hx10
          try clear c11
          try clear c11b0
          try clear c11b1
          try clear p10
          try clear p2
          try clear p5
          try clear q10
          try clear q5
          obtain ⟨kq, x3_6, rfl, HA, HJ6, ⟨mc6, rfl⟩⟩ := hcut
          cases kq with
          | zero => exact absurd HA.out (by simp [spec_JDuration.j2])
          | succ kj6 =>
            have H := HA.out
            clear HA
            simp only [spec_JDuration.j2] at H
            by_cases c12 : 1 ≤ x3_6
            · rw [if_pos c12] at H
              have c12b0 := eq_true c12
              have c12b1 : decide (1 ≤ x3_6) = true := decide_eq_true c12
              clear c12
              by_cases c13 : x3_6 ≤ (a0.size : Int)
              · rw [if_pos c13] at H
                have c13b0 := eq_true c13
                have c13b1 : decide (x3_6 ≤ (a0.size : Int)) = true := decide_eq_true c13
                clear c13
                replace H := Option.bind_eq_some_iff.mp H
                obtain ⟨⟨t120, t121⟩, A140, H⟩ := H
                replace H : (if t121 = true then (if x3_6 = (a0.size : Int) then ((spec_jDaily.f t120).bind fun t122 => (if t122 = true then (some true) else (some (t120.toList == ([87] : List UInt8))))) else (if 0 ≤ (wrap64 (x3_6 + 1)) then (if (wrap64 (x3_6 + 1)) ≤ (a0.size : Int) then ((spec_jUnits.f kj6 (a0.extract ((wrap64 (x3_6 + 1)) : Int).toNat a0.size)).bind fun bt123 => (if bt123.2 = true then ((spec_jHourly.f bt123.1).bind fun t125 => (if t125 = true then (if t120.toList = ([] : List UInt8) then (some true) else ((spec_jDaily.f t120).bind fun t126 => (some t126))) else (some false))) else (some false))) else (none)) else (none))) else (some false)) = some r := H
                have A14 := Aside0.mk A140
                clear A140
                by_cases c15 : t121 = true
                · subst c15
                  have H1 : (if x3_6 = (a0.size : Int) then ((spec_jDaily.f t120).bind fun t122 => (if t122 = true then (some true) else (some (t120.toList == ([87] : List UInt8))))) else (if 0 ≤ (wrap64 (x3_6 + 1)) then (if (wrap64 (x3_6 + 1)) ≤ (a0.size : Int) then ((spec_jUnits.f kj6 (a0.extract ((wrap64 (x3_6 + 1)) : Int).toNat a0.size)).bind fun bt123 => (if bt123.2 = true then ((spec_jHourly.f bt123.1).bind fun t125 => (if t125 = true then (if t120.toList = ([] : List UInt8) then (some true) else ((spec_jDaily.f t120).bind fun t126 => (some t126))) else (some false))) else (some false))) else (none)) else (none))) = some r := by rw [if_pos rfl] at H; exact H
                  clear H
                  have H := H1
                  clear H1
                  by_cases c16 : x3_6 = (a0.size : Int)
                  · rw [if_pos c16] at H
                    have c16b0 : (x3_6 == (a0.size : Int)) = true := beq_iff_eq.mpr c16
                    have c16b1 : (x3_6 != (a0.size : Int)) = false := bne_eq_false_iff_eq.mpr c16
                    clear c16
                    replace H := Option.bind_eq_some_iff.mp H
                    obtain ⟨t122, A170, H⟩ := H
                    replace H : (if t122 = true then (some true) else (some (t120.toList == ([87] : List UInt8)))) = some r := H
                    have A17 := Aside0.mk A170
                    clear A170
                    by_cases c18 : t122 = true
                    · subst c18
                      have H1 : (some true) = some r := by rw [if_pos rfl] at H; exact H
                      clear H
                      have H := H1
                      clear H1
                      obtain rfl := Option.some.inj H
                      go_wp2_with (first | ((with_reducible refine gate_callee (f := 52) rfl ?_); refine goesL_ (some 32) rfl rfl Try.func52 (by kernel_rfl) rfl #[.string (a0.extract 1 (x3_6 : Int).toNat)] rfl (by (try simp only [List.map_toArray, List.map_cons, List.map_nil]); first | done | rfl | (simp only [List.length_drop, List.length_take]; rfl)) ?_; (with_reducible refine (spec_jUnits.calls kj6 (a0.extract 1 (x3_6 : Int).toNat) t120 true _ A14.out).mono ?_); rintro e w' ⟨rfl, ⟨nd, rfl⟩⟩; refine ⟨_, rfl, ?_⟩) | ((with_reducible refine gate_callee (f := 53) rfl ?_); refine goesL_ (some 42) rfl rfl Try.func53 (by kernel_rfl) rfl #[.string t120] rfl (by (try simp only [List.map_toArray, List.map_cons, List.map_nil]); first | done | rfl | (simp only [List.length_drop, List.length_take]; rfl)) ?_; (with_reducible refine (spec_jDaily.calls t120 true _ A17.out).mono ?_); rintro e w' ⟨rfl, ⟨nd, rfl⟩⟩; refine ⟨_, rfl, ?_⟩))
                      go_ret
                      exact ⟨by first | rfl | (simp; done) | (simp [*]; done), by repeat (first | exact Drawn0.refl _ | apply Drawn0.step)⟩
                    · replace c18 := Bool.eq_false_iff.mpr c18
                      subst c18
                      have H1 : (some (t120.toList == ([87] : List UInt8))) = some r := by rw [if_neg (show ¬ (false = true) by decide)] at H; exact H
                      clear H
                      have H := H1
                      clear H1
                      obtain rfl := Option.some.inj H
                      go_wp2_with (first | ((with_reducible refine gate_callee (f := 52) rfl ?_); refine goesL_ (some 32) rfl rfl Try.func52 (by kernel_rfl) rfl #[.string (a0.extract 1 (x3_6 : Int).toNat)] rfl (by (try simp only [List.map_toArray, List.map_cons, List.map_nil]); first | done | rfl | (simp only [List.length_drop, List.length_take]; rfl)) ?_; (with_reducible refine (spec_jUnits.calls kj6 (a0.extract 1 (x3_6 : Int).toNat) t120 true _ A14.out).mono ?_); rintro e w' ⟨rfl, ⟨nd, rfl⟩⟩; refine ⟨_, rfl, ?_⟩) | ((with_reducible refine gate_callee (f := 53) rfl ?_); refine goesL_ (some 42) rfl rfl Try.func53 (by kernel_rfl) rfl #[.string t120] rfl (by (try simp only [List.map_toArray, List.map_cons, List.map_nil]); first | done | rfl | (simp only [List.length_drop, List.length_take]; rfl)) ?_; (with_reducible refine (spec_jDaily.calls t120 false _ A17.out).mono ?_); rintro e w' ⟨rfl, ⟨nd, rfl⟩⟩; refine ⟨_, rfl, ?_⟩))
                      go_ret
                      exact ⟨by first | rfl | (simp; done) | (simp [*]; done), by repeat (first | exact Drawn0.refl _ | apply Drawn0.step)⟩
                  · rw [if_neg c16] at H
                    have c16b0 : (x3_6 == (a0.size : Int)) = false := beq_eq_false_iff_ne.mpr c16
                    have c16b1 : (x3_6 != (a0.size : Int)) = true := bne_iff_ne.mpr c16
                    obtain ⟨ji19, hji19⟩ : ∃ j_ : Int, (wrap64 (x3_6 + 1)) = j_ := ⟨_, rfl⟩
                    replace H : (if 0 ≤ (ji19) then (if (ji19) ≤ (a0.size : Int) then ((spec_jUnits.f kj6 (a0.extract ((ji19) : Int).toNat a0.size)).bind fun bt123 => (if bt123.2 = true then ((spec_jHourly.f bt123.1).bind fun t125 => (if t125 = true then (if t120.toList = ([] : List UInt8) then (some true) else ((spec_jDaily.f t120).bind fun t126 => (some t126))) else (some false))) else (some false))) else (none)) else (none)) = some r := by first | (rw [hji19] at H; exact H) | (simp only [hji19] at H ⊢; exact H)
                    (try rw [hji19] at A14)
                    have hji19w : (IntKind.i64.wrap (x3_6 + 1)) = ji19 := (i64_w _).trans hji19
                    by_cases c20 : 0 ≤ (ji19)
                    · rw [if_pos c20] at H
                      have c20b0 := eq_true c20
                      have c20b1 : decide (0 ≤ (ji19)) = true := decide_eq_true c20
                      clear c20
                      by_cases c21 : (ji19) ≤ (a0.size : Int)
                      · rw [if_pos c21] at H
                        have c21b0 := eq_true c21
                        have c21b1 : decide ((ji19) ≤ (a0.size : Int)) = true := decide_eq_true c21
                        clear c21
                        replace H := Option.bind_eq_some_iff.mp H
                        obtain ⟨⟨t123, t124⟩, A220, H⟩ := H
                        replace H : (if t124 = true then ((spec_jHourly.f t123).bind fun t125 => (if t125 = true then (if t120.toList = ([] : List UInt8) then (some true) else ((spec_jDaily.f t120).bind fun t126 => (some t126))) else (some false))) else (some false)) = some r := H
                        have A22 := Aside0.mk A220
                        clear A220
                        by_cases c23 : t124 = true
                        · subst c23
                          have H1 : ((spec_jHourly.f t123).bind fun t125 => (if t125 = true then (if t120.toList = ([] : List UInt8) then (some true) else ((spec_jDaily.f t120).bind fun t126 => (some t126))) else (some false))) = some r := by rw [if_pos rfl] at H; exact H
                          clear H
                          have H := H1
                          clear H1
                          replace H := Option.bind_eq_some_iff.mp H
                          obtain ⟨t125, A240, H⟩ := H
                          replace H : (if t125 = true then (if t120.toList = ([] : List UInt8) then (some true) else ((spec_jDaily.f t120).bind fun t126 => (some t126))) else (some false)) = some r := H
                          have A24 := Aside0.mk A240
                          clear A240
                          by_cases c25 : t125 = true
                          · subst c25
                            have H1 : (if t120.toList = ([] : List UInt8) then (some true) else ((spec_jDaily.f t120).bind fun t126 => (some t126))) = some r := by rw [if_pos rfl] at H; exact H
                            clear H
                            have H := H1
                            clear H1
                            by_cases c26 : t120.toList = ([] : List UInt8)
                            · rw [if_pos c26] at H
                              have c26b0 : (t120.toList == ([] : List UInt8)) = true := beq_iff_eq.mpr c26
                              have c26b1 : (t120.toList != ([] : List UInt8)) = false := bne_eq_false_iff_eq.mpr c26
                              clear c26
                              obtain rfl := Option.some.inj H
                              go_wp2_with (first | ((with_reducible refine gate_callee (f := 52) rfl ?_); refine goesL_ (some 32) rfl rfl Try.func52 (by kernel_rfl) rfl #[.string (a0.extract 1 (x3_6 : Int).toNat)] rfl (by (try simp only [List.map_toArray, List.map_cons, List.map_nil]); first | done | rfl | (simp only [List.length_drop, List.length_take]; rfl)) ?_; (with_reducible refine (spec_jUnits.calls kj6 (a0.extract 1 (x3_6 : Int).toNat) t120 true _ A14.out).mono ?_); rintro e w' ⟨rfl, ⟨nd, rfl⟩⟩; refine ⟨_, rfl, ?_⟩) | ((with_reducible refine gate_callee (f := 52) rfl ?_); refine goesL_ (some 52) rfl rfl Try.func52 (by kernel_rfl) rfl #[.string (a0.extract ((ji19) : Int).toNat a0.size)] rfl (by (try simp only [List.map_toArray, List.map_cons, List.map_nil]); first | done | (simp only [hji19]; rfl) | rfl | (simp only [List.length_drop, List.length_take]; rfl)) ?_; (with_reducible refine (spec_jUnits.calls kj6 (a0.extract ((ji19) : Int).toNat a0.size) t123 true _ A22.out).mono ?_); rintro e w' ⟨rfl, ⟨nd, rfl⟩⟩; refine ⟨_, rfl, ?_⟩) | (go_at_call 54; (with_reducible refine (spec_jHourly.calls t123 true _ A24.out).mono ?_); rintro e w' ⟨rfl, ⟨nd, rfl⟩⟩))
                              go_ret
                              exact ⟨by first | rfl | (simp; done) | (simp only [← hji19] <;> (first | rfl | simp)) | (simp [*]; done), by repeat (first | exact Drawn0.refl _ | apply Drawn0.step)⟩
                            · rw [if_neg c26] at H
                              have c26b0 : (t120.toList == ([] : List UInt8)) = false := beq_eq_false_iff_ne.mpr c26
                              have c26b1 : (t120.toList != ([] : List UInt8)) = true := bne_iff_ne.mpr c26
                              replace H := Option.bind_eq_some_iff.mp H
                              obtain ⟨t126, A270, H⟩ := H
                              replace H : (some t126) = some r := H
                              have A27 := Aside0.mk A270
                              clear A270
                              obtain rfl := Option.some.inj H
                              go_wp2_with (first | ((with_reducible refine gate_callee (f := 52) rfl ?_); refine goesL_ (some 32) rfl rfl Try.func52 (by kernel_rfl) rfl #[.string (a0.extract 1 (x3_6 : Int).toNat)] rfl (by (try simp only [List.map_toArray, List.map_cons, List.map_nil]); first | done | rfl | (simp only [List.length_drop, List.length_take]; rfl)) ?_; (with_reducible refine (spec_jUnits.calls kj6 (a0.extract 1 (x3_6 : Int).toNat) t120 true _ A14.out).mono ?_); rintro e w' ⟨rfl, ⟨nd, rfl⟩⟩; refine ⟨_, rfl, ?_⟩) | ((with_reducible refine gate_callee (f := 52) rfl ?_); refine goesL_ (some 52) rfl rfl Try.func52 (by kernel_rfl) rfl #[.string (a0.extract ((ji19) : Int).toNat a0.size)] rfl (by (try simp only [List.map_toArray, List.map_cons, List.map_nil]); first | done | (simp only [hji19]; rfl) | rfl | (simp only [List.length_drop, List.length_take]; rfl)) ?_; (with_reducible refine (spec_jUnits.calls kj6 (a0.extract ((ji19) : Int).toNat a0.size) t123 true _ A22.out).mono ?_); rintro e w' ⟨rfl, ⟨nd, rfl⟩⟩; refine ⟨_, rfl, ?_⟩) | (go_at_call 54; (with_reducible refine (spec_jHourly.calls t123 true _ A24.out).mono ?_); rintro e w' ⟨rfl, ⟨nd, rfl⟩⟩) | (go_at_call 53; (with_reducible refine (spec_jDaily.calls t120 t126 _ A27.out).mono ?_); rintro e w' ⟨rfl, ⟨nd, rfl⟩⟩))
                              go_ret
                              exact ⟨by first | rfl | (simp; done) | (simp only [← hji19] <;> (first | rfl | simp)) | (simp [*]; done), by repeat (first | exact Drawn0.refl _ | apply Drawn0.step)⟩
                          · replace c25 := Bool.eq_false_iff.mpr c25
                            subst c25
                            have H1 : (some false) = some r := by rw [if_neg (show ¬ (false = true) by decide)] at H; exact H
                            clear H
                            have H := H1
                            clear H1
                            obtain rfl := Option.some.inj H
                            go_wp2_with (first | ((with_reducible refine gate_callee (f := 52) rfl ?_); refine goesL_ (some 32) rfl rfl Try.func52 (by kernel_rfl) rfl #[.string (a0.extract 1 (x3_6 : Int).toNat)] rfl (by (try simp only [List.map_toArray, List.map_cons, List.map_nil]); first | done | rfl | (simp only [List.length_drop, List.length_take]; rfl)) ?_; (with_reducible refine (spec_jUnits.calls kj6 (a0.extract 1 (x3_6 : Int).toNat) t120 true _ A14.out).mono ?_); rintro e w' ⟨rfl, ⟨nd, rfl⟩⟩; refine ⟨_, rfl, ?_⟩) | ((with_reducible refine gate_callee (f := 52) rfl ?_); refine goesL_ (some 52) rfl rfl Try.func52 (by kernel_rfl) rfl #[.string (a0.extract ((ji19) : Int).toNat a0.size)] rfl (by (try simp only [List.map_toArray, List.map_cons, List.map_nil]); first | done | (simp only [hji19]; rfl) | rfl | (simp only [List.length_drop, List.length_take]; rfl)) ?_; (with_reducible refine (spec_jUnits.calls kj6 (a0.extract ((ji19) : Int).toNat a0.size) t123 true _ A22.out).mono ?_); rintro e w' ⟨rfl, ⟨nd, rfl⟩⟩; refine ⟨_, rfl, ?_⟩) | (go_at_call 54; (with_reducible refine (spec_jHourly.calls t123 false _ A24.out).mono ?_); rintro e w' ⟨rfl, ⟨nd, rfl⟩⟩))
                            go_ret
                            exact ⟨by first | rfl | (simp; done) | (simp only [← hji19] <;> (first | rfl | simp)) | (simp [*]; done), by repeat (first | exact Drawn0.refl _ | apply Drawn0.step)⟩
                        · replace c23 := Bool.eq_false_iff.mpr c23
                          subst c23
                          have H1 : (some false) = some r := by rw [if_neg (show ¬ (false = true) by decide)] at H; exact H
                          clear H
                          have H := H1
                          clear H1
                          obtain rfl := Option.some.inj H
                          go_wp2_with (first | ((with_reducible refine gate_callee (f := 52) rfl ?_); refine goesL_ (some 32) rfl rfl Try.func52 (by kernel_rfl) rfl #[.string (a0.extract 1 (x3_6 : Int).toNat)] rfl (by (try simp only [List.map_toArray, List.map_cons, List.map_nil]); first | done | rfl | (simp only [List.length_drop, List.length_take]; rfl)) ?_; (with_reducible refine (spec_jUnits.calls kj6 (a0.extract 1 (x3_6 : Int).toNat) t120 true _ A14.out).mono ?_); rintro e w' ⟨rfl, ⟨nd, rfl⟩⟩; refine ⟨_, rfl, ?_⟩) | ((with_reducible refine gate_callee (f := 52) rfl ?_); refine goesL_ (some 52) rfl rfl Try.func52 (by kernel_rfl) rfl #[.string (a0.extract ((ji19) : Int).toNat a0.size)] rfl (by (try simp only [List.map_toArray, List.map_cons, List.map_nil]); first | done | (simp only [hji19]; rfl) | rfl | (simp only [List.length_drop, List.length_take]; rfl)) ?_; (with_reducible refine (spec_jUnits.calls kj6 (a0.extract ((ji19) : Int).toNat a0.size) t123 false _ A22.out).mono ?_); rintro e w' ⟨rfl, ⟨nd, rfl⟩⟩; refine ⟨_, rfl, ?_⟩))
                          go_ret
                          exact ⟨by first | rfl | (simp; done) | (simp only [← hji19] <;> (first | rfl | simp)) | (simp [*]; done), by repeat (first | exact Drawn0.refl _ | apply Drawn0.step)⟩
                      · rw [if_neg c21] at H
                        exact absurd H (by simp)
                    · rw [if_neg c20] at H
                      exact absurd H (by simp)
                · replace c15 := Bool.eq_false_iff.mpr c15
                  subst c15
                  have H1 : (some false) = some r := by rw [if_neg (show ¬ (false = true) by decide)] at H; exact H
                  clear H
                  have H := H1
                  clear H1
                  obtain rfl := Option.some.inj H
                  go_wp2_with (first | ((with_reducible refine gate_callee (f := 52) rfl ?_); refine goesL_ (some 32) rfl rfl Try.func52 (by kernel_rfl) rfl #[.string (a0.extract 1 (x3_6 : Int).toNat)] rfl (by (try simp only [List.map_toArray, List.map_cons, List.map_nil]); first | done | rfl | (simp only [List.length_drop, List.length_take]; rfl)) ?_; (with_reducible refine (spec_jUnits.calls kj6 (a0.extract 1 (x3_6 : Int).toNat) t120 false _ A14.out).mono ?_); rintro e w' ⟨rfl, ⟨nd, rfl⟩⟩; refine ⟨_, rfl, ?_⟩))
                  go_ret
                  exact ⟨by first | rfl | (simp; done) | (simp [*]; done), by repeat (first | exact Drawn0.refl _ | apply Drawn0.step)⟩
              · rw [if_neg c13] at H
                exact absurd H (by simp)
            · rw [if_neg c12] at H
              exact absurd H (by simp)

-- NOT PRINTED: function 14 (laws_FnJDuration)

end Go.Proofs.Ytdjmjgdafghdgaa.PFnJDuration
