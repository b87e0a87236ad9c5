-- PRINTED BY print.sh 35421559b90ae4d0a3588c463048766b98c2df88dd9212a6774a882060cdf62d: not written by this session
import Derived.Test.YtabadjidlfpngaaPFnJTypesx0
namespace Go.Proofs.Ytabadjidlfpngaa.PFnJTypes
open Go.RowKit Go.Proofs.YtabadjidlfpngaaW.PrintWords Go.Proofs.YtabadjidlfpngaaW.PrintLast Go.Proofs.YtabadjidlfpngaaW.PrintMore
attribute [local go_sem] max2_int min2_int max_two min_two max_three min_three max_four min_four   -- for this text's walks alone
set_option linter.unusedVariables false
set_option linter.unusedSimpArgs false

/-! ### laws_zzFits4: function 14 -/
def laws_zzFits4.l0 : Nat → List ByteArray → Int → Int → Option (Bool)
  | 0, _, _, _ => none
  | k + 1, x8, x9, x10 => if x10 < x9 then (if 0 ≤ x10 then (if x10 < (x8.length : Int) then (if ((rdOf ByteArray.empty x8 x10).size : Int) > 2147483647 then (some false) else (laws_zzFits4.l0 k x8 x9 (wrap64 (x10 + 1)))) else (none)) else (none)) else (some true)
def laws_zzFits4.f (k : Nat) (l0 : List ByteArray) : Option (Bool) := if (l0.length : Int) > 2147483647 then (some false) else (laws_zzFits4.l0 k l0 (l0.length : Int) 0)
theorem laws_zzFits4.mono_l : ∀ k, (∀ y0 y1 y2, LeO (laws_zzFits4.l0 k y0 y1 y2) (laws_zzFits4.l0 (k + 1) y0 y1 y2))
  | 0 => fun _ _ _ r h => by simp [laws_zzFits4.l0] at h
  | k + 1 => by
    have ih0 := laws_zzFits4.mono_l k
    · intro y0 y1 y2
      unfold laws_zzFits4.l0
      repeat' first
      | (with_reducible exact ih0 _ _ _)
      | (with_reducible exact LeO.refl _)
      | (with_reducible exact LeO.none _)
      | (with_reducible refine LeO.ite ?_ ?_)
      | (with_reducible refine LeO.bind ?_ (fun _ => ?_))
      | exact ih0 _ _ _
      | exact LeO.none _
      | refine LeO.ite ?_ ?_
      | refine LeO.bind ?_ (fun _ => ?_)
theorem laws_zzFits4.mono : ∀ a0 k, LeO (laws_zzFits4.f k a0) (laws_zzFits4.f (k + 1) a0) := by
  intro a0 k
  have ih0 := laws_zzFits4.mono_l k
  unfold laws_zzFits4.f
  repeat' first
      | (with_reducible exact ih0 _ _ _)
      | (with_reducible exact LeO.refl _)
      | (with_reducible exact LeO.none _)
      | (with_reducible refine LeO.ite ?_ ?_)
      | (with_reducible refine LeO.bind ?_ (fun _ => ?_))
      | exact ih0 _ _ _
      | exact LeO.none _
      | refine LeO.ite ?_ ?_
      | refine LeO.bind ?_ (fun _ => ?_)
set_option maxHeartbeats 8000000 in
set_option maxRecDepth 100000 in
theorem laws_zzFits4.calls (k : Nat) (A0 : Option Addr) (c0 : Nat) (l0 : List ByteArray) (r : Bool) (w : World) (hr0 : Kd.C Kd.string w A0 l0.length l0) (hc0 : l0.length ≤ c0) (h : laws_zzFits4.f k l0 = some r) :
    Calls Try.prog 14 #[.slice A0 l0.length c0] w fun e w' => e = .returned (.bool r) ∧ Drawn0 w w' := by
  have HR0 := Aside0.mk hr0
  have HC0 := Aside0.mk hc0
  clear hr0 hc0
  have H : (if (l0.length : Int) > 2147483647 then (some false) else (laws_zzFits4.l0 k l0 (l0.length : Int) 0)) = some r := h
  clear h
  by_cases c2 : (l0.length : Int) > 2147483647
  · rw [if_pos c2] at H
    have c2b0 : decide (2147483647 < (l0.length : Int)) = true := decide_eq_true c2
    have c2b1 : decide (2147483647 < l0.length) = true := decide_eq_true (by omega)
    clear c2
    obtain rfl := Option.some.inj H
    go_enter Try.func14, Try.ntmps14
    go_wp2
    go_ret
    exact ⟨by first | rfl | (simp; done) | (simp [*]; done), by repeat (first | exact Drawn0.refl _ | apply Drawn0.step)⟩
  · rw [if_neg c2] at H
    have c2b0 : decide (2147483647 < (l0.length : Int)) = false := decide_eq_false c2
    have c2b1 : decide (2147483647 < l0.length) = false := decide_eq_false (by omega)
    clear c2
    have H' := Aside0.mk H
    clear H
    go_enter Try.func14, Try.ntmps14
    go_wp2
    go_loopg [10] k (fun kq v10 w' => ∃ (x10_1 : Int), v10 = .int .i64 x10_1 ∧ Aside0 (laws_zzFits4.l0 kq l0 (l0.length : Int) x10_1 = some r) ∧ Aside0 (kq ≤ k) ∧ Drawn0 w w')
    case atStart => exact ⟨(0), (by first | rfl | (simp; done) | (simp [*]; done)), H', ⟨Nat.le_refl _⟩, by repeat (first | exact Drawn0.refl _ | apply Drawn0.step)⟩
    case round =>
      clear H'
      try clear c1
      try clear c2
      try clear c2b0
      try clear c2b1
      try clear p2
      obtain ⟨x10_1, rfl, HA, HK1, ⟨m1, rfl⟩⟩ := hrel
      cases gk with
      | zero => exact absurd HA.out (by simp [laws_zzFits4.l0])
      | succ k1 =>
        have H := HA.out
        clear HA
        simp only [laws_zzFits4.l0] at H
        by_cases c3 : x10_1 < (l0.length : Int)
        · rw [if_pos c3] at H
          have c3b0 : decide (x10_1 < (l0.length : Int)) = true := decide_eq_true c3
          clear c3
          by_cases c4 : 0 ≤ x10_1
          · rw [if_pos c4] at H
            have c4b0 : decide (0 ≤ x10_1) = true := decide_eq_true c4
            clear c4
            by_cases c5 : x10_1 < (l0.length : Int)
            · rw [if_pos c5] at H
              have c5b0 : decide (x10_1 < (l0.length : Int)) = true := decide_eq_true c5
              clear c5
              by_cases c6 : ((rdOf ByteArray.empty l0 x10_1).size : Int) > 2147483647
              · rw [if_pos c6] at H
                have c6b0 : decide (2147483647 < ((rdOf ByteArray.empty l0 x10_1).size : Int)) = true := decide_eq_true c6
                have c6b1 : decide (2147483647 < (rdOf ByteArray.empty l0 x10_1).size) = true := decide_eq_true (by omega)
                clear c6
                obtain rfl := Option.some.inj H
                have p101 : 0 ≤ (x10_1 : Int) := of_decide_eq_true (by first | (with_reducible assumption) | assumption)
                have q101 : x10_1 < (l0.length : Int) := of_decide_eq_true (by first | (with_reducible assumption) | assumption)
                obtain ⟨ad101, e101, hx101_0⟩ := Kd.at_string HR0.out x10_1 p101 q101
                cases e101
                replace p101 := eq_true p101
                replace q101 := eq_true q101
                go_wp2
                go_ret
                exact ⟨by first | rfl | (simp; done) | (simp [*]; done), by repeat (first | exact Drawn0.refl _ | apply Drawn0.step)⟩
              · rw [if_neg c6] at H
                have c6b0 : decide (2147483647 < ((rdOf ByteArray.empty l0 x10_1).size : Int)) = false := decide_eq_false c6
                have c6b1 : decide (2147483647 < (rdOf ByteArray.empty l0 x10_1).size) = false := decide_eq_false (by omega)
                clear c6
                have H' := Aside0.mk H
                clear H
                have p101 : 0 ≤ (x10_1 : Int) := of_decide_eq_true (by first | (with_reducible assumption) | assumption)
                have q101 : x10_1 < (l0.length : Int) := of_decide_eq_true (by first | (with_reducible assumption) | assumption)
                obtain ⟨ad101, e101, hx101_0⟩ := Kd.at_string HR0.out x10_1 p101 q101
                cases e101
                replace p101 := eq_true p101
                replace q101 := eq_true q101
                go_wp2
                go_roundg k1
                case measure => have := HK1.out; omega
                case rel => exact ⟨(wrap64 (x10_1 + 1)), (by first | rfl | (simp; done) | (simp [*]; done)), H', ⟨by have := HK1.out; omega⟩, by repeat (first | exact Drawn0.refl _ | apply Drawn0.step)⟩
            · rw [if_neg c5] at H
              exact absurd H (by simp)
          · rw [if_neg c4] at H
            exact absurd H (by simp)
        · rw [if_neg c3] at H
          have c3b0 : decide (x10_1 < (l0.length : Int)) = false := decide_eq_false c3
          clear c3
          obtain rfl := Option.some.inj H
          go_wp2
          go_ret
          exact ⟨by first | rfl | (simp; done) | (simp [*]; done), by repeat (first | exact Drawn0.refl _ | apply Drawn0.step)⟩

-- NOT PRINTED: function 41 (jsonschema_Types_add)

/-! ### jsonschema_typeFromString: function 42 -/
def jsonschema_typeFromString.f (a0 : ByteArray) : Option (Int) := if a0.toList = ([110, 117, 108, 108] : List UInt8) then (some 2) else (if a0.toList = ([98, 111, 111, 108, 101, 97, 110] : List UInt8) then (some 4) else (if a0.toList = ([110, 117, 109, 98, 101, 114] : List UInt8) then (some 8) else (if a0.toList = ([105, 110, 116, 101, 103, 101, 114] : List UInt8) then (some 16) else (if a0.toList = ([115, 116, 114, 105, 110, 103] : List UInt8) then (some 32) else (if a0.toList = ([97, 114, 114, 97, 121] : List UInt8) then (some 64) else (if a0.toList = ([111, 98, 106, 101, 99, 116] : List UInt8) then (some 128) else (some 0)))))))
set_option maxHeartbeats 8000000 in
set_option maxRecDepth 100000 in
theorem jsonschema_typeFromString.calls (a0 : ByteArray) (r : Int) (w : World) (h : jsonschema_typeFromString.f a0 = some r) :
    Calls Try.prog 42 #[.string a0] w fun e w' => e = .returned (.int .i64 r) ∧ Drawn0 w w' := by
  have H : (if a0.toList = ([110, 117, 108, 108] : List UInt8) then (some 2) else (if a0.toList = ([98, 111, 111, 108, 101, 97, 110] : List UInt8) then (some 4) else (if a0.toList = ([110, 117, 109, 98, 101, 114] : List UInt8) then (some 8) else (if a0.toList = ([105, 110, 116, 101, 103, 101, 114] : List UInt8) then (some 16) else (if a0.toList = ([115, 116, 114, 105, 110, 103] : List UInt8) then (some 32) else (if a0.toList = ([97, 114, 114, 97, 121] : List UInt8) then (some 64) else (if a0.toList = ([111, 98, 106, 101, 99, 116] : List UInt8) then (some 128) else (some 0)))))))) = some r := h
  clear h
  by_cases c2 : a0.toList = ([110, 117, 108, 108] : List UInt8)
  · rw [if_pos c2] at H
    have c2b0 : (a0.toList == ([110, 117, 108, 108] : List UInt8)) = true := beq_iff_eq.mpr c2
    have c2b1 : (a0.toList != ([110, 117, 108, 108] : List UInt8)) = false := bne_eq_false_iff_eq.mpr c2
    clear c2
    obtain rfl := Option.some.inj H
    go_enter Try.func42, Try.ntmps42
    go_wp2
    go_ret
    exact ⟨by first | rfl | (simp; done) | (simp [*]; done), by repeat (first | exact Drawn0.refl _ | apply Drawn0.step)⟩
  · rw [if_neg c2] at H
    have c2b0 : (a0.toList == ([110, 117, 108, 108] : List UInt8)) = false := beq_eq_false_iff_ne.mpr c2
    have c2b1 : (a0.toList != ([110, 117, 108, 108] : List UInt8)) = true := bne_iff_ne.mpr c2
    by_cases c3 : a0.toList = ([98, 111, 111, 108, 101, 97, 110] : List UInt8)
    · rw [if_pos c3] at H
      have c3b0 : (a0.toList == ([98, 111, 111, 108, 101, 97, 110] : List UInt8)) = true := beq_iff_eq.mpr c3
      have c3b1 : (a0.toList != ([98, 111, 111, 108, 101, 97, 110] : List UInt8)) = false := bne_eq_false_iff_eq.mpr c3
      clear c3
      obtain rfl := Option.some.inj H
      go_enter Try.func42, Try.ntmps42
      go_wp2
      go_ret
      exact ⟨by first | rfl | (simp; done) | (simp [*]; done), by repeat (first | exact Drawn0.refl _ | apply Drawn0.step)⟩
    · rw [if_neg c3] at H
      have c3b0 : (a0.toList == ([98, 111, 111, 108, 101, 97, 110] : List UInt8)) = false := beq_eq_false_iff_ne.mpr c3
      have c3b1 : (a0.toList != ([98, 111, 111, 108, 101, 97, 110] : List UInt8)) = true := bne_iff_ne.mpr c3
      by_cases c4 : a0.toList = ([110, 117, 109, 98, 101, 114] : List UInt8)
      · rw [if_pos c4] at H
        have c4b0 : (a0.toList == ([110, 117, 109, 98, 101, 114] : List UInt8)) = true := beq_iff_eq.mpr c4
        have c4b1 : (a0.toList != ([110, 117, 109, 98, 101, 114] : List UInt8)) = false := bne_eq_false_iff_eq.mpr c4
        clear c4
        obtain rfl := Option.some.inj H
        go_enter Try.func42, Try.ntmps42
        go_wp2
        go_ret
        exact ⟨by first | rfl | (simp; done) | (simp [*]; done), by repeat (first | exact Drawn0.refl _ | apply Drawn0.step)⟩
      · rw [if_neg c4] at H
        have c4b0 : (a0.toList == ([110, 117, 109, 98, 101, 114] : List UInt8)) = false := beq_eq_false_iff_ne.mpr c4
        have c4b1 : (a0.toList != ([110, 117, 109, 98, 101, 114] : List UInt8)) = true := bne_iff_ne.mpr c4
        by_cases c5 : a0.toList = ([105, 110, 116, 101, 103, 101, 114] : List UInt8)
        · rw [if_pos c5] at H
          have c5b0 : (a0.toList == ([105, 110, 116, 101, 103, 101, 114] : List UInt8)) = true := beq_iff_eq.mpr c5
          have c5b1 : (a0.toList != ([105, 110, 116, 101, 103, 101, 114] : List UInt8)) = false := bne_eq_false_iff_eq.mpr c5
          clear c5
          obtain rfl := Option.some.inj H
          go_enter Try.func42, Try.ntmps42
          go_wp2
          go_ret
          exact ⟨by first | rfl | (simp; done) | (simp [*]; done), by repeat (first | exact Drawn0.refl _ | apply Drawn0.step)⟩
        · rw [if_neg c5] at H
          have c5b0 : (a0.toList == ([105, 110, 116, 101, 103, 101, 114] : List UInt8)) = false := beq_eq_false_iff_ne.mpr c5
          have c5b1 : (a0.toList != ([105, 110, 116, 101, 103, 101, 114] : List UInt8)) = true := bne_iff_ne.mpr c5
          by_cases c6 : a0.toList = ([115, 116, 114, 105, 110, 103] : List UInt8)
          · rw [if_pos c6] at H
            have c6b0 : (a0.toList == ([115, 116, 114, 105, 110, 103] : List UInt8)) = true := beq_iff_eq.mpr c6
            have c6b1 : (a0.toList != ([115, 116, 114, 105, 110, 103] : List UInt8)) = false := bne_eq_false_iff_eq.mpr c6
            clear c6
            obtain rfl := Option.some.inj H
            go_enter Try.func42, Try.ntmps42
            go_wp2
            go_ret
            exact ⟨by first | rfl | (simp; done) | (simp [*]; done), by repeat (first | exact Drawn0.refl _ | apply Drawn0.step)⟩
          · rw [if_neg c6] at H
            have c6b0 : (a0.toList == ([115, 116, 114, 105, 110, 103] : List UInt8)) = false := beq_eq_false_iff_ne.mpr c6
            have c6b1 : (a0.toList != ([115, 116, 114, 105, 110, 103] : List UInt8)) = true := bne_iff_ne.mpr c6
            by_cases c7 : a0.toList = ([97, 114, 114, 97, 121] : List UInt8)
            · rw [if_pos c7] at H
              have c7b0 : (a0.toList == ([97, 114, 114, 97, 121] : List UInt8)) = true := beq_iff_eq.mpr c7
              have c7b1 : (a0.toList != ([97, 114, 114, 97, 121] : List UInt8)) = false := bne_eq_false_iff_eq.mpr c7
              clear c7
              obtain rfl := Option.some.inj H
              go_enter Try.func42, Try.ntmps42
              go_wp2
              go_ret
              exact ⟨by first | rfl | (simp; done) | (simp [*]; done), by repeat (first | exact Drawn0.refl _ | apply Drawn0.step)⟩
            · rw [if_neg c7] at H
              have c7b0 : (a0.toList == ([97, 114, 114, 97, 121] : List UInt8)) = false := beq_eq_false_iff_ne.mpr c7
              have c7b1 : (a0.toList != ([97, 114, 114, 97, 121] : List UInt8)) = true := bne_iff_ne.mpr c7
              by_cases c8 : a0.toList = ([111, 98, 106, 101, 99, 116] : List UInt8)
              · rw [if_pos c8] at H
                have c8b0 : (a0.toList == ([111, 98, 106, 101, 99, 116] : List UInt8)) = true := beq_iff_eq.mpr c8
                have c8b1 : (a0.toList != ([111, 98, 106, 101, 99, 116] : List UInt8)) = false := bne_eq_false_iff_eq.mpr c8
                clear c8
                obtain rfl := Option.some.inj H
                go_enter Try.func42, Try.ntmps42
                go_wp2
                go_ret
                exact ⟨by first | rfl | (simp; done) | (simp [*]; done), by repeat (first | exact Drawn0.refl _ | apply Drawn0.step)⟩
              · rw [if_neg c8] at H
                have c8b0 : (a0.toList == ([111, 98, 106, 101, 99, 116] : List UInt8)) = false := beq_eq_false_iff_ne.mpr c8
                have c8b1 : (a0.toList != ([111, 98, 106, 101, 99, 116] : List UInt8)) = true := bne_iff_ne.mpr c8
                obtain rfl := Option.some.inj H
                go_enter Try.func42, Try.ntmps42
                go_wp2
                go_ret
                exact ⟨by first | rfl | (simp; done) | (simp [*]; done), by repeat (first | exact Drawn0.refl _ | apply Drawn0.step)⟩

-- NOT PRINTED: function 26 (jsonschema_Types_Add)

/-! ### jsonschema_Types_contains: function 43 -/
def jsonschema_Types_contains.f (a0 : Int) (a1 : Int) : Option (Bool) := some ((Go.bits .and .i64 a0 a1) != 0)
set_option maxHeartbeats 8000000 in
set_option maxRecDepth 100000 in
theorem jsonschema_Types_contains.calls (a0 : Int) (a1 : Int) (r : Bool) (w : World) (h : jsonschema_Types_contains.f a0 a1 = some r) :
    Calls Try.prog 43 #[.int .i64 a0, .int .i64 a1] w fun e w' => e = .returned (.bool r) ∧ Drawn0 w w' := by
  have H : (some ((Go.bits .and .i64 a0 a1) != 0)) = some r := h
  clear h
  obtain rfl := Option.some.inj H
  go_enter Try.func43, Try.ntmps43
  go_wp2
  go_ret
  exact ⟨by first | rfl | (simp; done) | (simp [*]; done), by repeat (first | exact Drawn0.refl _ | apply Drawn0.step)⟩

/-! ### jsonschema_jsonType_String: function 44 -/
def jsonschema_jsonType_String.f (a0 : Int) : Option (ByteArray) := if a0 = 2 then (some (⟨#[110, 117, 108, 108]⟩ : ByteArray)) else (if a0 = 4 then (some (⟨#[98, 111, 111, 108, 101, 97, 110]⟩ : ByteArray)) else (if a0 = 8 then (some (⟨#[110, 117, 109, 98, 101, 114]⟩ : ByteArray)) else (if a0 = 16 then (some (⟨#[105, 110, 116, 101, 103, 101, 114]⟩ : ByteArray)) else (if a0 = 32 then (some (⟨#[115, 116, 114, 105, 110, 103]⟩ : ByteArray)) else (if a0 = 64 then (some (⟨#[97, 114, 114, 97, 121]⟩ : ByteArray)) else (if a0 = 128 then (some (⟨#[111, 98, 106, 101, 99, 116]⟩ : ByteArray)) else (some (⟨#[]⟩ : ByteArray))))))))
set_option maxHeartbeats 8000000 in
set_option maxRecDepth 100000 in
theorem jsonschema_jsonType_String.calls (a0 : Int) (r : ByteArray) (w : World) (h : jsonschema_jsonType_String.f a0 = some r) :
    Calls Try.prog 44 #[.int .i64 a0] w fun e w' => e = .returned (.string r) ∧ Drawn0 w w' := by
  have H : (if a0 = 2 then (some (⟨#[110, 117, 108, 108]⟩ : ByteArray)) else (if a0 = 4 then (some (⟨#[98, 111, 111, 108, 101, 97, 110]⟩ : ByteArray)) else (if a0 = 8 then (some (⟨#[110, 117, 109, 98, 101, 114]⟩ : ByteArray)) else (if a0 = 16 then (some (⟨#[105, 110, 116, 101, 103, 101, 114]⟩ : ByteArray)) else (if a0 = 32 then (some (⟨#[115, 116, 114, 105, 110, 103]⟩ : ByteArray)) else (if a0 = 64 then (some (⟨#[97, 114, 114, 97, 121]⟩ : ByteArray)) else (if a0 = 128 then (some (⟨#[111, 98, 106, 101, 99, 116]⟩ : ByteArray)) else (some (⟨#[]⟩ : ByteArray))))))))) = some r := h
  clear h
  by_cases c2 : a0 = 2
  · rw [if_pos c2] at H
    have c2b0 : (a0 == 2) = true := beq_iff_eq.mpr c2
    have c2b1 : (a0 != 2) = false := bne_eq_false_iff_eq.mpr c2
    clear c2
    obtain rfl := Option.some.inj H
    go_enter Try.func44, Try.ntmps44
    go_wp2
    go_ret
    exact ⟨by first | rfl | (simp; done) | (simp [*]; done), by repeat (first | exact Drawn0.refl _ | apply Drawn0.step)⟩
  · rw [if_neg c2] at H
    have c2b0 : (a0 == 2) = false := beq_eq_false_iff_ne.mpr c2
    have c2b1 : (a0 != 2) = true := bne_iff_ne.mpr c2
    by_cases c3 : a0 = 4
    · rw [if_pos c3] at H
      have c3b0 : (a0 == 4) = true := beq_iff_eq.mpr c3
      have c3b1 : (a0 != 4) = false := bne_eq_false_iff_eq.mpr c3
      clear c3
      obtain rfl := Option.some.inj H
      go_enter Try.func44, Try.ntmps44
      go_wp2
      go_ret
      exact ⟨by first | rfl | (simp; done) | (simp [*]; done), by repeat (first | exact Drawn0.refl _ | apply Drawn0.step)⟩
    · rw [if_neg c3] at H
      have c3b0 : (a0 == 4) = false := beq_eq_false_iff_ne.mpr c3
      have c3b1 : (a0 != 4) = true := bne_iff_ne.mpr c3
      by_cases c4 : a0 = 8
      · rw [if_pos c4] at H
        have c4b0 : (a0 == 8) = true := beq_iff_eq.mpr c4
        have c4b1 : (a0 != 8) = false := bne_eq_false_iff_eq.mpr c4
        clear c4
        obtain rfl := Option.some.inj H
        go_enter Try.func44, Try.ntmps44
        go_wp2
        go_ret
        exact ⟨by first | rfl | (simp; done) | (simp [*]; done), by repeat (first | exact Drawn0.refl _ | apply Drawn0.step)⟩
      · rw [if_neg c4] at H
        have c4b0 : (a0 == 8) = false := beq_eq_false_iff_ne.mpr c4
        have c4b1 : (a0 != 8) = true := bne_iff_ne.mpr c4
        by_cases c5 : a0 = 16
        · rw [if_pos c5] at H
          have c5b0 : (a0 == 16) = true := beq_iff_eq.mpr c5
          have c5b1 : (a0 != 16) = false := bne_eq_false_iff_eq.mpr c5
          clear c5
          obtain rfl := Option.some.inj H
          go_enter Try.func44, Try.ntmps44
          go_wp2
          go_ret
          exact ⟨by first | rfl | (simp; done) | (simp [*]; done), by repeat (first | exact Drawn0.refl _ | apply Drawn0.step)⟩
        · rw [if_neg c5] at H
          have c5b0 : (a0 == 16) = false := beq_eq_false_iff_ne.mpr c5
          have c5b1 : (a0 != 16) = true := bne_iff_ne.mpr c5
          by_cases c6 : a0 = 32
          · rw [if_pos c6] at H
            have c6b0 : (a0 == 32) = true := beq_iff_eq.mpr c6
            have c6b1 : (a0 != 32) = false := bne_eq_false_iff_eq.mpr c6
            clear c6
            obtain rfl := Option.some.inj H
            go_enter Try.func44, Try.ntmps44
            go_wp2
            go_ret
            exact ⟨by first | rfl | (simp; done) | (simp [*]; done), by repeat (first | exact Drawn0.refl _ | apply Drawn0.step)⟩
          · rw [if_neg c6] at H
            have c6b0 : (a0 == 32) = false := beq_eq_false_iff_ne.mpr c6
            have c6b1 : (a0 != 32) = true := bne_iff_ne.mpr c6
            by_cases c7 : a0 = 64
            · rw [if_pos c7] at H
              have c7b0 : (a0 == 64) = true := beq_iff_eq.mpr c7
              have c7b1 : (a0 != 64) = false := bne_eq_false_iff_eq.mpr c7
              clear c7
              obtain rfl := Option.some.inj H
              go_enter Try.func44, Try.ntmps44
              go_wp2
              go_ret
              exact ⟨by first | rfl | (simp; done) | (simp [*]; done), by repeat (first | exact Drawn0.refl _ | apply Drawn0.step)⟩
            · rw [if_neg c7] at H
              have c7b0 : (a0 == 64) = false := beq_eq_false_iff_ne.mpr c7
              have c7b1 : (a0 != 64) = true := bne_iff_ne.mpr c7
              by_cases c8 : a0 = 128
              · rw [if_pos c8] at H
                have c8b0 : (a0 == 128) = true := beq_iff_eq.mpr c8
                have c8b1 : (a0 != 128) = false := bne_eq_false_iff_eq.mpr c8
                clear c8
                obtain rfl := Option.some.inj H
                go_enter Try.func44, Try.ntmps44
                go_wp2
                go_ret
                exact ⟨by first | rfl | (simp; done) | (simp [*]; done), by repeat (first | exact Drawn0.refl _ | apply Drawn0.step)⟩
              · rw [if_neg c8] at H
                have c8b0 : (a0 == 128) = false := beq_eq_false_iff_ne.mpr c8
                have c8b1 : (a0 != 128) = true := bne_iff_ne.mpr c8
                obtain rfl := Option.some.inj H
                go_enter Try.func44, Try.ntmps44
                go_wp2
                go_ret
                exact ⟨by first | rfl | (simp; done) | (simp [*]; done), by repeat (first | exact Drawn0.refl _ | apply Drawn0.step)⟩

/-! ### jsonschema_Types_ToStrings: function 27 -/
def jsonschema_Types_ToStrings.l0 : Nat → Int → List ByteArray → List Int → Int → Int → Option (List ByteArray)
  | 0, _, _, _, _, _ => none
  | k + 1, x0, x4, x8, x9, x10 => if x10 < x9 then (if 0 ≤ x10 then (if x10 < (x8.length : Int) then ((jsonschema_Types_contains.f x0 (rd x8 x10)).bind fun t106 => (if t106 = true then ((jsonschema_jsonType_String.f (rd x8 x10)).bind fun t107 => (if x4.length < 8796093022208 then (jsonschema_Types_ToStrings.l0 k x0 (x4 ++ [t107]) x8 x9 (wrap64 (x10 + 1))) else (none))) else (jsonschema_Types_ToStrings.l0 k x0 x4 x8 x9 (wrap64 (x10 + 1))))) else (none)) else (none)) else (some x4)
def jsonschema_Types_ToStrings.f (k : Nat) (a0 : Int) : Option (List ByteArray) := (some (([2, 4, 8, 16, 32, 64, 128] : List Int) : List Int)).bind fun y102 => (jsonschema_Types_ToStrings.l0 k a0 ([] : List ByteArray) y102 (y102.length : Int) 0)
theorem jsonschema_Types_ToStrings.mono_l : ∀ k, (∀ y0 y1 y2 y3 y4, LeO (jsonschema_Types_ToStrings.l0 k y0 y1 y2 y3 y4) (jsonschema_Types_ToStrings.l0 (k + 1) y0 y1 y2 y3 y4))
  | 0 => fun _ _ _ _ _ r h => by simp [jsonschema_Types_ToStrings.l0] at h
  | k + 1 => by
    have ih0 := jsonschema_Types_ToStrings.mono_l k
    · intro y0 y1 y2 y3 y4
      unfold jsonschema_Types_ToStrings.l0
      repeat' first
      | (with_reducible exact ih0 _ _ _ _ _)
      | (with_reducible exact LeO.refl _)
      | (with_reducible exact LeO.none _)
      | (with_reducible refine LeO.ite ?_ ?_)
      | (with_reducible refine LeO.bind ?_ (fun _ => ?_))
      | exact ih0 _ _ _ _ _
      | exact LeO.none _
      | refine LeO.ite ?_ ?_
      | refine LeO.bind ?_ (fun _ => ?_)
theorem jsonschema_Types_ToStrings.mono : ∀ a0 k, LeO (jsonschema_Types_ToStrings.f k a0) (jsonschema_Types_ToStrings.f (k + 1) a0) := by
  intro a0 k
  have ih0 := jsonschema_Types_ToStrings.mono_l k
  unfold jsonschema_Types_ToStrings.f
  repeat' first
      | (with_reducible exact ih0 _ _ _ _ _)
      | (with_reducible exact LeO.refl _)
      | (with_reducible exact LeO.none _)
      | (with_reducible refine LeO.ite ?_ ?_)
      | (with_reducible refine LeO.bind ?_ (fun _ => ?_))
      | exact ih0 _ _ _ _ _
      | exact LeO.none _
      | refine LeO.ite ?_ ?_
      | refine LeO.bind ?_ (fun _ => ?_)
set_option maxHeartbeats 8000000 in
set_option maxRecDepth 100000 in
theorem jsonschema_Types_ToStrings.calls (k : Nat) (a0 : Int) (r : List ByteArray) (w : World) (h : jsonschema_Types_ToStrings.f k a0 = some r) :
    Calls Try.prog 27 #[.int .i64 a0] w fun e w' => ∃ v0_ : Value, e = .returned (v0_) ∧ Kd.R Kd.string 9 w' w.heap.size (fun _ => True) v0_ r ∧ Below w.heap.size w w' := by
  have HB := Aside0.mk (Below.refl w.heap.size w)
  have H : ((some (([2, 4, 8, 16, 32, 64, 128] : List Int) : List Int)).bind fun y102 => (jsonschema_Types_ToStrings.l0 k a0 ([] : List ByteArray) y102 (y102.length : Int) 0)) = some r := h
  clear h
  obtain ⟨y102, hy102⟩ : ∃ y_ : List Int, y_ = (([2, 4, 8, 16, 32, 64, 128] : List Int)) := ⟨_, rfl⟩
  replace H : (jsonschema_Types_ToStrings.l0 k a0 ([] : List ByteArray) y102 (y102.length : Int) 0) = some r := by first | (rw [hy102]; with_reducible exact H) | (have H2_ := (Option.bind_some _ _).symm.trans H; rw [hy102]; with_reducible exact H2_) | (have H2_ := (Option.bind_some _ _).symm.trans H; with_reducible exact H2_) | with_reducible exact H | (rw [hy102]; exact H) | exact H
  have Ny102 := Aside0.mk hy102
  clear hy102
  have H' := Aside0.mk H
  clear H
  go_enter Try.func27, Try.ntmps27
  go_wp2_with (first | ((with_reducible refine gate_dst (N := 7) rfl ?_); refine Kd.R_lit (Kd.int .i64) _ 101 ?hg (N := 7) ?hd (xs := ([2, 4, 8, 16, 32, 64, 128] : List Int)) (inner := [.int .i64 2, .int .i64 4, .int .i64 8, .int .i64 16, .int .i64 32, .int .i64 64, .int .i64 128]) (ok := fun _ => True) (okp := fun _ => True) ?hr ?hp (fun _ hk => hk) trivial (Below.refl _ _) (Nat.le_refl _) (by simp) ?_; (case hd => rfl); (case hg => rfl); (case hr => first | (go_simp; done) | (go_simp; rfl)); (case hp => exact (Reps.one (show Kd.M (Kd.int .i64) _ _ _ 2 [.int .i64 2] from rfl) (Reps.one (show Kd.M (Kd.int .i64) _ _ _ 4 [.int .i64 4] from rfl) (Reps.one (show Kd.M (Kd.int .i64) _ _ _ 8 [.int .i64 8] from rfl) (Reps.one (show Kd.M (Kd.int .i64) _ _ _ 16 [.int .i64 16] from rfl) (Reps.one (show Kd.M (Kd.int .i64) _ _ _ 32 [.int .i64 32] from rfl) (Reps.one (show Kd.M (Kd.int .i64) _ _ _ 64 [.int .i64 64] from rfl) (Reps.one (show Kd.M (Kd.int .i64) _ _ _ 128 [.int .i64 128] from rfl) (Reps.none _ _))))))))); intro v103 w2 ho3 hb hg_ hnew_; clear hg_ hnew_; (first | rw [← Ny102.out] at ho3 | (simp only [Int.reduceToNat] at ho3; rw [← Ny102.out] at ho3)); have n0_ := Aside0.mk (Kd.R_lower ho3 (below_size (by repeat (first | (with_reducible first | exact HB.out | apply below_alloc | apply pw_below_drewN | apply below_drew1) | exact HB.out)))); have n1_ := Aside0.mk (below_step (by repeat (first | (with_reducible first | exact HB.out | apply below_alloc | apply pw_below_drewN | apply below_drew1) | exact HB.out)) hb); clear HB; have HO104 := n0_; have HB := n1_; clear n0_ n1_; clear hb ho3; obtain ⟨Ao4, co4, eo4⟩ := Kd.R_slice HO104.out; subst eo4))
  go_loopg [4, 10] k (fun kq v4 v10 w' => ∃ (x4_1 : List ByteArray) (x10_1 : Int), v10 = .int .i64 x10_1 ∧ Aside0 (jsonschema_Types_ToStrings.l0 kq a0 x4_1 y102 (y102.length : Int) x10_1 = some r) ∧ Aside0 (kq ≤ k) ∧ Aside0 (Kd.R Kd.string 9 w' w.heap.size (fun _ => True) v4 x4_1) ∧ Aside0 (Kd.R (Kd.int .i64) 101 w' w.heap.size (fun _ => True) (.slice Ao4 y102.length co4) y102) ∧ Aside0 (Below w.heap.size w w'))
  case atStart => exact ⟨(([] : List ByteArray)), (0), (by first | rfl | (simp; done) | (simp [*]; done)), H', ⟨Nat.le_refl _⟩, ⟨by first | exact Kd.R_nil _ _ _ _ _ | exact Kd.N_nil _ _ _ _ _ | exact Kd.V_nil _ _ _ _ _ | exact Kd.Q_nil _ _ _ _ _ | exact Kd.S_nil _ _ _ _ _⟩, ⟨by (with_reducible repeat (first | apply Kd.R_alloc | apply Kd.R_drewN | apply Kd.R_drew)); exact HO104.out⟩, ⟨by repeat (first | (with_reducible first | exact HB.out | apply below_alloc | apply pw_below_drewN | apply below_drew1) | exact HB.out)⟩⟩
  case round =>
    clear H'
    try clear c2
    try clear p2
    obtain ⟨x4_1, x10_1, rfl, HA, HK1, HO_4, HO_8, HB⟩ := hrel
    cases gk with
    | zero => exact absurd HA.out (by simp [jsonschema_Types_ToStrings.l0])
    | succ k1 =>
      have H := HA.out
      clear HA
      simp only [jsonschema_Types_ToStrings.l0] at H
      by_cases c5 : x10_1 < (y102.length : Int)
      · rw [if_pos c5] at H
        have c5b0 : decide (x10_1 < (y102.length : Int)) = true := decide_eq_true c5
        clear c5
        by_cases c6 : 0 ≤ x10_1
        · rw [if_pos c6] at H
          have c6b0 : decide (0 ≤ x10_1) = true := decide_eq_true c6
          clear c6
          by_cases c7 : x10_1 < (y102.length : Int)
          · rw [if_pos c7] at H
            have c7b0 : decide (x10_1 < (y102.length : Int)) = true := decide_eq_true c7
            clear c7
            replace H := Option.bind_eq_some_iff.mp H
            obtain ⟨t106, A80, H⟩ := H
            replace H : (if t106 = true then ((jsonschema_jsonType_String.f (rd y102 x10_1)).bind fun t107 => (if x4_1.length < 8796093022208 then (jsonschema_Types_ToStrings.l0 k1 a0 (x4_1 ++ [t107]) y102 (y102.length : Int) (wrap64 (x10_1 + 1))) else (none))) else (jsonschema_Types_ToStrings.l0 k1 a0 x4_1 y102 (y102.length : Int) (wrap64 (x10_1 + 1)))) = some r := H
            have A8 := Aside0.mk A80
            clear A80
            by_cases c9 : t106 = true
            · subst c9
              have H1 : ((jsonschema_jsonType_String.f (rd y102 x10_1)).bind fun t107 => (if x4_1.length < 8796093022208 then (jsonschema_Types_ToStrings.l0 k1 a0 (x4_1 ++ [t107]) y102 (y102.length : Int) (wrap64 (x10_1 + 1))) else (none))) = some r := by rw [if_pos rfl] at H; exact H
              clear H
              have H := H1
              clear H1
              replace H := Option.bind_eq_some_iff.mp H
              obtain ⟨t107, A100, H⟩ := H
              replace H : (if x4_1.length < 8796093022208 then (jsonschema_Types_ToStrings.l0 k1 a0 (x4_1 ++ [t107]) y102 (y102.length : Int) (wrap64 (x10_1 + 1))) else (none)) = some r := H
              have A10 := Aside0.mk A100
              clear A100
              by_cases c11 : x4_1.length < 8796093022208
              · rw [if_pos c11] at H
                have LMc11 := Aside0.mk c11
                clear c11
                obtain ⟨y108, hy108⟩ : ∃ y_ : List ByteArray, y_ = (x4_1 ++ [t107]) := ⟨_, rfl⟩
                replace H : (jsonschema_Types_ToStrings.l0 k1 a0 y108 y102 (y102.length : Int) (wrap64 (x10_1 + 1))) = some r := by first | (rw [hy108]; with_reducible exact H) | (have H2_ := (Option.bind_some _ _).symm.trans H; rw [hy108]; with_reducible exact H2_) | (have H2_ := (Option.bind_some _ _).symm.trans H; with_reducible exact H2_) | with_reducible exact H | (rw [hy108]; exact H) | exact H
                have Ny108 := Aside0.mk hy108
                clear hy108
                have H' := Aside0.mk H
                clear H
                have p105 : 0 ≤ (x10_1 : Int) := of_decide_eq_true (by first | (with_reducible assumption) | assumption)
                have q105 : x10_1 < (y102.length : Int) := of_decide_eq_true (by first | (with_reducible assumption) | assumption)
                obtain ⟨ad105, e105, hx105_0⟩ := Kd.at_int (Kd.R_reads' HO_8.out).2.2 x10_1 p105 q105
                cases e105
                replace p105 := eq_true p105
                replace q105 := eq_true q105
                go_wp2_with (first | ((with_reducible refine gate_callee (f := 43) rfl ?_); refine goesL_ (some 16) rfl rfl Try.func43 (by kernel_rfl) rfl #[.int .i64 a0, .int .i64 (rd y102 x10_1)] rfl (by (try simp only [List.map_toArray, List.map_cons, List.map_nil]); first | done | rfl | (simp only [List.length_drop, List.length_take]; rfl)) ?_; (with_reducible refine (jsonschema_Types_contains.calls a0 (rd y102 x10_1) true _ A8.out).mono ?_); rintro e w' ⟨rfl, ⟨nd, rfl⟩⟩; refine ⟨_, rfl, ?_⟩) | ((with_reducible refine gate_callee (f := 44) rfl ?_); refine goesL_ (some 19) rfl rfl Try.func44 (by kernel_rfl) rfl #[.int .i64 (rd y102 x10_1)] rfl (by (try simp only [List.map_toArray, List.map_cons, List.map_nil]); first | done | rfl | (simp only [List.length_drop, List.length_take]; rfl)) ?_; (with_reducible refine (jsonschema_jsonType_String.calls (rd y102 x10_1) t107 _ A10.out).mono ?_); rintro e w' ⟨rfl, ⟨nd, rfl⟩⟩; refine ⟨_, rfl, ?_⟩) | ((with_reducible refine gate_builtin (b := .append) (xs := #[.tmp 17, .tmp 20]) rfl ?_); at_builtin; refine Kd.R_append Kd.string (w0 := w) w.heap.size rfl (.tmp 17) (.tmp 20) 32 9 (.string ⟨#[]⟩) 16 rfl Try.underlying32 info9 rfl (by decide) (by omega) u4 x4_1 t107 [.string t107] (fun _ => True) (fun _ => False) rfl rfl ?aP (fun _ hk => hk.elim) ?aF ?aO ?aB ?aS ?aL ?_; (case aP => exact rfl); (case aB => exact (by repeat (first | (with_reducible first | exact HB.out | apply below_alloc | apply pw_below_drewN | apply below_drew1) | exact HB.out))); (case aF => exact (fun _ _ => trivial)); (case aO => exact (by (with_reducible repeat (first | apply Kd.R_alloc | apply Kd.R_drewN | apply Kd.R_drew)); exact HO_4.out)); (case aS => exact (below_size (by repeat (first | (with_reducible first | exact HB.out | apply below_alloc | apply pw_below_drewN | apply below_drew1) | exact HB.out)))); (case aL => have := LMc11.out; omega); intro v109 w12 ho hb hg hat; rw [← Ny108.out] at ho; have n0_ := Aside0.mk (Kd.R_over' (by (with_reducible repeat (first | apply Kd.R_alloc | apply Kd.R_drewN | apply Kd.R_drew)); exact HO_8.out) (Kd.R_typed (by (with_reducible repeat (first | apply Kd.R_alloc | apply Kd.R_drewN | apply Kd.R_drew)); exact HO_4.out)) (by decide) hg); have n1_ := Aside0.mk (hb); have n2_ := Aside0.mk (ho); clear HO_8; clear HB; clear HO_4; have HO_8 := n0_; have HB := n1_; have HO110 := n2_; clear n0_ n1_ n2_; clear ho hb hg hat))
                go_roundg k1
                case measure => have := HK1.out; omega
                case rel => exact ⟨(y108), (wrap64 (x10_1 + 1)), (by first | rfl | (simp; done) | (simp [*]; done)), H', ⟨by have := HK1.out; omega⟩, ⟨by (with_reducible repeat (first | apply Kd.R_alloc | apply Kd.R_drewN | apply Kd.R_drew)); exact HO110.out⟩, ⟨by (with_reducible repeat (first | apply Kd.R_alloc | apply Kd.R_drewN | apply Kd.R_drew)); exact HO_8.out⟩, ⟨by repeat (first | (with_reducible first | exact HB.out | apply below_alloc | apply pw_below_drewN | apply below_drew1) | exact HB.out)⟩⟩
              · rw [if_neg c11] at H
                exact absurd H (by simp)
            · replace c9 := Bool.eq_false_iff.mpr c9
              subst c9
              have H1 : (jsonschema_Types_ToStrings.l0 k1 a0 x4_1 y102 (y102.length : Int) (wrap64 (x10_1 + 1))) = some r := by rw [if_neg (show ¬ (false = true) by decide)] at H; exact H
              clear H
              have H := H1
              clear H1
              have H' := Aside0.mk H
              clear H
              have p105 : 0 ≤ (x10_1 : Int) := of_decide_eq_true (by first | (with_reducible assumption) | assumption)
              have q105 : x10_1 < (y102.length : Int) := of_decide_eq_true (by first | (with_reducible assumption) | assumption)
              obtain ⟨ad105, e105, hx105_0⟩ := Kd.at_int (Kd.R_reads' HO_8.out).2.2 x10_1 p105 q105
              cases e105
              replace p105 := eq_true p105
              replace q105 := eq_true q105
              go_wp2_with (first | ((with_reducible refine gate_callee (f := 43) rfl ?_); refine goesL_ (some 16) rfl rfl Try.func43 (by kernel_rfl) rfl #[.int .i64 a0, .int .i64 (rd y102 x10_1)] rfl (by (try simp only [List.map_toArray, List.map_cons, List.map_nil]); first | done | rfl | (simp only [List.length_drop, List.length_take]; rfl)) ?_; (with_reducible refine (jsonschema_Types_contains.calls a0 (rd y102 x10_1) false _ A8.out).mono ?_); rintro e w' ⟨rfl, ⟨nd, rfl⟩⟩; refine ⟨_, rfl, ?_⟩))
              go_roundg k1
              case measure => have := HK1.out; omega
              case rel => exact ⟨(x4_1), (wrap64 (x10_1 + 1)), (by first | rfl | (simp; done) | (simp [*]; done)), H', ⟨by have := HK1.out; omega⟩, ⟨by (with_reducible repeat (first | apply Kd.R_alloc | apply Kd.R_drewN | apply Kd.R_drew)); exact HO_4.out⟩, ⟨by (with_reducible repeat (first | apply Kd.R_alloc | apply Kd.R_drewN | apply Kd.R_drew)); exact HO_8.out⟩, ⟨by repeat (first | (with_reducible first | exact HB.out | apply below_alloc | apply pw_below_drewN | apply below_drew1) | exact HB.out)⟩⟩
          · rw [if_neg c7] at H
            exact absurd H (by simp)
        · rw [if_neg c6] at H
          exact absurd H (by simp)
      · rw [if_neg c5] at H
        have c5b0 : decide (x10_1 < (y102.length : Int)) = false := decide_eq_false c5
        clear c5
        obtain rfl := Option.some.inj H
        go_wp2
        go_ret
        exact ⟨_, by first | rfl | (simp [errW_none, errW_some] <;> rfl) | (simp [*, errW_none, errW_some] <;> rfl), by (with_reducible repeat (first | apply Kd.R_alloc | apply Kd.R_drewN | apply Kd.R_drew)); exact HO_4.out, by repeat (first | (with_reducible first | exact HB.out | apply below_alloc | apply pw_below_drewN | apply below_drew1) | exact HB.out)⟩

/-! ### jsonschema_Types_IsEmpty: function 28 -/
def jsonschema_Types_IsEmpty.f (a0 : Int) : Option (Bool) := some (a0 == 0)
set_option maxHeartbeats 8000000 in
set_option maxRecDepth 100000 in
theorem jsonschema_Types_IsEmpty.calls (a0 : Int) (r : Bool) (w : World) (h : jsonschema_Types_IsEmpty.f a0 = some r) :
    Calls Try.prog 28 #[.int .i64 a0] w fun e w' => e = .returned (.bool r) ∧ Drawn0 w w' := by
  have H : (some (a0 == 0)) = some r := h
  clear h
  obtain rfl := Option.some.inj H
  go_enter Try.func28, Try.ntmps28
  go_wp2
  go_ret
  exact ⟨by first | rfl | (simp; done) | (simp [*]; done), by repeat (first | exact Drawn0.refl _ | apply Drawn0.step)⟩

-- NOT PRINTED: function 15 (impl_JTypes)

/-! ### spec_JIsKind: function 16 -/
def spec_JIsKind.f (a0 : ByteArray) : Option (Bool) := if a0.toList = ([110, 117, 108, 108] : List UInt8) then (some true) else (if a0.toList = ([98, 111, 111, 108, 101, 97, 110] : List UInt8) then (some true) else (if a0.toList = ([111, 98, 106, 101, 99, 116] : List UInt8) then (some true) else (if a0.toList = ([97, 114, 114, 97, 121] : List UInt8) then (some true) else (if a0.toList = ([110, 117, 109, 98, 101, 114] : List UInt8) then (some true) else (if a0.toList = ([115, 116, 114, 105, 110, 103] : List UInt8) then (some true) else (if a0.toList = ([105, 110, 116, 101, 103, 101, 114] : List UInt8) then (some true) else (some false)))))))
set_option maxHeartbeats 8000000 in
set_option maxRecDepth 100000 in
theorem spec_JIsKind.calls (a0 : ByteArray) (r : Bool) (w : World) (h : spec_JIsKind.f a0 = some r) :
    Calls Try.prog 16 #[.string a0] w fun e w' => e = .returned (.bool r) ∧ Drawn0 w w' := by
  have H : (if a0.toList = ([110, 117, 108, 108] : List UInt8) then (some true) else (if a0.toList = ([98, 111, 111, 108, 101, 97, 110] : List UInt8) then (some true) else (if a0.toList = ([111, 98, 106, 101, 99, 116] : List UInt8) then (some true) else (if a0.toList = ([97, 114, 114, 97, 121] : List UInt8) then (some true) else (if a0.toList = ([110, 117, 109, 98, 101, 114] : List UInt8) then (some true) else (if a0.toList = ([115, 116, 114, 105, 110, 103] : List UInt8) then (some true) else (if a0.toList = ([105, 110, 116, 101, 103, 101, 114] : List UInt8) then (some true) else (some false)))))))) = some r := h
  clear h
  by_cases c2 : a0.toList = ([110, 117, 108, 108] : List UInt8)
  · rw [if_pos c2] at H
    have c2b0 : (a0.toList == ([110, 117, 108, 108] : List UInt8)) = true := beq_iff_eq.mpr c2
    have c2b1 : (a0.toList != ([110, 117, 108, 108] : List UInt8)) = false := bne_eq_false_iff_eq.mpr c2
    clear c2
    obtain rfl := Option.some.inj H
    go_enter Try.func16, Try.ntmps16
    go_wp2
    go_ret
    exact ⟨by first | rfl | (simp; done) | (simp [*]; done), by repeat (first | exact Drawn0.refl _ | apply Drawn0.step)⟩
  · rw [if_neg c2] at H
    have c2b0 : (a0.toList == ([110, 117, 108, 108] : List UInt8)) = false := beq_eq_false_iff_ne.mpr c2
    have c2b1 : (a0.toList != ([110, 117, 108, 108] : List UInt8)) = true := bne_iff_ne.mpr c2
    by_cases c3 : a0.toList = ([98, 111, 111, 108, 101, 97, 110] : List UInt8)
    · rw [if_pos c3] at H
      have c3b0 : (a0.toList == ([98, 111, 111, 108, 101, 97, 110] : List UInt8)) = true := beq_iff_eq.mpr c3
      have c3b1 : (a0.toList != ([98, 111, 111, 108, 101, 97, 110] : List UInt8)) = false := bne_eq_false_iff_eq.mpr c3
      clear c3
      obtain rfl := Option.some.inj H
      go_enter Try.func16, Try.ntmps16
      go_wp2
      go_ret
      exact ⟨by first | rfl | (simp; done) | (simp [*]; done), by repeat (first | exact Drawn0.refl _ | apply Drawn0.step)⟩
    · rw [if_neg c3] at H
      have c3b0 : (a0.toList == ([98, 111, 111, 108, 101, 97, 110] : List UInt8)) = false := beq_eq_false_iff_ne.mpr c3
      have c3b1 : (a0.toList != ([98, 111, 111, 108, 101, 97, 110] : List UInt8)) = true := bne_iff_ne.mpr c3
      by_cases c4 : a0.toList = ([111, 98, 106, 101, 99, 116] : List UInt8)
      · rw [if_pos c4] at H
        have c4b0 : (a0.toList == ([111, 98, 106, 101, 99, 116] : List UInt8)) = true := beq_iff_eq.mpr c4
        have c4b1 : (a0.toList != ([111, 98, 106, 101, 99, 116] : List UInt8)) = false := bne_eq_false_iff_eq.mpr c4
        clear c4
        obtain rfl := Option.some.inj H
        go_enter Try.func16, Try.ntmps16
        go_wp2
        go_ret
        exact ⟨by first | rfl | (simp; done) | (simp [*]; done), by repeat (first | exact Drawn0.refl _ | apply Drawn0.step)⟩
      · rw [if_neg c4] at H
        have c4b0 : (a0.toList == ([111, 98, 106, 101, 99, 116] : List UInt8)) = false := beq_eq_false_iff_ne.mpr c4
        have c4b1 : (a0.toList != ([111, 98, 106, 101, 99, 116] : List UInt8)) = true := bne_iff_ne.mpr c4
        by_cases c5 : a0.toList = ([97, 114, 114, 97, 121] : List UInt8)
        · rw [if_pos c5] at H
          have c5b0 : (a0.toList == ([97, 114, 114, 97, 121] : List UInt8)) = true := beq_iff_eq.mpr c5
          have c5b1 : (a0.toList != ([97, 114, 114, 97, 121] : List UInt8)) = false := bne_eq_false_iff_eq.mpr c5
          clear c5
          obtain rfl := Option.some.inj H
          go_enter Try.func16, Try.ntmps16
          go_wp2
          go_ret
          exact ⟨by first | rfl | (simp; done) | (simp [*]; done), by repeat (first | exact Drawn0.refl _ | apply Drawn0.step)⟩
        · rw [if_neg c5] at H
          have c5b0 : (a0.toList == ([97, 114, 114, 97, 121] : List UInt8)) = false := beq_eq_false_iff_ne.mpr c5
          have c5b1 : (a0.toList != ([97, 114, 114, 97, 121] : List UInt8)) = true := bne_iff_ne.mpr c5
          by_cases c6 : a0.toList = ([110, 117, 109, 98, 101, 114] : List UInt8)
          · rw [if_pos c6] at H
            have c6b0 : (a0.toList == ([110, 117, 109, 98, 101, 114] : List UInt8)) = true := beq_iff_eq.mpr c6
            have c6b1 : (a0.toList != ([110, 117, 109, 98, 101, 114] : List UInt8)) = false := bne_eq_false_iff_eq.mpr c6
            clear c6
            obtain rfl := Option.some.inj H
            go_enter Try.func16, Try.ntmps16
            go_wp2
            go_ret
            exact ⟨by first | rfl | (simp; done) | (simp [*]; done), by repeat (first | exact Drawn0.refl _ | apply Drawn0.step)⟩
          · rw [if_neg c6] at H
            have c6b0 : (a0.toList == ([110, 117, 109, 98, 101, 114] : List UInt8)) = false := beq_eq_false_iff_ne.mpr c6
            have c6b1 : (a0.toList != ([110, 117, 109, 98, 101, 114] : List UInt8)) = true := bne_iff_ne.mpr c6
            by_cases c7 : a0.toList = ([115, 116, 114, 105, 110, 103] : List UInt8)
            · rw [if_pos c7] at H
              have c7b0 : (a0.toList == ([115, 116, 114, 105, 110, 103] : List UInt8)) = true := beq_iff_eq.mpr c7
              have c7b1 : (a0.toList != ([115, 116, 114, 105, 110, 103] : List UInt8)) = false := bne_eq_false_iff_eq.mpr c7
              clear c7
              obtain rfl := Option.some.inj H
              go_enter Try.func16, Try.ntmps16
              go_wp2
              go_ret
              exact ⟨by first | rfl | (simp; done) | (simp [*]; done), by repeat (first | exact Drawn0.refl _ | apply Drawn0.step)⟩
            · rw [if_neg c7] at H
              have c7b0 : (a0.toList == ([115, 116, 114, 105, 110, 103] : List UInt8)) = false := beq_eq_false_iff_ne.mpr c7
              have c7b1 : (a0.toList != ([115, 116, 114, 105, 110, 103] : List UInt8)) = true := bne_iff_ne.mpr c7
              by_cases c8 : a0.toList = ([105, 110, 116, 101, 103, 101, 114] : List UInt8)
              · rw [if_pos c8] at H
                have c8b0 : (a0.toList == ([105, 110, 116, 101, 103, 101, 114] : List UInt8)) = true := beq_iff_eq.mpr c8
                have c8b1 : (a0.toList != ([105, 110, 116, 101, 103, 101, 114] : List UInt8)) = false := bne_eq_false_iff_eq.mpr c8
                clear c8
                obtain rfl := Option.some.inj H
                go_enter Try.func16, Try.ntmps16
                go_wp2
                go_ret
                exact ⟨by first | rfl | (simp; done) | (simp [*]; done), by repeat (first | exact Drawn0.refl _ | apply Drawn0.step)⟩
              · rw [if_neg c8] at H
                have c8b0 : (a0.toList == ([105, 110, 116, 101, 103, 101, 114] : List UInt8)) = false := beq_eq_false_iff_ne.mpr c8
                have c8b1 : (a0.toList != ([105, 110, 116, 101, 103, 101, 114] : List UInt8)) = true := bne_iff_ne.mpr c8
                obtain rfl := Option.some.inj H
                go_enter Try.func16, Try.ntmps16
                go_wp2
                go_ret
                exact ⟨by first | rfl | (simp; done) | (simp [*]; done), by repeat (first | exact Drawn0.refl _ | apply Drawn0.step)⟩

/-! ### spec_JAmong: function 17 -/
def spec_JAmong.l0 : Nat → ByteArray → List ByteArray → Int → Option (Bool)
  | 0, _, _, _ => none
  | k + 1, x0, x1, x5 => if x5 < (x1.length : Int) then (if 0 ≤ x5 then (if (rdOf ByteArray.empty x1 x5).toList = x0.toList then (some true) else (spec_JAmong.l0 k x0 x1 (wrap64 (x5 + 1)))) else (none)) else (some false)
def spec_JAmong.f (k : Nat) (a0 : ByteArray) (l1 : List ByteArray) : Option (Bool) := spec_JAmong.l0 k a0 l1 0
theorem spec_JAmong.mono_l : ∀ k, (∀ y0 y1 y2, LeO (spec_JAmong.l0 k y0 y1 y2) (spec_JAmong.l0 (k + 1) y0 y1 y2))
  | 0 => fun _ _ _ r h => by simp [spec_JAmong.l0] at h
  | k + 1 => by
    have ih0 := spec_JAmong.mono_l k
    · intro y0 y1 y2
      unfold spec_JAmong.l0
      repeat' first
      | (with_reducible exact ih0 _ _ _)
      | (with_reducible exact LeO.refl _)
      | (with_reducible exact LeO.none _)
      | (with_reducible refine LeO.ite ?_ ?_)
      | (with_reducible refine LeO.bind ?_ (fun _ => ?_))
      | exact ih0 _ _ _
      | exact LeO.none _
      | refine LeO.ite ?_ ?_
      | refine LeO.bind ?_ (fun _ => ?_)
theorem spec_JAmong.mono : ∀ a0 a1 k, LeO (spec_JAmong.f k a0 a1) (spec_JAmong.f (k + 1) a0 a1) := by
  intro a0 a1 k
  have ih0 := spec_JAmong.mono_l k
  unfold spec_JAmong.f
  repeat' first
      | (with_reducible exact ih0 _ _ _)
      | (with_reducible exact LeO.refl _)
      | (with_reducible exact LeO.none _)
      | (with_reducible refine LeO.ite ?_ ?_)
      | (with_reducible refine LeO.bind ?_ (fun _ => ?_))
      | exact ih0 _ _ _
      | exact LeO.none _
      | refine LeO.ite ?_ ?_
      | refine LeO.bind ?_ (fun _ => ?_)
set_option maxHeartbeats 8000000 in
set_option maxRecDepth 100000 in
theorem spec_JAmong.calls (k : Nat) (a0 : ByteArray) (A1 : Option Addr) (c1 : Nat) (l1 : List ByteArray) (r : Bool) (w : World) (hr1 : Kd.C Kd.string w A1 l1.length l1) (hc1 : l1.length ≤ c1) (h : spec_JAmong.f k a0 l1 = some r) :
    Calls Try.prog 17 #[.string a0, .slice A1 l1.length c1] w fun e w' => e = .returned (.bool r) ∧ Drawn0 w w' := by
  have HR1 := Aside0.mk hr1
  have HC1 := Aside0.mk hc1
  clear hr1 hc1
  have H : (spec_JAmong.l0 k a0 l1 0) = some r := h
  clear h
  have H' := Aside0.mk H
  clear H
  go_enter Try.func17, Try.ntmps17
  go_wp2
  go_loopg [5] k (fun kq v5 w' => ∃ (x5_1 : Int), v5 = .int .i64 x5_1 ∧ Aside0 (spec_JAmong.l0 kq a0 l1 x5_1 = some r) ∧ Aside0 (kq ≤ k) ∧ Drawn0 w w')
  case atStart => exact ⟨(0), (by first | rfl | (simp; done) | (simp [*]; done)), H', ⟨Nat.le_refl _⟩, by repeat (first | exact Drawn0.refl _ | apply Drawn0.step)⟩
  case round =>
    clear H'
    try clear c1
    try clear p2
    obtain ⟨x5_1, rfl, HA, HK1, ⟨m1, rfl⟩⟩ := hrel
    cases gk with
    | zero => exact absurd HA.out (by simp [spec_JAmong.l0])
    | succ k1 =>
      have H := HA.out
      clear HA
      simp only [spec_JAmong.l0] at H
      by_cases c3 : x5_1 < (l1.length : Int)
      · rw [if_pos c3] at H
        have c3b0 : decide (x5_1 < (l1.length : Int)) = true := decide_eq_true c3
        clear c3
        by_cases c4 : 0 ≤ x5_1
        · rw [if_pos c4] at H
          have c4b0 : decide (0 ≤ x5_1) = true := decide_eq_true c4
          clear c4
          by_cases c5 : (rdOf ByteArray.empty l1 x5_1).toList = a0.toList
          · rw [if_pos c5] at H
            have c5b0 : ((rdOf ByteArray.empty l1 x5_1).toList == a0.toList) = true := beq_iff_eq.mpr c5
            have c5b1 : ((rdOf ByteArray.empty l1 x5_1).toList != a0.toList) = false := bne_eq_false_iff_eq.mpr c5
            clear c5
            obtain rfl := Option.some.inj H
            have p111 : 0 ≤ (x5_1 : Int) := of_decide_eq_true (by first | (with_reducible assumption) | assumption)
            have q111 : x5_1 < (l1.length : Int) := of_decide_eq_true (by first | (with_reducible assumption) | assumption)
            obtain ⟨ad111, e111, hx111_0⟩ := Kd.at_string HR1.out x5_1 p111 q111
            cases e111
            replace p111 := eq_true p111
            replace q111 := eq_true q111
            go_wp2
            go_ret
            exact ⟨by first | rfl | (simp; done) | (simp [*]; done), by repeat (first | exact Drawn0.refl _ | apply Drawn0.step)⟩
          · rw [if_neg c5] at H
            have c5b0 : ((rdOf ByteArray.empty l1 x5_1).toList == a0.toList) = false := beq_eq_false_iff_ne.mpr c5
            have c5b1 : ((rdOf ByteArray.empty l1 x5_1).toList != a0.toList) = true := bne_iff_ne.mpr c5
            have H' := Aside0.mk H
            clear H
            have p111 : 0 ≤ (x5_1 : Int) := of_decide_eq_true (by first | (with_reducible assumption) | assumption)
            have q111 : x5_1 < (l1.length : Int) := of_decide_eq_true (by first | (with_reducible assumption) | assumption)
            obtain ⟨ad111, e111, hx111_0⟩ := Kd.at_string HR1.out x5_1 p111 q111
            cases e111
            replace p111 := eq_true p111
            replace q111 := eq_true q111
            go_wp2
            go_roundg k1
            case measure => have := HK1.out; omega
            case rel => exact ⟨(wrap64 (x5_1 + 1)), (by first | rfl | (simp; done) | (simp [*]; done)), H', ⟨by have := HK1.out; omega⟩, by repeat (first | exact Drawn0.refl _ | apply Drawn0.step)⟩
        · rw [if_neg c4] at H
          exact absurd H (by simp)
      · rw [if_neg c3] at H
        have c3b0 : decide (x5_1 < (l1.length : Int)) = false := decide_eq_false c3
        clear c3
        obtain rfl := Option.some.inj H
        go_wp2
        go_ret
        exact ⟨by first | rfl | (simp; done) | (simp [*]; done), by repeat (first | exact Drawn0.refl _ | apply Drawn0.step)⟩

-- NOT PRINTED: function 5 (laws_FnJTypes)

end Go.Proofs.Ytabadjidlfpngaa.PFnJTypes
