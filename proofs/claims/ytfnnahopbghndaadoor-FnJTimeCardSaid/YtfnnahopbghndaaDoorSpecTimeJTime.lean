/- spec.jClock, spec.jOffset, spec.JTime: what they answer. -/
import Derived.Test.YtfnnahopbghndaaDoorTimeG
import Derived.Test.YtfnnahopbghndaaDoorSpecNumJTime
namespace Go.Proofs.YtfnnahopbghndaaDoor.STmJTime
open Go.RowKit Go.Proofs.YtfnnahopbghndaaDoor.PJTime Go.Proofs.YtfnnahopbghndaaDoorW.PrintWords Go.Proofs.YtfnnahopbghndaaDoorW.PrintLast Go.Proofs.YtfnnahopbghndaaDoor.K Go.Proofs.YtfnnahopbghndaaDoor.Fmt Go.Proofs.YtfnnahopbghndaaDoor.SNumJTime
set_option linter.unusedVariables false
set_option linter.unusedSimpArgs false

theorem ev_mono {α β : Type} {g : Nat → Option α} {a : α} {f : α → Nat → Option β} {b : β} (h1 : Ev g a) (h2 : Ev (f a) b) : Ev (fun k => (g k).bind fun t => f t k) b := by
  obtain ⟨K1, h1⟩ := h1
  obtain ⟨K2, h2⟩ := h2
  refine ⟨K1 + K2, fun k hk => ?_⟩
  show (g k).bind _ = _
  rw [h1 k (by omega)]
  exact h2 k (by omega)
theorem toListE (s : ByteArray) {l : List UInt8} : s.toList = l ↔ bs s = l := by
  rw [ByteArray.toList_eq]
  exact Iff.rfl
theorem j0T (s : ByteArray) : Ev (fun k => spec_jClock.j0 k s true) (0, 0, false) := by
  refine ev_succ 0 fun k _ => ?_
  simp only [spec_jClock.j0]
  rw [if_pos trivial]
/-- A clock: whether it is one; its numbers are left open. -/
theorem clockS (s : ByteArray) (hs : s.size ≤ 2147483647) : ∃ h m b, Ev (fun k => spec_jClock.f k s) (h, m, b) ∧ (b = true ↔ clkOk (bs s)) := by
  have hl := bs_len s
  have no : ¬ clkOk (bs s) → Ev (fun k => spec_jClock.f k s) (0, 0, false) → ∃ h m b, Ev (fun k => spec_jClock.f k s) (h, m, b) ∧ (b = true ↔ clkOk (bs s)) := by
    intro h1 h2
    exact ⟨_, _, _, h2, by simp [h1]⟩
  obtain ⟨K0, hK0⟩ := j0T s
  by_cases h5 : (s.size : Int) = 5
  · have h5' : (bs s).length = 5 := by omega
    have hb2 := bt_nat s 2 (by omega)
    have hb2' : bt s 2 = (((bs s)[2]'(by omega)).toNat : Int) := hb2
    have g2 : (bs s)[2]? = some ((bs s)[2]'(by omega)) := List.getElem?_eq_getElem _
    by_cases hc : (bs s)[2]'(by omega) = 58
    · have hc' : bt s 2 = 58 := by rw [hb2', hc]; rfl
      obtain ⟨a, ⟨K1, hK1⟩, ha⟩ := digitsS (s.extract 0 2) (by rw [ByteArray.size_extract]; omega)
      rw [bs_take] at ha
      by_cases hat : a = true
      · obtain ⟨hne, hd⟩ := ha.1 hat
        obtain ⟨b, ⟨K2, hK2⟩, hb⟩ := digitsS (s.extract 3 s.size) (by rw [ByteArray.size_extract]; omega)
        rw [bs_drop] at hb
        by_cases hbt : b = true
        · obtain ⟨hne', hd'⟩ := hb.1 hbt
          obtain ⟨K3, hK3⟩ := numberS (s.extract 0 2) (by rw [ByteArray.size_extract]; omega) (by rw [bs_take]; exact hd)
          obtain ⟨K4, hK4⟩ := numberS (s.extract 3 s.size) (by rw [ByteArray.size_extract]; omega) (by rw [bs_drop]; exact hd')
          rw [bs_take] at hK3
          rw [bs_drop] at hK4
          by_cases h24 : (decF 0 ((bs s).take 2) : Int) < 24
          · refine ⟨(decF 0 ((bs s).take 2) : Int), (decF 0 ((bs s).drop 3) : Int), decide ((decF 0 ((bs s).drop 3) : Int) < 60), ⟨K1 + K2 + K3 + K4 + 1, fun k hk => ?_⟩, ?_⟩
            · show spec_jClock.f k s = _
              obtain ⟨k, rfl⟩ : ∃ m, k = m + 1 := ⟨k - 1, by omega⟩
              unfold spec_jClock.f
              rw [if_pos h5, if_pos (by omega), if_pos hc', if_pos (by omega), if_pos (by omega), show spec_jDigits.f (k + 1) (s.extract 0 2) = _ from hK1 (k + 1) (by omega), Option.bind_some, if_pos hat, if_pos (by omega), show spec_jDigits.f (k + 1) (s.extract 3 s.size) = _ from hK2 (k + 1) (by omega), Option.bind_some]
              simp only [spec_jClock.j0]
              rw [hbt, if_neg (by simp), if_pos (by omega), if_pos (by omega), show spec_jNumber.f k (s.extract 0 2) = _ from hK3 k (by omega), Option.bind_some, if_pos (by omega), show spec_jNumber.f k (s.extract 3 s.size) = _ from hK4 k (by omega), Option.bind_some, if_pos h24]
            · rw [decide_eq_true_eq]
              unfold clkOk
              constructor
              · intro k; exact ⟨h5', by rw [g2, hc], hd, hd', by omega, by omega⟩
              · rintro ⟨_, _, _, _, _, k⟩; omega
          · refine ⟨(decF 0 ((bs s).take 2) : Int), (decF 0 ((bs s).drop 3) : Int), false, ⟨K1 + K2 + K3 + K4 + 1, fun k hk => ?_⟩, ?_⟩
            · show spec_jClock.f k s = _
              obtain ⟨k, rfl⟩ : ∃ m, k = m + 1 := ⟨k - 1, by omega⟩
              unfold spec_jClock.f
              rw [if_pos h5, if_pos (by omega), if_pos hc', if_pos (by omega), if_pos (by omega), show spec_jDigits.f (k + 1) (s.extract 0 2) = _ from hK1 (k + 1) (by omega), Option.bind_some, if_pos hat, if_pos (by omega), show spec_jDigits.f (k + 1) (s.extract 3 s.size) = _ from hK2 (k + 1) (by omega), Option.bind_some]
              simp only [spec_jClock.j0]
              rw [hbt, if_neg (by simp), if_pos (by omega), if_pos (by omega), show spec_jNumber.f k (s.extract 0 2) = _ from hK3 k (by omega), Option.bind_some, if_pos (by omega), show spec_jNumber.f k (s.extract 3 s.size) = _ from hK4 k (by omega), Option.bind_some, if_neg h24]
            · simp only [Bool.false_eq_true, false_iff]
              unfold clkOk
              rintro ⟨_, _, _, _, k, _⟩; omega
        · refine no ?_ ⟨K0 + K1 + K2, fun k hk => ?_⟩
          · rintro ⟨_, _, _, k, _⟩
            refine hbt (hb.2 ⟨?_, k⟩)
            rw [← List.length_pos_iff, List.length_drop]; omega
          · show spec_jClock.f k s = _
            unfold spec_jClock.f
            rw [if_pos h5, if_pos (by omega), if_pos hc', if_pos (by omega), if_pos (by omega), show spec_jDigits.f k (s.extract 0 2) = _ from hK1 k (by omega), Option.bind_some, if_pos hat, if_pos (by omega), show spec_jDigits.f k (s.extract 3 s.size) = _ from hK2 k (by omega), Option.bind_some]
            rw [Bool.not_eq_true] at hbt
            rw [hbt]
            exact hK0 k (by omega)
      · refine no ?_ ⟨K0 + K1, fun k hk => ?_⟩
        · rintro ⟨_, _, k, _⟩
          refine hat (ha.2 ⟨?_, k⟩)
          rw [← List.length_pos_iff, List.length_take]; omega
        · show spec_jClock.f k s = _
          unfold spec_jClock.f
          rw [if_pos h5, if_pos (by omega), if_pos hc', if_pos (by omega), if_pos (by omega), show spec_jDigits.f k (s.extract 0 2) = _ from hK1 k (by omega), Option.bind_some, if_neg hat]
          exact hK0 k (by omega)
    · refine no ?_ ⟨K0, fun k hk => ?_⟩
      · rintro ⟨_, k, _⟩
        rw [g2, Option.some.injEq] at k
        exact hc k
      · show spec_jClock.f k s = _
        unfold spec_jClock.f
        rw [if_pos h5, if_pos (by omega), if_neg (by rw [hb2']; exact fun e => hc ((eq_toNat _ 58).1 e))]
        exact hK0 k hk
  · refine no ?_ ⟨K0, fun k hk => ?_⟩
    · rintro ⟨k, _⟩; omega
    · show spec_jClock.f k s = _
      unfold spec_jClock.f
      rw [if_neg h5]
      exact hK0 k hk
theorem o0T (s : ByteArray) : Ev (fun k => spec_jOffset.j0 k s true) (0, true) := by
  refine ev_succ 0 fun k _ => ?_
  simp only [spec_jOffset.j0]
  rw [if_pos trivial]
theorem o1T (s : ByteArray) : Ev (fun k => spec_jOffset.j1 k s true) (0, false) := by
  refine ev_succ 0 fun k _ => ?_
  simp only [spec_jOffset.j1]
  rw [if_pos trivial]
/-- An offset: whether it is one. -/
theorem offsetS (s : ByteArray) (hs : s.size ≤ 2147483647) : ∃ a b, Ev (fun k => spec_jOffset.f k s) (a, b) ∧ (b = true ↔ zoneS (bs s)) := by
  have hl := bs_len s
  obtain ⟨K0, hK0⟩ := o0T s
  obtain ⟨K1, hK1⟩ := o1T s
  by_cases hZ : s.toList = ([90] : List UInt8)
  · refine ⟨0, true, ⟨K0, fun k hk => ?_⟩, ?_⟩
    · show spec_jOffset.f k s = _
      unfold spec_jOffset.f
      rw [if_pos hZ]
      exact hK0 k hk
    · simp only [true_iff]
      rw [toListE] at hZ
      exact .inl hZ
  · by_cases hz : s.toList = ([122] : List UInt8)
    · refine ⟨0, true, ⟨K0, fun k hk => ?_⟩, ?_⟩
      · show spec_jOffset.f k s = _
        unfold spec_jOffset.f
        rw [if_neg hZ, show (s.toList == ([122] : List UInt8)) = true from beq_iff_eq.2 hz]
        exact hK0 k hk
      · simp only [true_iff]
        rw [toListE] at hz
        exact .inr (.inl hz)
    · have hzb : (s.toList == ([122] : List UInt8)) = false := beq_eq_false_iff_ne.2 hz
      have hZ' : bs s ≠ [90] := fun k => hZ (by rw [toListE]; exact k)
      have hz' : bs s ≠ [122] := fun k => hz (by rw [toListE]; exact k)
      by_cases h6 : (s.size : Int) = 6
      · have hb0 : bt s 0 = (((bs s)[0]'(by omega)).toNat : Int) := bt_nat s 0 (by omega)
        have g0 : (bs s).head? = some ((bs s)[0]'(by omega)) := by rw [List.head?_eq_getElem?, List.getElem?_eq_getElem (by omega)]
        generalize (bs s)[0]'(by omega) = x at hb0 g0
        by_cases hx : x = 43 ∨ x = 45
        · obtain ⟨h, m, b, ⟨K2, hK2⟩, hb⟩ := clockS (s.extract 1 s.size) (by rw [ByteArray.size_extract]; omega)
          rw [bs_drop] at hb
          have hzo : zoneS (bs s) ↔ clkOk ((bs s).drop 1) := by
            unfold zoneS
            constructor
            · rintro (k | k | ⟨_, _, k⟩)
              · exact absurd k hZ'
              · exact absurd k hz'
              · exact k
            · intro k
              refine .inr (.inr ⟨by omega, ?_, k⟩)
              rw [g0]
              rcases hx with rfl | rfl
              · exact .inl rfl
              · exact .inr rfl
          rcases hx with rfl | rfl
          · refine ⟨wrap64 ((wrap64 (60 * h)) + m), b, ⟨K2 + 2, fun k hk => ?_⟩, by rw [hb, hzo]⟩
            show spec_jOffset.f k s = _
            obtain ⟨k, rfl⟩ : ∃ m, k = m + 1 + 1 := ⟨k - 2, by omega⟩
            have e0 : bt s 0 = 43 := hb0
            unfold spec_jOffset.f
            rw [if_neg hZ, hzb]
            simp only [spec_jOffset.j0]
            rw [if_neg (by simp), if_pos h6, if_pos (by omega), if_pos e0]
            simp only [spec_jOffset.j1]
            rw [if_neg (by simp), if_pos (by omega), show spec_jClock.f k (s.extract 1 s.size) = _ from hK2 k (by omega), Option.bind_some, if_pos (by omega), if_neg (by omega)]
          · refine ⟨wrap64 ((wrap64 ((-60) * h)) - m), b, ⟨K2 + 2, fun k hk => ?_⟩, by rw [hb, hzo]⟩
            show spec_jOffset.f k s = _
            obtain ⟨k, rfl⟩ : ∃ m, k = m + 1 + 1 := ⟨k - 2, by omega⟩
            have e0 : bt s 0 = 45 := hb0
            unfold spec_jOffset.f
            rw [if_neg hZ, hzb]
            simp only [spec_jOffset.j0]
            rw [if_neg (by simp), if_pos h6, if_pos (by omega), if_neg (by omega), show (bt s 0 != 45) = false from by rw [e0]; rfl]
            simp only [spec_jOffset.j1]
            rw [if_neg (by simp), if_pos (by omega), show spec_jClock.f k (s.extract 1 s.size) = _ from hK2 k (by omega), Option.bind_some, if_pos (by omega), if_pos e0]
        · refine ⟨0, false, ⟨K1 + 1, fun k hk => ?_⟩, ?_⟩
          · show spec_jOffset.f k s = _
            obtain ⟨k, rfl⟩ : ∃ m, k = m + 1 := ⟨k - 1, by omega⟩
            have e43 : ¬ bt s 0 = 43 := by rw [hb0]; exact fun e => hx (.inl ((eq_toNat _ 43).1 e))
            have e45 : (bt s 0 != 45) = true := by rw [hb0, bne_iff_ne]; exact fun e => hx (.inr ((eq_toNat _ 45).1 e))
            unfold spec_jOffset.f
            rw [if_neg hZ, hzb]
            simp only [spec_jOffset.j0]
            rw [if_neg (by simp), if_pos h6, if_pos (by omega), if_neg e43, e45]
            exact hK1 k (by omega)
          · simp only [Bool.false_eq_true, false_iff]
            rintro (k | k | ⟨_, k, _⟩)
            · exact hZ' k
            · exact hz' k
            · rw [g0, Option.some.injEq, Option.some.injEq] at k
              exact hx k
      · refine ⟨0, false, ⟨K1 + 1, fun k hk => ?_⟩, ?_⟩
        · show spec_jOffset.f k s = _
          obtain ⟨k, rfl⟩ : ∃ m, k = m + 1 := ⟨k - 1, by omega⟩
          unfold spec_jOffset.f
          rw [if_neg hZ, hzb]
          simp only [spec_jOffset.j0]
          rw [if_neg (by simp), if_neg h6]
          exact hK1 k (by omega)
        · simp only [Bool.false_eq_true, false_iff]
          rintro (k | k | ⟨k, _⟩)
          · exact hZ' k
          · exact hz' k
          · omega
/-- What is asked behind the offset's place. -/
theorem tailS (s : ByteArray) (hs : s.size ≤ 2147483647) (e : Nat) (x3 x4 : Int) (c : Bool) (t : Int) (ht : t ≠ 60) :
    ∃ b, Ev (fun k => (spec_jOffset.f k (s.extract e s.size)).bind fun bt115 => (if c = true then (if bt115.2 = true then (if t > 60 then (some false) else (if t < 60 then (some true) else (some ((Int.tmod (wrap64 ((wrap64 ((wrap64 ((wrap64 (60 * x3)) + x4)) - bt115.1)) + 2880)) 1440) == 1439)))) else (some false)) else (some false))) b ∧
      (b = true ↔ c = true ∧ zoneS ((bs s).drop e) ∧ t < 60) := by
  obtain ⟨a, q, ⟨K, hK⟩, hq⟩ := offsetS (s.extract e s.size) (by rw [ByteArray.size_extract]; omega)
  rw [bs_drop] at hq
  refine ⟨c && q && decide (t < 60), ⟨K, fun k hk => ?_⟩, ?_⟩
  · show (spec_jOffset.f k (s.extract e s.size)).bind _ = _
    rw [show spec_jOffset.f k (s.extract e s.size) = _ from hK k hk, Option.bind_some]
    cases c <;> cases q <;> simp
    by_cases h1 : t > 60
    · rw [if_pos h1]; simp; omega
    · rw [if_neg h1, if_pos (by omega)]; simp; omega
  · rw [← hq]; simp [and_assoc]
theorem fracLoop (s : ByteArray) (hs : s.size ≤ 2147483647) (x3 x4 : Int) (c : Bool) (t : Int) (ht : t ≠ 60) (d : Nat) : ∀ i : Nat, 9 ≤ i → i ≤ s.size → s.size - i = d →
    ∃ b, Ev (fun k => spec_JTime.l0 k s x3 x4 c t i) b ∧ (b = true ↔ i + digs ((bs s).drop i) ≠ 9 ∧ c = true ∧ zoneS ((bs s).drop (i + digs ((bs s).drop i))) ∧ t < 60) := by
  have hl := bs_len s
  have stop : ∀ i : Nat, 9 ≤ i → i ≤ s.size → ∃ b, Ev (fun k => spec_JTime.j2 k s x3 x4 c t i) b ∧ (b = true ↔ i ≠ 9 ∧ c = true ∧ zoneS ((bs s).drop i) ∧ t < 60) := by
    intro i h9 hi
    by_cases e9 : i = 9
    · subst e9
      refine ⟨false, ev_succ 0 fun k _ => ?_, by simp⟩
      simp only [spec_JTime.j2]
      rw [if_pos (by omega)]
    · obtain ⟨b, ⟨K, hK⟩, hb⟩ := tailS s hs i x3 x4 c t ht
      refine ⟨b, ev_succ K fun k hk => ?_, by rw [hb]; simp [e9]⟩
      simp only [spec_JTime.j2, Int.toNat_natCast]
      rw [if_neg (by omega), if_pos (by omega), if_pos (by omega)]
      exact hK k hk
  induction d with
  | zero =>
    intro i h9 hi hd
    obtain ⟨b, ⟨K, hK⟩, hb⟩ := stop i h9 hi
    have e0 : digs ((bs s).drop i) = 0 := by rw [List.drop_of_length_le (by omega)]; rfl
    refine ⟨b, ev_succ K fun k hk => ?_, by rw [e0, Nat.add_zero]; exact hb⟩
    simp only [spec_JTime.l0]
    rw [if_neg (by omega)]
    exact hK k hk
  | succ d ih =>
    intro i h9 hi hd
    have hlt : i < (bs s).length := by omega
    have ew' : wrap64 ((i : Int) + 1) = ((i + 1 : Nat) : Int) := by rw [wrap_in (by omega) (by omega)]; omega
    have hbt := bt_nat s i hlt
    by_cases hok : digB (bs s)[i] = true
    · obtain ⟨b, ⟨K, hK⟩, hb⟩ := ih (i + 1) (by omega) (by omega) (by omega)
      have e1 : digs ((bs s).drop i) = 1 + digs ((bs s).drop (i + 1)) := by
        rw [List.drop_eq_getElem_cons hlt]; unfold digs; rw [List.takeWhile_cons, if_pos hok, List.length_cons]; omega
      refine ⟨b, ev_succ K fun k hk => ?_, by rw [e1, ← Nat.add_assoc]; exact hb⟩
      simp only [spec_JTime.l0, hbt, ew', digitS, Option.bind_some]
      rw [if_pos (by omega), if_pos (by omega), if_pos hok]
      exact hK k hk
    · obtain ⟨b, ⟨K, hK⟩, hb⟩ := stop i h9 hi
      have e1 : digs ((bs s).drop i) = 0 := by
        rw [List.drop_eq_getElem_cons hlt]; unfold digs; rw [List.takeWhile_cons, if_neg hok]; rfl
      refine ⟨b, ev_succ K fun k hk => ?_, by rw [e1, Nat.add_zero]; exact hb⟩
      simp only [spec_JTime.l0, hbt, ew', digitS, Option.bind_some]
      rw [if_pos (by omega), if_pos (by omega), if_neg hok]
      exact hK k hk
theorem tm0T (s : ByteArray) : Ev (fun k => spec_JTime.j0 k s true) false := by
  refine ev_succ 0 fun k _ => ?_
  simp only [spec_JTime.j0]
  rw [if_pos trivial]
theorem timeS (s : ByteArray) (hs : s.size ≤ 2147483647) (h60 : ¬ ((bs s)[6]? = some 54 ∧ (bs s)[7]? = some 48)) : ∃ b, Ev (fun k => spec_JTime.f k s) b ∧ (b = true ↔ specOk (bs s)) := by
  have hl := bs_len s
  obtain ⟨K0, hK0⟩ := tm0T s
  by_cases h9 : (s.size : Int) < 9
  · refine ⟨false, ⟨K0, fun k hk => ?_⟩, ?_⟩
    · show spec_JTime.f k s = _
      unfold spec_JTime.f
      rw [if_pos h9]
      exact hK0 k hk
    · simp only [Bool.false_eq_true, false_iff]
      rintro ⟨k, _⟩; omega
  · have hb5 : bt s 5 = (((bs s)[5]'(by omega)).toNat : Int) := bt_nat s 5 (by omega)
    have hb8 : bt s 8 = (((bs s)[8]'(by omega)).toNat : Int) := bt_nat s 8 (by omega)
    have g5 : (bs s)[5]? = some ((bs s)[5]'(by omega)) := List.getElem?_eq_getElem _
    have g6 : (bs s)[6]? = some ((bs s)[6]'(by omega)) := List.getElem?_eq_getElem _
    have g7 : (bs s)[7]? = some ((bs s)[7]'(by omega)) := List.getElem?_eq_getElem _
    have g8 : ((bs s).drop 8).head? = some ((bs s)[8]'(by omega)) := by rw [List.head?_drop, List.getElem?_eq_getElem (by omega)]
    have d8 : ((bs s).drop 8).drop 1 = (bs s).drop 9 := by rw [List.drop_drop]
    have two : ((bs s).take 8).drop 6 = [(bs s)[6]'(by omega), (bs s)[7]'(by omega)] := by
      rw [List.drop_take, List.drop_eq_getElem_cons (by omega), List.drop_eq_getElem_cons (i := 7) (by omega)]
      rfl
    rw [g6, g7, Option.some.injEq, Option.some.injEq] at h60
    by_cases hc : (bs s)[5]'(by omega) = 58
    · have hc' : bt s 5 = 58 := by rw [hb5, hc]; rfl
      obtain ⟨a, ⟨K1, hK1⟩, ha⟩ := digitsS (s.extract 6 8) (by rw [ByteArray.size_extract]; omega)
      rw [bs_extract] at ha
      by_cases hat : a = true
      · obtain ⟨_, hd⟩ := ha.1 hat
        obtain ⟨x3, x4, c, ⟨K2, hK2⟩, hcl⟩ := clockS (s.extract 0 5) (by rw [ByteArray.size_extract]; omega)
        rw [bs_take] at hcl
        obtain ⟨K3, hK3⟩ := numberS (s.extract 6 8) (by rw [ByteArray.size_extract]; omega) (by rw [bs_extract]; exact hd)
        rw [bs_extract] at hK3
        have hne : (decF 0 (((bs s).take 8).drop 6) : Int) ≠ 60 := by
          intro k
          rw [two] at k hd
          exact h60 (sixty _ _ (hd _ (by simp)) (hd _ (by simp)) (by omega))
        have ok : ∀ b : Bool, (b = true ↔ c = true ∧ (∃ r, fracOf ((bs s).drop 8) r ∧ zoneS r) ∧ (decF 0 (((bs s).take 8).drop 6) : Int) < 60) → (b = true ↔ specOk (bs s)) := by
          intro b hb
          rw [hb, hcl]
          unfold specOk
          constructor
          · rintro ⟨k1, k2, k3⟩
            exact ⟨by omega, by rw [g5, hc], hd, k1, by omega, k2⟩
          · rintro ⟨_, _, _, k1, k3, k2⟩
            exact ⟨k1, k2, by omega⟩
        by_cases h46 : (bs s)[8]'(by omega) = 46
        · have h46' : bt s 8 = 46 := by rw [hb8, h46]; rfl
          obtain ⟨b, ⟨K4, hK4⟩, hb⟩ := fracLoop s hs x3 x4 c _ hne (s.size - 9) 9 (by omega) (by omega) rfl
          refine ⟨b, ⟨K1 + K2 + K3 + K4 + 1, fun k hk => ?_⟩, ok b ?_⟩
          · show spec_JTime.f k s = _
            obtain ⟨k, rfl⟩ : ∃ m, k = m + 1 := ⟨k - 1, by omega⟩
            unfold spec_JTime.f
            rw [if_neg h9, if_pos (by omega), if_pos hc', if_pos (by omega), if_pos (by omega), show spec_jDigits.f (k + 1) (s.extract 6 8) = _ from hK1 (k + 1) (by omega), Option.bind_some]
            simp only [spec_JTime.j0]
            rw [hat, if_neg (by simp), if_pos (by omega), if_pos (by omega), show spec_jClock.f k (s.extract 0 5) = _ from hK2 k (by omega), Option.bind_some, if_pos (by omega), if_pos (by omega), show spec_jNumber.f k (s.extract 6 8) = _ from hK3 k (by omega), Option.bind_some, if_pos (by omega), if_pos h46']
            exact hK4 k (by omega)
          · rw [hb]
            have hf : (∃ r, fracOf ((bs s).drop 8) r ∧ zoneS r) ↔ 9 + digs ((bs s).drop 9) ≠ 9 ∧ zoneS ((bs s).drop (9 + digs ((bs s).drop 9))) := by
              unfold fracOf
              rw [g8, d8, h46, List.drop_drop]
              constructor
              · rintro ⟨r, ⟨k, _⟩ | ⟨_, k1, rfl⟩, k2⟩
                · exact absurd rfl k
                · exact ⟨by omega, k2⟩
              · rintro ⟨k1, k2⟩
                exact ⟨_, .inr ⟨rfl, by omega, rfl⟩, k2⟩
            rw [hf]
            constructor
            · rintro ⟨k1, k2, k3, k4⟩; exact ⟨k2, ⟨k1, k3⟩, k4⟩
            · rintro ⟨k2, ⟨k1, k3⟩, k4⟩; exact ⟨k1, k2, k3, k4⟩
        · have h46' : ¬ bt s 8 = 46 := by rw [hb8]; exact fun e => h46 ((eq_toNat _ 46).1 e)
          obtain ⟨b, ⟨K4, hK4⟩, hb⟩ := tailS s hs 8 x3 x4 c _ hne
          refine ⟨b, ⟨K1 + K2 + K3 + K4 + 1, fun k hk => ?_⟩, ok b ?_⟩
          · show spec_JTime.f k s = _
            obtain ⟨k, rfl⟩ : ∃ m, k = m + 1 := ⟨k - 1, by omega⟩
            unfold spec_JTime.f
            rw [if_neg h9, if_pos (by omega), if_pos hc', if_pos (by omega), if_pos (by omega), show spec_jDigits.f (k + 1) (s.extract 6 8) = _ from hK1 (k + 1) (by omega), Option.bind_some]
            simp only [spec_JTime.j0]
            rw [hat, if_neg (by simp), if_pos (by omega), if_pos (by omega), show spec_jClock.f k (s.extract 0 5) = _ from hK2 k (by omega), Option.bind_some, if_pos (by omega), if_pos (by omega), show spec_jNumber.f k (s.extract 6 8) = _ from hK3 k (by omega), Option.bind_some, if_pos (by omega), if_neg h46']
            exact hK4 k (by omega)
          · rw [hb]
            have hf : (∃ r, fracOf ((bs s).drop 8) r ∧ zoneS r) ↔ zoneS ((bs s).drop 8) := by
              unfold fracOf
              rw [g8]
              constructor
              · rintro ⟨r, ⟨k, rfl⟩ | ⟨k, _⟩, k2⟩
                · exact k2
                · exact absurd (Option.some.inj k) h46
              · intro k
                exact ⟨_, .inl ⟨fun e => h46 (Option.some.inj e), rfl⟩, k⟩
            rw [hf]
      · refine ⟨false, ⟨K0 + K1, fun k hk => ?_⟩, ?_⟩
        · show spec_JTime.f k s = _
          unfold spec_JTime.f
          rw [if_neg h9, if_pos (by omega), if_pos hc', if_pos (by omega), if_pos (by omega), show spec_jDigits.f k (s.extract 6 8) = _ from hK1 k (by omega), Option.bind_some]
          rw [Bool.not_eq_true] at hat
          rw [hat]
          exact hK0 k (by omega)
        · simp only [Bool.false_eq_true, false_iff]
          rintro ⟨_, _, k, _⟩
          exact hat (ha.2 ⟨by rw [two]; simp, k⟩)
    · refine ⟨false, ⟨K0, fun k hk => ?_⟩, ?_⟩
      · show spec_JTime.f k s = _
        unfold spec_JTime.f
        rw [if_neg h9, if_pos (by omega), if_neg (by rw [hb5]; exact fun e => hc ((eq_toNat _ 58).1 e))]
        exact hK0 k hk
      · simp only [Bool.false_eq_true, false_iff]
        rintro ⟨_, k, _⟩
        rw [g5, Option.some.injEq] at k
        exact hc k
end Go.Proofs.YtfnnahopbghndaaDoor.STmJTime
