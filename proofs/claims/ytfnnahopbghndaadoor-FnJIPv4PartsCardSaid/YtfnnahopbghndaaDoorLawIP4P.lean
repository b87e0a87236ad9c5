/- FnJIPv4Parts: four numbers from 0 to 999 are an address exactly if all are at most 255; three and five are none. -/
import Derived.Test.YtfnnahopbghndaaDoorLawIP4
import Derived.Test.YtfnnahopbghndaaDoorPjWholex
import Derived.Test.YtfnnahopbghndaaDoorPjRestx
namespace Go.Proofs.YtfnnahopbghndaaDoor.LIP4P
open Go.RowKit Go.Proofs.YtfnnahopbghndaaDoorW.PrintWords Go.Proofs.YtfnnahopbghndaaDoorW.PrintLast Go.Proofs.YtfnnahopbghndaaDoor.K Go.Proofs.YtfnnahopbghndaaDoor.Fmt
set_option linter.unusedVariables false
set_option linter.unusedSimpArgs false

/-- The digits of a number from 0 to 999. -/
def wl (n : Nat) : List UInt8 := if n < 10 then [UInt8.ofNat (48 + n)] else if n < 100 then [UInt8.ofNat (48 + n / 10 % 10), UInt8.ofNat (48 + n % 10)] else [UInt8.ofNat (48 + n / 100 % 10), UInt8.ofNat (48 + n / 10 % 10), UInt8.ofNat (48 + n % 10)]
def octB (g : List UInt8) : Bool := !(decide (1 < g.length) && (g.head? == some 48)) && match Lib.atoiAll g with
  | .ok v => decide (0 ≤ v) && decide (v ≤ 255)
  | _ => false
theorem octB_iff (g : List UInt8) : octB g = true ↔ octOk g := by
  unfold octB octOk
  cases h : Lib.atoiAll g with
  | ok v =>
    simp
    intro _ _
    constructor
    · rintro (h | h) k
      · omega
      · exact h
    · intro h
      by_cases k : 1 < g.length
      · exact .inr (h k)
      · exact .inl (by omega)
  | «syntax» => simp
  | range => simp
def noDot (g : List UInt8) : Bool := !g.contains 46
theorem wl_all : ∀ n : Fin 1000, (octB (wl n.val) == decide (n.val ≤ 255)) && noDot (wl n.val) && decide ((wl n.val).length ≤ 3) = true := by decide +kernel
theorem wl_f : ∀ n : Fin 1000, ((PjWhole.laws_jWhole.f (n.val : Int)).map bs == some (wl n.val)) = true := by decide +kernel
theorem wl_ok (n : Nat) (h : n < 1000) : (octOk (wl n) ↔ n ≤ 255) ∧ 46 ∉ wl n ∧ (wl n).length ≤ 3 := by
  have := wl_all ⟨n, h⟩
  simp only [Bool.and_eq_true, beq_iff_eq, decide_eq_true_eq, noDot, Bool.not_eq_true'] at this
  obtain ⟨⟨h1, h2⟩, h3⟩ := this
  refine ⟨?_, ?_, h3⟩
  · rw [← octB_iff, h1, decide_eq_true_eq]
  · intro k
    rw [List.contains_iff_mem.2 k] at h2
    cases h2
theorem wl_is (n : Nat) (h : n < 1000) : ∃ r, PjWhole.laws_jWhole.f (n : Int) = some r ∧ bs r = wl n := by
  have := wl_f ⟨n, h⟩
  rw [beq_iff_eq] at this
  obtain ⟨r, h1, h2⟩ := Option.map_eq_some_iff.1 this
  exact ⟨r, h1, h2⟩
theorem rest (a : Int) : ∃ n : Nat, PjRest.laws_jRest.f a 1000 = some (n : Int) ∧ n < 1000 := by
  unfold PjRest.laws_jRest.f
  have h1 : Int.tmod a 1000 < 1000 := Int.tmod_lt_of_pos a (by omega)
  have h2 : -1000 < Int.tmod a 1000 := by
    have := Int.tmod_lt_of_pos (-a) (b := 1000) (by omega)
    rw [Int.neg_tmod] at this
    omega
  generalize Int.tmod a 1000 = t at *
  rw [if_neg (by omega)]
  by_cases h : t < 0
  · rw [if_pos h, wrap_in (by omega) (by omega)]
    exact ⟨(t + 1000).toNat, by congr 1; omega, by omega⟩
  · rw [if_neg h]
    exact ⟨t.toNat, by congr 1; omega, by omega⟩
/-- Groups with dots between them. -/
theorem joined (s : ByteArray) (gs : List (List UInt8)) (hne : gs ≠ []) (hf : ∀ g ∈ gs, 46 ∉ g) (h : bs s = joinL 46 gs) : ip4Ok (bs s) ↔ gs.length = 4 ∧ ∀ g ∈ gs, octOk g := by
  unfold ip4Ok
  rw [h, split_join hne hf]
theorem zero4 : ip4Ok (bs ⟨#[48, 46, 48, 46, 48, 46, 48]⟩) := by
  have h := joined ⟨#[48, 46, 48, 46, 48, 46, 48]⟩ [[48], [48], [48], [48]] (by simp) (by simp) (by decide)
  rw [h]
  refine ⟨rfl, ?_⟩
  have h0 : octOk [48] := (octB_iff _).1 (by decide +kernel)
  simp [h0]

theorem dot : bs ⟨#[46]⟩ = [46] := rfl
set_option maxHeartbeats 4000000 in
set_option maxRecDepth 100000 in
theorem walk (a b c d : Int) (w : World) (_ha : -9223372036854775808 ≤ a ∧ a ≤ 9223372036854775807) (_hb : -9223372036854775808 ≤ b ∧ b ≤ 9223372036854775807) (_hc : -9223372036854775808 ≤ c ∧ c ≤ 9223372036854775807) (_hd : -9223372036854775808 ≤ d ∧ d ≤ 9223372036854775807) (hL : laidMetH Tryd.prog Rows.fnJIPv4PartsRow.laid w) :
    Calls Tryd.prog 4 #[.int .i64 a, .int .i64 b, .int .i64 c, .int .i64 d] w fun e w' => e = .returned (.bool true) ∧ Below w.heap.size w w' := by
  have HKp : Hid (Kept w) := Lib.hid (Errs.of_laid hL)
  clear hL
  obtain ⟨na, ra, la⟩ := rest a
  obtain ⟨nb, rb, lb⟩ := rest b
  obtain ⟨nc, rc, lc⟩ := rest c
  obtain ⟨nd, rd, ld⟩ := rest d
  obtain ⟨sa, wa, ba⟩ := wl_is na la
  obtain ⟨sb, wb, bb⟩ := wl_is nb lb
  obtain ⟨sc, wc, bc⟩ := wl_is nc lc
  obtain ⟨sd, wd, bd⟩ := wl_is nd ld
  have HRA := Lib.hid ra
  have HRB := Lib.hid rb
  have HRC := Lib.hid rc
  have HRD := Lib.hid rd
  have HWA := Lib.hid wa
  have HWB := Lib.hid wb
  have HWC := Lib.hid wc
  have HWD := Lib.hid wd
  have za : sa.size ≤ 3 := by rw [← bs_len, ba]; exact (wl_ok na la).2.2
  have zb : sb.size ≤ 3 := by rw [← bs_len, bb]; exact (wl_ok nb lb).2.2
  have zc : sc.size ≤ 3 := by rw [← bs_len, bc]; exact (wl_ok nc lc).2.2
  have zd : sd.size ≤ 3 := by rw [← bs_len, bd]; exact (wl_ok nd ld).2.2
  have HBA := Lib.hid ba
  have HBB := Lib.hid bb
  have HBC := Lib.hid bc
  have HBD := Lib.hid bd
  clear ra rb rc rd wa wb wc wd ba bb bc bd
  go_enter Tryd.func4, Tryd.ntmps4
  go_wp2_with fail
  refine (PjRest.laws_jRest.calls a 1000 _ _ HRA.out).mono ?_
  rintro e w1 ⟨rfl, ⟨n1, rfl⟩⟩
  go_wp2_with fail
  refine (PjRest.laws_jRest.calls b 1000 _ _ HRB.out).mono ?_
  rintro e w1 ⟨rfl, ⟨n2, rfl⟩⟩
  go_wp2_with fail
  refine (PjRest.laws_jRest.calls c 1000 _ _ HRC.out).mono ?_
  rintro e w1 ⟨rfl, ⟨n3, rfl⟩⟩
  go_wp2_with fail
  refine (PjRest.laws_jRest.calls d 1000 _ _ HRD.out).mono ?_
  rintro e w1 ⟨rfl, ⟨n4, rfl⟩⟩
  have hb0 := pw_below_drewN (Below.refl w.heap.size w) (n1 + n2 + n3 + n4)
  go_wp2_with fail
  refine (PjWhole.laws_jWhole.calls na sa _ HWA.out).mono ?_
  rintro e w1 ⟨rfl, hb1⟩
  have hb0 := hb0.trans (hb1.mono hb0.size)
  clear hb1
  go_wp2_with fail
  refine (PjWhole.laws_jWhole.calls nb sb _ HWB.out).mono ?_
  rintro e w2 ⟨rfl, hb1⟩
  have hb0 := hb0.trans (hb1.mono hb0.size)
  clear hb1
  go_wp2_with fail
  refine (PjWhole.laws_jWhole.calls nc sc _ HWC.out).mono ?_
  rintro e w3 ⟨rfl, hb1⟩
  have hb0 := hb0.trans (hb1.mono hb0.size)
  clear hb1
  go_wp2_with fail
  refine (PjWhole.laws_jWhole.calls nd sd _ HWD.out).mono ?_
  rintro e w4 ⟨rfl, hb1⟩
  have hb0 := hb0.trans (hb1.mono hb0.size)
  clear hb1
  go_wp2_with fail
  have dA := wl_ok na la
  have dB := wl_ok nb lb
  have dC := wl_ok nc lc
  have dD := wl_ok nd ld
  have q4 : ip4Ok (bs (sa ++ ⟨#[46]⟩ ++ sb ++ ⟨#[46]⟩ ++ sc ++ ⟨#[46]⟩ ++ sd)) ↔ na ≤ 255 ∧ nb ≤ 255 ∧ nc ≤ 255 ∧ nd ≤ 255 := by
    rw [joined _ [wl na, wl nb, wl nc, wl nd] (by simp) (by simp [dA.2.1, dB.2.1, dC.2.1, dD.2.1]) (by simp only [bs_append, HBA.out, HBB.out, HBC.out, HBD.out, joinL, dot, List.append_assoc, List.cons_append, List.nil_append])]
    simp [dA.1, dB.1, dC.1, dD.1]
  have q3 : ¬ ip4Ok (bs (sa ++ ⟨#[46]⟩ ++ sb ++ ⟨#[46]⟩ ++ sc)) := by
    rw [joined _ [wl na, wl nb, wl nc] (by simp) (by simp [dA.2.1, dB.2.1, dC.2.1]) (by simp only [bs_append, HBA.out, HBB.out, HBC.out, joinL, dot, List.append_assoc, List.cons_append, List.nil_append])]
    simp
  have q5 : ¬ ip4Ok (bs (sa ++ ⟨#[46]⟩ ++ sb ++ ⟨#[46]⟩ ++ sc ++ ⟨#[46]⟩ ++ sd ++ ⟨#[46]⟩ ++ sd)) := by
    rw [joined _ [wl na, wl nb, wl nc, wl nd, wl nd] (by simp) (by simp [dA.2.1, dB.2.1, dC.2.1, dD.2.1]) (by simp only [bs_append, HBA.out, HBB.out, HBC.out, HBD.out, joinL, dot, List.append_assoc, List.cons_append, List.nil_append])]
    simp
  have e46 : (⟨#[46]⟩ : ByteArray).size = 1 := rfl
  have Q4 := Lib.hid q4
  have Q3 := Lib.hid q3
  have Q5 := Lib.hid q5
  clear q3 q4 q5 dA dB dC dD
  refine (implIP4 _ _ (by simp only [ByteArray.size_append, e46]; omega) (HKp.out.below hb0)).mono ?_
  rintro e w5 ⟨⟨b1, rfl, hb1'⟩, hb5⟩
  have hb5 := hb0.trans (hb5.mono hb0.size)
  have B1 := Lib.hid hb1'
  clear hb1' HRA HRB HRC HRD HWA HWB HWC
  have hv : (¬ na < 256 ∧ b1 = false) ∨ (na < 256 ∧ ¬ nb < 256 ∧ b1 = false) ∨ (na < 256 ∧ nb < 256 ∧ ¬ nc < 256 ∧ b1 = false) ∨ (na < 256 ∧ nb < 256 ∧ nc < 256 ∧ ¬ nd < 256 ∧ b1 = false) ∨ (na < 256 ∧ nb < 256 ∧ nc < 256 ∧ nd < 256 ∧ b1 = true) := by
    have k4 := Q4.out
    have k1 := B1.out
    cases b1 with
    | true =>
      have := k4.1 (k1.1 rfl)
      exact .inr (.inr (.inr (.inr ⟨by omega, by omega, by omega, by omega, rfl⟩)))
    | false =>
      have hn : ¬ (na ≤ 255 ∧ nb ≤ 255 ∧ nc ≤ 255 ∧ nd ≤ 255) := fun k => by have := k1.2 (k4.2 k); cases this
      simp only [and_true]
      omega
  clear B1
  rcases hv with ⟨h, rfl⟩ | ⟨h, h1, rfl⟩ | ⟨h, h1, h2, rfl⟩ | ⟨h, h1, h2, h3, rfl⟩ | ⟨h, h1, h2, h3, rfl⟩
  all_goals
    go_wp2_with fail
    refine (implIP4 _ _ (by simp only [ByteArray.size_append, e46]; omega) (HKp.out.below hb5)).mono ?_
    rintro e w6 ⟨⟨b2, rfl, hb2'⟩, hb6⟩
    have hb6 := hb5.trans (hb6.mono hb5.size)
    obtain rfl : b2 = false := by rw [Bool.eq_false_iff]; intro k; exact Q3.out (hb2'.1 k)
    clear hb2'
    go_wp2_with fail
    refine (PjWhole.laws_jWhole.calls nd sd _ HWD.out).mono ?_
    rintro e w7 ⟨rfl, hb7⟩
    have hb7 := hb6.trans (hb7.mono hb6.size)
    go_wp2_with fail
    refine (implIP4 _ _ (by simp only [ByteArray.size_append, e46]; omega) (HKp.out.below hb7)).mono ?_
    rintro e w8 ⟨⟨b3, rfl, hb3'⟩, hb8⟩
    have hb8 := hb7.trans (hb8.mono hb7.size)
    obtain rfl : b3 = false := by rw [Bool.eq_false_iff]; intro k; exact Q5.out (hb3'.1 k)
    clear hb3'
    go_wp2_with fail
    refine (implIP4 _ _ (by decide) (HKp.out.below hb8)).mono ?_
    rintro e w9 ⟨⟨b4, rfl, hb4'⟩, hb9⟩
    have hb9 := hb8.trans (hb9.mono hb8.size)
    obtain rfl : b4 = true := hb4'.2 zero4
    clear hb4'
    go_wp2_with fail
    go_ret
    exact ⟨by first | rfl | (simp; done) | (simp; omega), hb9⟩
end Go.Proofs.YtfnnahopbghndaaDoor.LIP4P
