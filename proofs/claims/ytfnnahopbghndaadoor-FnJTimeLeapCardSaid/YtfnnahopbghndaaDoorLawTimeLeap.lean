/- FnJTimeLeap: the second 60 is there only in the last minute of a day of UTC. -/
import Derived.Test.YtfnnahopbghndaaDoorTimeL
import Derived.Test.YtfnnahopbghndaaDoorRows
namespace Go.Proofs.YtfnnahopbghndaaDoor.LTL
open Go.RowKit Go.Proofs.YtfnnahopbghndaaDoorW.PrintWords Go.Proofs.YtfnnahopbghndaaDoorW.PrintLast Go.Proofs.YtfnnahopbghndaaDoor.K Go.Proofs.YtfnnahopbghndaaDoor.Fmt
set_option linter.unusedVariables false
set_option linter.unusedSimpArgs false

theorem leap_p (h m a o : Nat) (h1 : h < 24) (h2 : m < 60) (h3 : a < 24) (h4 : o < 60) :
    timeOk (dA h :: dB h :: 58 :: dA m :: dB m :: 58 :: 54 :: 48 :: [43, dA a, dB a, 58, dA o, dB o]) ↔ (60 * (h : Int) + m - 60 * a - o) % 1440 = 1439 := by
  have := clock h m 60 [43, dA a, dB a, 58, dA o, dB o] (by omega) (by omega) (by omega)
  rw [show dA 60 = 54 from rfl, show dB 60 = 48 from rfl] at this
  rw [this, nofrac (by simp), zone_p h m 60 a o (by omega) (by omega)]
  unfold over
  simp only [List.length_cons, List.length_nil]
  split <;> omega
theorem leap_m (h m a o : Nat) (h1 : h < 24) (h2 : m < 60) (h3 : a < 24) (h4 : o < 60) :
    timeOk (dA h :: dB h :: 58 :: dA m :: dB m :: 58 :: 54 :: 48 :: [45, dA a, dB a, 58, dA o, dB o]) ↔ (60 * (h : Int) + m + 60 * a + o) % 1440 = 1439 := by
  have := clock h m 60 [45, dA a, dB a, 58, dA o, dB o] (by omega) (by omega) (by omega)
  rw [show dA 60 = 54 from rfl, show dB 60 = 48 from rfl] at this
  rw [this, nofrac (by simp), zone_m h m 60 a o (by omega) (by omega)]
  unfold over
  simp only [List.length_cons, List.length_nil]
  split <;> omega
theorem leap_z : timeOk [50, 51, 58, 53, 57, 58, 54, 48, 90] := by
  have := clock 23 59 60 [90] (by omega) (by omega) (by omega)
  rw [show dA 60 = 54 from rfl, show dB 60 = 48 from rfl, show dA 23 = 50 from rfl, show dB 23 = 51 from rfl, show dA 59 = 53 from rfl, show dB 59 = 57 from rfl] at this
  rw [this, nofrac (by simp), zone_z 23 59 60 [90] (.inr rfl)]
  simp

set_option maxHeartbeats 4000000 in
set_option maxRecDepth 100000 in
theorem walk (a b c d : Int) (west : Bool) (w : World) (_ha : -9223372036854775808 ≤ a ∧ a ≤ 9223372036854775807) (_hb : -9223372036854775808 ≤ b ∧ b ≤ 9223372036854775807) (_hc : -9223372036854775808 ≤ c ∧ c ≤ 9223372036854775807) (_hd : -9223372036854775808 ≤ d ∧ d ≤ 9223372036854775807) (hL : laidMetH Tryd.prog Rows.fnJTimeLeapRow.laid w) :
    Calls Tryd.prog 6 #[.int .i64 a, .int .i64 b, .int .i64 c, .int .i64 d, .bool west] w fun e w' => e = .returned (.bool true) ∧ Below w.heap.size w w' := by
  have HKp : Hid (Kept w) := Lib.hid (Errs.of_laid hL)
  clear hL
  obtain ⟨h, hh⟩ : ∃ h : Nat, a % 24 = h := ⟨(a % 24).toNat, by omega⟩
  obtain ⟨m, hm⟩ : ∃ m : Nat, b % 60 = m := ⟨(b % 60).toNat, by omega⟩
  obtain ⟨z, hz⟩ : ∃ z : Nat, c % 24 = z := ⟨(c % 24).toNat, by omega⟩
  obtain ⟨o, ho⟩ : ∃ o : Nat, d % 60 = o := ⟨(d % 60).toNat, by omega⟩
  have lh : h < 24 := by omega
  have lm : m < 60 := by omega
  have lz : z < 24 := by omega
  have lo : o < 60 := by omega
  have HRA := Lib.hid (show PjRest.laws_jRest.f a 24 = some (h : Int) by rw [rest24, hh])
  have HRB := Lib.hid (show PjRest.laws_jRest.f b 60 = some (m : Int) by rw [rest60, hm])
  have HRC := Lib.hid (show PjRest.laws_jRest.f c 24 = some (z : Int) by rw [rest24, hz])
  have HRD := Lib.hid (show PjRest.laws_jRest.f d 60 = some (o : Int) by rw [rest60, ho])
  clear hh hm hz ho
  obtain ⟨⟨sh, fh, bh⟩, _⟩ := dig_ok h (by omega)
  obtain ⟨⟨sm, fm, bm⟩, _⟩ := dig_ok m (by omega)
  obtain ⟨⟨sz, fz, bz⟩, _⟩ := dig_ok z (by omega)
  obtain ⟨⟨so, fo, bo⟩, _⟩ := dig_ok o (by omega)
  have zh : sh.size = 2 := by rw [← bs_len, bh]; rfl
  have zm : sm.size = 2 := by rw [← bs_len, bm]; rfl
  have zz : sz.size = 2 := by rw [← bs_len, bz]; rfl
  have zo : so.size = 2 := by rw [← bs_len, bo]; rfl
  have z1 : sh.size ≤ 2 := by omega
  have z2 : sm.size ≤ 2 := by omega
  have z3 : sz.size ≤ 2 := by omega
  have z4 : so.size ≤ 2 := by omega
  have FH := Lib.hid fh
  have FM := Lib.hid fm
  have FZ := Lib.hid fz
  have FO := Lib.hid fo
  have BH := Lib.hid bh
  have BM := Lib.hid bm
  have BZ := Lib.hid bz
  have BO := Lib.hid bo
  clear fh fm fz fo bh bm bz bo zh zm zz zo
  go_enter Tryd.func6, Tryd.ntmps6
  go_wp2_with fail
  refine (PjRest.laws_jRest.calls a 24 _ _ HRA.out).mono ?_
  rintro e w1 ⟨rfl, ⟨n1, rfl⟩⟩
  go_wp2_with fail
  refine (PjRest.laws_jRest.calls b 60 _ _ HRB.out).mono ?_
  rintro e w1 ⟨rfl, ⟨n2, rfl⟩⟩
  go_wp2_with fail
  refine (PjRest.laws_jRest.calls c 24 _ _ HRC.out).mono ?_
  rintro e w1 ⟨rfl, ⟨n3, rfl⟩⟩
  go_wp2_with fail
  refine (PjRest.laws_jRest.calls d 60 _ _ HRD.out).mono ?_
  rintro e w1 ⟨rfl, ⟨n4, rfl⟩⟩
  have hb0 := pw_below_drewN (Below.refl w.heap.size w) (n1 + n2 + n3 + n4)
  cases west with
  | false =>
    go_wp2_with fail
    refine (PjWhole.laws_jTwo.calls h sh _ FH.out).mono ?_
    rintro e w1 ⟨rfl, hb1⟩
    have hb0 := hb0.trans (hb1.mono hb0.size)
    clear hb1
    go_wp2_with fail
    refine (PjWhole.laws_jTwo.calls m sm _ FM.out).mono ?_
    rintro e w2 ⟨rfl, hb1⟩
    have hb0 := hb0.trans (hb1.mono hb0.size)
    clear hb1
    go_wp2_with fail
    refine (PjWhole.laws_jTwo.calls z sz _ FZ.out).mono ?_
    rintro e w3 ⟨rfl, hb1⟩
    have hb0 := hb0.trans (hb1.mono hb0.size)
    clear hb1
    go_wp2_with fail
    refine (PjWhole.laws_jTwo.calls o so _ FO.out).mono ?_
    rintro e w4 ⟨rfl, hb1⟩
    have hb0 := hb0.trans (hb1.mono hb0.size)
    clear hb1
    have hcat : bs (sh ++ (⟨#[58]⟩ : ByteArray) ++ sm ++ (⟨#[58, 54, 48]⟩ : ByteArray) ++ (⟨#[43]⟩ : ByteArray) ++ sz ++ (⟨#[58]⟩ : ByteArray) ++ so) = dA h :: dB h :: 58 :: dA m :: dB m :: 58 :: 54 :: 48 :: [43, dA z, dB z, 58, dA o, dB o] := by
      simp only [bs_append, BH.out, BM.out, BZ.out, BO.out]
      rfl
    have hsz : (sh ++ (⟨#[58]⟩ : ByteArray) ++ sm ++ (⟨#[58, 54, 48]⟩ : ByteArray) ++ (⟨#[43]⟩ : ByteArray) ++ sz ++ (⟨#[58]⟩ : ByteArray) ++ so).size ≤ 2147483647 := by
      rw [← bs_len, hcat]; simp
    have hlp := leap_p h m z o lh lm lz lo
    rw [← hcat] at hlp
    have hk0 := HKp.out.below hb0
    have C := implTime _ w4 hsz hk0
    have HC := Aside0.mk C
    have HLP := Lib.hid hlp
    clear hcat hsz hlp hk0 C
    go_wp2_with fail
    with_reducible refine HC.out.mono ?_
    rintro e w5 ⟨⟨b1, rfl, hb1'⟩, hb5⟩
    have hb5 := hb0.trans (hb5.mono hb0.size)
    rw [HLP.out] at hb1'
    have hs5 := hb5.size
    have HR := Lib.hid (rest1440 (60 * (h : Int) + m - 60 * z - o))
    have hv : (60 * (h : Int) + m - 60 * z - o) % 1440 = 1439 ∧ b1 = true ∨ (60 * (h : Int) + m - 60 * z - o) % 1440 ≠ 1439 ∧ b1 = false := by
      cases b1 with
      | true => exact .inl ⟨hb1'.1 rfl, rfl⟩
      | false => exact .inr ⟨(fun k => by have := hb1'.2 k; cases this), rfl⟩
    clear hb1' HC HLP
    rcases hv with ⟨hx, rfl⟩ | ⟨hx, rfl⟩
    · have HX := Lib.hid hx
      clear hx
      go_wp2_with fail
      refine (PjRest.laws_jRest.calls _ 1440 _ _ HR.out).mono ?_
      rintro e w6 ⟨rfl, ⟨n6, rfl⟩⟩
      have hb6 := pw_below_drewN hb5 n6
      rw [HX.out]
      go_wp2_with fail
      refine (implTime ⟨#[50, 51, 58, 53, 57, 58, 54, 48, 90]⟩ _ (by decide) (HKp.out.below hb6)).mono ?_
      rintro e w7 ⟨⟨b2, rfl, hb2'⟩, hb7⟩
      have hb7 := hb6.trans (hb7.mono hb6.size)
      obtain rfl : b2 = true := hb2'.2 leap_z
      go_wp2_with fail
      go_ret
      exact ⟨rfl, hb7⟩
    · have hxb : (((60 * (h : Int) + m - 60 * z - o) % 1440) == 1439) = false := by rw [beq_eq_false_iff_ne]; exact hx
      have HX := Lib.hid hx
      clear hx
      go_wp2_with fail
      refine (PjRest.laws_jRest.calls _ 1440 _ _ HR.out).mono ?_
      rintro e w6 ⟨rfl, ⟨n6, rfl⟩⟩
      have hb6 := pw_below_drewN hb5 n6
      generalize (60 * (h : Int) + m - 60 * z - o) % 1440 = y at *
      go_wp2_with fail
      refine (implTime ⟨#[50, 51, 58, 53, 57, 58, 54, 48, 90]⟩ _ (by decide) (HKp.out.below hb6)).mono ?_
      rintro e w7 ⟨⟨b2, rfl, hb2'⟩, hb7⟩
      have hb7 := hb6.trans (hb7.mono hb6.size)
      obtain rfl : b2 = true := hb2'.2 leap_z
      go_wp2_with fail
      go_ret
      exact ⟨rfl, hb7⟩
  | true =>
    go_wp2_with fail
    refine (PjWhole.laws_jTwo.calls h sh _ FH.out).mono ?_
    rintro e w1 ⟨rfl, hb1⟩
    have hb0 := hb0.trans (hb1.mono hb0.size)
    clear hb1
    go_wp2_with fail
    refine (PjWhole.laws_jTwo.calls m sm _ FM.out).mono ?_
    rintro e w2 ⟨rfl, hb1⟩
    have hb0 := hb0.trans (hb1.mono hb0.size)
    clear hb1
    go_wp2_with fail
    refine (PjWhole.laws_jTwo.calls z sz _ FZ.out).mono ?_
    rintro e w3 ⟨rfl, hb1⟩
    have hb0 := hb0.trans (hb1.mono hb0.size)
    clear hb1
    go_wp2_with fail
    refine (PjWhole.laws_jTwo.calls o so _ FO.out).mono ?_
    rintro e w4 ⟨rfl, hb1⟩
    have hb0 := hb0.trans (hb1.mono hb0.size)
    clear hb1
    have hcat : bs (sh ++ (⟨#[58]⟩ : ByteArray) ++ sm ++ (⟨#[58, 54, 48]⟩ : ByteArray) ++ (⟨#[45]⟩ : ByteArray) ++ sz ++ (⟨#[58]⟩ : ByteArray) ++ so) = dA h :: dB h :: 58 :: dA m :: dB m :: 58 :: 54 :: 48 :: [45, dA z, dB z, 58, dA o, dB o] := by
      simp only [bs_append, BH.out, BM.out, BZ.out, BO.out]
      rfl
    have hsz : (sh ++ (⟨#[58]⟩ : ByteArray) ++ sm ++ (⟨#[58, 54, 48]⟩ : ByteArray) ++ (⟨#[45]⟩ : ByteArray) ++ sz ++ (⟨#[58]⟩ : ByteArray) ++ so).size ≤ 2147483647 := by
      rw [← bs_len, hcat]; simp
    have hlp := leap_m h m z o lh lm lz lo
    rw [← hcat] at hlp
    have hk0 := HKp.out.below hb0
    have C := implTime _ w4 hsz hk0
    have HC := Aside0.mk C
    have HLP := Lib.hid hlp
    clear hcat hsz hlp hk0 C
    go_wp2_with fail
    with_reducible refine HC.out.mono ?_
    rintro e w5 ⟨⟨b1, rfl, hb1'⟩, hb5⟩
    have hb5 := hb0.trans (hb5.mono hb0.size)
    rw [HLP.out] at hb1'
    have hs5 := hb5.size
    have HR := Lib.hid (rest1440 (60 * (h : Int) + m + 60 * z + o))
    have hv : (60 * (h : Int) + m + 60 * z + o) % 1440 = 1439 ∧ b1 = true ∨ (60 * (h : Int) + m + 60 * z + o) % 1440 ≠ 1439 ∧ b1 = false := by
      cases b1 with
      | true => exact .inl ⟨hb1'.1 rfl, rfl⟩
      | false => exact .inr ⟨(fun k => by have := hb1'.2 k; cases this), rfl⟩
    clear hb1' HC HLP
    rcases hv with ⟨hx, rfl⟩ | ⟨hx, rfl⟩
    · have HX := Lib.hid hx
      clear hx
      go_wp2_with fail
      refine (PjRest.laws_jRest.calls _ 1440 _ _ HR.out).mono ?_
      rintro e w6 ⟨rfl, ⟨n6, rfl⟩⟩
      have hb6 := pw_below_drewN hb5 n6
      rw [HX.out]
      go_wp2_with fail
      refine (implTime ⟨#[50, 51, 58, 53, 57, 58, 54, 48, 90]⟩ _ (by decide) (HKp.out.below hb6)).mono ?_
      rintro e w7 ⟨⟨b2, rfl, hb2'⟩, hb7⟩
      have hb7 := hb6.trans (hb7.mono hb6.size)
      obtain rfl : b2 = true := hb2'.2 leap_z
      go_wp2_with fail
      go_ret
      exact ⟨rfl, hb7⟩
    · have hxb : (((60 * (h : Int) + m + 60 * z + o) % 1440) == 1439) = false := by rw [beq_eq_false_iff_ne]; exact hx
      have HX := Lib.hid hx
      clear hx
      go_wp2_with fail
      refine (PjRest.laws_jRest.calls _ 1440 _ _ HR.out).mono ?_
      rintro e w6 ⟨rfl, ⟨n6, rfl⟩⟩
      have hb6 := pw_below_drewN hb5 n6
      generalize (60 * (h : Int) + m + 60 * z + o) % 1440 = y at *
      go_wp2_with fail
      refine (implTime ⟨#[50, 51, 58, 53, 57, 58, 54, 48, 90]⟩ _ (by decide) (HKp.out.below hb6)).mono ?_
      rintro e w7 ⟨⟨b2, rfl, hb2'⟩, hb7⟩
      have hb7 := hb6.trans (hb7.mono hb6.size)
      obtain rfl : b2 = true := hb2'.2 leap_z
      go_wp2_with fail
      go_ret
      exact ⟨rfl, hb7⟩
end Go.Proofs.YtfnnahopbghndaaDoor.LTL
