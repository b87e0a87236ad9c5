/- FnJTimeSame: Z is the offset of no minutes, east or west, and a fraction makes no difference. -/
import Derived.Test.YtfnnahopbghndaaDoorTimeL
import Derived.Test.YtfnnahopbghndaaDoorRows
import Derived.OpenShut
namespace Go.Proofs.YtfnnahopbghndaaDoor.LTS
open Go.RowKit Go.Proofs.YtfnnahopbghndaaDoorW.PrintWords Go.Proofs.YtfnnahopbghndaaDoorW.PrintLast Go.Proofs.YtfnnahopbghndaaDoorW.PrintMore Go.Proofs.YtfnnahopbghndaaDoor.K Go.Proofs.YtfnnahopbghndaaDoor.Fmt
set_option linter.unusedVariables false
set_option linter.unusedSimpArgs false

/-- A clock that may be. -/
def P (h m sec : Nat) : Prop := h ≤ 23 ∧ m ≤ 59 ∧ sec ≤ 60 ∧ ¬ (60 ≤ sec ∧ (h ≠ 23 ∨ m ≠ 59))
/-- The clock's bytes. -/
def ck (h m sec : Nat) (t : List UInt8) : List UInt8 := dA h :: dB h :: 58 :: dA m :: dB m :: 58 :: dA sec :: dB sec :: t
theorem same_z (h m sec : Nat) (h1 : h < 100) (h2 : m < 100) (h3 : sec < 100) (c : UInt8) (hc : c = 90 ∨ c = 122) : timeOk (ck h m sec [c]) ↔ P h m sec := by
  unfold ck P
  rw [clock h m sec _ h1 h2 h3, nofrac (by rcases hc with rfl | rfl <;> simp), zone_z h m sec _ (by rcases hc with rfl | rfl <;> simp)]
  simp
theorem same_p (h m sec : Nat) (h1 : h < 100) (h2 : m < 100) (h3 : sec < 100) : timeOk (ck h m sec [43, 48, 48, 58, 48, 48]) ↔ P h m sec := by
  have hz := zone_p h m sec 0 0 (by omega) (by omega)
  rw [show dA 0 = 48 from rfl, show dB 0 = 48 from rfl] at hz
  unfold ck P
  rw [clock h m sec _ h1 h2 h3, nofrac (by simp), hz]
  unfold over
  simp only [List.length_cons, List.length_nil]
  split <;> omega
theorem same_m (h m sec : Nat) (h1 : h < 100) (h2 : m < 100) (h3 : sec < 100) : timeOk (ck h m sec [45, 48, 48, 58, 48, 48]) ↔ P h m sec := by
  have hz := zone_m h m sec 0 0 (by omega) (by omega)
  rw [show dA 0 = 48 from rfl, show dB 0 = 48 from rfl] at hz
  unfold ck P
  rw [clock h m sec _ h1 h2 h3, nofrac (by simp), hz]
  unfold over
  simp only [List.length_cons, List.length_nil]
  split <;> omega
theorem digs_front (l : List UInt8) (hl : ∀ x ∈ l, digB x = true) : digs (l ++ [90]) = l.length := by
  induction l with
  | nil => decide
  | cons y l ih =>
    have h1 := hl y List.mem_cons_self
    have h2 := ih (fun x hx => hl x (List.mem_cons_of_mem _ hx))
    unfold digs at h2 ⊢
    rw [List.cons_append, List.takeWhile_cons, h1, if_pos rfl, List.length_cons, h2, List.length_cons]
theorem same_f (h m sec : Nat) (h1 : h < 100) (h2 : m < 100) (h3 : sec < 100) (l : List UInt8) (hl : ∀ x ∈ l, digB x = true) (hne : 1 ≤ l.length) : timeOk (ck h m sec (46 :: (l ++ [90]))) ↔ P h m sec := by
  have hd := digs_front l hl
  have hf : ∀ Q : List UInt8 → Prop, (∃ r, fracOf (46 :: (l ++ [90])) r ∧ Q r) ↔ Q [90] := by
    intro Q
    constructor
    · rintro ⟨r, ⟨k, _⟩ | ⟨_, _, rfl⟩, hp⟩
      · simp at k
      · simp only [List.drop_succ_cons, List.drop_zero] at hp
        rw [hd, List.drop_left] at hp
        exact hp
    · intro hp
      refine ⟨_, .inr ⟨rfl, ?_, rfl⟩, ?_⟩
      · simp only [List.drop_succ_cons, List.drop_zero]; omega
      · simp only [List.drop_succ_cons, List.drop_zero]; rw [hd, List.drop_left]; exact hp
  unfold ck P
  rw [clock h m sec _ h1 h2 h3, hf, zone_z h m sec [90] (.inr rfl)]
  simp
theorem same_nf (h m sec : Nat) (h1 : h < 100) (h2 : m < 100) (h3 : sec < 100) : ¬ timeOk (ck h m sec [46, 90]) := by
  unfold ck
  rw [clock h m sec _ h1 h2 h3]
  rintro ⟨_, _, _, _, r, ⟨k, _⟩ | ⟨_, k, _⟩, _⟩
  · simp at k
  · exact absurd k (by decide)
theorem same_no (h m sec : Nat) (h1 : h < 100) (h2 : m < 100) (h3 : sec < 100) : ¬ timeOk (ck h m sec []) := by
  unfold ck
  rw [clock h m sec _ h1 h2 h3]
  rintro ⟨k, _⟩
  simp at k
theorem noon : timeOk [49, 50, 58, 48, 48, 58, 48, 48, 90] := by
  have := (same_z 12 0 0 (by omega) (by omega) (by omega) 90 (.inl rfl)).2 (by unfold P; omega)
  exact this

/-- The digit of a number. -/
def dig1 (x : Int) : UInt8 := UInt8.ofNat (48 + x % 10).toNat
theorem dig1_is (x : Int) (h : 0 ≤ x) : digB (dig1 x) = true := by
  have : ((dig1 x).toNat : Int) = 48 + x % 10 := by
    unfold dig1
    rw [UInt8.toNat_ofNat']
    omega
  rw [(digK.iff _)]
  unfold digR
  omega
theorem bytes1 (W : World) (x : Int) (hx : 0 ≤ x) : (convert 29 9 (.slice (some ⟨W.heap.size, 0, none⟩) 1 1)).run Tryd.prog (W.alloc (.cells #[.int .u8 (48 + x % 10)] 5)) = .ok (.string ⟨#[dig1 x]⟩) (W.alloc (.cells #[.int .u8 (48 + x % 10)] 5)) := by
  have h := run_convert_bytes_arg (P := Tryd.prog) (W.alloc (.cells #[.int .u8 (48 + x % 10)] 5)) 29 5 Tryd.underlying29 Tryd.underlying5 W.heap.size 0 1 1 [48 + x % 10] rfl (by
    intro i hi
    obtain rfl : i = 0 := by omega
    rw [cell_new]
    rfl) 9 Tryd.underlying9
  rw [h]
  rfl

set_option maxHeartbeats 8000000 in
set_option maxRecDepth 100000 in
theorem walk (a b c : Int) (A : Option Addr) (len cap : Nat) (zz : List Int) (w : World) (_ha : -9223372036854775808 ≤ a ∧ a ≤ 9223372036854775807) (_hb : -9223372036854775808 ≤ b ∧ b ≤ 9223372036854775807) (_hc : -9223372036854775808 ≤ c ∧ c ≤ 9223372036854775807)
    (w0 : (A = none ∧ len = 0 ∧ cap = 0 ∧ zz = []) ∨ ∃ x, A = some x ∧ len ≤ cap ∧ cap ≤ maxLen ∧ zz.length = cap ∧ (∀ i, i < zz.length → w.cell? (x.add i) = some (.int .u8 (zz.getD i 0))) ∧ ∀ n ∈ zz, (Lit.int .u8 n).wf = true)
    (_y0 : len * 1 ≤ 140737488351232) (hL : laidMetH Tryd.prog Rows.fnJTimeSameRow.laid w) :
    Calls Tryd.prog 7 #[.int .i64 a, .int .i64 b, .int .i64 c, .slice A len cap] w fun e w' => e = .returned (.bool true) ∧ Below w.heap.size w w' := by
  have HKp : Hid (Kept w) := Lib.hid (Errs.of_laid hL)
  clear hL
  have hbr : Below w.heap.size w w := Below.refl _ _
  obtain ⟨l, rfl, hr, hm0, hw, hc0⟩ := ReadsInt.ofRowC w0
  have hl0 : ∀ x ∈ l, 0 ≤ x ∧ x ≤ 255 := by
    intro x hx
    exact bounds_u8 (hw x hx)
  clear w0 hw
  have HR := Lib.hid hr
  have HL := Lib.hid hl0
  clear hr hl0
  by_cases hlen : l.length ≤ 2147483647
  case neg =>
    go_enter Tryd.func7, Tryd.ntmps7
    go_wp2_with fail
    go_ret
    exact ⟨rfl, hbr⟩
  obtain ⟨h, hh⟩ : ∃ h : Nat, a % 100 = h := ⟨(a % 100).toNat, by omega⟩
  obtain ⟨m, hm⟩ : ∃ m : Nat, b % 100 = m := ⟨(b % 100).toNat, by omega⟩
  obtain ⟨sec, hs⟩ : ∃ sec : Nat, c % 100 = sec := ⟨(c % 100).toNat, by omega⟩
  have lh : h < 100 := by omega
  have lm : m < 100 := by omega
  have ls : sec < 100 := by omega
  have HRA := Lib.hid (show PjRest.laws_jRest.f a 100 = some (h : Int) by rw [rest100, hh])
  have HRB := Lib.hid (show PjRest.laws_jRest.f b 100 = some (m : Int) by rw [rest100, hm])
  have HRC := Lib.hid (show PjRest.laws_jRest.f c 100 = some (sec : Int) by rw [rest100, hs])
  clear hh hm hs
  obtain ⟨⟨sh, fh, bh⟩, _⟩ := dig_ok h lh
  obtain ⟨⟨sm, fm, bm⟩, _⟩ := dig_ok m lm
  obtain ⟨⟨ss, fs, bs'⟩, _⟩ := dig_ok sec ls
  have z1 : sh.size ≤ 2 := by rw [← bs_len, bh]; simp
  have z2 : sm.size ≤ 2 := by rw [← bs_len, bm]; simp
  have z3 : ss.size ≤ 2 := by rw [← bs_len, bs']; simp
  have FH := Lib.hid fh
  have FM := Lib.hid fm
  have FS := Lib.hid fs
  have BH := Lib.hid bh
  have BM := Lib.hid bm
  have BS := Lib.hid bs'
  clear fh fm fs bh bm bs'
  go_enter Tryd.func7, Tryd.ntmps7
  go_wp2_with fail
  refine (PjRest.laws_jRest.calls a 100 _ _ HRA.out).mono ?_
  rintro e w1 ⟨rfl, ⟨n1, rfl⟩⟩
  have hb0 := pw_below_drewN (Below.refl w.heap.size w) n1
  go_wp2_with fail
  refine (PjWhole.laws_jTwo.calls h sh _ FH.out).mono ?_
  rintro e w1 ⟨rfl, hb1⟩
  have hb0 := hb0.trans (hb1.mono hb0.size)
  clear hb1
  go_wp2_with fail
  refine (PjRest.laws_jRest.calls b 100 _ _ HRB.out).mono ?_
  rintro e w2 ⟨rfl, ⟨n2, rfl⟩⟩
  have hb0 := pw_below_drewN hb0 n2
  go_wp2_with fail
  refine (PjWhole.laws_jTwo.calls m sm _ FM.out).mono ?_
  rintro e w3 ⟨rfl, hb1⟩
  have hb0 := hb0.trans (hb1.mono hb0.size)
  clear hb1
  go_wp2_with fail
  refine (PjRest.laws_jRest.calls c 100 _ _ HRC.out).mono ?_
  rintro e w4 ⟨rfl, ⟨n3, rfl⟩⟩
  have hb0 := pw_below_drewN hb0 n3
  go_wp2_with fail
  refine (PjWhole.laws_jTwo.calls sec ss _ FS.out).mono ?_
  rintro e w5 ⟨rfl, hb1⟩
  have hb0 := hb0.trans (hb1.mono hb0.size)
  clear hb1
  go_wp2_with fail
  generalize hS : sh ++ (⟨#[58]⟩ : ByteArray) ++ sm ++ (⟨#[58]⟩ : ByteArray) ++ ss = S at *
  have hbS : bs S = [dA h, dB h, 58, dA m, dB m, 58, dA sec, dB sec] := by
    rw [← hS]
    simp only [bs_append, BH.out, BM.out, BS.out]
    rfl
  have hSs : S.size = 8 := by rw [← bs_len, hbS]; rfl
  have hSl : S.size ≤ 8 := by omega
  have hcat : ∀ x : ByteArray, bs (S ++ x) = ck h m sec (bs x) := by
    intro x
    rw [bs_append, hbS]
    rfl
  have HCAT := Lib.hid hcat
  have hckS : bs S = ck h m sec [] := hbS
  have HCK := Lib.hid hckS
  clear hcat hbS hS hSs hckS
  go_loopw [10, 11] (fun tv iv wi => ∃ (i : Nat) (t : ByteArray), tv = .string t ∧ iv = .int .i64 i ∧ i ≤ l.length ∧ t.size = i + 1 ∧ Aside0 (∃ g : List UInt8, bs t = 46 :: g ∧ g.length = i ∧ ∀ x ∈ g, digB x = true) ∧ Aside0 (Below w.heap.size w wi)) (fun _ iv _ => l.length - (intOf iv).toNat)
  case atStart => exact ⟨0, ⟨#[46]⟩, rfl, rfl, by omega, rfl, ⟨[], rfl, rfl, by simp⟩, ⟨hb0⟩⟩
  case round =>
    obtain ⟨i, t, rfl, rfl, hil, hts, HT, HB⟩ := hrel
    by_cases hlt : i < l.length
    · obtain ⟨ad, hA, hcell⟩ := (HR.out.below HB.out).at_ (i : Int) (by omega) (by omega)
      subst hA
      have hx : rd l (i : Int) = l[i] := by
        unfold rd
        simp [List.getD_eq_getElem?_getD, List.getElem?_eq_getElem hlt]
      have hx0 := HL.out _ (List.getElem_mem hlt)
      rw [hx] at hcell
      obtain ⟨x, hxe⟩ : ∃ x, l[i] = x := ⟨_, rfl⟩
      rw [hxe] at hcell hx0
      obtain ⟨hx1, hx2⟩ := hx0
      rw [Int.toNat_natCast] at hcell
      have hcv := fun W => bytes1 W x hx1
      clear hxe hx
      have hwi := HB.out.size
      go_wp2_with fail
      go_roundw
      case rel =>
        refine ⟨i + 1, t ++ ⟨#[dig1 x]⟩, rfl, by go_num, by omega, ?_, ⟨?_⟩, ⟨HB.out.alloc hwi _⟩⟩
        · rw [ByteArray.size_append, hts]; rfl
        · obtain ⟨g, h1, h2, h3⟩ := HT.out
          refine ⟨g ++ [dig1 x], ?_, by simp [h2], ?_⟩
          · rw [bs_append, h1]; rfl
          · intro y hy
            rcases List.mem_append.1 hy with hy | hy
            · exact h3 y hy
            · have : y = dig1 x := by simpa using hy
              subst this
              exact dig1_is x hx1
      case measure => simp [intOf]; omega
    · obtain rfl : i = l.length := by omega
      have hlt2 : decide ((l.length : Int) < (l.length : Int)) = false := by simp
      have hbx := HB.out
      have step : ∀ (X : ByteArray) (W : World), S.size + X.size ≤ 4294967296 → Below w.heap.size w W → Calls Tryd.prog 18 #[.string (S ++ X)] W fun e w' => Says (timeOk (ck h m sec (bs X))) e ∧ Below w.heap.size w w' := by
        intro X W hX hW
        refine (implTime (S ++ X) W (by rw [ByteArray.size_append]; exact hX) (HKp.out.below hW)).mono ?_
        rintro e w' ⟨hsay, hb⟩
        rw [HCAT.out] at hsay
        exact ⟨hsay, hW.trans (hb.mono hW.size)⟩
      have hfr : 0 < l.length → (timeOk (ck h m sec (bs (t ++ (⟨#[90]⟩ : ByteArray)))) ↔ P h m sec) := by
        intro hp
        obtain ⟨g, h1, h2, h3⟩ := HT.out
        rw [bs_append, h1]
        exact same_f h m sec lh lm ls g h3 (by omega)
      have HFR := Lib.hid hfr
      have hts2 : (t ++ (⟨#[90]⟩ : ByteArray)).size ≤ 2147483645 ∨ True := .inr trivial
      have C1 := Aside0.mk (step ⟨#[90]⟩ wr (by have : (⟨#[90]⟩ : ByteArray).size = 1 := rfl
                                                omega) hbx)
      have HSTEP := Aside0.mk step
      clear step hfr hts2 hlt
      go_wp2_with fail
      with_reducible refine C1.out.mono ?_
      rintro e w6 ⟨⟨b0, rfl, hb0'⟩, hb6⟩
      have HB0 := Lib.hid (hb0'.trans (same_z h m sec lh lm ls 90 (.inl rfl)))
      clear hb0' C1
      have hcs : (l.length = 0 ∧ decide (0 < (l.length : Int)) = false) ∨ (0 < l.length ∧ decide (0 < (l.length : Int)) = true) := by
        simp only [decide_eq_true_eq, decide_eq_false_iff_not]; omega
      rcases hcs with ⟨hl1, hl2⟩ | ⟨hl1, hl2⟩
      case' inr =>
        have C2 := HSTEP.out (t ++ (⟨#[90]⟩ : ByteArray)) w6 (by rw [ByteArray.size_append]
                                                                 have : (⟨#[90]⟩ : ByteArray).size = 1 := rfl
                                                                 omega) hb6
        rw [← ByteArray.append_assoc] at C2
        have HC2 := Aside0.mk C2
        clear C2
        go_wp2_with fail
        with_reducible refine HC2.out.mono ?_
        rintro e w7 ⟨⟨b1, rfl, hb1'⟩, hb7⟩
        obtain rfl : b0 = b1 := by rw [Bool.eq_iff_iff, HB0.out, hb1', HFR.out hl1]
        have hself : (b0 != b0) = false := by simp
        have hself2 : (b0 == b0) = true := by simp
        clear hb1' HC2
        have hbn := hb7
      case' inl =>
        have hself2 : (b0 == b0) = true := by simp
        obtain ⟨w7, rfl⟩ : ∃ w7, w7 = w6 := ⟨_, rfl⟩
        have hbn := hb6
      all_goals
        have D1 := Aside0.mk (HSTEP.out (⟨#[43, 48, 48, 58, 48, 48]⟩ : ByteArray) _ (show S.size + 6 ≤ 4294967296 by omega) hbn)
        go_wp2_with fail
        with_reducible refine D1.out.mono ?_
        rintro e x1 ⟨⟨c1, rfl, hc1⟩, hbe1⟩
        obtain rfl : b0 = c1 := by rw [Bool.eq_iff_iff, HB0.out, hc1]; exact (same_p h m sec lh lm ls).symm
        clear hc1 D1
        have D2 := Aside0.mk (HSTEP.out (⟨#[45, 48, 48, 58, 48, 48]⟩ : ByteArray) _ (show S.size + 6 ≤ 4294967296 by omega) hbe1)
        go_wp2_with fail
        with_reducible refine D2.out.mono ?_
        rintro e x2 ⟨⟨c2, rfl, hc2⟩, hbe2⟩
        obtain rfl : b0 = c2 := by rw [Bool.eq_iff_iff, HB0.out, hc2]; exact (same_m h m sec lh lm ls).symm
        clear hc2 D2
        have D3 := Aside0.mk (HSTEP.out (⟨#[122]⟩ : ByteArray) _ (show S.size + 1 ≤ 4294967296 by omega) hbe2)
        go_wp2_with fail
        with_reducible refine D3.out.mono ?_
        rintro e x3 ⟨⟨c3, rfl, hc3⟩, hbe3⟩
        obtain rfl : b0 = c3 := by rw [Bool.eq_iff_iff, HB0.out, hc3]; exact (same_z h m sec lh lm ls 122 (.inr rfl)).symm
        clear hc3 D3
        have D4 := Aside0.mk (HSTEP.out (⟨#[46, 90]⟩ : ByteArray) _ (show S.size + 2 ≤ 4294967296 by omega) hbe3)
        go_wp2_with fail
        with_reducible refine D4.out.mono ?_
        rintro e x4 ⟨⟨c4, rfl, hc4⟩, hbe4⟩
        obtain rfl : c4 = false := by rw [Bool.eq_false_iff]; intro k; exact same_nf h m sec lh lm ls (hc4.1 k)
        clear hc4 D4
        have D5 := implTime S
        have hS9 : S.size ≤ 4294967296 := by omega
        have E5 := Aside0.mk (D5 _ hS9 (HKp.out.below hbe4))
        clear D5
        go_wp2_with fail
        with_reducible refine E5.out.mono ?_
        rintro e x5 ⟨⟨c5, rfl, hc5⟩, hbe5⟩
        have hbe5 := hbe4.trans (hbe5.mono hbe4.size)
        obtain rfl : c5 = false := by rw [Bool.eq_false_iff]; intro k; exact same_no h m sec lh lm ls (by rw [← HCK.out]; exact hc5.1 k)
        clear hc5 E5
        have E6 := Aside0.mk (implTime (⟨#[49, 50, 58, 48, 48, 58, 48, 48, 90]⟩ : ByteArray) _ (by decide) (HKp.out.below hbe5))
        go_wp2_with fail
        with_reducible refine E6.out.mono ?_
        rintro e x6 ⟨⟨c6, rfl, hc6⟩, hbe6⟩
        have hbe6 := hbe5.trans (hbe6.mono hbe5.size)
        obtain rfl : c6 = true := hc6.2 noon
        clear hc6 E6
        go_wp2_with fail
        go_ret
        exact ⟨by simp, hbe6⟩
end Go.Proofs.YtfnnahopbghndaaDoor.LTS
