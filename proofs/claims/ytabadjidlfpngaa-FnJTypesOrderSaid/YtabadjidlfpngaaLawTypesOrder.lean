/- FnJTypesOrder: the plain part (the walk is not begun). -/
import Derived.Test.YtabadjidlfpngaaLawTypes
import Derived.Test.YtabadjidlfpngaaPjTextsx
namespace Go.Proofs.Ytabadjidlfpngaa.Types
open Go.RowKit Go.Proofs.Ytabadjidlfpngaa.PFnJTypes Go.Proofs.YtabadjidlfpngaaW.PrintWords Go.Proofs.YtabadjidlfpngaaW.PrintLast Go.Proofs.YtabadjidlfpngaaW.PrintMore Go.Proofs.Ytabadjidlfpngaa.K
set_option linter.unusedVariables false
set_option linter.unusedSimpArgs false

theorem told_app (a b : List ByteArray) (k : List UInt8) : told (a ++ b) k = (told a k || told b k) := by
  unfold told
  rw [List.map_append, List.contains_eq_any_beq, List.contains_eq_any_beq, List.contains_eq_any_beq, List.any_append]
/-- The order, and adding twice, make no difference. -/
theorem text_order (a b : List ByteArray) : kindText (a ++ b) = kindText (b ++ a ++ b) := by
  unfold kindText
  have : told (a ++ b) = told (b ++ a ++ b) := by
    funext k
    rw [told_app, told_app, told_app]
    cases told a k <;> cases told b k <;> rfl
  rw [this]
theorem text_array : kindText [⟨#[97, 114, 114, 97, 121]⟩] = [⟨#[97, 114, 114, 97, 121]⟩] := by decide +kernel

theorem cell_new1 (w : World) (v : Value) (t : TypeId) : (w.alloc (.cells #[v] t)).cell? ((⟨w.heap.size, 0, none⟩ : Addr).add 0) = some v := by
  have h : (w.alloc (.cells #[v] t)).heap[w.heap.size]? = some (.cells #[v] t (0, 0)) := heap_alloc_new w _
  rw [add_plain]
  exact (blk_cell h 0).trans rfl
theorem rowOne {w : World} {x : Addr} {s : ByteArray} (h : w.cell? (x.add 0) = some (.string s)) : Kd.string.C w (some x) [s].length [s] := by
  refine ⟨rfl, by simp, fun _ => ⟨x, rfl, fun j p hp => ?_⟩⟩
  match j, hp with
  | 0, hp =>
    obtain rfl : s = p := by simpa using hp
    refine ⟨[.string s], rfl, rfl, fun i u hu => ?_⟩
    match i, hu with
    | 0, hu =>
      simp at hu
      subst hu
      simpa [Kd.string, Kd.scalar] using h
theorem textsLoop (l : List ByteArray) (hl : l.length ≤ 2147483647) (d : Nat) : ∀ i : Nat, i ≤ l.length → l.length - i ≤ d → Ev (fun k => PjTexts.laws_jTexts.l0 k l l i) true := by
  induction d with
  | zero =>
    intro i hi hd
    refine ev_succ 0 fun k _ => ?_
    simp only [PjTexts.laws_jTexts.l0]
    rw [if_neg (by omega)]
  | succ d ih =>
    intro i hi hd
    by_cases he : i = l.length
    · refine ev_succ 0 fun k _ => ?_
      simp only [PjTexts.laws_jTexts.l0]
      rw [if_neg (by omega)]
    obtain ⟨K, hK⟩ := ih (i + 1) (by omega) (by omega)
    simp only at hK
    have ew : wrap64 ((i : Int) + 1) = ((i + 1 : Nat) : Int) := by rw [wrap_in (by omega) (by omega)]; omega
    refine ev_succ K fun k hk => ?_
    simp only [PjTexts.laws_jTexts.l0, ew]
    rw [if_pos (by omega), if_pos (by omega), if_pos (by omega)]
    simp only [if_true]
    exact hK k hk
theorem textsE (l : List ByteArray) (hl : l.length ≤ 2147483647) : Ev (fun k => PjTexts.laws_jTexts.f k l l) true := by
  obtain ⟨K, hK⟩ := textsLoop l hl l.length 0 (Nat.zero_le _) (by omega)
  refine ⟨K, fun k hk => ?_⟩
  show PjTexts.laws_jTexts.f k l l = some true
  unfold PjTexts.laws_jTexts.f
  rw [if_pos rfl]
  exact hK k hk

set_option maxHeartbeats 2000000 in
set_option maxRecDepth 100000 in
theorem walkOrder (A : Option Addr) (ca : Nat) (a : List ByteArray) (B : Option Addr) (cb : Nat) (b : List ByteArray) (w : World) (hra : Kd.string.C w A a.length a) (hca : a.length ≤ ca) (hrb : Kd.string.C w B b.length b) (hcb : b.length ≤ cb) :
    Calls Try.prog 6 #[.slice A a.length ca, .slice B b.length cb] w fun e w' => e = .returned (.bool true) ∧ Below w.heap.size w w' := by
  have HRA := Lib.hid hra
  have HRB := Lib.hid hrb
  clear hra hrb
  have hbr : Below w.heap.size w w := Below.refl _ _
  obtain ⟨o, ⟨K0, hK0⟩, ho⟩ := fitsE a
  obtain ⟨o2, ⟨K1, hK1⟩, ho2⟩ := fitsE b
  have HK0 := Lib.hid (hK0 K0 (Nat.le_refl _))
  have HK1 := Lib.hid (hK1 K1 (Nat.le_refl _))
  clear hK0 hK1
  go_enter Try.func6, Try.ntmps6
  go_wp2_with fail
  refine (laws_zzFits4.calls K0 A ca a o _ HRA.out hca HK0.out).mono ?_
  rintro e w1 ⟨rfl, ⟨n, rfl⟩⟩
  have hbr := pw_below_drewN hbr n
  cases o with
  | false =>
    go_wp2_with fail
    go_ret
    exact ⟨rfl, hbr⟩
  | true =>
  go_wp2_with fail
  refine (laws_zzFits4.calls K1 B cb b o2 _ (Kd.C_drewN HRB.out n) hcb HK1.out).mono ?_
  rintro e w2 ⟨rfl, ⟨n2, rfl⟩⟩
  have hbr := pw_below_drewN (Below.refl w.heap.size w) (n + n2)
  cases o2 with
  | false =>
    go_wp2_with fail
    go_ret
    exact ⟨rfl, hbr⟩
  | true =>
  have hla := by first | exact ho rfl | exact ho trivial
  have hlb := by first | exact ho2 rfl | exact ho2 trivial
  have hA2 := Kd.C_drewN HRA.out (n + n2)
  have HA2 := Lib.hid hA2
  clear hA2
  have hB0 := pw_below_drewN (Below.refl w.heap.size w) (n + n2)
  have hB2 := Kd.C_drewN HRB.out (n + n2)
  have HB2 := Lib.hid hB2
  clear hB2
  have hs0 := hB0.size
  go_wp2_with (at_builtin; refine Kd.R_append_row Value.string ⟨#[]⟩ (h1 := fun _ => rfl) (w0 := w) w.heap.size rfl _ _ 32 9 (.string ⟨#[]⟩) 16 rfl Try.underlying32 info9 rfl (by decide) _ [] a A a.length ca (fun _ => True) rfl rfl (fun _ _ => trivial) (Kd.R_nil _ _ _ _ _) HA2.out hB0 hs0 (by simp; omega) ?_)
  intro v1 w1 hR1 hb1 _ _
  have hb1s := hb1.size
  have HR1 := Aside0.mk hR1
  have HB1 := Lib.hid (Kd.C_below HRB.out hb1)
  clear hR1
  go_wp2_with (at_builtin; refine Kd.R_append_row Value.string ⟨#[]⟩ (h1 := fun _ => rfl) (w0 := w) w.heap.size rfl _ _ 32 9 (.string ⟨#[]⟩) 16 rfl Try.underlying32 info9 rfl (by decide) v1 a b B b.length cb (fun _ => True) rfl rfl (fun _ _ => trivial) HR1.out HB1.out hb1 hb1s (by omega) ?_)
  intro v2 w2 hR2 hb2 _ _
  obtain ⟨A2, c2, rfl, hc2, hC2⟩ := Kd.R_reads hR2
  have HC2 := Lib.hid hC2
  have HBA := Lib.hid (Kd.C_below HRA.out hb2)
  have HBB := Lib.hid (Kd.C_below HRB.out hb2)
  have hlab : (a ++ b).length ≤ 1099511627776 := by simp; omega
  clear hR2 hC2 HR1 HB1 hb1 hb1s
  have hord := text_order a b
  rw [List.append_assoc] at hord
  have HORD := Lib.hid hord
  clear hord
  obtain ⟨L, hL⟩ : ∃ L, L = a ++ b := ⟨_, rfl⟩
  rw [← hL] at HC2 hc2 hlab
  have hBs : w2.heap.size ≤ w2.heap.size := Nat.le_refl _
  have hBr := Below.refl w2.heap.size w2
  go_wp2_with (at_builtin; refine Kd.R_append_row Value.string ⟨#[]⟩ (h1 := fun _ => rfl) (w0 := w2) w2.heap.size rfl _ _ 32 9 (.string ⟨#[]⟩) 16 rfl Try.underlying32 info9 rfl (by decide) _ [] b B b.length cb (fun _ => True) rfl rfl (fun _ _ => trivial) (Kd.R_nil _ _ _ _ _) HBB.out hBr hBs (by simp; omega) ?_)
  intro v3 w3 hR3 hb3 _ _
  have hb3s := hb3.size
  have HR3 := Aside0.mk hR3
  have HA3 := Lib.hid (Kd.C_below HBA.out hb3)
  clear hR3
  go_wp2_with (at_builtin; refine Kd.R_append_row Value.string ⟨#[]⟩ (h1 := fun _ => rfl) (w0 := w2) w2.heap.size rfl _ _ 32 9 (.string ⟨#[]⟩) 16 rfl Try.underlying32 info9 rfl (by decide) v3 b a A a.length ca (fun _ => True) rfl rfl (fun _ _ => trivial) HR3.out HA3.out hb3 hb3s (by omega) ?_)
  intro v4 w4 hR4 hb4 _ _
  have hb4s := hb4.size
  have HR4 := Aside0.mk hR4
  have HB4 := Lib.hid (Kd.C_below HBB.out hb4)
  clear hR4 HR3 hb3 hb3s HA3
  go_wp2_with (at_builtin; refine Kd.R_append_row Value.string ⟨#[]⟩ (h1 := fun _ => rfl) (w0 := w2) w2.heap.size rfl _ _ 32 9 (.string ⟨#[]⟩) 16 rfl Try.underlying32 info9 rfl (by decide) v4 (b ++ a) b B b.length cb (fun _ => True) rfl rfl (fun _ _ => trivial) HR4.out HB4.out hb4 hb4s (by simp; omega) ?_)
  intro v5 w5 hR5 hb5 _ _
  obtain ⟨A5, c5, rfl, hc5, hC5⟩ := Kd.R_reads hR5
  have HC5 := Lib.hid hC5
  have HCB := Lib.hid (Kd.C_below HC2.out hb5)
  have hlba : (b ++ (a ++ b)).length ≤ 1099511627776 := by simp; omega
  have hbw : Below w.heap.size w w5 := hb2.trans (hb5.mono hb2.size)
  have hM0 : b ++ a ++ b = b ++ (a ++ b) := List.append_assoc _ _ _
  obtain ⟨M, hM⟩ : ∃ M, M = b ++ (a ++ b) := ⟨_, rfl⟩
  rw [← hM] at hc5 HC5 hlba hM0
  have HMO : Hid (kindText L = kindText M) := by have := HORD.out; rw [← hM, ← hL] at this; exact Lib.hid this
  have hbs := hbw.size
  have hLl : L.length = a.length + b.length := by rw [hL, List.length_append]
  have hMl : M.length = b.length + (a.length + b.length) := by rw [hM, List.length_append, List.length_append]
  have HLL := Lib.hid hLl
  have HML := Lib.hid hMl
  clear hLl hMl
  clear hR5 hC5 HR4 hb4 hb4s HB4 HBA HBB hb5 hBr HORD hM hL hB0 hs0 HA2 HB2 ho ho2 hbr HRA HRB HK0 HK1 hM0
  go_wp2_with fail
  have I1 := implTypes A2 c2 L w5 HCB.out hc2 hlab
  rw [HLL.out] at I1
  with_reducible refine I1.mono ?_
  rintro e w6 ⟨A6, c6, rfl, hC6, hc6, hb6⟩
  have HC5 := Lib.hid (Kd.C_below HC5.out hb6)
  have hbw6 := hbw.trans (hb6.mono hbs)
  have HC6 := Lib.hid hC6
  have hbs6 := hbw6.size
  clear hC6 HCB hb6
  go_wp2_with fail
  have I2 := implTypes A5 c5 M w6 HC5.out hc5 hlba
  rw [HML.out, ← HMO.out] at I2
  with_reducible refine I2.mono ?_
  rintro e w7 ⟨A7, c7, rfl, hC7, hc7, hb7⟩
  have HC6 := Lib.hid (Kd.C_below HC6.out hb7)
  have hbw7 := hbw6.trans (hb7.mono hbs6)
  have HC7 := Lib.hid hC7
  have hbs7 := hbw7.size
  clear hC7 HC5 hb7
  have hXl := text_len L
  generalize kindText L = X at *
  clear I1 I2 hlba hc5 HLL HML HMO HC2 hlab hc2 hbw6 hbs6 hb2 hbw hbs
  go_wp2_with fail
  have hcw := cell_new1 w7 (.string ⟨#[97, 114, 114, 97, 121]⟩) 9
  have hb8 : Below w.heap.size w (w7.alloc (.cells #[.string ⟨#[97, 114, 114, 97, 121]⟩] 9)) := hbw7.alloc hbs7 _
  have hbx : Below w7.heap.size w7 (w7.alloc (.cells #[.string ⟨#[97, 114, 114, 97, 121]⟩] 9)) := (Below.refl _ _).alloc (Nat.le_refl _) _
  have HC6 := Lib.hid (Kd.C_below HC6.out hbx)
  have HC7 := Lib.hid (Kd.C_below HC7.out hbx)
  have HC8 := Lib.hid (rowOne hcw)
  have hb8s := hb8.size
  clear hcw hbx
  generalize hw8 : w7.alloc (.cells #[.string ⟨#[97, 114, 114, 97, 121]⟩] 9) = w8 at *
  clear hw8
  have I3 := implTypes _ 1 [⟨#[97, 114, 114, 97, 121]⟩] w8 HC8.out (by simp) (by simp)
  rw [text_array] at I3
  simp only [List.length_cons, List.length_nil, Nat.zero_add] at I3
  with_reducible refine I3.mono ?_
  rintro e w9 ⟨A9, c9, rfl, hC9, hc9, hb9⟩
  have HC6 := Lib.hid (Kd.C_below HC6.out hb9)
  have HC7 := Lib.hid (Kd.C_below HC7.out hb9)
  have HC9 := Lib.hid hC9
  have hbw9 := hb8.trans (hb9.mono hb8s)
  have hbs9 := hbw9.size
  clear hC9 hb9 HC8 I3
  go_wp2_with fail
  obtain ⟨K2, hK2⟩ := textsE X (by omega)
  with_reducible refine (PjTexts.laws_jTexts.calls K2 A6 c6 X A7 c7 X true _ HC6.out hc6 HC7.out hc7 (hK2 K2 (Nat.le_refl _))).mono ?_
  rintro e wx ⟨rfl, ⟨n9, rfl⟩⟩
  have hbw10 := pw_below_drewN hbw9 n9
  have hbs10 : w.heap.size ≤ (w9.drewN n9).heap.size := hbs9
  have HC9 := Lib.hid (Kd.C_drewN HC9.out n9)
  generalize w9.drewN n9 = wb at *
  clear hK2
  go_wp2_with fail
  have hcw := cell_new1 wb (.string ⟨#[97, 114, 114, 97, 121]⟩) 9
  have hbx : Below wb.heap.size wb (wb.alloc (.cells #[.string ⟨#[97, 114, 114, 97, 121]⟩] 9)) := (Below.refl _ _).alloc (Nat.le_refl _) _
  have HCa := Kd.C_below HC9.out hbx
  have HCb := rowOne hcw
  have hbw11 : Below w.heap.size w (wb.alloc (.cells #[.string ⟨#[97, 114, 114, 97, 121]⟩] 9)) := hbw10.alloc hbs10 _
  obtain ⟨K3, hK3⟩ := textsE [⟨#[97, 114, 114, 97, 121]⟩] (by simp)
  have J := PjTexts.laws_jTexts.calls K3 A9 c9 [⟨#[97, 114, 114, 97, 121]⟩] _ 1 [⟨#[97, 114, 114, 97, 121]⟩] true _ HCa hc9 HCb (by simp) (hK3 K3 (Nat.le_refl _))
  simp only [List.length_cons, List.length_nil, Nat.zero_add] at J
  with_reducible refine J.mono ?_
  rintro e wz ⟨rfl, ⟨n10, rfl⟩⟩
  clear J hK3 HCa HCb hcw hbx
  go_wp2_with fail
  go_ret
  exact ⟨rfl, pw_below_drewN hbw11 n10⟩
end Go.Proofs.Ytabadjidlfpngaa.Types
