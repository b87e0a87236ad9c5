/- laws.FnJTwins. -/
import Derived.Test.YtdleegmdpgefmaaDoorJTw
namespace Go.Proofs.YtdleegmdpgefmaaDoor.J
open Go.RowKit Go.Proofs.YtdleegmdpgefmaaDoorW.PrintWords Go.Proofs.YtdleegmdpgefmaaDoorW.PrintLast Go.Proofs.YtdleegmdpgefmaaDoorW.PrintMore Go.Proofs.YtdleegmdpgefmaaDoor.PJ Go.Proofs.YtdleegmdpgefmaaDoor.K Go.Maps
set_option linter.unusedVariables false
set_option linter.unusedSimpArgs false

set_option maxHeartbeats 4000000 in
set_option maxRecDepth 100000 in
theorem walkTw (A : Option Addr) (c : Nat) (l : List JV) (w : World) (hC : kJ.C w A l.length l) (hc : l.length ≤ c) (hw : ∀ y ∈ l, wfJ y) : Calls Tryd.prog 4 #[.slice A l.length c] w fun e w' => e = .returned (.bool true) ∧ Below w.heap.size w w' := by
  have HC := Lib.hid hC
  have HCC := Lib.hid hc
  have HW := Lib.hid hw
  have hB : Below w.heap.size w w := Below.refl _ _
  have HB := Lib.hid hB
  clear hC hw hc hB
  by_cases hmost : l.length ≤ 2147483647
  case neg =>
    have hd0 : decide (2147483647 < (l.length : Int)) = true := decide_eq_true (by omega)
    go_enter Tryd.func4, Tryd.ntmps4
    go_wp2_with fail
    go_ret
    exact ⟨rfl, HB.out⟩
  have hd0 : decide (2147483647 < (l.length : Int)) = false := decide_eq_false (by omega)
  obtain ⟨b, hdp, hCL⟩ := countL l (by omega) HW.out
  have HCL := Lib.hid hCL
  have HDP := Lib.hid hdp
  clear hCL hdp
  go_enter Tryd.func4, Tryd.ntmps4
  go_wp2_with fail
  refine (HCL.out A c w HC.out HCC.out).mono ?_
  rintro e w1 ⟨rfl, hbl⟩
  have HB1 := Lib.hid hbl
  clear hbl
  cases b
  · go_wp2_with fail
    go_ret
    exact ⟨rfl, HB1.out⟩
  by_cases h20 : l.length ≤ 20
  case neg =>
    have hd1 : decide (20 < (l.length : Int)) = true := decide_eq_true (by omega)
    go_wp2_with fail
    go_ret
    exact ⟨rfl, HB1.out⟩
  have hd1 : decide (20 < (l.length : Int)) = false := decide_eq_false (by omega)
  go_wp2_with fail
  refine (implTw A c l _ (Kd.C_below HC.out HB1.out) HCC.out h20 HW.out (HDP.out (by simp))).mono ?_
  rintro e w2 ⟨i, k, rfl, ht, hbl⟩
  have HT1 := Lib.hid ht
  have HB2 := Lib.hid (HB1.out.trans (hbl.mono HB1.out.size))
  clear ht hbl
  go_wp2_with fail
  refine (specTw A c l _ (Kd.C_below HC.out HB2.out) HCC.out h20 HW.out (HDP.out (by simp))).mono ?_
  rintro e w3 ⟨p, q, rfl, ht, hbl⟩
  have HT2 := Lib.hid ht
  have HB3 := Lib.hid (HB2.out.trans (hbl.mono HB2.out.size))
  clear ht hbl
  rcases HT2.out with ⟨rfl, rfl, hno⟩ | ⟨p', q', rfl, rfl, hpq, hq, heq⟩
  · have hik : i = -1 ∧ k = -1 := by
      rcases HT1.out with ⟨h1, h2, _⟩ | ⟨i', k', _, _, h1, h2, h3⟩
      · exact ⟨h1, h2⟩
      · exact absurd h3 (hno i' k' h1 h2)
    obtain ⟨rfl, rfl⟩ := hik
    clear hno
    go_wp2_with fail
    go_ret
    exact ⟨rfl, HB3.out⟩
  · have hd2 : decide ((p' : Int) < 0) = false := decide_eq_false (by omega)
    have hx : ∃ i' k' : Nat, i = i' ∧ k = k' ∧ i' < k' ∧ k' < (l.map (toD 1000)).length ∧ (l.map (toD 1000))[i']? = (l.map (toD 1000))[k']? := by
      rcases HT1.out with ⟨_, _, h1⟩ | h
      · exact absurd heq (h1 _ _ hpq hq)
      · exact h
    obtain ⟨i', k', rfl, rfl, h1, h2, h3⟩ := hx
    have h2' : k' < l.length := by simpa using h2
    clear heq hpq hq h2
    have hi' : i' < l.length := by omega
    obtain ⟨xa, G4, gc4, G5, gc5, hxa, x0, x1, x2, x3, x4, x5, lg4, gg4, lg5, gg5⟩ := at_T25 (Kd.C_below HC.out HB3.out) (i' : Int) (by omega) (by omega)
    obtain ⟨ya, H4, hc4, H5, hc5, hya, y0, y1, y2, y3, y4, y5, lh4, gh4, lh5, gh5⟩ := at_T25 (Kd.C_below HC.out HB3.out) (k' : Int) (by omega) (by omega)
    subst hxa
    obtain rfl : xa = ya := Option.some.inj hya
    rw [Int.toNat_natCast] at x0 x1 x2 x3 x4 x5 y0 y1 y2 y3 y4 y5
    obtain ⟨g, hgg⟩ : ∃ g, rd_T25 l (i' : Int) = g := ⟨_, rfl⟩
    obtain ⟨H, hhh⟩ : ∃ g, rd_T25 l (k' : Int) = g := ⟨_, rfl⟩
    rw [hgg] at x0 x1 x2 x3 x4 x5 lg4 gg4 lg5 gg5
    rw [hhh] at y0 y1 y2 y3 y4 y5 lh4 gh4 lh5 gh5
    have hgj : l[i'] = g := by rw [← hgg, rdJ _ _ hi']
    have hHk : l[k'] = H := by rw [← hhh, rdJ _ _ h2']
    have mg : g ∈ l := hgj ▸ List.getElem_mem _
    have mH : H ∈ l := hHk ▸ List.getElem_mem _
    have hJe := je 1000 g H (HDP.out (by simp) g mg).1 (HDP.out (by simp) H mH).1 (HDP.out (by simp) g mg).2 (HDP.out (by simp) H mH).2 (HW.out g mg) (HW.out H mH)
    rw [List.getElem?_map, List.getElem?_map, List.getElem?_eq_getElem hi', List.getElem?_eq_getElem h2', hgj, hHk] at h3
    rw [eqB_true.2 (Option.some.inj h3)] at hJe
    have hKg := k25_mk w3 g lg4 gg4 lg5 gg5
    have hKH := k25_mk w3 H lh4 gh4 lh5 gh5
    have HJE := Lib.hid (show JeIn w3 #[.int .i64 g.f0, .bool g.f1, .int .i64 g.f2, .string g.f3, .slice G4 g.f4.length gc4, .slice G5 g.f5.length gc5] #[.int .i64 H.f0, .bool H.f1, .int .i64 H.f2, .string H.f3, .slice H4 H.f4.length hc4, .slice H5 H.f5.length hc5] true from fun W hbW => hJe.at_ _ _ W (kJ.K_below hbW hKg) (kJ.K_below hbW hKH))
    have hi0 : (0 : Int) ≤ (i' : Int) := Int.natCast_nonneg _
    have hi1 : (i' : Int) < (l.length : Int) := by omega
    have hk0 : (0 : Int) ≤ (k' : Int) := Int.natCast_nonneg _
    have hk1 : (k' : Int) < (l.length : Int) := by omega
    have e0 : decide (0 ≤ (i' : Int)) = true := decide_eq_true hi0
    have e1 : decide (0 ≤ (k' : Int)) = true := decide_eq_true hk0
    have e2 : decide ((i' : Int) < (l.length : Int)) = true := decide_eq_true hi1
    have e3 : decide ((k' : Int) < (l.length : Int)) = true := decide_eq_true hk1
    have e4 : ((i' : Int) != (k' : Int)) = true := by rw [bne_iff_ne]; omega
    clear lg4 gg4 lg5 gg5 lh4 gh4 lh5 gh5 hgg hhh hJe hKg hKH hgj hHk mg mH h3 hya
    go_wp2_with fail
    go_region_held3 (fun w' => w'.cell? (xa.add (i' * 6)) = some (.int .i64 g.f0) ∧ w'.cell? ⟨(xa.add (i' * 6)).block, (xa.add (i' * 6)).off + 1, none⟩ = some (.bool g.f1) ∧ w'.cell? ⟨(xa.add (i' * 6)).block, (xa.add (i' * 6)).off + 2, none⟩ = some (.int .i64 g.f2) ∧ w'.cell? ⟨(xa.add (i' * 6)).block, (xa.add (i' * 6)).off + 3, none⟩ = some (.string g.f3) ∧ w'.cell? ⟨(xa.add (i' * 6)).block, (xa.add (i' * 6)).off + 4, none⟩ = some (.slice G4 g.f4.length gc4) ∧ w'.cell? ⟨(xa.add (i' * 6)).block, (xa.add (i' * 6)).off + 5, none⟩ = some (.slice G5 g.f5.length gc5) ∧ w'.cell? (xa.add (k' * 6)) = some (.int .i64 H.f0) ∧ w'.cell? ⟨(xa.add (k' * 6)).block, (xa.add (k' * 6)).off + 1, none⟩ = some (.bool H.f1) ∧ w'.cell? ⟨(xa.add (k' * 6)).block, (xa.add (k' * 6)).off + 2, none⟩ = some (.int .i64 H.f2) ∧ w'.cell? ⟨(xa.add (k' * 6)).block, (xa.add (k' * 6)).off + 3, none⟩ = some (.string H.f3) ∧ w'.cell? ⟨(xa.add (k' * 6)).block, (xa.add (k' * 6)).off + 4, none⟩ = some (.slice H4 H.f4.length hc4) ∧ w'.cell? ⟨(xa.add (k' * 6)).block, (xa.add (k' * 6)).off + 5, none⟩ = some (.slice H5 H.f5.length hc5))
      (first
        | go_keep
        | (go_split_ands; exact ⟨(hbm.cell (lt_of_cell x0)).trans x0, (hbm.cell (lt_of_cell x1)).trans x1, (hbm.cell (lt_of_cell x2)).trans x2, (hbm.cell (lt_of_cell x3)).trans x3, (hbm.cell (lt_of_cell x4)).trans x4, (hbm.cell (lt_of_cell x5)).trans x5, (hbm.cell (lt_of_cell y0)).trans y0, (hbm.cell (lt_of_cell y1)).trans y1, (hbm.cell (lt_of_cell y2)).trans y2, (hbm.cell (lt_of_cell y3)).trans y3, (hbm.cell (lt_of_cell y4)).trans y4, (hbm.cell (lt_of_cell y5)).trans y5⟩))
      ((go_at_call 9; refine (HJE.out.at_ (by first | exact Below.refl _ _ | exact (Below.refl _ _).drew | exact pw_below_drewN (Below.refl _ _) _)).mono ?_; rintro e w4 ⟨rfl, hbl⟩; have hbm : Below w3.heap.size w3 w4 := (by first | exact hbl | exact (Below.refl _ _).drew.trans hbl | exact (pw_below_drewN (Below.refl _ _) _).trans hbl)))
    have HBM := Lib.hid (HB3.out.trans (hbm.mono HB3.out.size))
    clear hbl hbm
    go_wp2_with fail
    go_ret
    first | exact ⟨rfl, HBM.out⟩ | exact ⟨rfl, HBM.out.drew⟩ | exact ⟨rfl, pw_below_drewN HBM.out _⟩
end Go.Proofs.YtdleegmdpgefmaaDoor.J
