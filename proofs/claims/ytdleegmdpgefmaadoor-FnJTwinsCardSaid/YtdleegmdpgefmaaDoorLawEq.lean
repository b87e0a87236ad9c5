/- laws.FnJEquals. -/
import Derived.Test.YtdleegmdpgefmaaDoorJEq
namespace Go.Proofs.YtdleegmdpgefmaaDoor.J
open Go.RowKit Go.Proofs.YtdleegmdpgefmaaDoorW.PrintWords Go.Proofs.YtdleegmdpgefmaaDoorW.PrintLast Go.Proofs.YtdleegmdpgefmaaDoorW.PrintMore Go.Proofs.YtdleegmdpgefmaaDoor.PJ Go.Proofs.YtdleegmdpgefmaaDoor.K Go.Maps
set_option linter.unusedVariables false
set_option linter.unusedSimpArgs false

theorem je : ∀ (n : Nat) (x y : JV), Dp n x → Dp n y → NoNum (toD n x) → NoNum (toD n y) → wfJ x → wfJ y → JeC x y (eqB (toD n x) (toD n y))
  | 0, x, y, hx, _, _, _, _, _ => by obtain ⟨m, e⟩ := hx.pos; omega
  | n + 1, x, y, hx, hy, nx, ny, wx, wy => by
    obtain ⟨x0, x5, xo, xd⟩ := hx.inv
    obtain ⟨y0, y5, yo, yd⟩ := hy.inv
    by_cases hk : x.f0 = y.f0
    · have wx4 := wx.inv.2.1.1
      have wx5 := wx.inv.2.2.1
      have wy4 := wy.inv.2.1.1
      have wy5 := wy.inv.2.2.1
      have wxs := wx.inv.2.2.2
      have wys := wy.inv.2.2.2
      by_cases k2 : x.f0 = 2
      · exfalso
        have : toD (n + 1) x = .lit (.int .i64 x.f2) := by simp [toD, k2]
        rw [this] at nx
        cases nx
      by_cases k1 : x.f0 = 1
      · refine je_bool x y _ ?_ k1 (hk ▸ k1)
        have e1 : toD (n + 1) x = .lit (.bool x.f1) := by simp [toD, k1]
        have e2 : toD (n + 1) y = .lit (.bool y.f1) := by simp [toD, hk ▸ k1]
        rw [e1, e2]
        cases h1 : x.f1 <;> cases h2 : y.f1 <;> first | exact eqB_true.2 rfl | exact eqB_false.2 (by simp)
      by_cases k3 : x.f0 = 3
      · refine je_str x y _ ?_ k3 (hk ▸ k3)
        have e1 : toD (n + 1) x = .lit (.string (bs x.f3)) := by simp [toD, k3]
        have e2 : toD (n + 1) y = .lit (.string (bs y.f3)) := by simp [toD, hk ▸ k3]
        rw [e1, e2]
        by_cases h : bs x.f3 = bs y.f3
        · rw [eqB_true.2 (by rw [h])]; exact (beq_iff_eq.2 (toList_inj.2 h)).symm
        · rw [eqB_false.2 (fun e => h (by injection e with e; injection e))]; exact (beq_eq_false_iff_ne.2 (fun e => h (toList_inj.1 e))).symm
      by_cases k4 : x.f0 = 4
      · have k4y : y.f0 = 4 := hk ▸ k4
        by_cases hl : x.f5.length = y.f5.length
        · let f : Nat → Bool := fun i => if h : i < x.f5.length ∧ i < y.f5.length then eqB (toD n x.f5[i]) (toD n y.f5[i]) else true
          have hf : ∀ (i : Nat) (h1 : i < x.f5.length) (h2 : i < y.f5.length), f i = eqB (toD n x.f5[i]) (toD n y.f5[i]) := fun i h1 h2 => dif_pos ⟨h1, h2⟩
          refine je_arr x y _ k4 k4y (Lib.hid hl) (by rw [hl]; simp) f (Lib.hid fun i h1 h2 => ?_) (Lib.hid ?_) (Lib.hid (by omega))
          · rw [hf i h1 h2]
            exact je n _ _ (xd _ (List.getElem_mem _)) (yd _ (List.getElem_mem _)) (noNum_item k4 nx i h1) (noNum_item k4y ny i h2) (wxs _ (List.getElem_mem _)) (wys _ (List.getElem_mem _))
          · obtain ⟨b, hb⟩ : ∃ b : Bool, b = true ↔ x.f5.length = y.f5.length ∧ ∀ i (h1 : i < x.f5.length) (h2 : i < y.f5.length), eqB (toD n x.f5[i]) (toD n y.f5[i]) = true := by
              classical
              exact ⟨decide _, decide_eq_true_iff⟩
            rw [eqB_arr k4 k4y b hb, hb]
            constructor
            · intro h i hi
              rw [hf i hi (by omega)]
              exact h.2 i hi (by omega)
            · intro h
              refine ⟨hl, fun i h1 h2 => ?_⟩
              rw [← hf i h1 h2]
              exact h i h1
        · refine je_arr_no x y _ ?_ k4 k4y hl
          exact eqB_arr k4 k4y false (Iff.intro (fun h => (Bool.noConfusion h)) (fun h => absurd h.1 hl))
      by_cases k5 : x.f0 = 5
      · have k5y : y.f0 = 5 := hk ▸ k5
        have hlx := xo k5
        have hly := yo k5y
        refine je_obj x y _ _ _ (eqB_obj k5 k5y hlx hly) (jw n x y (fun s i j hi hj => ?_) wx4 wy4) (jw n y x (fun s i j hi hj => ?_) wy4 wx4) k5 k5y
        · have h1 := hi.lt
          have h2 := hj.lt
          exact ⟨by omega, by omega, je n _ _ (xd _ (List.getElem_mem _)) (yd _ (List.getElem_mem _)) (noNum_member k5 hlx nx s i hi _) (noNum_member k5y hly ny s j hj _) (wxs _ (List.getElem_mem _)) (wys _ (List.getElem_mem _))⟩
        · have h1 := hi.lt
          have h2 := hj.lt
          exact ⟨by omega, by omega, je n _ _ (yd _ (List.getElem_mem _)) (xd _ (List.getElem_mem _)) (noNum_member k5y hly ny s i hi _) (noNum_member k5 hlx nx s j hj _) (wys _ (List.getElem_mem _)) (wxs _ (List.getElem_mem _))⟩
      · have k0 : x.f0 = 0 := by omega
        have k0y : y.f0 = 0 := hk ▸ k0
        refine je_nil x y _ (eqB_true.2 ?_) k0 k0y
        simp [toD, k0, k0y]
    · exact je_kind x y _ (eqB_kind hx hy hk) hk

/-- Two values in a row of their own. -/
theorem two_row {w : World} {B : Nat} {x y : JV} {ca cb cs : Array Value} {t : TypeId} (hh : w.heap[B]? = some (.cells cs t (0, 0))) (hcs : cs.toList = ca.toList ++ cb.toList) (hK : kJ.K w x ca.toList) (hL : kJ.K w y cb.toList) : kJ.C w (some ⟨B, 0, none⟩) [x, y].length [x, y] := by
  refine ⟨rfl, by simp, fun _ => ⟨_, rfl, fun j p hp => ?_⟩⟩
  match j, hp with
  | 0, hp =>
    simp at hp
    subst hp
    refine ⟨ca.toList, kJ.K_len hK, hK, fun i u hu => ?_⟩
    rw [Nat.zero_mul, Nat.zero_add]
    refine World.news_of_block hh i u ?_
    rw [hcs, List.getElem?_append_left (List.getElem?_eq_some_iff.1 hu).1]
    exact hu
  | 1, hp =>
    simp at hp
    subst hp
    refine ⟨cb.toList, kJ.K_len hL, hL, fun i u hu => ?_⟩
    refine World.news_of_block hh _ u ?_
    rw [hcs, List.getElem?_append_right (by rw [kJ.K_len hK]; omega), kJ.K_len hK]
    rw [show 1 * kJ.sz + i - kJ.sz = i by omega]
    exact hu
  | j + 2, hp => simp at hp
theorem CountLC.two {x y : JV} {b : Bool} (h : CountLC [x, y] b) {W : World} {B : Nat} {ca cb cs : Array Value} {t : TypeId} (hh : W.heap[B]? = some (.cells cs t (0, 0))) (hcs : cs.toList = ca.toList ++ cb.toList) (hK : kJ.K W x ca.toList) (hL : kJ.K W y cb.toList) : Calls Tryd.prog 7 #[.slice (some ⟨B, 0, none⟩) 2 2] W fun e w' => e = .returned (.bool b) ∧ Below W.heap.size W w' := h _ 2 W (two_row hh hcs hK hL) (Nat.le_refl _)
set_option maxHeartbeats 4000000 in
set_option maxRecDepth 100000 in
theorem walkEq (ca : Array Value) (x : JV) (cb : Array Value) (y : JV) (w : World) (hKa : kJ.K w x ca.toList) (hwx : wfJ x) (hKb : kJ.K w y cb.toList) (hwy : wfJ y) : Calls Tryd.prog 3 #[.agg ca, .agg cb] w fun e w' => e = .returned (.bool true) ∧ Below w.heap.size w w' := by
  obtain ⟨A4, c4, A5, c5, rfl, l4, g4, l5, g5⟩ := jopen2 hKa
  obtain ⟨B4, d4, B5, d5, rfl, m4, e4, m5, e5⟩ := jopen2 hKb
  clear l4 g4 l5 g5 m4 e4 m5 e5
  have hq := Q2.start w #[.int .i64 x.f0, .bool x.f1, .int .i64 x.f2, .string x.f3, .slice A4 x.f4.length c4, .slice A5 x.f5.length c5] #[.int .i64 y.f0, .bool y.f1, .int .i64 y.f2, .string y.f3, .slice B4 y.f4.length d4, .slice B5 y.f5.length d5]
  have HKA := Lib.hid hKa
  have HKB := Lib.hid hKb
  have HWX := Lib.hid hwx
  have HWY := Lib.hid hwy
  have HQ := Lib.hid hq
  clear hKa hKb hwx hwy hq
  go_enter Tryd.func3, Tryd.ntmps3
  go_wp2_with fail
  refine (fits5 x _ _ HWX.out (kJ.K_below HQ.out.below HKA.out)).mono ?_
  rintro e w1 ⟨b, rfl, hbl⟩
  have HQ1 := Lib.hid (HQ.out.step hbl)
  clear hbl HQ
  have a0 := HQ1.out.c0 0 _ rfl
  have a1 := HQ1.out.c0 1 _ rfl
  have a2 := HQ1.out.c0 2 _ rfl
  have a3 := HQ1.out.c0 3 _ rfl
  have a4 := HQ1.out.c0 4 _ rfl
  have a5 := HQ1.out.c0 5 _ rfl
  have b0 := HQ1.out.c1 0 _ rfl
  have b1 := HQ1.out.c1 1 _ rfl
  have b2 := HQ1.out.c1 2 _ rfl
  have b3 := HQ1.out.c1 3 _ rfl
  have b4 := HQ1.out.c1 4 _ rfl
  have b5 := HQ1.out.c1 5 _ rfl
  cases b
  · go_wp2_with fail
    go_ret
    exact ⟨rfl, HQ1.out.below⟩
  go_wp2_with fail
  refine (fits5 y _ _ HWY.out (kJ.K_below HQ1.out.below HKB.out)).mono ?_
  rintro e w2 ⟨b, rfl, hbl⟩
  have HQ2 := Lib.hid (HQ1.out.step hbl)
  clear hbl HQ1 a0 a1 a2 a3 a4 a5 b0 b1 b2 b3 b4 b5
  cases b
  · go_wp2_with fail
    go_ret
    exact ⟨rfl, HQ2.out.below⟩
  have a0 := HQ2.out.c0 0 _ rfl
  have a1 := HQ2.out.c0 1 _ rfl
  have a2 := HQ2.out.c0 2 _ rfl
  have a3 := HQ2.out.c0 3 _ rfl
  have a4 := HQ2.out.c0 4 _ rfl
  have a5 := HQ2.out.c0 5 _ rfl
  have b0 := HQ2.out.c1 0 _ rfl
  have b1 := HQ2.out.c1 1 _ rfl
  have b2 := HQ2.out.c1 2 _ rfl
  have b3 := HQ2.out.c1 3 _ rfl
  have b4 := HQ2.out.c1 4 _ rfl
  have b5 := HQ2.out.c1 5 _ rfl
  obtain ⟨b, hdp, hCL⟩ := countL [x, y] (by simp) (fun z hz => by
    rcases List.mem_cons.1 hz with rfl | hz
    · exact HWX.out
    · rw [List.mem_singleton.1 hz]; exact HWY.out)
  have HCL := Lib.hid hCL
  have HDP := Lib.hid hdp
  clear hCL hdp
  have HKA2 := Lib.hid (kJ.K_below HQ2.out.below HKA.out)
  have HKB2 := Lib.hid (kJ.K_below HQ2.out.below HKB.out)
  have ht1 := HQ2.out.lt
  have ht0 : w.heap.size < w2.heap.size := by omega
  have HCS : Hid ((#[.int .i64 x.f0, .bool x.f1, .int .i64 x.f2, .string x.f3, .slice A4 x.f4.length c4, .slice A5 x.f5.length c5, .int .i64 y.f0, .bool y.f1, .int .i64 y.f2, .string y.f3, .slice B4 y.f4.length d4, .slice B5 y.f5.length d5] : Array Value).toList = (#[.int .i64 x.f0, .bool x.f1, .int .i64 x.f2, .string x.f3, .slice A4 x.f4.length c4, .slice A5 x.f5.length c5] : Array Value).toList ++ (#[.int .i64 y.f0, .bool y.f1, .int .i64 y.f2, .string y.f3, .slice B4 y.f4.length d4, .slice B5 y.f5.length d5] : Array Value).toList) := Lib.hid rfl
  cases b
  · go_wp2_with fail
    go_region_with
      ((first
        | (go_at_call 7; refine (HCL.out.two (by exact heap_alloc_new _ _) (by exact HCS.out) (by first | exact kJ.K_below (Below.alloc (Below.refl _ _) (Nat.le_refl _) _) HKA2.out | exact kJ.K_below (pw_below_drewN (Below.alloc (Below.refl _ _) (Nat.le_refl _) _) _) HKA2.out | exact kJ.K_below (Below.alloc (Below.refl _ _) (Nat.le_refl _) _).drew HKA2.out) (by first | exact kJ.K_below (Below.alloc (Below.refl _ _) (Nat.le_refl _) _) HKB2.out | exact kJ.K_below (pw_below_drewN (Below.alloc (Below.refl _ _) (Nat.le_refl _) _) _) HKB2.out | exact kJ.K_below (Below.alloc (Below.refl _ _) (Nat.le_refl _) _).drew HKB2.out)).mono ?_; rintro e w3 ⟨rfl, hbl⟩; have hb23 : Below w2.heap.size w2 w3 := (by first | exact (Below.alloc (Below.refl _ _) (Nat.le_refl _) _).trans (hbl.mono (by simp)) | exact (pw_below_drewN (Below.alloc (Below.refl _ _) (Nat.le_refl _) _) _).trans (hbl.mono (by simp)) | exact (Below.alloc (Below.refl _ _) (Nat.le_refl _) _).drew.trans (hbl.mono (by simp))))
        | fail))
    all_goals
      go_wp2
      go_ret
      first | exact ⟨rfl, HQ2.out.below.trans (hb23.mono HQ2.out.below.size)⟩ | exact ⟨rfl, (HQ2.out.below.trans (hb23.mono HQ2.out.below.size)).drew⟩ | exact ⟨rfl, pw_below_drewN (HQ2.out.below.trans (hb23.mono HQ2.out.below.size)) _⟩
  · have hdx := HDP.out rfl x (by simp)
    have hdy := HDP.out rfl y (by simp)
    have HDX := Lib.hid hdx
    have HDY := Lib.hid hdy
    have hje := je 1000 x y hdx.1 hdy.1 hdx.2 hdy.2 HWX.out HWY.out
    obtain ⟨r, hr⟩ : ∃ r, eqB (toD 1000 x) (toD 1000 y) = r := ⟨_, rfl⟩
    rw [hr] at hje
    have HRR := Lib.hid hr
    have HJE := Lib.hid hje
    clear hdx hdy hje hr
    go_wp2_with fail
    go_region_held3 (fun w' => w'.cell? ⟨w.heap.size, 0, none⟩ = some (.int .i64 x.f0) ∧ w'.cell? ⟨w.heap.size, 1, none⟩ = some (.bool x.f1) ∧ w'.cell? ⟨w.heap.size, 2, none⟩ = some (.int .i64 x.f2) ∧ w'.cell? ⟨w.heap.size, 3, none⟩ = some (.string x.f3) ∧ w'.cell? ⟨w.heap.size, 4, none⟩ = some (.slice A4 x.f4.length c4) ∧ w'.cell? ⟨w.heap.size, 5, none⟩ = some (.slice A5 x.f5.length c5) ∧ w'.cell? ⟨w.heap.size + 1, 0, none⟩ = some (.int .i64 y.f0) ∧ w'.cell? ⟨w.heap.size + 1, 1, none⟩ = some (.bool y.f1) ∧ w'.cell? ⟨w.heap.size + 1, 2, none⟩ = some (.int .i64 y.f2) ∧ w'.cell? ⟨w.heap.size + 1, 3, none⟩ = some (.string y.f3) ∧ w'.cell? ⟨w.heap.size + 1, 4, none⟩ = some (.slice B4 y.f4.length d4) ∧ w'.cell? ⟨w.heap.size + 1, 5, none⟩ = some (.slice B5 y.f5.length d5))
      (first
        | go_keep
        | (go_split_ands; first | exact ⟨(hb25.cell (p := ⟨w.heap.size, 0, none⟩) ht0).trans a0, (hb25.cell (p := ⟨w.heap.size, 1, none⟩) ht0).trans a1, (hb25.cell (p := ⟨w.heap.size, 2, none⟩) ht0).trans a2, (hb25.cell (p := ⟨w.heap.size, 3, none⟩) ht0).trans a3, (hb25.cell (p := ⟨w.heap.size, 4, none⟩) ht0).trans a4, (hb25.cell (p := ⟨w.heap.size, 5, none⟩) ht0).trans a5, (hb25.cell (p := ⟨w.heap.size + 1, 0, none⟩) ht1).trans b0, (hb25.cell (p := ⟨w.heap.size + 1, 1, none⟩) ht1).trans b1, (hb25.cell (p := ⟨w.heap.size + 1, 2, none⟩) ht1).trans b2, (hb25.cell (p := ⟨w.heap.size + 1, 3, none⟩) ht1).trans b3, (hb25.cell (p := ⟨w.heap.size + 1, 4, none⟩) ht1).trans b4, (hb25.cell (p := ⟨w.heap.size + 1, 5, none⟩) ht1).trans b5⟩ | exact ⟨(hb24.cell (p := ⟨w.heap.size, 0, none⟩) ht0).trans a0, (hb24.cell (p := ⟨w.heap.size, 1, none⟩) ht0).trans a1, (hb24.cell (p := ⟨w.heap.size, 2, none⟩) ht0).trans a2, (hb24.cell (p := ⟨w.heap.size, 3, none⟩) ht0).trans a3, (hb24.cell (p := ⟨w.heap.size, 4, none⟩) ht0).trans a4, (hb24.cell (p := ⟨w.heap.size, 5, none⟩) ht0).trans a5, (hb24.cell (p := ⟨w.heap.size + 1, 0, none⟩) ht1).trans b0, (hb24.cell (p := ⟨w.heap.size + 1, 1, none⟩) ht1).trans b1, (hb24.cell (p := ⟨w.heap.size + 1, 2, none⟩) ht1).trans b2, (hb24.cell (p := ⟨w.heap.size + 1, 3, none⟩) ht1).trans b3, (hb24.cell (p := ⟨w.heap.size + 1, 4, none⟩) ht1).trans b4, (hb24.cell (p := ⟨w.heap.size + 1, 5, none⟩) ht1).trans b5⟩ | exact ⟨(hb23.cell (p := ⟨w.heap.size, 0, none⟩) ht0).trans a0, (hb23.cell (p := ⟨w.heap.size, 1, none⟩) ht0).trans a1, (hb23.cell (p := ⟨w.heap.size, 2, none⟩) ht0).trans a2, (hb23.cell (p := ⟨w.heap.size, 3, none⟩) ht0).trans a3, (hb23.cell (p := ⟨w.heap.size, 4, none⟩) ht0).trans a4, (hb23.cell (p := ⟨w.heap.size, 5, none⟩) ht0).trans a5, (hb23.cell (p := ⟨w.heap.size + 1, 0, none⟩) ht1).trans b0, (hb23.cell (p := ⟨w.heap.size + 1, 1, none⟩) ht1).trans b1, (hb23.cell (p := ⟨w.heap.size + 1, 2, none⟩) ht1).trans b2, (hb23.cell (p := ⟨w.heap.size + 1, 3, none⟩) ht1).trans b3, (hb23.cell (p := ⟨w.heap.size + 1, 4, none⟩) ht1).trans b4, (hb23.cell (p := ⟨w.heap.size + 1, 5, none⟩) ht1).trans b5⟩))
      ((first
        | (go_at_call 7; refine (HCL.out.two (by exact heap_alloc_new _ _) (by exact HCS.out) (by first | exact kJ.K_below (Below.alloc (Below.refl _ _) (Nat.le_refl _) _) HKA2.out | exact kJ.K_below (pw_below_drewN (Below.alloc (Below.refl _ _) (Nat.le_refl _) _) _) HKA2.out | exact kJ.K_below (Below.alloc (Below.refl _ _) (Nat.le_refl _) _).drew HKA2.out) (by first | exact kJ.K_below (Below.alloc (Below.refl _ _) (Nat.le_refl _) _) HKB2.out | exact kJ.K_below (pw_below_drewN (Below.alloc (Below.refl _ _) (Nat.le_refl _) _) _) HKB2.out | exact kJ.K_below (Below.alloc (Below.refl _ _) (Nat.le_refl _) _).drew HKB2.out)).mono ?_; rintro e w3 ⟨rfl, hbl⟩; have hb23 : Below w2.heap.size w2 w3 := (by first | exact (Below.alloc (Below.refl _ _) (Nat.le_refl _) _).trans (hbl.mono (by simp)) | exact (pw_below_drewN (Below.alloc (Below.refl _ _) (Nat.le_refl _) _) _).trans (hbl.mono (by simp)) | exact (Below.alloc (Below.refl _ _) (Nat.le_refl _) _).drew.trans (hbl.mono (by simp))))
        | (go_at_call 8; refine (implEq x y #[.int .i64 x.f0, .bool x.f1, .int .i64 x.f2, .string x.f3, .slice A4 x.f4.length c4, .slice A5 x.f5.length c5] #[.int .i64 y.f0, .bool y.f1, .int .i64 y.f2, .string y.f3, .slice B4 y.f4.length d4, .slice B5 y.f5.length d5] _ HDX.out.1 HDY.out.1 HDX.out.2 HWX.out HWY.out (by first | exact kJ.K_below hb23 HKA2.out | exact kJ.K_below hb23.drew HKA2.out | exact kJ.K_below (pw_below_drewN hb23 _) HKA2.out) (by first | exact kJ.K_below hb23 HKB2.out | exact kJ.K_below hb23.drew HKB2.out | exact kJ.K_below (pw_below_drewN hb23 _) HKB2.out) r HRR.out).mono ?_; rintro e w4 ⟨rfl, hbl⟩; have hb24 : Below w2.heap.size w2 w4 := (by first | exact hb23.trans (hbl.mono hb23.size) | exact hb23.drew.trans (hbl.mono hb23.size) | exact (pw_below_drewN hb23 _).trans (hbl.mono hb23.size)))
        | (go_at_call 9; refine (HJE.out.at_ #[.int .i64 x.f0, .bool x.f1, .int .i64 x.f2, .string x.f3, .slice A4 x.f4.length c4, .slice A5 x.f5.length c5] #[.int .i64 y.f0, .bool y.f1, .int .i64 y.f2, .string y.f3, .slice B4 y.f4.length d4, .slice B5 y.f5.length d5] _ (by first | exact kJ.K_below hb24 HKA2.out | exact kJ.K_below hb24.drew HKA2.out | exact kJ.K_below (pw_below_drewN hb24 _) HKA2.out) (by first | exact kJ.K_below hb24 HKB2.out | exact kJ.K_below hb24.drew HKB2.out | exact kJ.K_below (pw_below_drewN hb24 _) HKB2.out) ).mono ?_; rintro e w5 ⟨rfl, hbl⟩; have hb25 : Below w2.heap.size w2 w5 := (by first | exact hb24.trans (hbl.mono hb24.size) | exact hb24.drew.trans (hbl.mono hb24.size) | exact (pw_below_drewN hb24 _).trans (hbl.mono hb24.size)))
        | fail))
    go_wp2_with fail
    go_ret
    first | exact ⟨rfl, HQ2.out.below.trans (hb25.mono HQ2.out.below.size)⟩ | exact ⟨rfl, (HQ2.out.below.trans (hb25.mono HQ2.out.below.size)).drew⟩ | exact ⟨rfl, pw_below_drewN (HQ2.out.below.trans (hb25.mono HQ2.out.below.size)) _⟩
end Go.Proofs.YtdleegmdpgefmaaDoor.J
