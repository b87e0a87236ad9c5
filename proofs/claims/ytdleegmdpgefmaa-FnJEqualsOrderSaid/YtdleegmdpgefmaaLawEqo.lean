/- laws.FnJEqualsOrder: the walk. -/
import Derived.Test.YtdleegmdpgefmaaJT3
namespace Go.Proofs.Ytdleegmdpgefmaa.J
open Go.RowKit Go.Proofs.YtdleegmdpgefmaaW.PrintWords Go.Proofs.YtdleegmdpgefmaaW.PrintLast Go.Proofs.YtdleegmdpgefmaaW.PrintMore Go.Proofs.Ytdleegmdpgefmaa.PJ Go.Proofs.Ytdleegmdpgefmaa.K Go.Maps
set_option linter.unusedVariables false
set_option linter.unusedSimpArgs false
set_option maxHeartbeats 4000000 in
set_option maxRecDepth 100000 in
theorem walkEqo (ca : Array Value) (x : JV) (cb : Array Value) (y : JV) (w : World) (hKa : kJ.K w x ca.toList) (hwx : wfJ x) (hKb : kJ.K w y cb.toList) (hwy : wfJ y) : Calls Try.prog 3 #[.agg ca, .agg cb] w fun e w' => e = .returned (.bool true) ∧ Below w.heap.size w w' := by
  obtain ⟨A4, c4, A5, c5, rfl, l4, g4, l5, g5⟩ := jopen2 hKa
  obtain ⟨B4, d4, B5, d5, rfl, m4, e4, m5, e5⟩ := jopen2 hKb
  clear l4 g4 l5 g5 m4 e4 m5 e5
  have hq := Q2.start w #[.int .i64 x.f0, .bool x.f1, .int .i64 x.f2, .string x.f3, .slice A4 x.f4.length c4, .slice A5 x.f5.length c5] #[.int .i64 y.f0, .bool y.f1, .int .i64 y.f2, .string y.f3, .slice B4 y.f4.length d4, .slice B5 y.f5.length d5]
  have HKA := Lib.hid hKa
  have HKB := Lib.hid hKb
  have HWX := Lib.hid hwx
  have HWY := Lib.hid hwy
  have HQ := Lib.hid hq
  clear hKa hKb hwx hwy hq
  go_enter Try.func3, Try.ntmps3
  go_wp2_with fail
  refine (fits5 x _ _ HWX.out (kJ.K_below HQ.out.below HKA.out)).mono ?_
  rintro e w1 ⟨b, rfl, hbl⟩
  have HQ1 := Lib.hid (HQ.out.step hbl)
  clear hbl HQ
  have a0 := HQ1.out.c0 0 _ rfl
  have a1 := HQ1.out.c0 1 _ rfl
  have a2 := HQ1.out.c0 2 _ rfl
  have a3 := HQ1.out.c0 3 _ rfl
  have a4 := HQ1.out.c0 4 _ rfl
  have a5 := HQ1.out.c0 5 _ rfl
  have b0 := HQ1.out.c1 0 _ rfl
  have b1 := HQ1.out.c1 1 _ rfl
  have b2 := HQ1.out.c1 2 _ rfl
  have b3 := HQ1.out.c1 3 _ rfl
  have b4 := HQ1.out.c1 4 _ rfl
  have b5 := HQ1.out.c1 5 _ rfl
  cases b
  · go_wp2_with fail
    go_ret
    exact ⟨rfl, HQ1.out.below⟩
  go_wp2_with fail
  refine (fits5 y _ _ HWY.out (kJ.K_below HQ1.out.below HKB.out)).mono ?_
  rintro e w2 ⟨b, rfl, hbl⟩
  have HQ2 := Lib.hid (HQ1.out.step hbl)
  clear hbl HQ1 a0 a1 a2 a3 a4 a5 b0 b1 b2 b3 b4 b5
  cases b
  · go_wp2_with fail
    go_ret
    exact ⟨rfl, HQ2.out.below⟩
  have a0 := HQ2.out.c0 0 _ rfl
  have a1 := HQ2.out.c0 1 _ rfl
  have a2 := HQ2.out.c0 2 _ rfl
  have a3 := HQ2.out.c0 3 _ rfl
  have a4 := HQ2.out.c0 4 _ rfl
  have a5 := HQ2.out.c0 5 _ rfl
  have b0 := HQ2.out.c1 0 _ rfl
  have b1 := HQ2.out.c1 1 _ rfl
  have b2 := HQ2.out.c1 2 _ rfl
  have b3 := HQ2.out.c1 3 _ rfl
  have b4 := HQ2.out.c1 4 _ rfl
  have b5 := HQ2.out.c1 5 _ rfl
  obtain ⟨b, hdp, hCL⟩ := countL [x, y] (by simp) (fun z hz => by
    rcases List.mem_cons.1 hz with rfl | hz
    · exact HWX.out
    · rw [List.mem_singleton.1 hz]; exact HWY.out)
  have HCL := Lib.hid hCL
  have HDP := Lib.hid hdp
  clear hCL hdp
  have HKA2 := Lib.hid (kJ.K_below HQ2.out.below HKA.out)
  have HKB2 := Lib.hid (kJ.K_below HQ2.out.below HKB.out)
  have ht1 := HQ2.out.lt
  have ht0 : w.heap.size < w2.heap.size := by omega
  have HCS : Hid ((#[.int .i64 x.f0, .bool x.f1, .int .i64 x.f2, .string x.f3, .slice A4 x.f4.length c4, .slice A5 x.f5.length c5, .int .i64 y.f0, .bool y.f1, .int .i64 y.f2, .string y.f3, .slice B4 y.f4.length d4, .slice B5 y.f5.length d5] : Array Value).toList = (#[.int .i64 x.f0, .bool x.f1, .int .i64 x.f2, .string x.f3, .slice A4 x.f4.length c4, .slice A5 x.f5.length c5] : Array Value).toList ++ (#[.int .i64 y.f0, .bool y.f1, .int .i64 y.f2, .string y.f3, .slice B4 y.f4.length d4, .slice B5 y.f5.length d5] : Array Value).toList) := Lib.hid rfl
  go_wp2_with fail
  refine (HCL.out.two (heap_alloc_new _ _) HCS.out (kJ.K_below (Below.alloc (Below.refl _ _) (Nat.le_refl _) _) HKA2.out) (kJ.K_below (Below.alloc (Below.refl _ _) (Nat.le_refl _) _) HKB2.out)).mono ?_
  rintro e w3 ⟨rfl, hbl⟩
  have hb23 : Below w2.heap.size w2 w3 := (Below.alloc (Below.refl _ _) (Nat.le_refl _) _).trans (hbl.mono (by simp))
  have HQ3 := Lib.hid (HQ2.out.step hb23)
  have HKA3 := Lib.hid (kJ.K_below hb23 HKA2.out)
  have HKB3 := Lib.hid (kJ.K_below hb23 HKB2.out)
  clear a0 a1 a2 a3 a4 a5 b0 b1 b2 b3 b4 b5 hbl hb23 HKA2 HKB2 HQ2 ht0 ht1 HCS HCL HKA HKB
  cases b
  · go_wp2_with fail
    go_ret
    exact ⟨rfl, HQ3.out.below⟩
  have HDX := Lib.hid (HDP.out (by simp) x (by simp))
  have HDY := Lib.hid (HDP.out (by simp) y (by simp))
  clear HDP
  have a0 := HQ3.out.c0 0 _ rfl
  have a1 := HQ3.out.c0 1 _ rfl
  have a2 := HQ3.out.c0 2 _ rfl
  have a3 := HQ3.out.c0 3 _ rfl
  have a4 := HQ3.out.c0 4 _ rfl
  have a5 := HQ3.out.c0 5 _ rfl
  have b0 := HQ3.out.c1 0 _ rfl
  have b1 := HQ3.out.c1 1 _ rfl
  have b2 := HQ3.out.c1 2 _ rfl
  have b3 := HQ3.out.c1 3 _ rfl
  have b4 := HQ3.out.c1 4 _ rfl
  have b5 := HQ3.out.c1 5 _ rfl
  have q0 := ((Below.alloc (Below.refl _ _) (Nat.le_refl _) (.cells #[.int .i64 x.f0, .bool x.f1, .int .i64 x.f2, .string x.f3, .slice A4 x.f4.length c4, .slice A5 x.f5.length c5] 25)).cell (lt_of_cell a0)).trans a0
  have q1 := ((Below.alloc (Below.refl _ _) (Nat.le_refl _) (.cells #[.int .i64 x.f0, .bool x.f1, .int .i64 x.f2, .string x.f3, .slice A4 x.f4.length c4, .slice A5 x.f5.length c5] 25)).cell (lt_of_cell a1)).trans a1
  have q2 := ((Below.alloc (Below.refl _ _) (Nat.le_refl _) (.cells #[.int .i64 x.f0, .bool x.f1, .int .i64 x.f2, .string x.f3, .slice A4 x.f4.length c4, .slice A5 x.f5.length c5] 25)).cell (lt_of_cell a2)).trans a2
  have q3 := ((Below.alloc (Below.refl _ _) (Nat.le_refl _) (.cells #[.int .i64 x.f0, .bool x.f1, .int .i64 x.f2, .string x.f3, .slice A4 x.f4.length c4, .slice A5 x.f5.length c5] 25)).cell (lt_of_cell a3)).trans a3
  have q4 := ((Below.alloc (Below.refl _ _) (Nat.le_refl _) (.cells #[.int .i64 x.f0, .bool x.f1, .int .i64 x.f2, .string x.f3, .slice A4 x.f4.length c4, .slice A5 x.f5.length c5] 25)).cell (lt_of_cell a4)).trans a4
  have q5 := ((Below.alloc (Below.refl _ _) (Nat.le_refl _) (.cells #[.int .i64 x.f0, .bool x.f1, .int .i64 x.f2, .string x.f3, .slice A4 x.f4.length c4, .slice A5 x.f5.length c5] 25)).cell (lt_of_cell a5)).trans a5
  go_wp2_with fail
  have hal := alloc3 w3 (.cells #[.int .i64 x.f0, .bool x.f1, .int .i64 x.f2, .string x.f3, .slice A4 x.f4.length c4, .slice A5 x.f5.length c5] 25) (.cells #[.int .i64 x.f0, .bool x.f1, .int .i64 x.f2, .string x.f3, .slice A4 x.f4.length c4, .slice A5 x.f5.length c5] 25) (.cells (#[.int .i64 x.f0, .bool x.f1, .int .i64 x.f2, .string x.f3, .slice A4 x.f4.length c4, .slice A5 x.f5.length c5] ++ (#[.int .i64 x.f0, .bool x.f1, .int .i64 x.f2, .string x.f3, .slice A4 x.f4.length c4, .slice A5 x.f5.length c5] ++ Builtin.zeroCells #[.int .i64 0, .bool false, .int .i64 0, .string ⟨#[]⟩, .slice none 0 0, .slice none 0 0] ((Question.appendCap 2 1 25).cut (w3.tape w3.drawn (Question.appendCap 2 1 25)) - 2))) 25)
  obtain ⟨cap, hcap⟩ : ∃ c, (Question.appendCap 2 1 25).cut (w3.tape w3.drawn (Question.appendCap 2 1 25)) = c := ⟨_, rfl⟩
  have h2 : 2 ≤ cap := by rw [← hcap]; exact Nat.le_add_right _ _
  rw [hcap] at hal ⊢
  refine (jlist (some ⟨w3.heap.size + 1 + 1, 0, none⟩) [x, x] 2 cap _ rfl (two_rest hal.1 (kJ.K_below hal.2 HKA3.out) (kJ.K_below hal.2 HKA3.out)) h2).mono ?_
  rintro e w5 ⟨rfl, hK5, hbl⟩
  have hb35 : Below w3.heap.size w3 w5 := hal.2.trans (hbl.mono hal.2.size)
  have HK5 := Lib.hid hK5
  have HQ5 := Lib.hid (HQ3.out.step hb35)
  have HKA5 := Lib.hid (kJ.K_below hb35 HKA3.out)
  have HKB5 := Lib.hid (kJ.K_below hb35 HKB3.out)
  clear hal hbl hcap hK5 hb35 HQ3 HKA3 HKB3 a0 a1 a2 a3 a4 a5 b0 b1 b2 b3 b4 b5 h2
  clear q0 q1 q2 q3 q4 q5
  go_wp2_with fail
  have hM6 := heap_alloc_new w5 (.cells #[.int .i64 4, .bool false, .int .i64 0, .string ⟨#[]⟩, .slice none 0 0, .slice (some ⟨w3.heap.size + 1 + 1, 0, none⟩) 2 cap] 25)
  have hb56 : Below w5.heap.size w5 (w5.alloc (.cells #[.int .i64 4, .bool false, .int .i64 0, .string ⟨#[]⟩, .slice none 0 0, .slice (some ⟨w3.heap.size + 1 + 1, 0, none⟩) 2 cap] 25)) := (Below.refl _ _).alloc (Nat.le_refl _) _
  obtain ⟨w6, hw6⟩ : ∃ W, w5.alloc (.cells #[.int .i64 4, .bool false, .int .i64 0, .string ⟨#[]⟩, .slice none 0 0, .slice (some ⟨w3.heap.size + 1 + 1, 0, none⟩) 2 cap] 25) = W := ⟨_, rfl⟩
  rw [hw6] at hM6 hb56 ⊢
  clear hw6
  have HQ6 := Lib.hid (HQ5.out.step hb56)
  have HKA6 := Lib.hid (kJ.K_below hb56 HKA5.out)
  have HKB6 := Lib.hid (kJ.K_below hb56 HKB5.out)
  have HKM6 := Lib.hid (kJ.K_below hb56 HK5.out)
  have a0 := HQ6.out.c0 0 _ rfl
  have a1 := HQ6.out.c0 1 _ rfl
  have a2 := HQ6.out.c0 2 _ rfl
  have a3 := HQ6.out.c0 3 _ rfl
  have a4 := HQ6.out.c0 4 _ rfl
  have a5 := HQ6.out.c0 5 _ rfl
  have b0 := HQ6.out.c1 0 _ rfl
  have b1 := HQ6.out.c1 1 _ rfl
  have b2 := HQ6.out.c1 2 _ rfl
  have b3 := HQ6.out.c1 3 _ rfl
  have b4 := HQ6.out.c1 4 _ rfl
  have b5 := HQ6.out.c1 5 _ rfl
  have m0 : w6.cell? ⟨w5.heap.size, 0, none⟩ = some (.int .i64 4) := by rw [Lib.cell_of_heap hM6]; rfl
  have m1 : w6.cell? ⟨w5.heap.size, 1, none⟩ = some (.bool false) := by rw [Lib.cell_of_heap hM6]; rfl
  have m2 : w6.cell? ⟨w5.heap.size, 2, none⟩ = some (.int .i64 0) := by rw [Lib.cell_of_heap hM6]; rfl
  have m3 : w6.cell? ⟨w5.heap.size, 3, none⟩ = some (.string ⟨#[]⟩) := by rw [Lib.cell_of_heap hM6]; rfl
  have m4 : w6.cell? ⟨w5.heap.size, 4, none⟩ = some (.slice none 0 0) := by rw [Lib.cell_of_heap hM6]; rfl
  have m5 : w6.cell? ⟨w5.heap.size, 5, none⟩ = some (.slice (some ⟨w3.heap.size + 1 + 1, 0, none⟩) 2 cap) := by rw [Lib.cell_of_heap hM6]; rfl
  have hS : ∀ W : World, Below w6.heap.size w6 W → W.cell? ⟨w.heap.size, 0, none⟩ = some (.int .i64 x.f0) ∧ W.cell? ⟨w.heap.size, 1, none⟩ = some (.bool x.f1) ∧ W.cell? ⟨w.heap.size, 2, none⟩ = some (.int .i64 x.f2) ∧ W.cell? ⟨w.heap.size, 3, none⟩ = some (.string x.f3) ∧ W.cell? ⟨w.heap.size, 4, none⟩ = some (.slice A4 x.f4.length c4) ∧ W.cell? ⟨w.heap.size, 5, none⟩ = some (.slice A5 x.f5.length c5) ∧ W.cell? ⟨w.heap.size + 1, 0, none⟩ = some (.int .i64 y.f0) ∧ W.cell? ⟨w.heap.size + 1, 1, none⟩ = some (.bool y.f1) ∧ W.cell? ⟨w.heap.size + 1, 2, none⟩ = some (.int .i64 y.f2) ∧ W.cell? ⟨w.heap.size + 1, 3, none⟩ = some (.string y.f3) ∧ W.cell? ⟨w.heap.size + 1, 4, none⟩ = some (.slice B4 y.f4.length d4) ∧ W.cell? ⟨w.heap.size + 1, 5, none⟩ = some (.slice B5 y.f5.length d5) ∧ W.cell? ⟨w5.heap.size, 0, none⟩ = some (.int .i64 4) ∧ W.cell? ⟨w5.heap.size, 1, none⟩ = some (.bool false) ∧ W.cell? ⟨w5.heap.size, 2, none⟩ = some (.int .i64 0) ∧ W.cell? ⟨w5.heap.size, 3, none⟩ = some (.string ⟨#[]⟩) ∧ W.cell? ⟨w5.heap.size, 4, none⟩ = some (.slice none 0 0) ∧ W.cell? ⟨w5.heap.size, 5, none⟩ = some (.slice (some ⟨w3.heap.size + 1 + 1, 0, none⟩) 2 cap) := fun W h => ⟨(h.cell (lt_of_cell a0)).trans a0, (h.cell (lt_of_cell a1)).trans a1, (h.cell (lt_of_cell a2)).trans a2, (h.cell (lt_of_cell a3)).trans a3, (h.cell (lt_of_cell a4)).trans a4, (h.cell (lt_of_cell a5)).trans a5, (h.cell (lt_of_cell b0)).trans b0, (h.cell (lt_of_cell b1)).trans b1, (h.cell (lt_of_cell b2)).trans b2, (h.cell (lt_of_cell b3)).trans b3, (h.cell (lt_of_cell b4)).trans b4, (h.cell (lt_of_cell b5)).trans b5, (h.cell (lt_of_cell m0)).trans m0, (h.cell (lt_of_cell m1)).trans m1, (h.cell (lt_of_cell m2)).trans m2, (h.cell (lt_of_cell m3)).trans m3, (h.cell (lt_of_cell m4)).trans m4, (h.cell (lt_of_cell m5)).trans m5⟩
  have HS := Lib.hid hS
  have HBASE := Lib.hid hb56
  obtain ⟨r, hr⟩ : ∃ r, eqB (toD 1000 x) (toD 1000 y) = r := ⟨_, rfl⟩
  have EAA := Lib.hid (fun (W : World) (h : Below w6.heap.size w6 W) => implEq x x #[.int .i64 x.f0, .bool x.f1, .int .i64 x.f2, .string x.f3, .slice A4 x.f4.length c4, .slice A5 x.f5.length c5] #[.int .i64 x.f0, .bool x.f1, .int .i64 x.f2, .string x.f3, .slice A4 x.f4.length c4, .slice A5 x.f5.length c5] W HDX.out.1 HDX.out.1 HDX.out.2 HWX.out HWX.out (kJ.K_below h HKA6.out) (kJ.K_below h HKA6.out) true (eqB_true.2 rfl))
  have EAB := Lib.hid (fun (W : World) (h : Below w6.heap.size w6 W) => implEq x y #[.int .i64 x.f0, .bool x.f1, .int .i64 x.f2, .string x.f3, .slice A4 x.f4.length c4, .slice A5 x.f5.length c5] #[.int .i64 y.f0, .bool y.f1, .int .i64 y.f2, .string y.f3, .slice B4 y.f4.length d4, .slice B5 y.f5.length d5] W HDX.out.1 HDY.out.1 HDX.out.2 HWX.out HWY.out (kJ.K_below h HKA6.out) (kJ.K_below h HKB6.out) r hr)
  have EBA := Lib.hid (fun (W : World) (h : Below w6.heap.size w6 W) => implEq y x #[.int .i64 y.f0, .bool y.f1, .int .i64 y.f2, .string y.f3, .slice B4 y.f4.length d4, .slice B5 y.f5.length d5] #[.int .i64 x.f0, .bool x.f1, .int .i64 x.f2, .string x.f3, .slice A4 x.f4.length c4, .slice A5 x.f5.length c5] W HDY.out.1 HDX.out.1 HDY.out.2 HWY.out HWX.out (kJ.K_below h HKB6.out) (kJ.K_below h HKA6.out) r ((eqB_comm _ _).trans hr))
  have TA := Lib.hid (fun (W : World) (h : Below w6.heap.size w6 W) => turned x #[.int .i64 x.f0, .bool x.f1, .int .i64 x.f2, .string x.f3, .slice A4 x.f4.length c4, .slice A5 x.f5.length c5] W HDX.out.1 HWX.out (kJ.K_below h HKA6.out))
  have TB := Lib.hid (fun (W : World) (h : Below w6.heap.size w6 W) => turned y #[.int .i64 y.f0, .bool y.f1, .int .i64 y.f2, .string y.f3, .slice B4 y.f4.length d4, .slice B5 y.f5.length d5] W HDY.out.1 HWY.out (kJ.K_below h HKB6.out))
  have dTX := turn_dp HDX.out.1
  have dTY := turn_dp HDY.out.1
  have wTX := turn_wf HDX.out.1 HWX.out
  have wTY := turn_wf HDY.out.1 HWY.out
  have eTX := turn_toD HDX.out.1
  have eTY := turn_toD HDY.out.1
  obtain ⟨tx, htx⟩ : ∃ t, turn 1000 x = t := ⟨_, rfl⟩
  obtain ⟨ty, hty⟩ : ∃ t, turn 1000 y = t := ⟨_, rfl⟩
  rw [htx] at TA dTX wTX eTX
  rw [hty] at TB dTY wTY eTY
  have EAT := Lib.hid (fun (W : World) (cs : Array Value) (h : Below w6.heap.size w6 W) (hK : kJ.K W tx cs.toList) => implEq x tx #[.int .i64 x.f0, .bool x.f1, .int .i64 x.f2, .string x.f3, .slice A4 x.f4.length c4, .slice A5 x.f5.length c5] cs W HDX.out.1 dTX HDX.out.2 HWX.out wTX (kJ.K_below h HKA6.out) hK true (by rw [eTX]; exact eqB_true.2 rfl))
  have EML := Lib.hid (fun (W : World) (cs : Array Value) (h : Below w6.heap.size w6 W) (hK : kJ.K W (lst [x]) cs.toList) => implEq (n := 1001) (m := 1001) (lst [x, x]) (lst [x]) #[.int .i64 4, .bool false, .int .i64 0, .string ⟨#[]⟩, .slice none 0 0, .slice (some ⟨w3.heap.size + 1 + 1, 0, none⟩) 2 cap] cs W (lst_dp (by simpa using HDX.out.1)) (lst_dp (by simpa using HDX.out.1)) (lst_noNum (by simpa using HDX.out.2)) (lst_wf (by simpa using HWX.out) (by simp)) (lst_wf (by simpa using HWX.out) (by simp)) (kJ.K_below h HKM6.out) hK false (lst_ne (by simp)))
  have ELL := Lib.hid (fun (W : World) (c1 c2 : Array Value) (hK : kJ.K W (lst [x, y]) c1.toList) (hL : kJ.K W (lst [tx, ty]) c2.toList) => implEq (n := 1001) (m := 1001) (lst [x, y]) (lst [tx, ty]) c1 c2 W (lst_dp (by simpa using ⟨HDX.out.1, HDY.out.1⟩)) (lst_dp (by simpa using ⟨dTX, dTY⟩)) (lst_noNum (by simpa using ⟨HDX.out.2, HDY.out.2⟩)) (lst_wf (by simpa using ⟨HWX.out, HWY.out⟩) (by simp)) (lst_wf (by simpa using ⟨wTX, wTY⟩) (by simp)) hK hL true (lst_eq (by simp [eTX, eTY])))
  have HCS : Hid ((#[.int .i64 x.f0, .bool x.f1, .int .i64 x.f2, .string x.f3, .slice A4 x.f4.length c4, .slice A5 x.f5.length c5, .int .i64 y.f0, .bool y.f1, .int .i64 y.f2, .string y.f3, .slice B4 y.f4.length d4, .slice B5 y.f5.length d5] : Array Value).toList = (#[.int .i64 x.f0, .bool x.f1, .int .i64 x.f2, .string x.f3, .slice A4 x.f4.length c4, .slice A5 x.f5.length c5] : Array Value).toList ++ (#[.int .i64 y.f0, .bool y.f1, .int .i64 y.f2, .string y.f3, .slice B4 y.f4.length d4, .slice B5 y.f5.length d5] : Array Value).toList) := Lib.hid rfl
  have hb0 : Below w6.heap.size w6 w6.drew := (Below.refl _ _).drew
  clear hr htx hty dTX dTY wTX wTY eTX eTY hS hb56 HQ5 HKA5 HKB5 HK5 HDX HDY HWX HWY hM6
  go_region_held3 (fun w' => w'.cell? ⟨w.heap.size, 0, none⟩ = some (.int .i64 x.f0) ∧ w'.cell? ⟨w.heap.size, 1, none⟩ = some (.bool x.f1) ∧ w'.cell? ⟨w.heap.size, 2, none⟩ = some (.int .i64 x.f2) ∧ w'.cell? ⟨w.heap.size, 3, none⟩ = some (.string x.f3) ∧ w'.cell? ⟨w.heap.size, 4, none⟩ = some (.slice A4 x.f4.length c4) ∧ w'.cell? ⟨w.heap.size, 5, none⟩ = some (.slice A5 x.f5.length c5) ∧ w'.cell? ⟨w.heap.size + 1, 0, none⟩ = some (.int .i64 y.f0) ∧ w'.cell? ⟨w.heap.size + 1, 1, none⟩ = some (.bool y.f1) ∧ w'.cell? ⟨w.heap.size + 1, 2, none⟩ = some (.int .i64 y.f2) ∧ w'.cell? ⟨w.heap.size + 1, 3, none⟩ = some (.string y.f3) ∧ w'.cell? ⟨w.heap.size + 1, 4, none⟩ = some (.slice B4 y.f4.length d4) ∧ w'.cell? ⟨w.heap.size + 1, 5, none⟩ = some (.slice B5 y.f5.length d5) ∧ w'.cell? ⟨w5.heap.size, 0, none⟩ = some (.int .i64 4) ∧ w'.cell? ⟨w5.heap.size, 1, none⟩ = some (.bool false) ∧ w'.cell? ⟨w5.heap.size, 2, none⟩ = some (.int .i64 0) ∧ w'.cell? ⟨w5.heap.size, 3, none⟩ = some (.string ⟨#[]⟩) ∧ w'.cell? ⟨w5.heap.size, 4, none⟩ = some (.slice none 0 0) ∧ w'.cell? ⟨w5.heap.size, 5, none⟩ = some (.slice (some ⟨w3.heap.size + 1 + 1, 0, none⟩) 2 cap))
    (first
      | go_keep
      | (go_split_ands; first | exact HS.out _ hb18 | exact HS.out _ hb17 | exact HS.out _ hb16 | exact HS.out _ hb15 | exact HS.out _ hb14 | exact HS.out _ hb13 | exact HS.out _ hb12 | exact HS.out _ hb11 | exact HS.out _ hb10 | exact HS.out _ hb9 | exact HS.out _ hb8 | exact HS.out _ hb7))
    (first
      | (go_at_call 8; first
          | (refine (ELL.out _ #[.int .i64 4, .bool false, .int .i64 0, .string ⟨#[]⟩, .slice none 0 0, .slice (some ⟨w13.heap.size, 0, none⟩) 2 2] #[.int .i64 4, .bool false, .int .i64 0, .string ⟨#[]⟩, .slice none 0 0, .slice (some ⟨w16.heap.size, 0, none⟩) 2 2] hL17 hT17).mono ?_; rintro e w18 ⟨rfl, hbl⟩; have hb18 : Below w6.heap.size w6 w18 := hb17.trans (hbl.mono hb17.size))
          | (refine (EML.out _ #[.int .i64 4, .bool false, .int .i64 0, .string ⟨#[]⟩, .slice none 0 0, .slice (some ⟨w11.heap.size, 0, none⟩) 1 1] hb12 hL12).mono ?_; rintro e w13 ⟨rfl, hbl⟩; have hb13 : Below w6.heap.size w6 w13 := hb12.trans (hbl.mono hb12.size))
          | (refine (EBA.out _ hb10).mono ?_; rintro e w11 ⟨rfl, hbl⟩; have hb11 : Below w6.heap.size w6 w11 := hb10.trans (hbl.mono hb10.size))
          | (refine (EAB.out _ hb9).mono ?_; rintro e w10 ⟨rfl, hbl⟩; have hb10 : Below w6.heap.size w6 w10 := hb9.trans (hbl.mono hb9.size))
          | (refine (EAT.out _ _ hb8 hT8).mono ?_; rintro e w9 ⟨rfl, hbl⟩; have hb9 : Below w6.heap.size w6 w9 := hb8.trans (hbl.mono hb8.size))
          | (refine (EAA.out _ hb0).mono ?_; rintro e w7 ⟨rfl, hbl⟩; have hb7 : Below w6.heap.size w6 w7 := hb0.trans (hbl.mono hb0.size)))
      | (go_at_call 9; first
          | (refine (TB.out _ hb15).mono ?_; rintro e w16 ⟨q4, q5, rfl, hT16, hbl⟩; have hb16 : Below w6.heap.size w6 w16 := hb15.trans (hbl.mono hb15.size); have hL16 := kJ.K_below hbl hL15; have hU16 := kJ.K_below hbl hT15)
          | (refine (TA.out _ hb14).mono ?_; rintro e w15 ⟨p4, p5, rfl, hT15, hbl⟩; have hb15 : Below w6.heap.size w6 w15 := hb14.trans (hbl.mono hb14.size); have hL15 := kJ.K_below hbl hL14)
          | (refine (TA.out _ hb7).mono ?_; rintro e w8 ⟨t4, t5, rfl, hT8, hbl⟩; have hb8 : Below w6.heap.size w6 w8 := hb7.trans (hbl.mono hb7.size)))
      | (go_at_call 7; first
          | (refine (jlist (some ⟨w16.heap.size, 0, none⟩) [tx, ty] 2 2 _ rfl (two_row (ca := #[.int .i64 tx.f0, .bool tx.f1, .int .i64 tx.f2, .string tx.f3, p4, p5]) (cb := #[.int .i64 ty.f0, .bool ty.f1, .int .i64 ty.f2, .string ty.f3, q4, q5]) (heap_alloc_new _ _) rfl (kJ.K_below (Below.alloc (Below.refl _ _) (Nat.le_refl _) _) hU16) (kJ.K_below (Below.alloc (Below.refl _ _) (Nat.le_refl _) _) hT16)) (Nat.le_refl _)).mono ?_; rintro e w17 ⟨rfl, hT17, hbl⟩; have hb17 : Below w6.heap.size w6 w17 := (hb16.alloc hb16.size _).trans (hbl.mono (hb16.alloc hb16.size _).size); have hL17 := kJ.K_below ((Below.alloc (Below.refl w16.heap.size w16) (Nat.le_refl _) _).trans (hbl.mono (by simp))) hL16)
          | (refine (jlist (some ⟨w13.heap.size, 0, none⟩) [x, y] 2 2 _ rfl (two_row (heap_alloc_new _ _) HCS.out (kJ.K_below (hb13.alloc hb13.size _) HKA6.out) (kJ.K_below (hb13.alloc hb13.size _) HKB6.out)) (Nat.le_refl _)).mono ?_; rintro e w14 ⟨rfl, hL14, hbl⟩; have hb14 : Below w6.heap.size w6 w14 := (hb13.alloc hb13.size _).trans (hbl.mono (hb13.alloc hb13.size _).size))
          | (refine (jlist (some ⟨w11.heap.size, 0, none⟩) [x] 1 1 _ rfl (oneJ (heap_alloc_new _ _) (kJ.K_below (hb11.alloc hb11.size _) HKA6.out)) (Nat.le_refl _)).mono ?_; rintro e w12 ⟨rfl, hL12, hbl⟩; have hb12 : Below w6.heap.size w6 w12 := (hb11.alloc hb11.size _).trans (hbl.mono (hb11.alloc hb11.size _).size)))
      | fail)
  go_wp2_with fail
  go_ret
  exact ⟨rfl, HQ6.out.below.trans (hb18.mono HQ6.out.below.size)⟩
end Go.Proofs.Ytdleegmdpgefmaa.J
