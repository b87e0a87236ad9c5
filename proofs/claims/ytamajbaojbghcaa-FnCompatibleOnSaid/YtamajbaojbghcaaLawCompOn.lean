/- laws.FnCompatibleOn: the walk. -/
import Derived.Test.YtamajbaojbghcaaLawComp
namespace Go.Proofs.Ytamajbaojbghcaa.Ty
open Go.RowKit Go.Proofs.YtamajbaojbghcaaW.PrintWords Go.Proofs.YtamajbaojbghcaaW.PrintLast Go.Proofs.YtamajbaojbghcaaW.PrintMore Go.Proofs.Ytamajbaojbghcaa.PT Go.Proofs.Ytamajbaojbghcaa.K
set_option linter.unusedVariables false
set_option linter.unusedSimpArgs false
/-- Three arguments in boxes. -/
structure Q3 (w wi : World) (ca cb cc : Array Value) : Prop where
  below : Below w.heap.size w wi
  b0 : wi.heap[w.heap.size]? = some (.cells ca 24 (0, 0))
  b1 : wi.heap[w.heap.size + 1]? = some (.cells cb 24 (0, 0))
  b2 : wi.heap[w.heap.size + 1 + 1]? = some (.cells cc 24 (0, 0))
theorem Q3.start (w : World) (ca cb cc : Array Value) : Q3 w (((w.alloc (.cells ca 24)).alloc (.cells cb 24)).alloc (.cells cc 24)) ca cb cc := by
  have h := Q2.start w ca cb
  have hs : ((w.alloc (.cells ca 24)).alloc (.cells cb 24)).heap.size = w.heap.size + 1 + 1 := by rw [World.size_alloc, World.size_alloc]
  have h2 := h.step ((Below.refl _ _).alloc (Nat.le_refl _) (.cells cc 24))
  refine ⟨h2.below, h2.b0, h2.b1, ?_⟩
  have := heap_alloc_new ((w.alloc (.cells ca 24)).alloc (.cells cb 24)) (.cells cc 24)
  rw [hs] at this
  exact this
theorem Q3.step {w wi w' : World} {ca cb cc : Array Value} (h : Q3 w wi ca cb cc) (hb : Below wi.heap.size wi w') : Q3 w w' ca cb cc := by
  have := heap_lt h.b2
  exact ⟨h.below.trans (hb.mono h.below.size), (hb.block _ (by omega)).trans h.b0, (hb.block _ (by omega)).trans h.b1, (hb.block _ (by omega)).trans h.b2⟩
theorem Q3.c0 {w wi : World} {ca cb cc : Array Value} (h : Q3 w wi ca cb cc) (i : Nat) (v : Value) (hi : ca[i]? = some v) : wi.cell? ⟨w.heap.size, i, none⟩ = some v := by rw [Lib.cell_of_heap h.b0]; exact hi
theorem Q3.c1 {w wi : World} {ca cb cc : Array Value} (h : Q3 w wi ca cb cc) (i : Nat) (v : Value) (hi : cb[i]? = some v) : wi.cell? ⟨w.heap.size + 1, i, none⟩ = some v := by rw [Lib.cell_of_heap h.b1]; exact hi
theorem Q3.c2 {w wi : World} {ca cb cc : Array Value} (h : Q3 w wi ca cb cc) (i : Nat) (v : Value) (hi : cc[i]? = some v) : wi.cell? ⟨w.heap.size + 1 + 1, i, none⟩ = some v := by rw [Lib.cell_of_heap h.b2]; exact hi
set_option maxHeartbeats 4000000 in
set_option maxRecDepth 100000 in
theorem walkOn (ca : Array Value) (a : TV) (cb : Array Value) (b : TV) (cc : Array Value) (c : TV) (w : World) (hKa : k24.K w a ca.toList) (hwa : wfT a) (hKb : k24.K w b cb.toList) (hwb : wfT b) (hKc : k24.K w c cc.toList) (hwc : wfT c) : Calls Try.prog 4 #[.agg ca, .agg cb, .agg cc] w fun e w' => e = .returned (.bool true) ∧ Below w.heap.size w w' := by
  obtain ⟨A1, c1, rfl, la, ga⟩ := topen hKa
  obtain ⟨B1, d1, rfl, lb, gb⟩ := topen hKb
  obtain ⟨C1, e1, rfl, lc, gc⟩ := topen hKc
  have HQ0 := Lib.hid (Q3.start w #[.string a.f0, .slice A1 a.f1.length c1, .bool a.f2] #[.string b.f0, .slice B1 b.f1.length d1, .bool b.f2] #[.string c.f0, .slice C1 c.f1.length e1, .bool c.f2])
  have HKA := Lib.hid hKa
  have HWA := Lib.hid hwa
  have HGA := Lib.hid ga
  have HLA := Lib.hid la
  have HKB := Lib.hid hKb
  have HWB := Lib.hid hwb
  have HGB := Lib.hid gb
  have HLB := Lib.hid lb
  have HKC := Lib.hid hKc
  have HWC := Lib.hid hwc
  have HGC := Lib.hid gc
  have HLC := Lib.hid lc
  clear hKa hKb hKc hwa hwb hwc ga gb gc la lb lc
  obtain ⟨za, hza⟩ := zz a
  obtain ⟨fa, ⟨KA, hkA⟩, hfa⟩ := fitsTypE 100 a (Nat.le_refl _) HWA.out
  have EZA := Lib.hid (fun (W : World) (h : Below w.heap.size w W) => laws_zzFits22.calls a.f0 A1 c1 a.f1 a.f2 za W (Kd.C_below HGA.out h) HLA.out hza)
  have EFA := Lib.hid (fun (W : World) (h : Below w.heap.size w W) => spec_FitsTyp.calls KA a.f0 A1 c1 a.f1 a.f2 100 fa W (Kd.C_below HGA.out h) HLA.out (hkA KA (Nat.le_refl _)))
  have HFA := Lib.hid hfa
  clear hza hkA hfa
  obtain ⟨zb, hzb⟩ := zz b
  obtain ⟨fb, ⟨KB, hkB⟩, hfb⟩ := fitsTypE 100 b (Nat.le_refl _) HWB.out
  have EZB := Lib.hid (fun (W : World) (h : Below w.heap.size w W) => laws_zzFits22.calls b.f0 B1 d1 b.f1 b.f2 zb W (Kd.C_below HGB.out h) HLB.out hzb)
  have EFB := Lib.hid (fun (W : World) (h : Below w.heap.size w W) => spec_FitsTyp.calls KB b.f0 B1 d1 b.f1 b.f2 100 fb W (Kd.C_below HGB.out h) HLB.out (hkB KB (Nat.le_refl _)))
  have HFB := Lib.hid hfb
  clear hzb hkB hfb
  obtain ⟨zc, hzc⟩ := zz c
  obtain ⟨fc, ⟨KC, hkC⟩, hfc⟩ := fitsTypE 100 c (Nat.le_refl _) HWC.out
  have EZC := Lib.hid (fun (W : World) (h : Below w.heap.size w W) => laws_zzFits22.calls c.f0 C1 e1 c.f1 c.f2 zc W (Kd.C_below HGC.out h) HLC.out hzc)
  have EFC := Lib.hid (fun (W : World) (h : Below w.heap.size w W) => spec_FitsTyp.calls KC c.f0 C1 e1 c.f1 c.f2 100 fc W (Kd.C_below HGC.out h) HLC.out (hkC KC (Nat.le_refl _)))
  have HFC := Lib.hid hfc
  clear hzc hkC hfc
  go_enter Try.func4, Try.ntmps4
  go_wp2_with fail
  refine (EZA.out _ HQ0.out.below).mono ?_
  rintro e w1 ⟨rfl, hbl⟩
  have HQ1 := Lib.hid (HQ0.out.step hbl)
  clear hbl HQ0
  have x0 := HQ1.out.c0 0 _ rfl
  have x1 := HQ1.out.c0 1 _ rfl
  have x2 := HQ1.out.c0 2 _ rfl
  have y0 := HQ1.out.c1 0 _ rfl
  have y1 := HQ1.out.c1 1 _ rfl
  have y2 := HQ1.out.c1 2 _ rfl
  have z0 := HQ1.out.c2 0 _ rfl
  have z1 := HQ1.out.c2 1 _ rfl
  have z2 := HQ1.out.c2 2 _ rfl
  cases za
  · go_wp2_with fail
    go_ret
    exact ⟨rfl, HQ1.out.below⟩
  go_wp2_with fail
  refine (EZB.out _ HQ1.out.below).mono ?_
  rintro e w2 ⟨rfl, hbl⟩
  have HQ2 := Lib.hid (HQ1.out.step hbl)
  clear hbl HQ1 x0 x1 x2 y0 y1 y2 z0 z1 z2
  have x0 := HQ2.out.c0 0 _ rfl
  have x1 := HQ2.out.c0 1 _ rfl
  have x2 := HQ2.out.c0 2 _ rfl
  have y0 := HQ2.out.c1 0 _ rfl
  have y1 := HQ2.out.c1 1 _ rfl
  have y2 := HQ2.out.c1 2 _ rfl
  have z0 := HQ2.out.c2 0 _ rfl
  have z1 := HQ2.out.c2 1 _ rfl
  have z2 := HQ2.out.c2 2 _ rfl
  cases zb
  · go_wp2_with fail
    go_ret
    exact ⟨rfl, HQ2.out.below⟩
  go_wp2_with fail
  refine (EZC.out _ HQ2.out.below).mono ?_
  rintro e w3 ⟨rfl, hbl⟩
  have HQ3 := Lib.hid (HQ2.out.step hbl)
  clear hbl HQ2 x0 x1 x2 y0 y1 y2 z0 z1 z2
  have x0 := HQ3.out.c0 0 _ rfl
  have x1 := HQ3.out.c0 1 _ rfl
  have x2 := HQ3.out.c0 2 _ rfl
  have y0 := HQ3.out.c1 0 _ rfl
  have y1 := HQ3.out.c1 1 _ rfl
  have y2 := HQ3.out.c1 2 _ rfl
  have z0 := HQ3.out.c2 0 _ rfl
  have z1 := HQ3.out.c2 1 _ rfl
  have z2 := HQ3.out.c2 2 _ rfl
  cases zc
  · go_wp2_with fail
    go_ret
    exact ⟨rfl, HQ3.out.below⟩
  go_wp2_with fail
  refine (EFA.out _ HQ3.out.below).mono ?_
  rintro e w4 ⟨rfl, hbl⟩
  have HQ4 := Lib.hid (HQ3.out.step hbl)
  clear hbl HQ3 x0 x1 x2 y0 y1 y2 z0 z1 z2
  have x0 := HQ4.out.c0 0 _ rfl
  have x1 := HQ4.out.c0 1 _ rfl
  have x2 := HQ4.out.c0 2 _ rfl
  have y0 := HQ4.out.c1 0 _ rfl
  have y1 := HQ4.out.c1 1 _ rfl
  have y2 := HQ4.out.c1 2 _ rfl
  have z0 := HQ4.out.c2 0 _ rfl
  have z1 := HQ4.out.c2 1 _ rfl
  have z2 := HQ4.out.c2 2 _ rfl
  cases fa
  · go_wp2_with fail
    go_ret
    exact ⟨rfl, HQ4.out.below⟩
  go_wp2_with fail
  refine (EFB.out _ HQ4.out.below).mono ?_
  rintro e w5 ⟨rfl, hbl⟩
  have HQ5 := Lib.hid (HQ4.out.step hbl)
  clear hbl HQ4 x0 x1 x2 y0 y1 y2 z0 z1 z2
  have x0 := HQ5.out.c0 0 _ rfl
  have x1 := HQ5.out.c0 1 _ rfl
  have x2 := HQ5.out.c0 2 _ rfl
  have y0 := HQ5.out.c1 0 _ rfl
  have y1 := HQ5.out.c1 1 _ rfl
  have y2 := HQ5.out.c1 2 _ rfl
  have z0 := HQ5.out.c2 0 _ rfl
  have z1 := HQ5.out.c2 1 _ rfl
  have z2 := HQ5.out.c2 2 _ rfl
  cases fb
  · go_wp2_with fail
    go_ret
    exact ⟨rfl, HQ5.out.below⟩
  go_wp2_with fail
  refine (EFC.out _ HQ5.out.below).mono ?_
  rintro e w6 ⟨rfl, hbl⟩
  have HQ6 := Lib.hid (HQ5.out.step hbl)
  clear hbl HQ5 x0 x1 x2 y0 y1 y2 z0 z1 z2
  have x0 := HQ6.out.c0 0 _ rfl
  have x1 := HQ6.out.c0 1 _ rfl
  have x2 := HQ6.out.c0 2 _ rfl
  have y0 := HQ6.out.c1 0 _ rfl
  have y1 := HQ6.out.c1 1 _ rfl
  have y2 := HQ6.out.c1 2 _ rfl
  have z0 := HQ6.out.c2 0 _ rfl
  have z1 := HQ6.out.c2 1 _ rfl
  have z2 := HQ6.out.c2 2 _ rfl
  cases fc
  · go_wp2_with fail
    go_ret
    exact ⟨rfl, HQ6.out.below⟩
  obtain ⟨r1, hr1⟩ : ∃ r, compat (toT 100 a) (toT 100 b) = r := ⟨_, rfl⟩
  obtain ⟨r2, hr2⟩ : ∃ r, compat (toT 100 b) (toT 100 c) = r := ⟨_, rfl⟩
  obtain ⟨r3, hr3⟩ : ∃ r, compat (toT 100 a) (toT 100 c) = r := ⟨_, rfl⟩
  have EAA := Lib.hid (fun (W : World) (h : Below w.heap.size w W) => compatible 100 100 a a #[.string a.f0, .slice A1 a.f1.length c1, .bool a.f2] #[.string a.f0, .slice A1 a.f1.length c1, .bool a.f2] W (HFA.out (by simp)) (HFA.out (by simp)) (k24.K_below h HKA.out) (k24.K_below h HKA.out) true (compat_refl _))
  have EAB := Lib.hid (fun (W : World) (h : Below w.heap.size w W) => compatible 100 100 a b #[.string a.f0, .slice A1 a.f1.length c1, .bool a.f2] #[.string b.f0, .slice B1 b.f1.length d1, .bool b.f2] W (HFA.out (by simp)) (HFB.out (by simp)) (k24.K_below h HKA.out) (k24.K_below h HKB.out) r1 hr1)
  have EBC := Lib.hid (fun (W : World) (h : Below w.heap.size w W) => compatible 100 100 b c #[.string b.f0, .slice B1 b.f1.length d1, .bool b.f2] #[.string c.f0, .slice C1 c.f1.length e1, .bool c.f2] W (HFB.out (by simp)) (HFC.out (by simp)) (k24.K_below h HKB.out) (k24.K_below h HKC.out) r2 hr2)
  have EAC := Lib.hid (fun (W : World) (h : Below w.heap.size w W) => compatible 100 100 a c #[.string a.f0, .slice A1 a.f1.length c1, .bool a.f2] #[.string c.f0, .slice C1 c.f1.length e1, .bool c.f2] W (HFA.out (by simp)) (HFC.out (by simp)) (k24.K_below h HKA.out) (k24.K_below h HKC.out) r3 hr3)
  have HTR := Lib.hid (show r1 = true → r2 = true → r3 = true from fun h1 h2 => by rw [← hr3]; exact compat_trans _ _ _ (hr1.trans h1) (hr2.trans h2))
  clear hr1 hr2 hr3
  go_wp2_with fail
  refine (EAA.out _ HQ6.out.below).mono ?_
  rintro e w7 ⟨rfl, hbl⟩
  have HQ7 := Lib.hid (HQ6.out.step hbl)
  clear hbl HQ6 x0 x1 x2 y0 y1 y2 z0 z1 z2
  have x0 := HQ7.out.c0 0 _ rfl
  have x1 := HQ7.out.c0 1 _ rfl
  have x2 := HQ7.out.c0 2 _ rfl
  have y0 := HQ7.out.c1 0 _ rfl
  have y1 := HQ7.out.c1 1 _ rfl
  have y2 := HQ7.out.c1 2 _ rfl
  have z0 := HQ7.out.c2 0 _ rfl
  have z1 := HQ7.out.c2 1 _ rfl
  have z2 := HQ7.out.c2 2 _ rfl
  go_wp2_with fail
  refine (EAB.out _ HQ7.out.below).mono ?_
  rintro e w8 ⟨rfl, hbl⟩
  have HQ8 := Lib.hid (HQ7.out.step hbl)
  clear hbl HQ7 x0 x1 x2 y0 y1 y2 z0 z1 z2
  have x0 := HQ8.out.c0 0 _ rfl
  have x1 := HQ8.out.c0 1 _ rfl
  have x2 := HQ8.out.c0 2 _ rfl
  have y0 := HQ8.out.c1 0 _ rfl
  have y1 := HQ8.out.c1 1 _ rfl
  have y2 := HQ8.out.c1 2 _ rfl
  have z0 := HQ8.out.c2 0 _ rfl
  have z1 := HQ8.out.c2 1 _ rfl
  have z2 := HQ8.out.c2 2 _ rfl
  cases r1
  · go_wp2_with fail
    go_ret
    exact ⟨by simp, HQ8.out.below⟩
  go_wp2_with fail
  refine (EBC.out _ HQ8.out.below).mono ?_
  rintro e w9 ⟨rfl, hbl⟩
  have HQ9 := Lib.hid (HQ8.out.step hbl)
  clear hbl HQ8 x0 x1 x2 y0 y1 y2 z0 z1 z2
  have x0 := HQ9.out.c0 0 _ rfl
  have x1 := HQ9.out.c0 1 _ rfl
  have x2 := HQ9.out.c0 2 _ rfl
  have y0 := HQ9.out.c1 0 _ rfl
  have y1 := HQ9.out.c1 1 _ rfl
  have y2 := HQ9.out.c1 2 _ rfl
  have z0 := HQ9.out.c2 0 _ rfl
  have z1 := HQ9.out.c2 1 _ rfl
  have z2 := HQ9.out.c2 2 _ rfl
  cases r2
  · go_wp2_with fail
    go_ret
    exact ⟨by simp, HQ9.out.below⟩
  have h3 := HTR.out (by simp) (by simp)
  go_wp2_with fail
  refine (EAC.out _ HQ9.out.below).mono ?_
  rintro e w10 ⟨rfl, hbl⟩
  have HQ10 := Lib.hid (HQ9.out.step hbl)
  clear hbl HQ9 x0 x1 x2 y0 y1 y2 z0 z1 z2
  have x0 := HQ10.out.c0 0 _ rfl
  have x1 := HQ10.out.c0 1 _ rfl
  have x2 := HQ10.out.c0 2 _ rfl
  have y0 := HQ10.out.c1 0 _ rfl
  have y1 := HQ10.out.c1 1 _ rfl
  have y2 := HQ10.out.c1 2 _ rfl
  have z0 := HQ10.out.c2 0 _ rfl
  have z1 := HQ10.out.c2 1 _ rfl
  have z2 := HQ10.out.c2 2 _ rfl
  subst h3
  go_wp2_with fail
  go_ret
  exact ⟨by simp, HQ10.out.below⟩
end Go.Proofs.Ytamajbaojbghcaa.Ty
