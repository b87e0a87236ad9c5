/- laws.FnCompatible: the walk. -/
import Derived.Test.YtamajbaojbghcaaTy4
import Derived.Test.YtamajbaojbghcaaPhase
namespace Go.Proofs.Ytamajbaojbghcaa.Ty
open Go.RowKit Go.Proofs.YtamajbaojbghcaaW.PrintWords Go.Proofs.YtamajbaojbghcaaW.PrintLast Go.Proofs.YtamajbaojbghcaaW.PrintMore Go.Proofs.Ytamajbaojbghcaa.PT Go.Proofs.Ytamajbaojbghcaa.K
set_option linter.unusedVariables false
set_option linter.unusedSimpArgs false
theorem zz (t : TV) : ∃ z, laws_zzFits22.f t.f0 t.f1 t.f2 = some z := by
  unfold laws_zzFits22.f
  repeat' split
  all_goals exact ⟨_, rfl⟩
set_option maxHeartbeats 4000000 in
set_option maxRecDepth 100000 in
theorem walkC (ca : Array Value) (a : TV) (cb : Array Value) (b : TV) (w : World) (hKa : k24.K w a ca.toList) (hwa : wfT a) (hKb : k24.K w b cb.toList) (hwb : wfT b) : Calls Try.prog 3 #[.agg ca, .agg cb] w fun e w' => e = .returned (.bool true) ∧ Below w.heap.size w w' := by
  obtain ⟨A1, c1, rfl, la, ga⟩ := topen hKa
  obtain ⟨B1, d1, rfl, lb, gb⟩ := topen hKb
  have HQ := Lib.hid (Q2.start w #[.string a.f0, .slice A1 a.f1.length c1, .bool a.f2] #[.string b.f0, .slice B1 b.f1.length d1, .bool b.f2])
  have HKA := Lib.hid hKa
  have HKB := Lib.hid hKb
  have HWA := Lib.hid hwa
  have HWB := Lib.hid hwb
  have HGA := Lib.hid ga
  have HGB := Lib.hid gb
  have HLA := Lib.hid la
  have HLB := Lib.hid lb
  clear hKa hKb hwa hwb ga gb la lb
  go_enter Try.func3, Try.ntmps3
  go_wp2_with fail
  obtain ⟨z1, hz1⟩ := zz a
  refine (laws_zzFits22.calls a.f0 A1 c1 a.f1 a.f2 z1 _ (Kd.C_below HGA.out HQ.out.below) HLA.out hz1).mono ?_
  rintro e w1 ⟨rfl, hbl⟩
  have HQ1 := Lib.hid (HQ.out.step hbl)
  clear hbl HQ hz1
  have x0 := HQ1.out.c0 0 _ rfl
  have x1 := HQ1.out.c0 1 _ rfl
  have x2 := HQ1.out.c0 2 _ rfl
  have y0 := HQ1.out.c1 0 _ rfl
  have y1 := HQ1.out.c1 1 _ rfl
  have y2 := HQ1.out.c1 2 _ rfl
  cases z1
  · go_wp2_with fail
    go_ret
    exact ⟨rfl, HQ1.out.below⟩
  go_wp2_with fail
  obtain ⟨z2, hz2⟩ := zz b
  refine (laws_zzFits22.calls b.f0 B1 d1 b.f1 b.f2 z2 _ (Kd.C_below HGB.out HQ1.out.below) HLB.out hz2).mono ?_
  rintro e w2 ⟨rfl, hbl⟩
  have HQ2 := Lib.hid (HQ1.out.step hbl)
  clear hbl HQ1 hz2 x0 x1 x2 y0 y1 y2
  cases z2
  · go_wp2_with fail
    go_ret
    exact ⟨rfl, HQ2.out.below⟩
  have x0 := HQ2.out.c0 0 _ rfl
  have x1 := HQ2.out.c0 1 _ rfl
  have x2 := HQ2.out.c0 2 _ rfl
  have y0 := HQ2.out.c1 0 _ rfl
  have y1 := HQ2.out.c1 1 _ rfl
  have y2 := HQ2.out.c1 2 _ rfl
  obtain ⟨fa, ⟨KA, hKA⟩, hfa⟩ := fitsTypE 100 a (Nat.le_refl _) HWA.out
  obtain ⟨fb, ⟨KB, hKB⟩, hfb⟩ := fitsTypE 100 b (Nat.le_refl _) HWB.out
  have EA := Lib.hid (fun (W : World) (h : Below w.heap.size w W) => spec_FitsTyp.calls KA a.f0 A1 c1 a.f1 a.f2 100 fa W (Kd.C_below HGA.out h) HLA.out (hKA KA (Nat.le_refl _)))
  have EB := Lib.hid (fun (W : World) (h : Below w.heap.size w W) => spec_FitsTyp.calls KB b.f0 B1 d1 b.f1 b.f2 100 fb W (Kd.C_below HGB.out h) HLB.out (hKB KB (Nat.le_refl _)))
  have HFA := Lib.hid hfa
  have HFB := Lib.hid hfb
  have hb2 := HQ2.out.below
  have hb0 : Below w2.heap.size w2 w2.drew := (Below.refl _ _).drew
  have hws := HQ2.out.below.size
  clear hKA hKB hfa hfb HQ2
  go_wp2_with fail
  cases fa
  · have hS : ∀ W : World, Below w2.heap.size w2 W → (fun w' : World => w'.cell? ⟨w.heap.size, 0, none⟩ = some (.string a.f0) ∧ w'.cell? ⟨w.heap.size, 1, none⟩ = some (.slice A1 a.f1.length c1) ∧ w'.cell? ⟨w.heap.size, 2, none⟩ = some (.bool a.f2) ∧ w'.cell? ⟨w.heap.size + 1, 0, none⟩ = some (.string b.f0) ∧ w'.cell? ⟨w.heap.size + 1, 1, none⟩ = some (.slice B1 b.f1.length d1) ∧ w'.cell? ⟨w.heap.size + 1, 2, none⟩ = some (.bool b.f2)) W := fun W h => ⟨(h.cell (lt_of_cell x0)).trans x0, (h.cell (lt_of_cell x1)).trans x1, (h.cell (lt_of_cell x2)).trans x2, (h.cell (lt_of_cell y0)).trans y0, (h.cell (lt_of_cell y1)).trans y1, (h.cell (lt_of_cell y2)).trans y2⟩
    refine Ph.region_phases (S := (fun w' : World => w'.cell? ⟨w.heap.size, 0, none⟩ = some (.string a.f0) ∧ w'.cell? ⟨w.heap.size, 1, none⟩ = some (.slice A1 a.f1.length c1) ∧ w'.cell? ⟨w.heap.size, 2, none⟩ = some (.bool a.f2) ∧ w'.cell? ⟨w.heap.size + 1, 0, none⟩ = some (.string b.f0) ∧ w'.cell? ⟨w.heap.size + 1, 1, none⟩ = some (.slice B1 b.f1.length d1) ∧ w'.cell? ⟨w.heap.size + 1, 2, none⟩ = some (.bool b.f2))) (ops₁ := ?faops) 23 0 (by kernel_rfl) ?fahops ?fahn ?fahsz ?fahe ?fahl ?fah
    case fahops => simp only [List.take_succ_cons, List.take_zero]; exact rfl
    case fahn => kernel_rfl
    case fahsz => kernel_rfl
    case fahe => kernel_rfl
    case fahl => kernel_rfl
    have hH0 : ((fun w' : World => w'.cell? ⟨w.heap.size, 0, none⟩ = some (.string a.f0) ∧ w'.cell? ⟨w.heap.size, 1, none⟩ = some (.slice A1 a.f1.length c1) ∧ w'.cell? ⟨w.heap.size, 2, none⟩ = some (.bool a.f2) ∧ w'.cell? ⟨w.heap.size + 1, 0, none⟩ = some (.string b.f0) ∧ w'.cell? ⟨w.heap.size + 1, 1, none⟩ = some (.slice B1 b.f1.length d1) ∧ w'.cell? ⟨w.heap.size + 1, 2, none⟩ = some (.bool b.f2))) _ := hS _ hb0
    refine wpAnyH_take (i := 0) (oi := ?fa0toi) (v := ?fa0tv) ?fa0thi (by kernel_rfl) (by kernel_rfl) (by kernel_rfl) ?fa0thq ?fa0thy (by assumption) ?fa0trest
    case fa0thi => simp only [List.getElem?_toArray, List.getElem?_cons_succ, List.getElem?_cons_zero]; exact rfl
    case fa0thq => exact fun _ _ _ h => h
    case fa0thy => (refine Or.inl ⟨by rfl, ?_⟩; intro w' hSw; (try dsimp only at hSw); go_simp; try with_reducible rfl)
    try simp only [Act.put, List.setIfInBounds_toArray, List.set_cons_zero, List.set_cons_succ]
    refine wpAnyH_ready (rs := [1]) (by kernel_rfl) (by simp) ?_
    refine AllReadyH.cons (o := ?fa1so) ?fa1sho (fun K hK => ?fa1shs) AllReadyH.nil
    case fa1sho => simp only [List.getElem?_toArray, List.getElem?_cons_succ, List.getElem?_cons_zero]; exact rfl
    go_simp
    refine (EA.out _ (hb2.trans (hb0.mono hws))).mono ?_
    rintro e w3 ⟨rfl, hbl⟩
    have hb3 : Below w2.heap.size w2 w3 := hb0.trans (hbl.mono hb0.size)
    dsimp only
    refine hK.out _ _ ?_ (fun hH1 => ?_)
    · exact hS _ hb3
    clear hK K hH0
    try simp only [Act.put, List.setIfInBounds_toArray, List.set_cons_zero, List.set_cons_succ]
    refine wpAnyH_take (i := 2) (oi := ?fa2toi) (v := ?fa2tv) ?fa2thi (by kernel_rfl) (by kernel_rfl) (by kernel_rfl) ?fa2thq ?fa2thy (by assumption) ?fa2trest
    case fa2thi => simp only [List.getElem?_toArray, List.getElem?_cons_succ, List.getElem?_cons_zero]; exact rfl
    case fa2thq => exact fun _ _ _ h => h
    case fa2thy => (refine Or.inl ⟨by rfl, ?_⟩; intro w' hSw; (try dsimp only at hSw); go_simp; try with_reducible rfl)
    try simp only [Act.put, List.setIfInBounds_toArray, List.set_cons_zero, List.set_cons_succ]
    refine wpAnyH_take (i := 3) (oi := ?fa3toi) (v := ?fa3tv) ?fa3thi (by kernel_rfl) (by kernel_rfl) (by kernel_rfl) ?fa3thq ?fa3thy (by assumption) ?fa3trest
    case fa3thi => simp only [List.getElem?_toArray, List.getElem?_cons_succ, List.getElem?_cons_zero]; exact rfl
    case fa3thq => exact fun _ _ _ h => h
    case fa3thy => (refine Or.inl ⟨by rfl, ?_⟩; intro w' hSw; (try dsimp only at hSw); go_simp; try with_reducible rfl)
    try simp only [Act.put, List.setIfInBounds_toArray, List.set_cons_zero, List.set_cons_succ]
    refine wpAnyH_take (i := 4) (oi := ?fa4uoi) (v := undef) ?fa4uhi (by kernel_rfl) (by kernel_rfl) (by kernel_rfl) ?fa4uhq ?fa4uhy (by assumption) ?fa4urest
    case fa4uhi => simp only [List.getElem?_toArray, List.getElem?_cons_succ, List.getElem?_cons_zero]; exact rfl
    case fa4uhq => exact fun _ _ _ h => h
    case fa4uhy => exact Or.inr ⟨by rfl, rfl⟩
    try simp only [Act.put, List.setIfInBounds_toArray, List.set_cons_zero, List.set_cons_succ]
    refine wpAnyH_take (i := 5) (oi := ?fa5uoi) (v := undef) ?fa5uhi (by kernel_rfl) (by kernel_rfl) (by kernel_rfl) ?fa5uhq ?fa5uhy (by assumption) ?fa5urest
    case fa5uhi => simp only [List.getElem?_toArray, List.getElem?_cons_succ, List.getElem?_cons_zero]; exact rfl
    case fa5uhq => exact fun _ _ _ h => h
    case fa5uhy => exact Or.inr ⟨by rfl, rfl⟩
    try simp only [Act.put, List.setIfInBounds_toArray, List.set_cons_zero, List.set_cons_succ]
    refine wpAnyH_take (i := 6) (oi := ?fa6uoi) (v := undef) ?fa6uhi (by kernel_rfl) (by kernel_rfl) (by kernel_rfl) ?fa6uhq ?fa6uhy (by assumption) ?fa6urest
    case fa6uhi => simp only [List.getElem?_toArray, List.getElem?_cons_succ, List.getElem?_cons_zero]; exact rfl
    case fa6uhq => exact fun _ _ _ h => h
    case fa6uhy => exact Or.inr ⟨by rfl, rfl⟩
    try simp only [Act.put, List.setIfInBounds_toArray, List.set_cons_zero, List.set_cons_succ]
    refine wpAnyH_take (i := 7) (oi := ?fa7toi) (v := ?fa7tv) ?fa7thi (by kernel_rfl) (by kernel_rfl) (by kernel_rfl) ?fa7thq ?fa7thy (by assumption) ?fa7trest
    case fa7thi => simp only [List.getElem?_toArray, List.getElem?_cons_succ, List.getElem?_cons_zero]; exact rfl
    case fa7thq => exact fun _ _ _ h => h
    case fa7thy => (refine Or.inl ⟨by rfl, ?_⟩; intro w' hSw; (try dsimp only at hSw); go_simp; try with_reducible rfl)
    try simp only [Act.put, List.setIfInBounds_toArray, List.set_cons_zero, List.set_cons_succ]
    refine wpAnyH_take (i := 8) (oi := ?fa8toi) (v := ?fa8tv) ?fa8thi (by kernel_rfl) (by kernel_rfl) (by kernel_rfl) ?fa8thq ?fa8thy (by assumption) ?fa8trest
    case fa8thi => simp only [List.getElem?_toArray, List.getElem?_cons_succ, List.getElem?_cons_zero]; exact rfl
    case fa8thq => exact fun _ _ _ h => h
    case fa8thy => (refine Or.inl ⟨by rfl, ?_⟩; intro w' hSw; (try dsimp only at hSw); go_simp; try with_reducible rfl)
    try simp only [Act.put, List.setIfInBounds_toArray, List.set_cons_zero, List.set_cons_succ]
    refine wpAnyH_take (i := 9) (oi := ?fa9uoi) (v := undef) ?fa9uhi (by kernel_rfl) (by kernel_rfl) (by kernel_rfl) ?fa9uhq ?fa9uhy (by assumption) ?fa9urest
    case fa9uhi => simp only [List.getElem?_toArray, List.getElem?_cons_succ, List.getElem?_cons_zero]; exact rfl
    case fa9uhq => exact fun _ _ _ h => h
    case fa9uhy => exact Or.inr ⟨by rfl, rfl⟩
    try simp only [Act.put, List.setIfInBounds_toArray, List.set_cons_zero, List.set_cons_succ]
    refine wpAnyH_take (i := 10) (oi := ?fa10uoi) (v := undef) ?fa10uhi (by kernel_rfl) (by kernel_rfl) (by kernel_rfl) ?fa10uhq ?fa10uhy (by assumption) ?fa10urest
    case fa10uhi => simp only [List.getElem?_toArray, List.getElem?_cons_succ, List.getElem?_cons_zero]; exact rfl
    case fa10uhq => exact fun _ _ _ h => h
    case fa10uhy => exact Or.inr ⟨by rfl, rfl⟩
    try simp only [Act.put, List.setIfInBounds_toArray, List.set_cons_zero, List.set_cons_succ]
    refine wpAnyH_take (i := 11) (oi := ?fa11uoi) (v := undef) ?fa11uhi (by kernel_rfl) (by kernel_rfl) (by kernel_rfl) ?fa11uhq ?fa11uhy (by assumption) ?fa11urest
    case fa11uhi => simp only [List.getElem?_toArray, List.getElem?_cons_succ, List.getElem?_cons_zero]; exact rfl
    case fa11uhq => exact fun _ _ _ h => h
    case fa11uhy => exact Or.inr ⟨by rfl, rfl⟩
    try simp only [Act.put, List.setIfInBounds_toArray, List.set_cons_zero, List.set_cons_succ]
    refine wpAnyH_take (i := 12) (oi := ?fa12uoi) (v := undef) ?fa12uhi (by kernel_rfl) (by kernel_rfl) (by kernel_rfl) ?fa12uhq ?fa12uhy (by assumption) ?fa12urest
    case fa12uhi => simp only [List.getElem?_toArray, List.getElem?_cons_succ, List.getElem?_cons_zero]; exact rfl
    case fa12uhq => exact fun _ _ _ h => h
    case fa12uhy => exact Or.inr ⟨by rfl, rfl⟩
    try simp only [Act.put, List.setIfInBounds_toArray, List.set_cons_zero, List.set_cons_succ]
    refine wpAnyH_take (i := 13) (oi := ?fa13uoi) (v := undef) ?fa13uhi (by kernel_rfl) (by kernel_rfl) (by kernel_rfl) ?fa13uhq ?fa13uhy (by assumption) ?fa13urest
    case fa13uhi => simp only [List.getElem?_toArray, List.getElem?_cons_succ, List.getElem?_cons_zero]; exact rfl
    case fa13uhq => exact fun _ _ _ h => h
    case fa13uhy => exact Or.inr ⟨by rfl, rfl⟩
    try simp only [Act.put, List.setIfInBounds_toArray, List.set_cons_zero, List.set_cons_succ]
    refine wpAnyH_take (i := 14) (oi := ?fa14uoi) (v := undef) ?fa14uhi (by kernel_rfl) (by kernel_rfl) (by kernel_rfl) ?fa14uhq ?fa14uhy (by assumption) ?fa14urest
    case fa14uhi => simp only [List.getElem?_toArray, List.getElem?_cons_succ, List.getElem?_cons_zero]; exact rfl
    case fa14uhq => exact fun _ _ _ h => h
    case fa14uhy => exact Or.inr ⟨by rfl, rfl⟩
    try simp only [Act.put, List.setIfInBounds_toArray, List.set_cons_zero, List.set_cons_succ]
    refine wpAnyH_take (i := 15) (oi := ?fa15uoi) (v := undef) ?fa15uhi (by kernel_rfl) (by kernel_rfl) (by kernel_rfl) ?fa15uhq ?fa15uhy (by assumption) ?fa15urest
    case fa15uhi => simp only [List.getElem?_toArray, List.getElem?_cons_succ, List.getElem?_cons_zero]; exact rfl
    case fa15uhq => exact fun _ _ _ h => h
    case fa15uhy => exact Or.inr ⟨by rfl, rfl⟩
    try simp only [Act.put, List.setIfInBounds_toArray, List.set_cons_zero, List.set_cons_succ]
    refine wpAnyH_take (i := 16) (oi := ?fa16uoi) (v := undef) ?fa16uhi (by kernel_rfl) (by kernel_rfl) (by kernel_rfl) ?fa16uhq ?fa16uhy (by assumption) ?fa16urest
    case fa16uhi => simp only [List.getElem?_toArray, List.getElem?_cons_succ, List.getElem?_cons_zero]; exact rfl
    case fa16uhq => exact fun _ _ _ h => h
    case fa16uhy => exact Or.inr ⟨by rfl, rfl⟩
    try simp only [Act.put, List.setIfInBounds_toArray, List.set_cons_zero, List.set_cons_succ]
    refine wpAnyH_take (i := 17) (oi := ?fa17uoi) (v := undef) ?fa17uhi (by kernel_rfl) (by kernel_rfl) (by kernel_rfl) ?fa17uhq ?fa17uhy (by assumption) ?fa17urest
    case fa17uhi => simp only [List.getElem?_toArray, List.getElem?_cons_succ, List.getElem?_cons_zero]; exact rfl
    case fa17uhq => exact fun _ _ _ h => h
    case fa17uhy => exact Or.inr ⟨by rfl, rfl⟩
    try simp only [Act.put, List.setIfInBounds_toArray, List.set_cons_zero, List.set_cons_succ]
    refine wpAnyH_take (i := 18) (oi := ?fa18uoi) (v := undef) ?fa18uhi (by kernel_rfl) (by kernel_rfl) (by kernel_rfl) ?fa18uhq ?fa18uhy (by assumption) ?fa18urest
    case fa18uhi => simp only [List.getElem?_toArray, List.getElem?_cons_succ, List.getElem?_cons_zero]; exact rfl
    case fa18uhq => exact fun _ _ _ h => h
    case fa18uhy => exact Or.inr ⟨by rfl, rfl⟩
    try simp only [Act.put, List.setIfInBounds_toArray, List.set_cons_zero, List.set_cons_succ]
    refine wpAnyH_take (i := 19) (oi := ?fa19uoi) (v := undef) ?fa19uhi (by kernel_rfl) (by kernel_rfl) (by kernel_rfl) ?fa19uhq ?fa19uhy (by assumption) ?fa19urest
    case fa19uhi => simp only [List.getElem?_toArray, List.getElem?_cons_succ, List.getElem?_cons_zero]; exact rfl
    case fa19uhq => exact fun _ _ _ h => h
    case fa19uhy => exact Or.inr ⟨by rfl, rfl⟩
    try simp only [Act.put, List.setIfInBounds_toArray, List.set_cons_zero, List.set_cons_succ]
    refine wpAnyH_take (i := 20) (oi := ?fa20uoi) (v := undef) ?fa20uhi (by kernel_rfl) (by kernel_rfl) (by kernel_rfl) ?fa20uhq ?fa20uhy (by assumption) ?fa20urest
    case fa20uhi => simp only [List.getElem?_toArray, List.getElem?_cons_succ, List.getElem?_cons_zero]; exact rfl
    case fa20uhq => exact fun _ _ _ h => h
    case fa20uhy => exact Or.inr ⟨by rfl, rfl⟩
    try simp only [Act.put, List.setIfInBounds_toArray, List.set_cons_zero, List.set_cons_succ]
    refine wpAnyH_take (i := 21) (oi := ?fa21toi) (v := ?fa21tv) ?fa21thi (by kernel_rfl) (by kernel_rfl) (by kernel_rfl) ?fa21thq ?fa21thy (by assumption) ?fa21trest
    case fa21thi => simp only [List.getElem?_toArray, List.getElem?_cons_succ, List.getElem?_cons_zero]; exact rfl
    case fa21thq => exact fun _ _ _ h => h
    case fa21thy => (refine Or.inl ⟨by rfl, ?_⟩; intro w' hSw; (try dsimp only at hSw); go_simp; try with_reducible rfl)
    try simp only [Act.put, List.setIfInBounds_toArray, List.set_cons_zero, List.set_cons_succ]
    refine wpAnyH_take (i := 22) (oi := ?fa22toi) (v := ?fa22tv) ?fa22thi (by kernel_rfl) (by kernel_rfl) (by kernel_rfl) ?fa22thq ?fa22thy (by assumption) ?fa22trest
    case fa22thi => simp only [List.getElem?_toArray, List.getElem?_cons_succ, List.getElem?_cons_zero]; exact rfl
    case fa22thq => exact fun _ _ _ h => h
    case fa22thy => (refine Or.inl ⟨by rfl, ?_⟩; intro w' hSw; (try dsimp only at hSw); go_simp; try with_reducible rfl)
    try simp only [Act.put, List.setIfInBounds_toArray, List.set_cons_zero, List.set_cons_succ]
    refine wpAnyH_done (by kernel_rfl) ?_ _
    refine Ph.Then.go ?_
    clear hH1
    refine wpAnyH_done (by kernel_rfl) ?_ _
    go_wp2_with fail
    go_ret
    exact ⟨rfl, hb2.trans (hb3.mono hws)⟩
  have FA := HFA.out rfl
  cases fb
  · have hS : ∀ W : World, Below w2.heap.size w2 W → (fun w' : World => w'.cell? ⟨w.heap.size, 0, none⟩ = some (.string a.f0) ∧ w'.cell? ⟨w.heap.size, 1, none⟩ = some (.slice A1 a.f1.length c1) ∧ w'.cell? ⟨w.heap.size, 2, none⟩ = some (.bool a.f2) ∧ w'.cell? ⟨w.heap.size + 1, 0, none⟩ = some (.string b.f0) ∧ w'.cell? ⟨w.heap.size + 1, 1, none⟩ = some (.slice B1 b.f1.length d1) ∧ w'.cell? ⟨w.heap.size + 1, 2, none⟩ = some (.bool b.f2)) W := fun W h => ⟨(h.cell (lt_of_cell x0)).trans x0, (h.cell (lt_of_cell x1)).trans x1, (h.cell (lt_of_cell x2)).trans x2, (h.cell (lt_of_cell y0)).trans y0, (h.cell (lt_of_cell y1)).trans y1, (h.cell (lt_of_cell y2)).trans y2⟩
    refine Ph.region_phases (S := (fun w' : World => w'.cell? ⟨w.heap.size, 0, none⟩ = some (.string a.f0) ∧ w'.cell? ⟨w.heap.size, 1, none⟩ = some (.slice A1 a.f1.length c1) ∧ w'.cell? ⟨w.heap.size, 2, none⟩ = some (.bool a.f2) ∧ w'.cell? ⟨w.heap.size + 1, 0, none⟩ = some (.string b.f0) ∧ w'.cell? ⟨w.heap.size + 1, 1, none⟩ = some (.slice B1 b.f1.length d1) ∧ w'.cell? ⟨w.heap.size + 1, 2, none⟩ = some (.bool b.f2))) (ops₁ := ?fbops) 23 0 (by kernel_rfl) ?fbhops ?fbhn ?fbhsz ?fbhe ?fbhl ?fbh
    case fbhops => simp only [List.take_succ_cons, List.take_zero]; exact rfl
    case fbhn => kernel_rfl
    case fbhsz => kernel_rfl
    case fbhe => kernel_rfl
    case fbhl => kernel_rfl
    have hH0 : ((fun w' : World => w'.cell? ⟨w.heap.size, 0, none⟩ = some (.string a.f0) ∧ w'.cell? ⟨w.heap.size, 1, none⟩ = some (.slice A1 a.f1.length c1) ∧ w'.cell? ⟨w.heap.size, 2, none⟩ = some (.bool a.f2) ∧ w'.cell? ⟨w.heap.size + 1, 0, none⟩ = some (.string b.f0) ∧ w'.cell? ⟨w.heap.size + 1, 1, none⟩ = some (.slice B1 b.f1.length d1) ∧ w'.cell? ⟨w.heap.size + 1, 2, none⟩ = some (.bool b.f2))) _ := hS _ hb0
    refine wpAnyH_take (i := 0) (oi := ?fb0toi) (v := ?fb0tv) ?fb0thi (by kernel_rfl) (by kernel_rfl) (by kernel_rfl) ?fb0thq ?fb0thy (by assumption) ?fb0trest
    case fb0thi => simp only [List.getElem?_toArray, List.getElem?_cons_succ, List.getElem?_cons_zero]; exact rfl
    case fb0thq => exact fun _ _ _ h => h
    case fb0thy => (refine Or.inl ⟨by rfl, ?_⟩; intro w' hSw; (try dsimp only at hSw); go_simp; try with_reducible rfl)
    try simp only [Act.put, List.setIfInBounds_toArray, List.set_cons_zero, List.set_cons_succ]
    refine wpAnyH_ready (rs := [1]) (by kernel_rfl) (by simp) ?_
    refine AllReadyH.cons (o := ?fb1so) ?fb1sho (fun K hK => ?fb1shs) AllReadyH.nil
    case fb1sho => simp only [List.getElem?_toArray, List.getElem?_cons_succ, List.getElem?_cons_zero]; exact rfl
    go_simp
    refine (EA.out _ (hb2.trans (hb0.mono hws))).mono ?_
    rintro e w3 ⟨rfl, hbl⟩
    have hb3 : Below w2.heap.size w2 w3 := hb0.trans (hbl.mono hb0.size)
    dsimp only
    refine hK.out _ _ ?_ (fun hH1 => ?_)
    · exact hS _ hb3
    clear hK K hH0
    try simp only [Act.put, List.setIfInBounds_toArray, List.set_cons_zero, List.set_cons_succ]
    refine wpAnyH_take (i := 2) (oi := ?fb2toi) (v := ?fb2tv) ?fb2thi (by kernel_rfl) (by kernel_rfl) (by kernel_rfl) ?fb2thq ?fb2thy (by assumption) ?fb2trest
    case fb2thi => simp only [List.getElem?_toArray, List.getElem?_cons_succ, List.getElem?_cons_zero]; exact rfl
    case fb2thq => exact fun _ _ _ h => h
    case fb2thy => (refine Or.inl ⟨by rfl, ?_⟩; intro w' hSw; (try dsimp only at hSw); go_simp; try with_reducible rfl)
    try simp only [Act.put, List.setIfInBounds_toArray, List.set_cons_zero, List.set_cons_succ]
    refine wpAnyH_take (i := 3) (oi := ?fb3toi) (v := ?fb3tv) ?fb3thi (by kernel_rfl) (by kernel_rfl) (by kernel_rfl) ?fb3thq ?fb3thy (by assumption) ?fb3trest
    case fb3thi => simp only [List.getElem?_toArray, List.getElem?_cons_succ, List.getElem?_cons_zero]; exact rfl
    case fb3thq => exact fun _ _ _ h => h
    case fb3thy => (refine Or.inl ⟨by rfl, ?_⟩; intro w' hSw; (try dsimp only at hSw); go_simp; try with_reducible rfl)
    try simp only [Act.put, List.setIfInBounds_toArray, List.set_cons_zero, List.set_cons_succ]
    refine wpAnyH_take (i := 4) (oi := ?fb4toi) (v := ?fb4tv) ?fb4thi (by kernel_rfl) (by kernel_rfl) (by kernel_rfl) ?fb4thq ?fb4thy (by assumption) ?fb4trest
    case fb4thi => simp only [List.getElem?_toArray, List.getElem?_cons_succ, List.getElem?_cons_zero]; exact rfl
    case fb4thq => exact fun _ _ _ h => h
    case fb4thy => (refine Or.inl ⟨by rfl, ?_⟩; intro w' hSw; (try dsimp only at hSw); go_simp; try with_reducible rfl)
    try simp only [Act.put, List.setIfInBounds_toArray, List.set_cons_zero, List.set_cons_succ]
    refine wpAnyH_ready (rs := [5]) (by kernel_rfl) (by simp) ?_
    refine AllReadyH.cons (o := ?fb5so) ?fb5sho (fun K hK => ?fb5shs) AllReadyH.nil
    case fb5sho => simp only [List.getElem?_toArray, List.getElem?_cons_succ, List.getElem?_cons_zero]; exact rfl
    go_simp
    refine (EB.out _ (hb2.trans (hb3.mono hws))).mono ?_
    rintro e w4 ⟨rfl, hbl⟩
    have hb4 : Below w2.heap.size w2 w4 := hb3.trans (hbl.mono hb3.size)
    dsimp only
    refine hK.out _ _ ?_ (fun hH2 => ?_)
    · exact hS _ hb4
    clear hK K hH1
    try simp only [Act.put, List.setIfInBounds_toArray, List.set_cons_zero, List.set_cons_succ]
    refine wpAnyH_take (i := 6) (oi := ?fb6toi) (v := ?fb6tv) ?fb6thi (by kernel_rfl) (by kernel_rfl) (by kernel_rfl) ?fb6thq ?fb6thy (by assumption) ?fb6trest
    case fb6thi => simp only [List.getElem?_toArray, List.getElem?_cons_succ, List.getElem?_cons_zero]; exact rfl
    case fb6thq => exact fun _ _ _ h => h
    case fb6thy => (refine Or.inl ⟨by rfl, ?_⟩; intro w' hSw; (try dsimp only at hSw); go_simp; try with_reducible rfl)
    try simp only [Act.put, List.setIfInBounds_toArray, List.set_cons_zero, List.set_cons_succ]
    refine wpAnyH_take (i := 7) (oi := ?fb7toi) (v := ?fb7tv) ?fb7thi (by kernel_rfl) (by kernel_rfl) (by kernel_rfl) ?fb7thq ?fb7thy (by assumption) ?fb7trest
    case fb7thi => simp only [List.getElem?_toArray, List.getElem?_cons_succ, List.getElem?_cons_zero]; exact rfl
    case fb7thq => exact fun _ _ _ h => h
    case fb7thy => (refine Or.inl ⟨by rfl, ?_⟩; intro w' hSw; (try dsimp only at hSw); go_simp; try with_reducible rfl)
    try simp only [Act.put, List.setIfInBounds_toArray, List.set_cons_zero, List.set_cons_succ]
    refine wpAnyH_take (i := 8) (oi := ?fb8toi) (v := ?fb8tv) ?fb8thi (by kernel_rfl) (by kernel_rfl) (by kernel_rfl) ?fb8thq ?fb8thy (by assumption) ?fb8trest
    case fb8thi => simp only [List.getElem?_toArray, List.getElem?_cons_succ, List.getElem?_cons_zero]; exact rfl
    case fb8thq => exact fun _ _ _ h => h
    case fb8thy => (refine Or.inl ⟨by rfl, ?_⟩; intro w' hSw; (try dsimp only at hSw); go_simp; try with_reducible rfl)
    try simp only [Act.put, List.setIfInBounds_toArray, List.set_cons_zero, List.set_cons_succ]
    refine wpAnyH_take (i := 9) (oi := ?fb9uoi) (v := undef) ?fb9uhi (by kernel_rfl) (by kernel_rfl) (by kernel_rfl) ?fb9uhq ?fb9uhy (by assumption) ?fb9urest
    case fb9uhi => simp only [List.getElem?_toArray, List.getElem?_cons_succ, List.getElem?_cons_zero]; exact rfl
    case fb9uhq => exact fun _ _ _ h => h
    case fb9uhy => exact Or.inr ⟨by rfl, rfl⟩
    try simp only [Act.put, List.setIfInBounds_toArray, List.set_cons_zero, List.set_cons_succ]
    refine wpAnyH_take (i := 10) (oi := ?fb10uoi) (v := undef) ?fb10uhi (by kernel_rfl) (by kernel_rfl) (by kernel_rfl) ?fb10uhq ?fb10uhy (by assumption) ?fb10urest
    case fb10uhi => simp only [List.getElem?_toArray, List.getElem?_cons_succ, List.getElem?_cons_zero]; exact rfl
    case fb10uhq => exact fun _ _ _ h => h
    case fb10uhy => exact Or.inr ⟨by rfl, rfl⟩
    try simp only [Act.put, List.setIfInBounds_toArray, List.set_cons_zero, List.set_cons_succ]
    refine wpAnyH_take (i := 11) (oi := ?fb11uoi) (v := undef) ?fb11uhi (by kernel_rfl) (by kernel_rfl) (by kernel_rfl) ?fb11uhq ?fb11uhy (by assumption) ?fb11urest
    case fb11uhi => simp only [List.getElem?_toArray, List.getElem?_cons_succ, List.getElem?_cons_zero]; exact rfl
    case fb11uhq => exact fun _ _ _ h => h
    case fb11uhy => exact Or.inr ⟨by rfl, rfl⟩
    try simp only [Act.put, List.setIfInBounds_toArray, List.set_cons_zero, List.set_cons_succ]
    refine wpAnyH_take (i := 12) (oi := ?fb12uoi) (v := undef) ?fb12uhi (by kernel_rfl) (by kernel_rfl) (by kernel_rfl) ?fb12uhq ?fb12uhy (by assumption) ?fb12urest
    case fb12uhi => simp only [List.getElem?_toArray, List.getElem?_cons_succ, List.getElem?_cons_zero]; exact rfl
    case fb12uhq => exact fun _ _ _ h => h
    case fb12uhy => exact Or.inr ⟨by rfl, rfl⟩
    try simp only [Act.put, List.setIfInBounds_toArray, List.set_cons_zero, List.set_cons_succ]
    refine wpAnyH_take (i := 13) (oi := ?fb13uoi) (v := undef) ?fb13uhi (by kernel_rfl) (by kernel_rfl) (by kernel_rfl) ?fb13uhq ?fb13uhy (by assumption) ?fb13urest
    case fb13uhi => simp only [List.getElem?_toArray, List.getElem?_cons_succ, List.getElem?_cons_zero]; exact rfl
    case fb13uhq => exact fun _ _ _ h => h
    case fb13uhy => exact Or.inr ⟨by rfl, rfl⟩
    try simp only [Act.put, List.setIfInBounds_toArray, List.set_cons_zero, List.set_cons_succ]
    refine wpAnyH_take (i := 14) (oi := ?fb14uoi) (v := undef) ?fb14uhi (by kernel_rfl) (by kernel_rfl) (by kernel_rfl) ?fb14uhq ?fb14uhy (by assumption) ?fb14urest
    case fb14uhi => simp only [List.getElem?_toArray, List.getElem?_cons_succ, List.getElem?_cons_zero]; exact rfl
    case fb14uhq => exact fun _ _ _ h => h
    case fb14uhy => exact Or.inr ⟨by rfl, rfl⟩
    try simp only [Act.put, List.setIfInBounds_toArray, List.set_cons_zero, List.set_cons_succ]
    refine wpAnyH_take (i := 15) (oi := ?fb15uoi) (v := undef) ?fb15uhi (by kernel_rfl) (by kernel_rfl) (by kernel_rfl) ?fb15uhq ?fb15uhy (by assumption) ?fb15urest
    case fb15uhi => simp only [List.getElem?_toArray, List.getElem?_cons_succ, List.getElem?_cons_zero]; exact rfl
    case fb15uhq => exact fun _ _ _ h => h
    case fb15uhy => exact Or.inr ⟨by rfl, rfl⟩
    try simp only [Act.put, List.setIfInBounds_toArray, List.set_cons_zero, List.set_cons_succ]
    refine wpAnyH_take (i := 16) (oi := ?fb16uoi) (v := undef) ?fb16uhi (by kernel_rfl) (by kernel_rfl) (by kernel_rfl) ?fb16uhq ?fb16uhy (by assumption) ?fb16urest
    case fb16uhi => simp only [List.getElem?_toArray, List.getElem?_cons_succ, List.getElem?_cons_zero]; exact rfl
    case fb16uhq => exact fun _ _ _ h => h
    case fb16uhy => exact Or.inr ⟨by rfl, rfl⟩
    try simp only [Act.put, List.setIfInBounds_toArray, List.set_cons_zero, List.set_cons_succ]
    refine wpAnyH_take (i := 17) (oi := ?fb17uoi) (v := undef) ?fb17uhi (by kernel_rfl) (by kernel_rfl) (by kernel_rfl) ?fb17uhq ?fb17uhy (by assumption) ?fb17urest
    case fb17uhi => simp only [List.getElem?_toArray, List.getElem?_cons_succ, List.getElem?_cons_zero]; exact rfl
    case fb17uhq => exact fun _ _ _ h => h
    case fb17uhy => exact Or.inr ⟨by rfl, rfl⟩
    try simp only [Act.put, List.setIfInBounds_toArray, List.set_cons_zero, List.set_cons_succ]
    refine wpAnyH_take (i := 18) (oi := ?fb18uoi) (v := undef) ?fb18uhi (by kernel_rfl) (by kernel_rfl) (by kernel_rfl) ?fb18uhq ?fb18uhy (by assumption) ?fb18urest
    case fb18uhi => simp only [List.getElem?_toArray, List.getElem?_cons_succ, List.getElem?_cons_zero]; exact rfl
    case fb18uhq => exact fun _ _ _ h => h
    case fb18uhy => exact Or.inr ⟨by rfl, rfl⟩
    try simp only [Act.put, List.setIfInBounds_toArray, List.set_cons_zero, List.set_cons_succ]
    refine wpAnyH_take (i := 19) (oi := ?fb19uoi) (v := undef) ?fb19uhi (by kernel_rfl) (by kernel_rfl) (by kernel_rfl) ?fb19uhq ?fb19uhy (by assumption) ?fb19urest
    case fb19uhi => simp only [List.getElem?_toArray, List.getElem?_cons_succ, List.getElem?_cons_zero]; exact rfl
    case fb19uhq => exact fun _ _ _ h => h
    case fb19uhy => exact Or.inr ⟨by rfl, rfl⟩
    try simp only [Act.put, List.setIfInBounds_toArray, List.set_cons_zero, List.set_cons_succ]
    refine wpAnyH_take (i := 20) (oi := ?fb20uoi) (v := undef) ?fb20uhi (by kernel_rfl) (by kernel_rfl) (by kernel_rfl) ?fb20uhq ?fb20uhy (by assumption) ?fb20urest
    case fb20uhi => simp only [List.getElem?_toArray, List.getElem?_cons_succ, List.getElem?_cons_zero]; exact rfl
    case fb20uhq => exact fun _ _ _ h => h
    case fb20uhy => exact Or.inr ⟨by rfl, rfl⟩
    try simp only [Act.put, List.setIfInBounds_toArray, List.set_cons_zero, List.set_cons_succ]
    refine wpAnyH_take (i := 21) (oi := ?fb21toi) (v := ?fb21tv) ?fb21thi (by kernel_rfl) (by kernel_rfl) (by kernel_rfl) ?fb21thq ?fb21thy (by assumption) ?fb21trest
    case fb21thi => simp only [List.getElem?_toArray, List.getElem?_cons_succ, List.getElem?_cons_zero]; exact rfl
    case fb21thq => exact fun _ _ _ h => h
    case fb21thy => (refine Or.inl ⟨by rfl, ?_⟩; intro w' hSw; (try dsimp only at hSw); go_simp; try with_reducible rfl)
    try simp only [Act.put, List.setIfInBounds_toArray, List.set_cons_zero, List.set_cons_succ]
    refine wpAnyH_take (i := 22) (oi := ?fb22toi) (v := ?fb22tv) ?fb22thi (by kernel_rfl) (by kernel_rfl) (by kernel_rfl) ?fb22thq ?fb22thy (by assumption) ?fb22trest
    case fb22thi => simp only [List.getElem?_toArray, List.getElem?_cons_succ, List.getElem?_cons_zero]; exact rfl
    case fb22thq => exact fun _ _ _ h => h
    case fb22thy => (refine Or.inl ⟨by rfl, ?_⟩; intro w' hSw; (try dsimp only at hSw); go_simp; try with_reducible rfl)
    try simp only [Act.put, List.setIfInBounds_toArray, List.set_cons_zero, List.set_cons_succ]
    refine wpAnyH_done (by kernel_rfl) ?_ _
    refine Ph.Then.go ?_
    clear hH2
    refine wpAnyH_done (by kernel_rfl) ?_ _
    go_wp2_with fail
    go_ret
    exact ⟨rfl, hb2.trans (hb4.mono hws)⟩
  have FB := HFB.out rfl
  obtain ⟨r, hr⟩ : ∃ r, compat (toT 100 a) (toT 100 b) = r := ⟨_, rfl⟩
  obtain ⟨KF, hKF⟩ := (fits0 100 100 a b FA FB).2
  have EF := Lib.hid (fun (W : World) (h : Below w.heap.size w W) => spec_Fits.calls KF a.f0 A1 c1 a.f1 a.f2 b.f0 B1 d1 b.f1 b.f2 r W (Kd.C_below HGA.out h) HLA.out (Kd.C_below HGB.out h) HLB.out (by have := hKF KF (Nat.le_refl _); rw [hr] at this; exact this))
  have EC := Lib.hid (fun (W : World) (h : Below w.heap.size w W) => compatible 100 100 a b #[.string a.f0, .slice A1 a.f1.length c1, .bool a.f2] #[.string b.f0, .slice B1 b.f1.length d1, .bool b.f2] W FA FB (k24.K_below h HKA.out) (k24.K_below h HKB.out) r hr)
  have EAA := Lib.hid (fun (W : World) (h : Below w.heap.size w W) => compatible 100 100 a a #[.string a.f0, .slice A1 a.f1.length c1, .bool a.f2] #[.string a.f0, .slice A1 a.f1.length c1, .bool a.f2] W FA FA (k24.K_below h HKA.out) (k24.K_below h HKA.out) true (compat_refl _))
  clear FA FB hr hKF HFA HFB
  go_region_held3 (fun w' => w'.cell? ⟨w.heap.size, 0, none⟩ = some (.string a.f0) ∧ w'.cell? ⟨w.heap.size, 1, none⟩ = some (.slice A1 a.f1.length c1) ∧ w'.cell? ⟨w.heap.size, 2, none⟩ = some (.bool a.f2) ∧ w'.cell? ⟨w.heap.size + 1, 0, none⟩ = some (.string b.f0) ∧ w'.cell? ⟨w.heap.size + 1, 1, none⟩ = some (.slice B1 b.f1.length d1) ∧ w'.cell? ⟨w.heap.size + 1, 2, none⟩ = some (.bool b.f2))
    (first
      | go_keep
      | (go_split_ands; first | exact ⟨(hb7.cell (lt_of_cell x0)).trans x0, (hb7.cell (lt_of_cell x1)).trans x1, (hb7.cell (lt_of_cell x2)).trans x2, (hb7.cell (lt_of_cell y0)).trans y0, (hb7.cell (lt_of_cell y1)).trans y1, (hb7.cell (lt_of_cell y2)).trans y2⟩ | exact ⟨(hb6.cell (lt_of_cell x0)).trans x0, (hb6.cell (lt_of_cell x1)).trans x1, (hb6.cell (lt_of_cell x2)).trans x2, (hb6.cell (lt_of_cell y0)).trans y0, (hb6.cell (lt_of_cell y1)).trans y1, (hb6.cell (lt_of_cell y2)).trans y2⟩ | exact ⟨(hb5.cell (lt_of_cell x0)).trans x0, (hb5.cell (lt_of_cell x1)).trans x1, (hb5.cell (lt_of_cell x2)).trans x2, (hb5.cell (lt_of_cell y0)).trans y0, (hb5.cell (lt_of_cell y1)).trans y1, (hb5.cell (lt_of_cell y2)).trans y2⟩ | exact ⟨(hb4.cell (lt_of_cell x0)).trans x0, (hb4.cell (lt_of_cell x1)).trans x1, (hb4.cell (lt_of_cell x2)).trans x2, (hb4.cell (lt_of_cell y0)).trans y0, (hb4.cell (lt_of_cell y1)).trans y1, (hb4.cell (lt_of_cell y2)).trans y2⟩ | exact ⟨(hb3.cell (lt_of_cell x0)).trans x0, (hb3.cell (lt_of_cell x1)).trans x1, (hb3.cell (lt_of_cell x2)).trans x2, (hb3.cell (lt_of_cell y0)).trans y0, (hb3.cell (lt_of_cell y1)).trans y1, (hb3.cell (lt_of_cell y2)).trans y2⟩))
    (first
      | (go_at_call 12; first
          | (refine (EB.out _ (hb2.trans (hb3.mono hws))).mono ?_; rintro e w4 ⟨rfl, hbl⟩; have hb4 : Below w2.heap.size w2 w4 := hb3.trans (hbl.mono hb3.size))
          | (refine (EA.out _ (hb2.trans (hb0.mono hws))).mono ?_; rintro e w3 ⟨rfl, hbl⟩; have hb3 : Below w2.heap.size w2 w3 := hb0.trans (hbl.mono hb0.size)))
      | (go_at_call 13; first
          | (refine (EAA.out _ (hb2.trans (hb6.mono hws))).mono ?_; rintro e w7 ⟨rfl, hbl⟩; have hb7 : Below w2.heap.size w2 w7 := hb6.trans (hbl.mono hb6.size))
          | (refine (EC.out _ (hb2.trans (hb4.mono hws))).mono ?_; rintro e w5 ⟨rfl, hbl⟩; have hb5 : Below w2.heap.size w2 w5 := hb4.trans (hbl.mono hb4.size)))
      | (go_at_call 14; refine (EF.out _ (hb2.trans (hb5.mono hws))).mono ?_; rintro e w6 ⟨rfl, hbl⟩; have hb6 : Below w2.heap.size w2 w6 := hb5.trans (hbl.mono hb5.size))
      | fail)
  go_wp2_with fail
  go_ret
  exact ⟨by simp, hb2.trans (hb7.mono hws)⟩
end Go.Proofs.Ytamajbaojbghcaa.Ty
