/- laws.FnTypText: the walk. -/
import Derived.Test.YtamajbaojbghcaaTy6
import Derived.Test.YtamajbaojbghcaaPhase
namespace Go.Proofs.Ytamajbaojbghcaa.Ty
open Go.RowKit Go.Proofs.YtamajbaojbghcaaW.PrintWords Go.Proofs.YtamajbaojbghcaaW.PrintLast Go.Proofs.YtamajbaojbghcaaW.PrintMore Go.Proofs.Ytamajbaojbghcaa.PT Go.Proofs.Ytamajbaojbghcaa.K
set_option linter.unusedVariables false
set_option linter.unusedSimpArgs false
theorem zz1 (t : TV) : ∃ z, laws_zzFits22.f t.f0 t.f1 t.f2 = some z := by
  unfold laws_zzFits22.f
  repeat' split
  all_goals exact ⟨_, rfl⟩
set_option maxHeartbeats 4000000 in
set_option maxRecDepth 100000 in
theorem walkT (ca : Array Value) (a : TV) (w : World) (hKa : k24.K w a ca.toList) (hwa : wfT a) : Calls Try.prog 5 #[.agg ca] w fun e w' => e = .returned (.bool true) ∧ Below w.heap.size w w' := by
  obtain ⟨A1, c1, rfl, la, ga⟩ := topen hKa
  have HQ := Lib.hid (Q1.start w #[.string a.f0, .slice A1 a.f1.length c1, .bool a.f2])
  have HKA := Lib.hid hKa
  have HWA := Lib.hid hwa
  have HGA := Lib.hid ga
  have HLA := Lib.hid la
  clear hKa hwa ga la
  go_enter Try.func5, Try.ntmps5
  go_wp2_with fail
  obtain ⟨z1, hz1⟩ := zz1 a
  refine (laws_zzFits22.calls a.f0 A1 c1 a.f1 a.f2 z1 _ (Kd.C_below HGA.out HQ.out.below) HLA.out hz1).mono ?_
  rintro e w2 ⟨rfl, hbl⟩
  have HQ2 := Lib.hid (HQ.out.step hbl)
  clear hbl HQ hz1
  have x0 := HQ2.out.c0 0 _ rfl
  have x1 := HQ2.out.c0 1 _ rfl
  have x2 := HQ2.out.c0 2 _ rfl
  cases z1
  · go_wp2_with fail
    go_ret
    exact ⟨rfl, HQ2.out.below⟩
  obtain ⟨fa, ⟨KA, hKA⟩, hfa⟩ := fitsTypE 100 a (Nat.le_refl _) HWA.out
  have EA := Lib.hid (fun (W : World) (h : Below w.heap.size w W) => spec_FitsTyp.calls KA a.f0 A1 c1 a.f1 a.f2 100 fa W (Kd.C_below HGA.out h) HLA.out (hKA KA (Nat.le_refl _)))
  have HFA := Lib.hid hfa
  have hb2 := HQ2.out.below
  have hb0 : Below w2.heap.size w2 w2.drew := (Below.refl _ _).drew
  have hws := HQ2.out.below.size
  have hS : ∀ W : World, Below w2.heap.size w2 W → (fun w' : World => w'.cell? ⟨w.heap.size, 0, none⟩ = some (.string a.f0) ∧ w'.cell? ⟨w.heap.size, 1, none⟩ = some (.slice A1 a.f1.length c1) ∧ w'.cell? ⟨w.heap.size, 2, none⟩ = some (.bool a.f2)) W := fun W h => ⟨(h.cell (lt_of_cell x0)).trans x0, (h.cell (lt_of_cell x1)).trans x1, (h.cell (lt_of_cell x2)).trans x2⟩
  have HSS := Lib.hid hS
  clear hKA hfa HQ2 hS
  go_wp2_with fail
  cases fa
  · skip
    refine Ph.region_phases (S := (fun w' : World => w'.cell? ⟨w.heap.size, 0, none⟩ = some (.string a.f0) ∧ w'.cell? ⟨w.heap.size, 1, none⟩ = some (.slice A1 a.f1.length c1) ∧ w'.cell? ⟨w.heap.size, 2, none⟩ = some (.bool a.f2))) (ops₁ := ?taops) 18 0 (by kernel_rfl) ?tahops ?tahn ?tahsz ?tahe ?tahl ?tah
    case tahops => simp only [List.take_succ_cons, List.take_zero]; exact rfl
    case tahn => kernel_rfl
    case tahsz => kernel_rfl
    case tahe => kernel_rfl
    case tahl => kernel_rfl
    have hH0 : ((fun w' : World => w'.cell? ⟨w.heap.size, 0, none⟩ = some (.string a.f0) ∧ w'.cell? ⟨w.heap.size, 1, none⟩ = some (.slice A1 a.f1.length c1) ∧ w'.cell? ⟨w.heap.size, 2, none⟩ = some (.bool a.f2))) _ := HSS.out _ hb0
    refine wpAnyH_take (i := 0) (oi := ?ta0toi) (v := ?ta0tv) ?ta0thi (by kernel_rfl) (by kernel_rfl) (by kernel_rfl) ?ta0thq ?ta0thy (by assumption) ?ta0trest
    case ta0thi => simp only [List.getElem?_toArray, List.getElem?_cons_succ, List.getElem?_cons_zero]; exact rfl
    case ta0thq => exact fun _ _ _ h => h
    case ta0thy => (refine Or.inl ⟨by rfl, ?_⟩; intro w' hSw; (try dsimp only at hSw); go_simp; try with_reducible rfl)
    try simp only [Act.put, List.setIfInBounds_toArray, List.set_cons_zero, List.set_cons_succ]
    refine wpAnyH_ready (rs := [1]) (by kernel_rfl) (by simp) ?_
    refine AllReadyH.cons (o := ?ta1so) ?ta1sho (fun K hK => ?ta1shs) AllReadyH.nil
    case ta1sho => simp only [List.getElem?_toArray, List.getElem?_cons_succ, List.getElem?_cons_zero]; exact rfl
    go_simp
    refine (EA.out _ (hb2.trans (hb0.mono hws))).mono ?_
    rintro e w3 ⟨rfl, hbl⟩
    have hb3 : Below w2.heap.size w2 w3 := hb0.trans (hbl.mono hb0.size)
    dsimp only
    refine hK.out _ _ ?_ (fun hH1 => ?_)
    · exact HSS.out _ hb3
    clear hK K hH0
    try simp only [Act.put, List.setIfInBounds_toArray, List.set_cons_zero, List.set_cons_succ]
    refine wpAnyH_take (i := 2) (oi := ?ta2toi) (v := ?ta2tv) ?ta2thi (by kernel_rfl) (by kernel_rfl) (by kernel_rfl) ?ta2thq ?ta2thy (by assumption) ?ta2trest
    case ta2thi => simp only [List.getElem?_toArray, List.getElem?_cons_succ, List.getElem?_cons_zero]; exact rfl
    case ta2thq => exact fun _ _ _ h => h
    case ta2thy => (refine Or.inl ⟨by rfl, ?_⟩; intro w' hSw; (try dsimp only at hSw); go_simp; try with_reducible rfl)
    try simp only [Act.put, List.setIfInBounds_toArray, List.set_cons_zero, List.set_cons_succ]
    refine wpAnyH_take (i := 3) (oi := ?ta3toi) (v := ?ta3tv) ?ta3thi (by kernel_rfl) (by kernel_rfl) (by kernel_rfl) ?ta3thq ?ta3thy (by assumption) ?ta3trest
    case ta3thi => simp only [List.getElem?_toArray, List.getElem?_cons_succ, List.getElem?_cons_zero]; exact rfl
    case ta3thq => exact fun _ _ _ h => h
    case ta3thy => (refine Or.inl ⟨by rfl, ?_⟩; intro w' hSw; (try dsimp only at hSw); go_simp; try with_reducible rfl)
    try simp only [Act.put, List.setIfInBounds_toArray, List.set_cons_zero, List.set_cons_succ]
    refine wpAnyH_take (i := 4) (oi := ?ta4uoi) (v := undef) ?ta4uhi (by kernel_rfl) (by kernel_rfl) (by kernel_rfl) ?ta4uhq ?ta4uhy (by assumption) ?ta4urest
    case ta4uhi => simp only [List.getElem?_toArray, List.getElem?_cons_succ, List.getElem?_cons_zero]; exact rfl
    case ta4uhq => exact fun _ _ _ h => h
    case ta4uhy => exact Or.inr ⟨by rfl, rfl⟩
    try simp only [Act.put, List.setIfInBounds_toArray, List.set_cons_zero, List.set_cons_succ]
    refine wpAnyH_take (i := 5) (oi := ?ta5uoi) (v := undef) ?ta5uhi (by kernel_rfl) (by kernel_rfl) (by kernel_rfl) ?ta5uhq ?ta5uhy (by assumption) ?ta5urest
    case ta5uhi => simp only [List.getElem?_toArray, List.getElem?_cons_succ, List.getElem?_cons_zero]; exact rfl
    case ta5uhq => exact fun _ _ _ h => h
    case ta5uhy => exact Or.inr ⟨by rfl, rfl⟩
    try simp only [Act.put, List.setIfInBounds_toArray, List.set_cons_zero, List.set_cons_succ]
    refine wpAnyH_take (i := 6) (oi := ?ta6uoi) (v := undef) ?ta6uhi (by kernel_rfl) (by kernel_rfl) (by kernel_rfl) ?ta6uhq ?ta6uhy (by assumption) ?ta6urest
    case ta6uhi => simp only [List.getElem?_toArray, List.getElem?_cons_succ, List.getElem?_cons_zero]; exact rfl
    case ta6uhq => exact fun _ _ _ h => h
    case ta6uhy => exact Or.inr ⟨by rfl, rfl⟩
    try simp only [Act.put, List.setIfInBounds_toArray, List.set_cons_zero, List.set_cons_succ]
    refine wpAnyH_take (i := 7) (oi := ?ta7uoi) (v := undef) ?ta7uhi (by kernel_rfl) (by kernel_rfl) (by kernel_rfl) ?ta7uhq ?ta7uhy (by assumption) ?ta7urest
    case ta7uhi => simp only [List.getElem?_toArray, List.getElem?_cons_succ, List.getElem?_cons_zero]; exact rfl
    case ta7uhq => exact fun _ _ _ h => h
    case ta7uhy => exact Or.inr ⟨by rfl, rfl⟩
    try simp only [Act.put, List.setIfInBounds_toArray, List.set_cons_zero, List.set_cons_succ]
    refine wpAnyH_take (i := 8) (oi := ?ta8uoi) (v := undef) ?ta8uhi (by kernel_rfl) (by kernel_rfl) (by kernel_rfl) ?ta8uhq ?ta8uhy (by assumption) ?ta8urest
    case ta8uhi => simp only [List.getElem?_toArray, List.getElem?_cons_succ, List.getElem?_cons_zero]; exact rfl
    case ta8uhq => exact fun _ _ _ h => h
    case ta8uhy => exact Or.inr ⟨by rfl, rfl⟩
    try simp only [Act.put, List.setIfInBounds_toArray, List.set_cons_zero, List.set_cons_succ]
    refine wpAnyH_take (i := 9) (oi := ?ta9uoi) (v := undef) ?ta9uhi (by kernel_rfl) (by kernel_rfl) (by kernel_rfl) ?ta9uhq ?ta9uhy (by assumption) ?ta9urest
    case ta9uhi => simp only [List.getElem?_toArray, List.getElem?_cons_succ, List.getElem?_cons_zero]; exact rfl
    case ta9uhq => exact fun _ _ _ h => h
    case ta9uhy => exact Or.inr ⟨by rfl, rfl⟩
    try simp only [Act.put, List.setIfInBounds_toArray, List.set_cons_zero, List.set_cons_succ]
    refine wpAnyH_take (i := 10) (oi := ?ta10uoi) (v := undef) ?ta10uhi (by kernel_rfl) (by kernel_rfl) (by kernel_rfl) ?ta10uhq ?ta10uhy (by assumption) ?ta10urest
    case ta10uhi => simp only [List.getElem?_toArray, List.getElem?_cons_succ, List.getElem?_cons_zero]; exact rfl
    case ta10uhq => exact fun _ _ _ h => h
    case ta10uhy => exact Or.inr ⟨by rfl, rfl⟩
    try simp only [Act.put, List.setIfInBounds_toArray, List.set_cons_zero, List.set_cons_succ]
    refine wpAnyH_take (i := 11) (oi := ?ta11uoi) (v := undef) ?ta11uhi (by kernel_rfl) (by kernel_rfl) (by kernel_rfl) ?ta11uhq ?ta11uhy (by assumption) ?ta11urest
    case ta11uhi => simp only [List.getElem?_toArray, List.getElem?_cons_succ, List.getElem?_cons_zero]; exact rfl
    case ta11uhq => exact fun _ _ _ h => h
    case ta11uhy => exact Or.inr ⟨by rfl, rfl⟩
    try simp only [Act.put, List.setIfInBounds_toArray, List.set_cons_zero, List.set_cons_succ]
    refine wpAnyH_take (i := 12) (oi := ?ta12uoi) (v := undef) ?ta12uhi (by kernel_rfl) (by kernel_rfl) (by kernel_rfl) ?ta12uhq ?ta12uhy (by assumption) ?ta12urest
    case ta12uhi => simp only [List.getElem?_toArray, List.getElem?_cons_succ, List.getElem?_cons_zero]; exact rfl
    case ta12uhq => exact fun _ _ _ h => h
    case ta12uhy => exact Or.inr ⟨by rfl, rfl⟩
    try simp only [Act.put, List.setIfInBounds_toArray, List.set_cons_zero, List.set_cons_succ]
    refine wpAnyH_take (i := 13) (oi := ?ta13uoi) (v := undef) ?ta13uhi (by kernel_rfl) (by kernel_rfl) (by kernel_rfl) ?ta13uhq ?ta13uhy (by assumption) ?ta13urest
    case ta13uhi => simp only [List.getElem?_toArray, List.getElem?_cons_succ, List.getElem?_cons_zero]; exact rfl
    case ta13uhq => exact fun _ _ _ h => h
    case ta13uhy => exact Or.inr ⟨by rfl, rfl⟩
    try simp only [Act.put, List.setIfInBounds_toArray, List.set_cons_zero, List.set_cons_succ]
    refine wpAnyH_take (i := 14) (oi := ?ta14uoi) (v := undef) ?ta14uhi (by kernel_rfl) (by kernel_rfl) (by kernel_rfl) ?ta14uhq ?ta14uhy (by assumption) ?ta14urest
    case ta14uhi => simp only [List.getElem?_toArray, List.getElem?_cons_succ, List.getElem?_cons_zero]; exact rfl
    case ta14uhq => exact fun _ _ _ h => h
    case ta14uhy => exact Or.inr ⟨by rfl, rfl⟩
    try simp only [Act.put, List.setIfInBounds_toArray, List.set_cons_zero, List.set_cons_succ]
    refine wpAnyH_take (i := 15) (oi := ?ta15uoi) (v := undef) ?ta15uhi (by kernel_rfl) (by kernel_rfl) (by kernel_rfl) ?ta15uhq ?ta15uhy (by assumption) ?ta15urest
    case ta15uhi => simp only [List.getElem?_toArray, List.getElem?_cons_succ, List.getElem?_cons_zero]; exact rfl
    case ta15uhq => exact fun _ _ _ h => h
    case ta15uhy => exact Or.inr ⟨by rfl, rfl⟩
    try simp only [Act.put, List.setIfInBounds_toArray, List.set_cons_zero, List.set_cons_succ]
    refine wpAnyH_take (i := 16) (oi := ?ta16toi) (v := ?ta16tv) ?ta16thi (by kernel_rfl) (by kernel_rfl) (by kernel_rfl) ?ta16thq ?ta16thy (by assumption) ?ta16trest
    case ta16thi => simp only [List.getElem?_toArray, List.getElem?_cons_succ, List.getElem?_cons_zero]; exact rfl
    case ta16thq => exact fun _ _ _ h => h
    case ta16thy => (refine Or.inl ⟨by rfl, ?_⟩; intro w' hSw; (try dsimp only at hSw); go_simp; try with_reducible rfl)
    try simp only [Act.put, List.setIfInBounds_toArray, List.set_cons_zero, List.set_cons_succ]
    refine wpAnyH_take (i := 17) (oi := ?ta17toi) (v := ?ta17tv) ?ta17thi (by kernel_rfl) (by kernel_rfl) (by kernel_rfl) ?ta17thq ?ta17thy (by assumption) ?ta17trest
    case ta17thi => simp only [List.getElem?_toArray, List.getElem?_cons_succ, List.getElem?_cons_zero]; exact rfl
    case ta17thq => exact fun _ _ _ h => h
    case ta17thy => (refine Or.inl ⟨by rfl, ?_⟩; intro w' hSw; (try dsimp only at hSw); go_simp; try with_reducible rfl)
    try simp only [Act.put, List.setIfInBounds_toArray, List.set_cons_zero, List.set_cons_succ]
    refine wpAnyH_done (by kernel_rfl) ?_ _
    refine Ph.Then.go ?_
    clear hH1
    refine wpAnyH_done (by kernel_rfl) ?_ _
    go_wp2_with fail
    go_ret
    exact ⟨rfl, hb2.trans (hb3.mono hws)⟩
  have FA := HFA.out rfl
  obtain ⟨KW, hKW⟩ := writeE (Nat.le_refl _) FA HWA.out
  obtain ⟨r, hr⟩ : ∃ r, txt (toT 100 a) = r := ⟨_, rfl⟩
  obtain ⟨u, hu⟩ : ∃ r, baseN (toT 100 a) = r := ⟨_, rfl⟩
  have ET := Lib.hid (fun (W : World) (h : Below w.heap.size w W) => typText 100 (Nat.le_refl _) a #[.string a.f0, .slice A1 a.f1.length c1, .bool a.f2] W FA HWA.out (k24.K_below h HKA.out) r hr)
  have EN := Lib.hid (fun (W : World) (h : Below w.heap.size w W) => typName 100 (Nat.le_refl _) a #[.string a.f0, .slice A1 a.f1.length c1, .bool a.f2] W FA HWA.out (k24.K_below h HKA.out) u hu)
  have EW := Lib.hid (fun (W : World) (h : Below w.heap.size w W) => spec_WriteTyp.calls KW a.f0 A1 c1 a.f1 a.f2 r W (Kd.C_below HGA.out h) HLA.out (by have := hKW KW (Nat.le_refl _); rw [hr] at this; exact this))
  have EB := Lib.hid (fun (W : World) (h : Below w.heap.size w W) => baseW 100 a #[.string a.f0, .slice A1 a.f1.length c1, .bool a.f2] W FA (k24.K_below h HKA.out))
  rw [hu] at EB
  have hrr : (r.toList == r.toList) = true := by simp
  have huu : (u.toList == u.toList) = true := by simp
  clear FA hr hu hKW HFA
  go_region_held3 (fun w' : World => w'.cell? ⟨w.heap.size, 0, none⟩ = some (.string a.f0) ∧ w'.cell? ⟨w.heap.size, 1, none⟩ = some (.slice A1 a.f1.length c1) ∧ w'.cell? ⟨w.heap.size, 2, none⟩ = some (.bool a.f2))
    (first
      | go_keep
      | (go_split_ands; first | exact HSS.out _ hb7 | exact HSS.out _ hb6 | exact HSS.out _ hb5 | exact HSS.out _ hb4 | exact HSS.out _ hb3))
    (first
      | (go_at_call 12; refine (EA.out _ (hb2.trans (hb0.mono hws))).mono ?_; rintro e w3 ⟨rfl, hbl⟩; have hb3 : Below w2.heap.size w2 w3 := hb0.trans (hbl.mono hb0.size))
      | (go_at_call 15; refine (ET.out _ (hb2.trans (hb3.mono hws))).mono ?_; rintro e w4 ⟨rfl, hbl⟩; have hb4 : Below w2.heap.size w2 w4 := hb3.trans (hbl.mono hb3.size))
      | (go_at_call 16; refine (EW.out _ (hb2.trans (hb4.mono hws))).mono ?_; rintro e w5 ⟨rfl, hbl⟩; have hb5 : Below w2.heap.size w2 w5 := hb4.trans (hbl.mono hb4.size))
      | (go_at_call 17; refine (EN.out _ (hb2.trans (hb5.mono hws))).mono ?_; rintro e w6 ⟨rfl, hbl⟩; have hb6 : Below w2.heap.size w2 w6 := hb5.trans (hbl.mono hb5.size))
      | (go_at_call 18; refine (EB.out _ (hb2.trans (hb6.mono hws))).mono ?_; rintro e w7 ⟨rfl, hbl⟩; have hb7 : Below w2.heap.size w2 w7 := hb6.trans (hbl.mono hb6.size))
      | fail)
  go_wp2_with fail
  go_ret
  exact ⟨by simp, hb2.trans (hb7.mono hws)⟩
end Go.Proofs.Ytamajbaojbghcaa.Ty
