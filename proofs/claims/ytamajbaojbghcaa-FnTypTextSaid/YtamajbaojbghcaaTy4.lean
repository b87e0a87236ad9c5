/- GraphQL types: impl.Compatible; the specification's FitsTyp and Fits at values that came in. -/
import Derived.Test.YtamajbaojbghcaaTy3
namespace Go.Proofs.Ytamajbaojbghcaa.Ty
open Go.RowKit Go.Proofs.YtamajbaojbghcaaW.PrintWords Go.Proofs.YtamajbaojbghcaaW.PrintLast Go.Proofs.YtamajbaojbghcaaW.PrintMore Go.Proofs.Ytamajbaojbghcaa.PT Go.Proofs.Ytamajbaojbghcaa.K
set_option linter.unusedVariables false
set_option linter.unusedSimpArgs false
/-- Two arguments in boxes. -/
structure Q2 (w wi : World) (ca cb : Array Value) : Prop where
  below : Below w.heap.size w wi
  b0 : wi.heap[w.heap.size]? = some (.cells ca 24 (0, 0))
  b1 : wi.heap[w.heap.size + 1]? = some (.cells cb 24 (0, 0))
theorem Q2.start (w : World) (ca cb : Array Value) : Q2 w ((w.alloc (.cells ca 24)).alloc (.cells cb 24)) ca cb := by
  refine ⟨((Below.refl _ _).alloc (Nat.le_refl _) _).alloc (by simp) _, ?_, ?_⟩
  · rw [Below.heap_alloc _ _ _ (by simp)]; exact heap_alloc_new w _
  · have := heap_alloc_new (w.alloc (.cells ca 24)) (.cells cb 24)
    rw [World.size_alloc] at this
    exact this
theorem Q2.lt {w wi : World} {ca cb : Array Value} (h : Q2 w wi ca cb) : w.heap.size + 1 < wi.heap.size := heap_lt h.b1
theorem Q2.step {w wi w' : World} {ca cb : Array Value} (h : Q2 w wi ca cb) (hb : Below wi.heap.size wi w') : Q2 w w' ca cb := by
  have := h.lt
  exact ⟨h.below.trans (hb.mono h.below.size), (hb.block _ (by omega)).trans h.b0, (hb.block _ (by omega)).trans h.b1⟩
theorem Q2.grown {w wi w' : World} {ca cb : Array Value} {g : Nat} (h : Q2 w wi ca cb) (hg : w.heap.size + 2 ≤ g) (hG : wi.grownBy w' (some g)) : Q2 w w' ca cb := by
  have := h.lt
  refine ⟨h.below.grown hG h.below.size (fun k hk => by cases hk; omega), (hG.block _ (by omega) (by intro e; cases e; omega)).trans h.b0, (hG.block _ (by omega) (by intro e; cases e; omega)).trans h.b1⟩
theorem Q2.c0 {w wi : World} {ca cb : Array Value} (h : Q2 w wi ca cb) (i : Nat) (v : Value) (hi : ca[i]? = some v) : wi.cell? ⟨w.heap.size, i, none⟩ = some v := by rw [Lib.cell_of_heap h.b0]; exact hi
theorem Q2.c1 {w wi : World} {ca cb : Array Value} (h : Q2 w wi ca cb) (i : Nat) (v : Value) (hi : cb[i]? = some v) : wi.cell? ⟨w.heap.size + 1, i, none⟩ = some v := by rw [Lib.cell_of_heap h.b1]; exact hi
theorem topen {w : World} {x : TV} {cs : Array Value} (hK : k24.K w x cs.toList) : ∃ A1 c1, cs = #[.string x.f0, .slice A1 x.f1.length c1, .bool x.f2] ∧ x.f1.length ≤ c1 ∧ k24.C w A1 x.f1.length x.f1 := by
  obtain ⟨A1, c1, hcs, l1, g1⟩ := k24_open hK
  exact ⟨A1, c1, by apply Array.toList_inj.1; rw [hcs], l1, g1⟩
set_option maxHeartbeats 4000000 in
set_option maxRecDepth 100000 in
theorem compatible (n m : Nat) (a b : TV) (ca cb : Array Value) (w : World) (ha : Ft n a) (hb : Ft m b) (hKa : k24.K w a ca.toList) (hKb : k24.K w b cb.toList) (r : Bool) (hr : compat (toT n a) (toT m b) = r) : Calls Try.prog 13 #[.agg ca, .agg cb] w fun e w' => e = .returned (.bool r) ∧ Below w.heap.size w w' := by
  obtain ⟨A1, c1, rfl, _, _⟩ := topen hKa
  obtain ⟨B1, d1, rfl, _, _⟩ := topen hKb
  have HQ := Lib.hid (Q2.start w #[.string a.f0, .slice A1 a.f1.length c1, .bool a.f2] #[.string b.f0, .slice B1 b.f1.length d1, .bool b.f2])
  have HA := Lib.hid ha
  have HB := Lib.hid hb
  have HKA := Lib.hid hKa
  have HKB := Lib.hid hKb
  have HR := Lib.hid hr
  clear ha hb hKa hKb hr
  go_enter Try.func13, Try.ntmps13
  go_wp2_with fail
  refine (newMk _).mono ?_
  rintro e wN ⟨g, rfl, hge, hMk, hbN⟩
  rw [World.size_alloc, World.size_alloc] at hge
  have HQN := Lib.hid (HQ.out.step hbN)
  have HMN := Lib.hid hMk
  clear hMk hbN HQ
  go_wp2_with fail
  have a0 := HQN.out.c0 0 _ rfl
  have a1 := HQN.out.c0 1 _ rfl
  have a2 := HQN.out.c0 2 _ rfl
  have b0 := HQN.out.c1 0 _ rfl
  have b1 := HQN.out.c1 1 _ rfl
  have b2 := HQN.out.c1 2 _ rfl
  have hgN := HMN.out.lt
  have hws := HQN.out.below.size
  have HD := Lib.hid (show Below wN.heap.size wN wN.drew from (Below.refl _ _).drew)
  go_region_held3 (fun w' => w'.cell? ⟨w.heap.size, 0, none⟩ = some (.string a.f0) ∧ w'.cell? ⟨w.heap.size, 1, none⟩ = some (.slice A1 a.f1.length c1) ∧ w'.cell? ⟨w.heap.size, 2, none⟩ = some (.bool a.f2) ∧ w'.cell? ⟨w.heap.size + 1, 0, none⟩ = some (.string b.f0) ∧ w'.cell? ⟨w.heap.size + 1, 1, none⟩ = some (.slice B1 b.f1.length d1) ∧ w'.cell? ⟨w.heap.size + 1, 2, none⟩ = some (.bool b.f2))
    (first
      | go_keep
      | (go_split_ands; first | exact ⟨HQ2.out.c0 0 _ rfl, HQ2.out.c0 1 _ rfl, HQ2.out.c0 2 _ rfl, HQ2.out.c1 0 _ rfl, HQ2.out.c1 1 _ rfl, HQ2.out.c1 2 _ rfl⟩ | exact ⟨HQ1.out.c0 0 _ rfl, HQ1.out.c0 1 _ rfl, HQ1.out.c0 2 _ rfl, HQ1.out.c1 0 _ rfl, HQ1.out.c1 1 _ rfl, HQ1.out.c1 2 _ rfl⟩))
    (first
      | (go_at_call 38; first
          | (refine ((typ m).at_ b #[.string b.f0, .slice B1 b.f1.length d1, .bool b.f2] w w1 g HB.out HKB.out HQ1.out.below (by omega) HM1.out).mono ?_; rintro e w2 ⟨p2, rfl, hT2, hM2, hG2⟩; have HQ2 := Lib.hid (HQ1.out.grown hge hG2); have HT2 := Lib.hid hT2; have HM2 := Lib.hid hM2; have HG2 := Lib.hid hG2; clear hT2 hM2 hG2)
          | (refine ((typ n).at_ a #[.string a.f0, .slice A1 a.f1.length c1, .bool a.f2] w wN.drew g HA.out HKA.out (HQN.out.below.trans (HD.out.mono hws)) (by omega) (HMN.out.below HD.out)).mono ?_; rintro e w1 ⟨p1, rfl, hT1, hM1, hG1⟩; have HQ1 := Lib.hid (HQN.out.grown hge (below_gb HD.out hG1)); have HT1 := Lib.hid hT1; have HM1 := Lib.hid hM1; have HG1 := Lib.hid (below_gb HD.out hG1); clear hT1 hM1 hG1))
      | fail)
  have hdw : wN.drew.heap.size = wN.heap.size := rfl
  have hT1 : TyAt w2 wN.heap.size (toT n a) p1 := HT1.out.keep fun k hk hlt => HG2.out.block k hlt (by intro e; cases e; omega)
  obtain ⟨q1, rfl⟩ := hT1.ptr
  obtain ⟨q2, rfl⟩ := HT2.out.ptr
  obtain ⟨S, ml, hmk⟩ := HM2.out
  have m2 : w2.cell? ⟨g, 2, none⟩ = some (.bool false) := by rw [Lib.cell_of_heap hmk]; rfl
  have HT1' := Lib.hid hT1
  clear a0 a1 a2 b0 b1 b2 hT1 hmk
  go_wp2_with fail
  refine ((cm (toT n a)).at_ (toT m b) _ _ w2 wN.heap.size w1.heap.size HA.out.good HB.out.good HT1'.out HT2.out r HR.out).mono ?_
  rintro e w3 ⟨rfl, hbl⟩
  have hb3 := HQ2.out.below.trans (hbl.mono HQ2.out.below.size)
  clear m2
  go_wp2_with fail
  go_ret
  exact ⟨by cases r <;> rfl, hb3⟩
end Go.Proofs.Ytamajbaojbghcaa.Ty
