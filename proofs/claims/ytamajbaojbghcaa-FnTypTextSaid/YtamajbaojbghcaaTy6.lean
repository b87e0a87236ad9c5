/- GraphQL types: impl.TypText, impl.TypName; the specification's Base. -/
import Derived.Test.YtamajbaojbghcaaTy5
namespace Go.Proofs.Ytamajbaojbghcaa.Ty
open Go.RowKit Go.Proofs.YtamajbaojbghcaaW.PrintWords Go.Proofs.YtamajbaojbghcaaW.PrintLast Go.Proofs.YtamajbaojbghcaaW.PrintMore Go.Proofs.Ytamajbaojbghcaa.PT Go.Proofs.Ytamajbaojbghcaa.K
set_option linter.unusedVariables false
set_option linter.unusedSimpArgs false
/-- One argument in a box. -/
structure Q1 (w wi : World) (ca : Array Value) : Prop where
  below : Below w.heap.size w wi
  b0 : wi.heap[w.heap.size]? = some (.cells ca 24 (0, 0))
theorem Q1.start (w : World) (ca : Array Value) : Q1 w (w.alloc (.cells ca 24)) ca := ⟨(Below.refl _ _).alloc (Nat.le_refl _) _, heap_alloc_new w _⟩
theorem Q1.step {w wi w' : World} {ca : Array Value} (h : Q1 w wi ca) (hb : Below wi.heap.size wi w') : Q1 w w' ca :=
  ⟨h.below.trans (hb.mono h.below.size), (hb.block _ (heap_lt h.b0)).trans h.b0⟩
theorem Q1.grown {w wi w' : World} {ca : Array Value} {g : Nat} (h : Q1 w wi ca) (hg : w.heap.size + 1 ≤ g) (hG : wi.grownBy w' (some g)) : Q1 w w' ca :=
  ⟨h.below.grown hG h.below.size (fun k hk => by cases hk; omega), (hG.block _ (heap_lt h.b0) (by intro e; cases e; omega)).trans h.b0⟩
theorem Q1.c0 {w wi : World} {ca : Array Value} (h : Q1 w wi ca) (i : Nat) (v : Value) (hi : ca[i]? = some v) : wi.cell? ⟨w.heap.size, i, none⟩ = some v := by rw [Lib.cell_of_heap h.b0]; exact hi
set_option maxHeartbeats 4000000 in
set_option maxRecDepth 100000 in
theorem typText (n : Nat) (hn : n ≤ 100) (a : TV) (ca : Array Value) (w : World) (ha : Ft n a) (hwa : wfT a) (hKa : k24.K w a ca.toList) (r : ByteArray) (hr : txt (toT n a) = r) : Calls Try.prog 15 #[.agg ca] w fun e w' => e = .returned (.string r) ∧ Below w.heap.size w w' := by
  obtain ⟨A1, c1, rfl, _, _⟩ := topen hKa
  have HQ := Lib.hid (Q1.start w #[.string a.f0, .slice A1 a.f1.length c1, .bool a.f2])
  have HA := Lib.hid ha
  have HW := Lib.hid hwa
  have HKA := Lib.hid hKa
  have HR := Lib.hid hr
  clear ha hKa hr hwa
  go_enter Try.func15, Try.ntmps15
  go_wp2_with fail
  refine (newMk _).mono ?_
  rintro e wN ⟨g, rfl, hge, hMk, hbN⟩
  rw [World.size_alloc] at hge
  have HQN := Lib.hid (HQ.out.step hbN)
  have HMN := Lib.hid hMk
  clear hMk hbN HQ
  have a0 := HQN.out.c0 0 _ rfl
  have a1 := HQN.out.c0 1 _ rfl
  have a2 := HQN.out.c0 2 _ rfl
  go_wp2_with fail
  refine ((typ n).at_ a #[.string a.f0, .slice A1 a.f1.length c1, .bool a.f2] w wN g HA.out HKA.out HQN.out.below (by omega) HMN.out).mono ?_
  rintro e w1 ⟨p1, rfl, hT1, hM1, hG1⟩
  have HQ1 := Lib.hid (HQN.out.grown hge hG1)
  obtain ⟨q1, rfl⟩ := hT1.ptr
  have HT1 := Lib.hid hT1
  obtain ⟨S, ml, hmk⟩ := hM1
  have m2 : w1.cell? ⟨g, 2, none⟩ = some (.bool false) := by rw [Lib.cell_of_heap hmk]; rfl
  clear a0 a1 a2 hT1 hG1 hmk
  go_wp2_with fail
  refine (str (toT n a) (.pointer (some ⟨q1, 0, none⟩)) w1 wN.heap.size HA.out.good (sm_of HA.out HW.out) (Nat.le_trans (rank_le HA.out) hn) HT1.out).mono ?_
  rw [HR.out]
  rintro e w3 ⟨rfl, hbl⟩
  have hb3 := HQ1.out.below.trans (hbl.mono HQ1.out.below.size)
  clear m2
  go_wp2_with fail
  go_ret
  exact ⟨rfl, hb3⟩
set_option maxHeartbeats 4000000 in
set_option maxRecDepth 100000 in
theorem typName (n : Nat) (hn : n ≤ 100) (a : TV) (ca : Array Value) (w : World) (ha : Ft n a) (hwa : wfT a) (hKa : k24.K w a ca.toList) (r : ByteArray) (hr : baseN (toT n a) = r) : Calls Try.prog 17 #[.agg ca] w fun e w' => e = .returned (.string r) ∧ Below w.heap.size w w' := by
  obtain ⟨A1, c1, rfl, _, _⟩ := topen hKa
  have HQ := Lib.hid (Q1.start w #[.string a.f0, .slice A1 a.f1.length c1, .bool a.f2])
  have HA := Lib.hid ha
  have HW := Lib.hid hwa
  have HKA := Lib.hid hKa
  have HR := Lib.hid hr
  clear ha hKa hr hwa
  go_enter Try.func17, Try.ntmps17
  go_wp2_with fail
  refine (newMk _).mono ?_
  rintro e wN ⟨g, rfl, hge, hMk, hbN⟩
  rw [World.size_alloc] at hge
  have HQN := Lib.hid (HQ.out.step hbN)
  have HMN := Lib.hid hMk
  clear hMk hbN HQ
  have a0 := HQN.out.c0 0 _ rfl
  have a1 := HQN.out.c0 1 _ rfl
  have a2 := HQN.out.c0 2 _ rfl
  go_wp2_with fail
  refine ((typ n).at_ a #[.string a.f0, .slice A1 a.f1.length c1, .bool a.f2] w wN g HA.out HKA.out HQN.out.below (by omega) HMN.out).mono ?_
  rintro e w1 ⟨p1, rfl, hT1, hM1, hG1⟩
  have HQ1 := Lib.hid (HQN.out.grown hge hG1)
  obtain ⟨q1, rfl⟩ := hT1.ptr
  have HT1 := Lib.hid hT1
  obtain ⟨S, ml, hmk⟩ := hM1
  have m2 : w1.cell? ⟨g, 2, none⟩ = some (.bool false) := by rw [Lib.cell_of_heap hmk]; rfl
  clear a0 a1 a2 hT1 hG1 hmk
  go_wp2_with fail
  refine (nam (toT n a) (.pointer (some ⟨q1, 0, none⟩)) w1 wN.heap.size HA.out.good HT1.out).mono ?_
  rw [HR.out]
  rintro e w3 ⟨rfl, hbl⟩
  have hb3 := HQ1.out.below.trans (hbl.mono HQ1.out.below.size)
  clear m2
  go_wp2_with fail
  go_ret
  exact ⟨rfl, hb3⟩
set_option maxHeartbeats 4000000 in
set_option maxRecDepth 100000 in
theorem baseW (n : Nat) (a : TV) (ca : Array Value) (w : World) (ha : Ft n a) (hKa : k24.K w a ca.toList) : Calls Try.prog 18 #[.agg ca] w fun e w' => e = .returned (.string (baseN (toT n a))) ∧ Below w.heap.size w w' := by
  obtain ⟨A1, c1, rfl, la, ga⟩ := topen hKa
  obtain ⟨B, hB⟩ : ∃ B, baseN (toT n a) = B := ⟨_, rfl⟩
  rw [hB]
  have HQ := Lib.hid (Q1.start w #[.string a.f0, .slice A1 a.f1.length c1, .bool a.f2])
  have HA := Lib.hid (And.intro ha hB)
  have HG := Lib.hid ga
  clear ha hKa hB ga
  go_enter Try.func18, Try.ntmps18
  go_wp2_with fail
  go_loopg [] n (fun k wi => ∃ (x : TV) (X1 : Option Addr) (d1 : Nat), Hid (Q1 w wi #[.string x.f0, .slice X1 x.f1.length d1, .bool x.f2] ∧ Ft k x ∧ baseN (toT k x) = B ∧ k24.C w X1 x.f1.length x.f1))
  case atStart => exact ⟨a, A1, c1, Lib.hid ⟨HQ.out, HA.out.1, HA.out.2, HG.out⟩⟩
  case round =>
    obtain ⟨x, X1, d1, HS⟩ := hrel
    obtain ⟨hq, hF, hBn, hC⟩ := HS.out
    clear HS
    cases hF with
    | name _ _ h1 h2 =>
      have hl : x.f1.length = 0 := by rw [h1]; rfl
      have b0 := hq.c0 0 _ rfl
      have b1 := hq.c0 1 _ rfl
      rw [hl] at b1
      rw [toT_name h1] at hBn
      have HB := Lib.hid (show x.f0 = B from hBn)
      have HQ1 := Lib.hid hq
      clear hBn hq hl h1 h2 hC
      go_wp2_with fail
      go_ret
      exact ⟨by rw [HB.out]; rfl, HQ1.out.below⟩
    | list k _ e h1 h2 h3 =>
      have hl : x.f1.length = 1 := by rw [h1]; rfl
      obtain ⟨ad, E1, f1, hX, z0, z1, z2, lg1, gg1⟩ := at_T24 hC 0 (by decide) (by omega)
      rw [rd0 _ e h1] at z0 z1 z2 lg1 gg1
      rw [show ad.add ((0 : Int).toNat * 3) = ad from rfl] at z0 z1 z2
      subst hX
      have b0 := hq.c0 0 _ rfl
      have b1 := hq.c0 1 _ rfl
      have b2 := hq.c0 2 _ rfl
      rw [hl] at b1
      have y0 := (hq.below.cell (lt_of_cell z0)).trans z0
      have y1 := (hq.below.cell (lt_of_cell z1)).trans z1
      have y2 := (hq.below.cell (lt_of_cell z2)).trans z2
      have p0 := blk_frozen hq.b0 0
      have p1 := blk_frozen hq.b0 1
      have p2 := blk_frozen hq.b0 2
      rw [toT_list h1] at hBn
      have HB := Lib.hid (show baseN (toT k e) = B from hBn)
      have HQ1 := Lib.hid hq
      have HF := Lib.hid h3
      have HC := Lib.hid gg1
      clear hBn hq hl h1 h2 hC z0 z1 z2 gg1 h3
      go_wp2_with fail
      go_roundg k
      case measure => omega
      case rel =>
        refine ⟨e, E1, f1, Lib.hid ⟨⟨?_, ?_⟩, HF.out, HB.out, HC.out⟩⟩
        · exact below_set (below_set (below_set HQ1.out.below (Nat.le_refl _)) (Nat.le_refl _)) (Nat.le_refl _)
        · refine blk_put (cs := #[.string e.f0, .slice E1 e.f1.length f1, .bool x.f2]) ?_ 2 _ rfl
          refine blk_put (cs := #[.string e.f0, .slice (some ad) x.f1.length d1, .bool x.f2]) ?_ 1 _ rfl
          exact blk_put HQ1.out.b0 0 _ rfl
end Go.Proofs.Ytamajbaojbghcaa.Ty
