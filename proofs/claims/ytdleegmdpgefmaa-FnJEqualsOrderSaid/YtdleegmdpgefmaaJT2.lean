/- laws.jTurned: objects, the other kinds. -/
import Derived.Test.YtdleegmdpgefmaaJTo
namespace Go.Proofs.Ytdleegmdpgefmaa.J
open Go.RowKit Go.Proofs.YtdleegmdpgefmaaW.PrintWords Go.Proofs.YtdleegmdpgefmaaW.PrintLast Go.Proofs.YtdleegmdpgefmaaW.PrintMore Go.Proofs.Ytdleegmdpgefmaa.PJ Go.Proofs.Ytdleegmdpgefmaa.K Go.Maps
set_option linter.unusedVariables false
set_option linter.unusedSimpArgs false
set_option maxHeartbeats 4000000 in
set_option maxRecDepth 100000 in
theorem tu_obj (n : Nat) (hT : Tu n) (x : JV) (cs : Array Value) (w : World) (hd : Dp (n + 1) x) (hw : wfJ x) (hK : kJ.K w x cs.toList) (k4 : x.f0 = 5) : Calls Try.prog 9 #[.agg cs] w (TuP (turn (n + 1) x) w) := by
  obtain ⟨A4, c4, A5, c5, rfl, l4, g4, l5, g5⟩ := jopen2 hK
  have HL5 := Lib.hid g5
  have HD := Lib.hid hd.inv.2.2.2
  have HW := Lib.hid hw.inv.2.2.2
  have hl5 : x.f5.length * 88 ≤ 140737488351232 := hw.inv.2.2.1
  have HT := Lib.hid hT
  have e0 : turn (n + 1) x = ⟨x.f0, x.f1, x.f2, x.f3, (memR x).map (rdOf ByteArray.empty x.f4), (memR x).map (fun i => turn n (rd_T25 x.f5 i))⟩ := by rw [turn, if_pos k4, if_neg (by omega), if_pos k4]
  rw [e0, k4]
  have hTI : TI w (((w.alloc (.cells #[.int .i64 5, .bool x.f1, .int .i64 x.f2, .string x.f3, .slice A4 x.f4.length c4, .slice A5 x.f5.length c5] 25)).alloc (.cells #[.int .i64 0, .bool false, .int .i64 0, .string ⟨#[]⟩, .slice none 0 0, .slice none 0 0] 25)).alloc (.cells #[.int .i64 5, .bool x.f1, .int .i64 x.f2, .string x.f3, .slice none 0 0, .slice none 0 0] 25)) #[.int .i64 5, .bool x.f1, .int .i64 x.f2, .string x.f3, .slice A4 x.f4.length c4, .slice A5 x.f5.length c5] (.int .i64 5) (.bool x.f1) (.int .i64 x.f2) (.string x.f3) (.slice none 0 0) (.slice none 0 0) [] [] := by
    refine ⟨(((Below.refl _ _).alloc (Nat.le_refl _) _).alloc (by simp) _).alloc (by simp; omega) _, ?_, ?_, ?_, Kd.R_nil _ _ _ _ _, Kd.R_nil _ _ _ _ _⟩
    · rw [Below.heap_alloc _ _ _ (by simp <;> omega), Below.heap_alloc _ _ _ (by simp)]; exact heap_alloc_new w _
    · have := heap_alloc_new ((w.alloc (.cells #[.int .i64 5, .bool x.f1, .int .i64 x.f2, .string x.f3, .slice A4 x.f4.length c4, .slice A5 x.f5.length c5] 25)).alloc (.cells #[.int .i64 0, .bool false, .int .i64 0, .string ⟨#[]⟩, .slice none 0 0, .slice none 0 0] 25)) (.cells #[.int .i64 5, .bool x.f1, .int .i64 x.f2, .string x.f3, .slice none 0 0, .slice none 0 0] 25)
      rw [World.size_alloc, World.size_alloc] at this
      exact this
    · rw [Below.heap_alloc _ _ _ (by simp)]
      have := heap_alloc_new (w.alloc (.cells #[.int .i64 5, .bool x.f1, .int .i64 x.f2, .string x.f3, .slice A4 x.f4.length c4, .slice A5 x.f5.length c5] 25)) (.cells #[.int .i64 0, .bool false, .int .i64 0, .string ⟨#[]⟩, .slice none 0 0, .slice none 0 0] 25)
      rw [World.size_alloc] at this
      exact this
  have HTI := Lib.hid hTI
  have HL45 := Lib.hid (hd.inv.2.2.1 k4)
  have HW4 := Lib.hid hw.inv.2.1.1
  have K4 := Lib.hid k4
  have HL4 := Lib.hid g4
  clear hd hw hT g4 g5 hTI hK e0 k4
  go_enter Try.func9, Try.ntmps9
  go_wp2_with fail
  obtain ⟨K1, hK1⟩ := membersE x HW4.out
  refine (spec_JMembers.calls K1 5 x.f1 x.f2 x.f3 A4 c4 x.f4 A5 c5 x.f5 _ _ (Kd.C_below HL4.out HTI.out.below) l4 (Kd.C_below HL5.out HTI.out.below) l5 (by have := hK1 K1 (Nat.le_refl _); rw [K4.out] at this; exact this)).mono ?_
  rintro e w1 ⟨v0, rfl, hR, hbl⟩
  obtain ⟨L, cl, rfl, hlc, hLC⟩ := Kd.R_reads hR
  have hlo : w.heap.size + 2 < w1.heap.size := Nat.lt_of_lt_of_le HTI.out.lt hbl.size
  have HLR := Lib.hid (Kd.R_mono (R_bound hR) (ok' := fun k => w.heap.size + 2 < k ∧ k < w1.heap.size) fun k hk => ⟨by have := hk.2.1; simp at this; omega, hk.2.2⟩)
  have HT1 := Lib.hid (show TL w w1 w1 #[.int .i64 5, .bool x.f1, .int .i64 x.f2, .string x.f3, .slice A4 x.f4.length c4, .slice A5 x.f5.length c5] (.int .i64 5) (.bool x.f1) (.int .i64 x.f2) (.string x.f3) (.slice none 0 0) (.slice none 0 0) [] [] from TL.start (HTI.out.step hbl))
  have hml := memL_len x.f4 x.f4.length
  have hl4 := HW4.out
  have hwr : wrap64 (((memL x.f4 x.f4.length).length : Int) - 1) = ((memL x.f4 x.f4.length).length : Int) - 1 := wrap_in (by omega) (by omega)
  obtain ⟨ms, hms⟩ : ∃ ms, memL x.f4 x.f4.length = ms := ⟨_, rfl⟩
  rw [hms] at HLR hml hwr
  rw [hms]
  have HMS := Lib.hid hms
  clear hR hlc hLC hbl HTI hms hlo
  go_wp2_with fail
  go_loopw [6] (fun iv wi => ∃ m : Nat, iv = .int .i64 ((m : Int) - 1) ∧ m ≤ ms.length ∧ ∃ nv ov, Hid (TL w w1 wi #[.int .i64 5, .bool x.f1, .int .i64 x.f2, .string x.f3, .slice A4 x.f4.length c4, .slice A5 x.f5.length c5] (.int .i64 5) (.bool x.f1) (.int .i64 x.f2) (.string x.f3) nv ov (((memR x).take (ms.length - m)).map (rdOf ByteArray.empty x.f4)) (((memR x).take (ms.length - m)).map (fun i => turn n (rd_T25 x.f5 i))))) (fun iv _ => (intOf iv + 1).toNat)
  case atStart => exact ⟨ms.length, by first | rfl | rw [hwr], Nat.le_refl _, _, _, by rw [Nat.sub_self]; exact HT1⟩
  case round =>
    obtain ⟨m, rfl, hil, nv, ov, HS⟩ := hrel
    rcases Nat.eq_zero_or_pos m with rfl | hm
    · have hd1 : decide (0 ≤ (((0 : Nat) : Int) - 1)) = false := by decide
      obtain ⟨nA, nc, rfl, hnc, _⟩ := Kd.R_reads HS.out.tt.ti.names
      obtain ⟨oA, oc, rfl, hoc, _⟩ := Kd.R_reads HS.out.tt.ti.items
      have o0 := HS.out.tt.ti.o 0 _ rfl
      have o1 := HS.out.tt.ti.o 1 _ rfl
      have o2 := HS.out.tt.ti.o 2 _ rfl
      have o3 := HS.out.tt.ti.o 3 _ rfl
      have o4 := HS.out.tt.ti.o 4 _ rfl
      have o5 := HS.out.tt.ti.o 5 _ rfl
      obtain ⟨nl, hnl⟩ : ∃ k, (((memR x).take (ms.length - 0)).map (rdOf ByteArray.empty x.f4)).length = k := ⟨_, rfl⟩
      obtain ⟨ol, hol⟩ : ∃ k, (((memR x).take (ms.length - 0)).map (fun i => turn n (rd_T25 x.f5 i))).length = k := ⟨_, rfl⟩
      rw [hnl] at HS o4
      rw [hol] at HS o5
      have HNL := Lib.hid (And.intro hnl hol)
      clear hnl hol hnc hoc
      have r0 : wr.cell? ⟨w.heap.size + 1, 0, none⟩ = some (.int .i64 0) := by rw [Lib.cell_of_heap HS.out.tt.ti.res]; rfl
      have r1 : wr.cell? ⟨w.heap.size + 1, 1, none⟩ = some (.bool false) := by rw [Lib.cell_of_heap HS.out.tt.ti.res]; rfl
      have r2 : wr.cell? ⟨w.heap.size + 1, 2, none⟩ = some (.int .i64 0) := by rw [Lib.cell_of_heap HS.out.tt.ti.res]; rfl
      have r3 : wr.cell? ⟨w.heap.size + 1, 3, none⟩ = some (.string ⟨#[]⟩) := by rw [Lib.cell_of_heap HS.out.tt.ti.res]; rfl
      have r4 : wr.cell? ⟨w.heap.size + 1, 4, none⟩ = some (.slice none 0 0) := by rw [Lib.cell_of_heap HS.out.tt.ti.res]; rfl
      have r5 : wr.cell? ⟨w.heap.size + 1, 5, none⟩ = some (.slice none 0 0) := by rw [Lib.cell_of_heap HS.out.tt.ti.res]; rfl
      have f0 := blk_frozen HS.out.tt.ti.res 0
      have f1 := blk_frozen HS.out.tt.ti.res 1
      have f2 := blk_frozen HS.out.tt.ti.res 2
      have f3 := blk_frozen HS.out.tt.ti.res 3
      have f4 := blk_frozen HS.out.tt.ti.res 4
      have f5 := blk_frozen HS.out.tt.ti.res 5
      go_wp2_with fail
      have hfull : (memR x).take (ms.length - 0) = memR x := List.take_of_length_le (by unfold memR; rw [List.length_reverse, HMS.out]; omega)
      have hT := HS.out.tt.ti
      rw [hfull] at hT
      have F := TI.fin (y := ⟨5, x.f1, x.f2, x.f3, (memR x).map (rdOf ByteArray.empty x.f4), (memR x).map (fun i => turn n (rd_T25 x.f5 i))⟩) hT _ rfl
      dsimp only at F
      refine bodyPost_ret (results_cell_row rfl _ _ (w.heap.size + 1) 25 _ (0, 0) _ rfl F.1 Try.underlying25 rfl (by kernel_rfl)) rfl ?_
      exact ⟨_, rfl, F.2.1, F.2.2⟩
    · obtain ⟨j, rfl⟩ : ∃ j, m = j + 1 := ⟨m - 1, by omega⟩
      have hjj : (((j + 1 : Nat) : Int) - 1) = (j : Int) := by omega
      rw [hjj]
      have hd1 : decide (0 ≤ (j : Int)) = true := decide_eq_true (by omega)
      have hjl : j < ms.length := by omega
      have hLi := R_step HLR.out (fun k hk _ => HS.out.keep k hk.1 hk.2)
      obtain ⟨L', cl', e', _, hLC⟩ := Kd.R_reads hLi
      cases e'
      obtain ⟨la, rfl, q0⟩ := tAt hLC j hjl
      obtain ⟨i, hi, hi4, _⟩ := (mem_memL _ _ _).1 (show ms[j] ∈ memL x.f4 x.f4.length by rw [HMS.out]; exact List.getElem_mem hjl)
      rw [hi] at q0
      have hi5 : i < x.f5.length := by have := HL45.out; omega
      have a4 := HS.out.tt.ti.c 4 _ rfl
      have a5 := HS.out.tt.ti.c 5 _ rfl
      have o4 := HS.out.tt.ti.o 4 _ rfl
      have o5 := HS.out.tt.ti.o 5 _ rfl
      obtain ⟨na, rfl, n0⟩ := strAt (Kd.C_below HL4.out HS.out.tt.ti.below) i hi4
      obtain ⟨s, hs⟩ : ∃ s, x.f4[i] = s := ⟨_, rfl⟩
      rw [hs] at n0
      obtain ⟨xa, G4, gc4, G5, gc5, hxa, z0, z1, z2, z3, z4, z5, lg4, gg4, lg5, gg5⟩ := at_T25 HL5.out (i : Int) (by omega) (by omega)
      subst hxa
      rw [Int.toNat_natCast] at z0 z1 z2 z3 z4 z5
      obtain ⟨g, hgg⟩ : ∃ g, rd_T25 x.f5 (i : Int) = g := ⟨_, rfl⟩
      rw [hgg] at z0 z1 z2 z3 z4 z5 lg4 gg4 lg5 gg5
      have hgj : x.f5[i] = g := by rw [← hgg, rdJ _ _ hi5]
      have HKg := Lib.hid (k25_mk w g lg4 gg4 lg5 gg5)
      have HDG := Lib.hid (show Dp n g by rw [← hgj]; exact HD.out _ (List.getElem_mem _))
      have HWG := Lib.hid (show wfJ g by rw [← hgj]; exact HW.out _ (List.getElem_mem _))
      have x0 := (HS.out.tt.ti.below.cell (lt_of_cell z0)).trans z0
      have x1 := (HS.out.tt.ti.below.cell (lt_of_cell z1)).trans z1
      have x2 := (HS.out.tt.ti.below.cell (lt_of_cell z2)).trans z2
      have x3 := (HS.out.tt.ti.below.cell (lt_of_cell z3)).trans z3
      have x4 := (HS.out.tt.ti.below.cell (lt_of_cell z4)).trans z4
      have x5 := (HS.out.tt.ti.below.cell (lt_of_cell z5)).trans z5
      have hi0 : (0 : Int) ≤ (i : Int) := Int.natCast_nonneg _
      have hi4' : (i : Int) < (x.f4.length : Int) := by omega
      have hi5' : (i : Int) < (x.f5.length : Int) := by omega
      have hj0 : (0 : Int) ≤ (j : Int) := Int.natCast_nonneg _
      have hj1 : (j : Int) < (ms.length : Int) := by omega
      have fL : w.heap.size + 2 < (la.add j).block ∧ (la.add j).block < w1.heap.size := by rw [tadd]; exact hLi.1 la.block rfl
      have fX : (xa.add (i * 6)).block < w.heap.size := lt_of_cell z0
      have fN : (na.add i).block < w.heap.size := by
        obtain ⟨na', e, z0⟩ := strAt HL4.out i hi4
        obtain rfl : na = na' := Option.some.inj e
        exact lt_of_cell z0
      have hlo := HS.out.lo
      have hsz := HS.out.sz
      have hS : ∀ W : World, (∀ (p : Addr) (v : Value), p.block < w1.heap.size → p.block ≠ w.heap.size + 2 → wr.cell? p = some v → W.cell? p = some v) → W.cell? (la.add j) = some (.int .i64 i) ∧ W.cell? ⟨w.heap.size, 4, none⟩ = some (.slice (some na) x.f4.length c4) ∧ W.cell? ⟨w.heap.size, 5, none⟩ = some (.slice (some xa) x.f5.length c5) ∧ W.cell? (na.add i) = some (.string s) ∧ W.cell? (xa.add (i * 6)) = some (.int .i64 g.f0) ∧ W.cell? ⟨(xa.add (i * 6)).block, (xa.add (i * 6)).off + 1, none⟩ = some (.bool g.f1) ∧ W.cell? ⟨(xa.add (i * 6)).block, (xa.add (i * 6)).off + 2, none⟩ = some (.int .i64 g.f2) ∧ W.cell? ⟨(xa.add (i * 6)).block, (xa.add (i * 6)).off + 3, none⟩ = some (.string g.f3) ∧ W.cell? ⟨(xa.add (i * 6)).block, (xa.add (i * 6)).off + 4, none⟩ = some (.slice G4 g.f4.length gc4) ∧ W.cell? ⟨(xa.add (i * 6)).block, (xa.add (i * 6)).off + 5, none⟩ = some (.slice G5 g.f5.length gc5) := by
        intro W h
        exact ⟨h _ _ fL.2 (by have := fL.1; omega) q0, h _ _ (by show w.heap.size < _; omega) (by show w.heap.size ≠ _; omega) a4, h _ _ (by show w.heap.size < _; omega) (by show w.heap.size ≠ _; omega) a5, h _ _ (by omega) (by omega) n0, h _ _ (by omega) (by omega) x0, h _ _ (by show (xa.add (i * 6)).block < _; omega) (by show (xa.add (i * 6)).block ≠ _; omega) x1, h _ _ (by show (xa.add (i * 6)).block < _; omega) (by show (xa.add (i * 6)).block ≠ _; omega) x2, h _ _ (by show (xa.add (i * 6)).block < _; omega) (by show (xa.add (i * 6)).block ≠ _; omega) x3, h _ _ (by show (xa.add (i * 6)).block < _; omega) (by show (xa.add (i * 6)).block ≠ _; omega) x4, h _ _ (by show (xa.add (i * 6)).block < _; omega) (by show (xa.add (i * 6)).block ≠ _; omega) x5⟩
      have HSS := Lib.hid hS
      have HF := Lib.hid (And.intro fL (And.intro hlo hsz))
      have HTK := Lib.hid (show (memR x).take (ms.length - j) = (memR x).take (ms.length - (j + 1)) ++ [(i : Int)] by rw [memR_take x ms HMS.out j hjl, hi])
      have HE := Lib.hid (show rdOf ByteArray.empty x.f4 (i : Int) = s ∧ rd_T25 x.f5 (i : Int) = g from ⟨(rdS _ _ hi4).trans hs, hgg⟩)
      have HSd := Lib.hid (HS.out.step (Below.refl _ _).drew)
      clear lg4 gg4 lg5 gg5 hgg hgj hi hs hLC hS fL z0 z1 z2 z3 z4 z5
      have hlen : ((((memR x).take (ms.length - (j + 1))).map (rdOf ByteArray.empty x.f4)).length + 1) * 16 ≤ 140737488355328 := (by rw [List.length_map, List.length_take]; omega)
      have hlen2 : ((((memR x).take (ms.length - (j + 1))).map (fun i => turn n (rd_T25 x.f5 i))).length + 1) * 88 ≤ 140737488355328 := (by rw [List.length_map, List.length_take]; have := HL45.out; omega)
      have o4Y : wr.cell? ⟨w.heap.size + 1 + 1, 4, none⟩ = some nv := o4
      have o5Y : wr.cell? ⟨w.heap.size + 1 + 1, 5, none⟩ = some ov := o5
      clear o4 o5
      have o4X : (wr.alloc (.cells #[.string s] 9)).cell? ⟨w.heap.size + 1 + 1, 4, none⟩ = some nv := ((Below.alloc (Below.refl _ _) (Nat.le_refl _) _).cell (lt_of_cell o4Y)).trans o4Y
      have o5X : (wr.alloc (.cells #[.string s] 9)).cell? ⟨w.heap.size + 1 + 1, 5, none⟩ = some ov := ((Below.alloc (Below.refl _ _) (Nat.le_refl _) _).cell (lt_of_cell o5Y)).trans o5Y
      have hB0 := HSd.out.tt.ti.below
      have hb00 : w.heap.size ≤ wr.drew.heap.size := hB0.size
      have hO0 := HSd.out.tt.ti.names
      have hap0 := HSd.out.tt.apart
      have hsz0 : w1.heap.size ≤ wr.drew.heap.size := HSd.out.sz
      have hdw : wr.drew.heap.size = wr.heap.size := rfl
      have hfr : ∀ k, wr.drew.heap.size ≤ k → w.heap.size + 2 < k := (fun k hk => by omega)
      have hp0 : Kd.string.M wr.drew w.heap.size (fun _ => False) s [.string s] := rfl
      have HDW := Lib.hid hdw
      clear hdw
      go_wp2_with fail
      refine Ph.region_phases (S := (fun w' : World => w'.cell? ⟨w.heap.size + 1 + 1, 4, none⟩ = some nv ∧ w'.cell? ⟨w.heap.size + 1 + 1, 5, none⟩ = some ov ∧ w'.cell? (la.add j) = some (.int .i64 i) ∧ w'.cell? ⟨w.heap.size, 4, none⟩ = some (.slice (some na) x.f4.length c4) ∧ w'.cell? ⟨w.heap.size, 5, none⟩ = some (.slice (some xa) x.f5.length c5) ∧ w'.cell? (na.add i) = some (.string s) ∧ w'.cell? (xa.add (i * 6)) = some (.int .i64 g.f0) ∧ w'.cell? ⟨(xa.add (i * 6)).block, (xa.add (i * 6)).off + 1, none⟩ = some (.bool g.f1) ∧ w'.cell? ⟨(xa.add (i * 6)).block, (xa.add (i * 6)).off + 2, none⟩ = some (.int .i64 g.f2) ∧ w'.cell? ⟨(xa.add (i * 6)).block, (xa.add (i * 6)).off + 3, none⟩ = some (.string g.f3) ∧ w'.cell? ⟨(xa.add (i * 6)).block, (xa.add (i * 6)).off + 4, none⟩ = some (.slice G4 g.f4.length gc4) ∧ w'.cell? ⟨(xa.add (i * 6)).block, (xa.add (i * 6)).off + 5, none⟩ = some (.slice G5 g.f5.length gc5))) (ops₁ := ?qops) 26 3 (by kernel_rfl) ?qhops ?qhn ?qhsz ?qhe ?qhl ?qh
      case qhops => simp only [List.take_succ_cons, List.take_zero]; exact rfl
      case qhn => kernel_rfl
      case qhsz => kernel_rfl
      case qhe => kernel_rfl
      case qhl => kernel_rfl
      have hH0 : ((fun w' : World => w'.cell? ⟨w.heap.size + 1 + 1, 4, none⟩ = some nv ∧ w'.cell? ⟨w.heap.size + 1 + 1, 5, none⟩ = some ov ∧ w'.cell? (la.add j) = some (.int .i64 i) ∧ w'.cell? ⟨w.heap.size, 4, none⟩ = some (.slice (some na) x.f4.length c4) ∧ w'.cell? ⟨w.heap.size, 5, none⟩ = some (.slice (some xa) x.f5.length c5) ∧ w'.cell? (na.add i) = some (.string s) ∧ w'.cell? (xa.add (i * 6)) = some (.int .i64 g.f0) ∧ w'.cell? ⟨(xa.add (i * 6)).block, (xa.add (i * 6)).off + 1, none⟩ = some (.bool g.f1) ∧ w'.cell? ⟨(xa.add (i * 6)).block, (xa.add (i * 6)).off + 2, none⟩ = some (.int .i64 g.f2) ∧ w'.cell? ⟨(xa.add (i * 6)).block, (xa.add (i * 6)).off + 3, none⟩ = some (.string g.f3) ∧ w'.cell? ⟨(xa.add (i * 6)).block, (xa.add (i * 6)).off + 4, none⟩ = some (.slice G4 g.f4.length gc4) ∧ w'.cell? ⟨(xa.add (i * 6)).block, (xa.add (i * 6)).off + 5, none⟩ = some (.slice G5 g.f5.length gc5))) _ := ⟨o4Y, o5Y, HSS.out _ (fun p v _ _ hv => hv)⟩
      refine wpAnyH_take (i := 0) (oi := ?q0toi) (v := ?q0tv) ?q0thi (by kernel_rfl) (by kernel_rfl) (by kernel_rfl) ?q0thq ?q0thy (by assumption) ?q0trest
      case q0thi => simp only [List.getElem?_toArray, List.getElem?_cons_succ, List.getElem?_cons_zero]; exact rfl
      case q0thq => exact fun _ _ _ h => h
      case q0thy => (refine Or.inl ⟨by rfl, ?_⟩; intro w' hSw; (try dsimp only at hSw); go_simp; try with_reducible rfl)
      try simp only [Act.put, List.setIfInBounds_toArray, List.set_cons_zero, List.set_cons_succ]
      refine wpAnyH_take (i := 1) (oi := ?q1toi) (v := ?q1tv) ?q1thi (by kernel_rfl) (by kernel_rfl) (by kernel_rfl) ?q1thq ?q1thy (by assumption) ?q1trest
      case q1thi => simp only [List.getElem?_toArray, List.getElem?_cons_succ, List.getElem?_cons_zero]; exact rfl
      case q1thq => exact fun _ _ _ h => h
      case q1thy => (refine Or.inl ⟨by rfl, ?_⟩; intro w' hSw; (try dsimp only at hSw); go_simp; try with_reducible rfl)
      try simp only [Act.put, List.setIfInBounds_toArray, List.set_cons_zero, List.set_cons_succ]
      refine wpAnyH_take (i := 2) (oi := ?q2toi) (v := ?q2tv) ?q2thi (by kernel_rfl) (by kernel_rfl) (by kernel_rfl) ?q2thq ?q2thy (by assumption) ?q2trest
      case q2thi => simp only [List.getElem?_toArray, List.getElem?_cons_succ, List.getElem?_cons_zero]; exact rfl
      case q2thq => exact fun _ _ _ h => h
      case q2thy => (refine Or.inl ⟨by rfl, ?_⟩; intro w' hSw; (try dsimp only at hSw); go_simp; try with_reducible rfl)
      try simp only [Act.put, List.setIfInBounds_toArray, List.set_cons_zero, List.set_cons_succ]
      refine wpAnyH_take (i := 3) (oi := ?q3toi) (v := ?q3tv) ?q3thi (by kernel_rfl) (by kernel_rfl) (by kernel_rfl) ?q3thq ?q3thy (by assumption) ?q3trest
      case q3thi => simp only [List.getElem?_toArray, List.getElem?_cons_succ, List.getElem?_cons_zero]; exact rfl
      case q3thq => exact fun _ _ _ h => h
      case q3thy => (refine Or.inl ⟨by rfl, ?_⟩; intro w' hSw; (try dsimp only at hSw); go_simp; try with_reducible rfl)
      try simp only [Act.put, List.setIfInBounds_toArray, List.set_cons_zero, List.set_cons_succ]
      refine wpAnyH_take (i := 4) (oi := ?q4toi) (v := ?q4tv) ?q4thi (by kernel_rfl) (by kernel_rfl) (by kernel_rfl) ?q4thq ?q4thy (by assumption) ?q4trest
      case q4thi => simp only [List.getElem?_toArray, List.getElem?_cons_succ, List.getElem?_cons_zero]; exact rfl
      case q4thq => exact fun _ _ _ h => h
      case q4thy => (refine Or.inl ⟨by rfl, ?_⟩; intro w' hSw; (try dsimp only at hSw); go_simp; try with_reducible rfl)
      try simp only [Act.put, List.setIfInBounds_toArray, List.set_cons_zero, List.set_cons_succ]
      refine wpAnyH_take (i := 5) (oi := ?q5toi) (v := ?q5tv) ?q5thi (by kernel_rfl) (by kernel_rfl) (by kernel_rfl) ?q5thq ?q5thy (by assumption) ?q5trest
      case q5thi => simp only [List.getElem?_toArray, List.getElem?_cons_succ, List.getElem?_cons_zero]; exact rfl
      case q5thq => exact fun _ _ _ h => h
      case q5thy => (refine Or.inl ⟨by rfl, ?_⟩; intro w' hSw; (try dsimp only at hSw); go_simp; try with_reducible rfl)
      try simp only [Act.put, List.setIfInBounds_toArray, List.set_cons_zero, List.set_cons_succ]
      refine wpAnyH_take (i := 6) (oi := ?q6toi) (v := ?q6tv) ?q6thi (by kernel_rfl) (by kernel_rfl) (by kernel_rfl) ?q6thq ?q6thy (by assumption) ?q6trest
      case q6thi => simp only [List.getElem?_toArray, List.getElem?_cons_succ, List.getElem?_cons_zero]; exact rfl
      case q6thq => exact fun _ _ _ h => h
      case q6thy => (refine Or.inl ⟨by rfl, ?_⟩; intro w' hSw; (try dsimp only at hSw); go_simp; try with_reducible rfl)
      try simp only [Act.put, List.setIfInBounds_toArray, List.set_cons_zero, List.set_cons_succ]
      refine wpAnyH_take (i := 7) (oi := ?q7toi) (v := ?q7tv) ?q7thi (by kernel_rfl) (by kernel_rfl) (by kernel_rfl) ?q7thq ?q7thy (by assumption) ?q7trest
      case q7thi => simp only [List.getElem?_toArray, List.getElem?_cons_succ, List.getElem?_cons_zero]; exact rfl
      case q7thq => exact fun _ _ _ h => h
      case q7thy => (refine Or.inl ⟨by rfl, ?_⟩; intro w' hSw; (try dsimp only at hSw); go_simp; try with_reducible rfl)
      try simp only [Act.put, List.setIfInBounds_toArray, List.set_cons_zero, List.set_cons_succ]
      refine wpAnyH_take (i := 8) (oi := ?q8toi) (v := ?q8tv) ?q8thi (by kernel_rfl) (by kernel_rfl) (by kernel_rfl) ?q8thq ?q8thy (by assumption) ?q8trest
      case q8thi => simp only [List.getElem?_toArray, List.getElem?_cons_succ, List.getElem?_cons_zero]; exact rfl
      case q8thq => exact fun _ _ _ h => h
      case q8thy => (refine Or.inl ⟨by rfl, ?_⟩; intro w' hSw; (try dsimp only at hSw); go_simp; try with_reducible rfl)
      try simp only [Act.put, List.setIfInBounds_toArray, List.set_cons_zero, List.set_cons_succ]
      refine wpAnyH_take (i := 9) (oi := ?q9toi) (v := ?q9tv) ?q9thi (by kernel_rfl) (by kernel_rfl) (by kernel_rfl) ?q9thq ?q9thy (by assumption) ?q9trest
      case q9thi => simp only [List.getElem?_toArray, List.getElem?_cons_succ, List.getElem?_cons_zero]; exact rfl
      case q9thq => exact fun _ _ _ h => h
      case q9thy => (refine Or.inl ⟨by rfl, ?_⟩; intro w' hSw; (try dsimp only at hSw); go_simp; try with_reducible rfl)
      try simp only [Act.put, List.setIfInBounds_toArray, List.set_cons_zero, List.set_cons_succ]
      refine wpAnyH_take (i := 12) (oi := ?q12toi) (v := ?q12tv) ?q12thi (by kernel_rfl) (by kernel_rfl) (by kernel_rfl) ?q12thq ?q12thy (by assumption) ?q12trest
      case q12thi => simp only [List.getElem?_toArray, List.getElem?_cons_succ, List.getElem?_cons_zero]; exact rfl
      case q12thq => exact fun _ _ _ h => h
      case q12thy => (refine Or.inl ⟨by rfl, ?_⟩; intro w' hSw; (try dsimp only at hSw); go_simp; try with_reducible rfl)
      try simp only [Act.put, List.setIfInBounds_toArray, List.set_cons_zero, List.set_cons_succ]
      refine wpAnyH_take (i := 13) (oi := ?q13toi) (v := ?q13tv) ?q13thi (by kernel_rfl) (by kernel_rfl) (by kernel_rfl) ?q13thq ?q13thy (by assumption) ?q13trest
      case q13thi => simp only [List.getElem?_toArray, List.getElem?_cons_succ, List.getElem?_cons_zero]; exact rfl
      case q13thq => exact fun _ _ _ h => h
      case q13thy => (refine Or.inl ⟨by rfl, ?_⟩; intro w' hSw; (try dsimp only at hSw); go_simp; try with_reducible rfl)
      try simp only [Act.put, List.setIfInBounds_toArray, List.set_cons_zero, List.set_cons_succ]
      refine wpAnyH_take (i := 14) (oi := ?q14toi) (v := ?q14tv) ?q14thi (by kernel_rfl) (by kernel_rfl) (by kernel_rfl) ?q14thq ?q14thy (by assumption) ?q14trest
      case q14thi => simp only [List.getElem?_toArray, List.getElem?_cons_succ, List.getElem?_cons_zero]; exact rfl
      case q14thq => exact fun _ _ _ h => h
      case q14thy => (refine Or.inl ⟨by rfl, ?_⟩; intro w' hSw; (try dsimp only at hSw); go_simp; try with_reducible rfl)
      try simp only [Act.put, List.setIfInBounds_toArray, List.set_cons_zero, List.set_cons_succ]
      refine wpAnyH_take (i := 15) (oi := ?q15toi) (v := ?q15tv) ?q15thi (by kernel_rfl) (by kernel_rfl) (by kernel_rfl) ?q15thq ?q15thy (by assumption) ?q15trest
      case q15thi => simp only [List.getElem?_toArray, List.getElem?_cons_succ, List.getElem?_cons_zero]; exact rfl
      case q15thq => exact fun _ _ _ h => h
      case q15thy => (refine Or.inl ⟨by rfl, ?_⟩; intro w' hSw; (try dsimp only at hSw); go_simp; try with_reducible rfl)
      try simp only [Act.put, List.setIfInBounds_toArray, List.set_cons_zero, List.set_cons_succ]
      refine wpAnyH_take (i := 16) (oi := ?q16toi) (v := ?q16tv) ?q16thi (by kernel_rfl) (by kernel_rfl) (by kernel_rfl) ?q16thq ?q16thy (by assumption) ?q16trest
      case q16thi => simp only [List.getElem?_toArray, List.getElem?_cons_succ, List.getElem?_cons_zero]; exact rfl
      case q16thq => exact fun _ _ _ h => h
      case q16thy => (refine Or.inl ⟨by rfl, ?_⟩; intro w' hSw; (try dsimp only at hSw); go_simp; try with_reducible rfl)
      try simp only [Act.put, List.setIfInBounds_toArray, List.set_cons_zero, List.set_cons_succ]
      refine wpAnyH_take (i := 17) (oi := ?q17toi) (v := ?q17tv) ?q17thi (by kernel_rfl) (by kernel_rfl) (by kernel_rfl) ?q17thq ?q17thy (by assumption) ?q17trest
      case q17thi => simp only [List.getElem?_toArray, List.getElem?_cons_succ, List.getElem?_cons_zero]; exact rfl
      case q17thq => exact fun _ _ _ h => h
      case q17thy => (refine Or.inl ⟨by rfl, ?_⟩; intro w' hSw; (try dsimp only at hSw); go_simp; try with_reducible rfl)
      try simp only [Act.put, List.setIfInBounds_toArray, List.set_cons_zero, List.set_cons_succ]
      refine wpAnyH_take (i := 18) (oi := ?q18toi) (v := ?q18tv) ?q18thi (by kernel_rfl) (by kernel_rfl) (by kernel_rfl) ?q18thq ?q18thy (by assumption) ?q18trest
      case q18thi => simp only [List.getElem?_toArray, List.getElem?_cons_succ, List.getElem?_cons_zero]; exact rfl
      case q18thq => exact fun _ _ _ h => h
      case q18thy => (refine Or.inl ⟨by rfl, ?_⟩; intro w' hSw; (try dsimp only at hSw); go_simp; try with_reducible rfl)
      try simp only [Act.put, List.setIfInBounds_toArray, List.set_cons_zero, List.set_cons_succ]
      refine wpAnyH_take (i := 19) (oi := ?q19toi) (v := ?q19tv) ?q19thi (by kernel_rfl) (by kernel_rfl) (by kernel_rfl) ?q19thq ?q19thy (by assumption) ?q19trest
      case q19thi => simp only [List.getElem?_toArray, List.getElem?_cons_succ, List.getElem?_cons_zero]; exact rfl
      case q19thq => exact fun _ _ _ h => h
      case q19thy => (refine Or.inl ⟨by rfl, ?_⟩; intro w' hSw; (try dsimp only at hSw); go_simp; try with_reducible rfl)
      try simp only [Act.put, List.setIfInBounds_toArray, List.set_cons_zero, List.set_cons_succ]
      refine wpAnyH_take (i := 20) (oi := ?q20toi) (v := ?q20tv) ?q20thi (by kernel_rfl) (by kernel_rfl) (by kernel_rfl) ?q20thq ?q20thy (by assumption) ?q20trest
      case q20thi => simp only [List.getElem?_toArray, List.getElem?_cons_succ, List.getElem?_cons_zero]; exact rfl
      case q20thq => exact fun _ _ _ h => h
      case q20thy => (refine Or.inl ⟨by rfl, ?_⟩; intro w' hSw; (try dsimp only at hSw); go_simp; try with_reducible rfl)
      try simp only [Act.put, List.setIfInBounds_toArray, List.set_cons_zero, List.set_cons_succ]
      refine wpAnyH_take (i := 21) (oi := ?q21toi) (v := ?q21tv) ?q21thi (by kernel_rfl) (by kernel_rfl) (by kernel_rfl) ?q21thq ?q21thy (by assumption) ?q21trest
      case q21thi => simp only [List.getElem?_toArray, List.getElem?_cons_succ, List.getElem?_cons_zero]; exact rfl
      case q21thq => exact fun _ _ _ h => h
      case q21thy => (refine Or.inl ⟨by rfl, ?_⟩; intro w' hSw; (try dsimp only at hSw); go_simp; try with_reducible rfl)
      try simp only [Act.put, List.setIfInBounds_toArray, List.set_cons_zero, List.set_cons_succ]
      refine wpAnyH_ready (rs := [10]) (by kernel_rfl) (by simp) ?_
      refine AllReadyH.cons (o := ?q10so) ?q10sho (fun K hK => ?q10shs) AllReadyH.nil
      case q10sho => simp only [List.getElem?_toArray, List.getElem?_cons_succ, List.getElem?_cons_zero]; exact rfl
      go_simp
      refine hK.out _ _ ?_ (fun hH1 => ?_)
      · exact ⟨o4X, o5X, HSS.out _ (fun p v _ _ hv => ((Below.alloc (Below.refl _ _) (Nat.le_refl _) _).cell (lt_of_cell hv)).trans hv)⟩
      clear hK K hH0
      try simp only [Act.put, List.setIfInBounds_toArray, List.set_cons_zero, List.set_cons_succ]
      refine wpAnyH_ready (rs := [11]) (by kernel_rfl) (by simp) ?_
      refine AllReadyH.cons (o := ?q11so) ?q11sho (fun K hK => ?q11shs) AllReadyH.nil
      case q11sho => simp only [List.getElem?_toArray, List.getElem?_cons_succ, List.getElem?_cons_zero]; exact rfl
      refine Kd.R_append_step Kd.string (W := wr.drew) (w0 := w) w.heap.size (by rfl) (.tmp 50) (.tmp 59) 22 9 (.string ⟨#[]⟩) 16 (by rfl) Try.underlying22 (by kernel_rfl) (by rfl) (by decide) (by decide) nv (((memR x).take (ms.length - (j + 1))).map (rdOf ByteArray.empty x.f4)) s [.string s] (fun k => w.heap.size + 2 < k) (fun k => False) (by rfl) (by rfl) hp0 (fun k hk => hk.elim) hfr hO0 hB0 hb00 hlen ?_
      intro v1 wA hRA hbA hgA hatA
      have hsA : wr.drew.heap.size ≤ wA.heap.size := hgA.size
      have hkA : ∀ (p : Addr) (v : Value), p.block < w1.heap.size → p.block ≠ w.heap.size + 2 → wr.cell? p = some v → wA.cell? p = some v := (fun p v hp hn hv => (World.cell?_of_block (hgA.block _ (by omega) (fun e => by have := HSd.out.nb _ e.symm; omega))).trans hv)
      have hoA : wA.heap[w.heap.size + 2]? = some (.cells #[.int .i64 5, .bool x.f1, .int .i64 x.f2, .string x.f3, nv, ov] 25 (0, 0)) := (hgA.block _ (by omega) (fun e => by have := HSd.out.nb _ e.symm; omega)).trans HSd.out.tt.ti.out
      have o4A : wA.cell? ⟨w.heap.size + 1 + 1, 4, none⟩ = some nv := (by rw [Lib.cell_of_heap hoA]; rfl)
      have o5A : wA.cell? ⟨w.heap.size + 1 + 1, 5, none⟩ = some ov := (by rw [Lib.cell_of_heap hoA]; rfl)
      have HoA := Lib.hid hoA
      obtain ⟨vA, vc, eA, hvc, _⟩ := Kd.R_reads hRA
      obtain ⟨lA, hlA⟩ : ∃ l, ((((memR x).take (ms.length - (j + 1))).map (rdOf ByteArray.empty x.f4)) ++ [s]).length = l := ⟨_, rfl⟩
      rw [hlA] at eA
      subst eA
      clear hlA hvc
      refine hK.out _ _ ?_ (fun hH2 => ?_)
      · exact ⟨o4A, o5A, HSS.out _ hkA⟩
      clear hK K hH1
      try simp only [Act.put, List.setIfInBounds_toArray, List.set_cons_zero, List.set_cons_succ]
      refine wpAnyH_take (i := 25) (oi := ?q25toi) (v := ?q25tv) ?q25thi (by kernel_rfl) (by kernel_rfl) (by kernel_rfl) ?q25thq ?q25thy (by assumption) ?q25trest
      case q25thi => simp only [List.getElem?_toArray, List.getElem?_cons_succ, List.getElem?_cons_zero]; exact rfl
      case q25thq => exact fun _ _ _ h => h
      case q25thy => (refine Or.inl ⟨by rfl, ?_⟩; intro w' hSw; (try dsimp only at hSw); go_simp; try with_reducible rfl)
      try simp only [Act.put, List.setIfInBounds_toArray, List.set_cons_zero, List.set_cons_succ]
      refine wpAnyH_ready (rs := [22]) (by kernel_rfl) (by simp) ?_
      refine AllReadyH.cons (o := ?q22so) ?q22sho (fun K hK => ?q22shs) AllReadyH.nil
      case q22sho => simp only [List.getElem?_toArray, List.getElem?_cons_succ, List.getElem?_cons_zero]; exact rfl
      go_simp
      refine (HT.out.at_ g #[.int .i64 g.f0, .bool g.f1, .int .i64 g.f2, .string g.f3, .slice G4 g.f4.length gc4, .slice G5 g.f5.length gc5] _ HDG.out HWG.out (kJ.K_below hbA HKg.out)).mono ?_
      rintro e wB ⟨cs', rfl, hM, hbB⟩
      obtain ⟨t4, t5, ecs, _⟩ := k25_openM hM
      obtain rfl : cs' = #[.int .i64 (turn n g).f0, .bool (turn n g).f1, .int .i64 (turn n g).f2, .string (turn n g).f3, t4, t5] := (by apply Array.toList_inj.1; rw [ecs])
      have hkB : ∀ (p : Addr) (v : Value), p.block < w1.heap.size → p.block ≠ w.heap.size + 2 → wr.cell? p = some v → wB.cell? p = some v := (fun p v hp hn hv => (World.cell?_of_block (hbB.block _ (by omega))).trans (hkA p v hp hn hv))
      have o5B : wB.cell? ⟨w.heap.size + 1 + 1, 5, none⟩ = some ov := (World.cell?_of_block (hbB.block _ (by show w.heap.size + 1 + 1 < _; omega))).trans o5A
      have o4B : wB.cell? ⟨w.heap.size + 1 + 1, 4, none⟩ = some nv := (World.cell?_of_block (hbB.block _ (by show w.heap.size + 1 + 1 < _; omega))).trans o4A
      dsimp only
      refine hK.out _ _ ?_ (fun hH3 => ?_)
      · exact ⟨o4B, o5B, HSS.out _ hkB⟩
      clear hK K hH2
      try simp only [Act.put, List.setIfInBounds_toArray, List.set_cons_zero, List.set_cons_succ]
      refine wpAnyH_ready (rs := [23]) (by kernel_rfl) (by simp) ?_
      refine AllReadyH.cons (o := ?q23so) ?q23sho (fun K hK => ?q23shs) AllReadyH.nil
      case q23sho => simp only [List.getElem?_toArray, List.getElem?_cons_succ, List.getElem?_cons_zero]; exact rfl
      go_simp
      refine hK.out _ _ ?_ (fun hH4 => ?_)
      · exact ⟨((Below.alloc (Below.refl _ _) (Nat.le_refl _) _).cell (lt_of_cell o4B)).trans o4B, ((Below.alloc (Below.refl _ _) (Nat.le_refl _) _).cell (lt_of_cell o5B)).trans o5B, HSS.out _ (fun p v hp hn hv => ((Below.alloc (Below.refl _ _) (Nat.le_refl _) _).cell (lt_of_cell (hkB p v hp hn hv))).trans (hkB p v hp hn hv))⟩
      clear hK K hH3
      try simp only [Act.put, List.setIfInBounds_toArray, List.set_cons_zero, List.set_cons_succ]
      refine wpAnyH_ready (rs := [24]) (by kernel_rfl) (by simp) ?_
      refine AllReadyH.cons (o := ?q24so) ?q24sho (fun K hK => ?q24shs) AllReadyH.nil
      case q24sho => simp only [List.getElem?_toArray, List.getElem?_cons_succ, List.getElem?_cons_zero]; exact rfl
      have hsB := hbB.size
      have hp2 := tu_hp hM (show w.heap.size ≤ wA.heap.size by omega)
      have hB2 := hbA.trans (hbB.mono (show w.heap.size ≤ wA.heap.size by omega))
      have hO2 := R_keep (R_after hap0 hgA hatA) hbB
      have hb2 : w.heap.size ≤ wB.heap.size := (by omega)
      have hown := R_own_lt hRA
      have hownI := R_own_lt hap0
      have hokp : ∀ k, wA.heap.size ≤ k → (w.heap.size + 2 < k ∧ some k ≠ (Value.slice vA lA vc).ownBlock) ∧ some k ≠ ov.ownBlock := (fun k hk => ⟨⟨by omega, fun e => by have := hown k e.symm; omega⟩, fun e => by have := hownI k e.symm; omega⟩)
      have hfr2 : ∀ k, wB.heap.size ≤ k → w.heap.size + 2 < k ∧ some k ≠ (Value.slice vA lA vc).ownBlock := (fun k hk => (hokp k (by omega)).1)
      refine Kd.R_append_step kJ (W := wB) (w0 := w) w.heap.size (by rfl) (.tmp 62) (.tmp 72) 23 25 (.agg #[.int .i64 0, .bool false, .int .i64 0, .string ⟨#[]⟩, .slice none 0 0, .slice none 0 0]) 88 (by rfl) Try.underlying23 (by kernel_rfl) (by rfl) (by decide) (by decide) ov (((memR x).take (ms.length - (j + 1))).map (fun i => turn n (rd_T25 x.f5 i))) (turn n g) [.int .i64 (turn n g).f0, .bool (turn n g).f1, .int .i64 (turn n g).f2, .string (turn n g).f3, t4, t5] (fun k => w.heap.size + 2 < k ∧ some k ≠ (Value.slice vA lA vc).ownBlock) (fun k => wA.heap.size ≤ k) (by rfl) (by rfl) hp2 hokp hfr2 hO2 hB2 hb2 hlen2 ?_
      intro v2 wC hRC hbC hgC hatC
      have hkC : ∀ (p : Addr) (v : Value), p.block < w1.heap.size → p.block ≠ w.heap.size + 2 → wr.cell? p = some v → wC.cell? p = some v := (fun p v hp hn hv => (World.cell?_of_block (hgC.block _ (by omega) (fun e => by have := HSd.out.ob _ e.symm; omega))).trans (hkB p v hp hn hv))
      have hoC : wC.heap[w.heap.size + 2]? = some (.cells #[.int .i64 5, .bool x.f1, .int .i64 x.f2, .string x.f3, nv, ov] 25 (0, 0)) := (hgC.block _ (by omega) (fun e => by have := HSd.out.ob _ e.symm; omega)).trans ((hbB.block _ (by omega)).trans HoA.out)
      have o4C : wC.cell? ⟨w.heap.size + 1 + 1, 4, none⟩ = some nv := (by rw [Lib.cell_of_heap hoC]; rfl)
      have o5C : wC.cell? ⟨w.heap.size + 1 + 1, 5, none⟩ = some ov := (by rw [Lib.cell_of_heap hoC]; rfl)
      have f5C : wC.frozen? ⟨w.heap.size + 1 + 1, 5, none⟩ = false := blk_frozen hoC 5
      have f4C : wC.frozen? ⟨w.heap.size + 1 + 1, 4, none⟩ = false := blk_frozen hoC 4
      have hoD := blk_put hoC 4 (Value.slice vA lA vc) rfl
      have o5D : (wC.setCell ⟨w.heap.size + 1 + 1, 4, none⟩ (Value.slice vA lA vc)).cell? ⟨w.heap.size + 1 + 1, 5, none⟩ = some ov := (by rw [Lib.cell_of_heap hoD]; rfl)
      have f5D : (wC.setCell ⟨w.heap.size + 1 + 1, 4, none⟩ (Value.slice vA lA vc)).frozen? ⟨w.heap.size + 1 + 1, 5, none⟩ = false := blk_frozen hoD 5
      have HN := Lib.hid (HSd.out.next hgA hatA hRA hbB hgC hatC hbC hRC)
      obtain ⟨vB, vd, eB, hvd, _⟩ := Kd.R_reads hRC
      obtain ⟨lB, hlB⟩ : ∃ l, ((((memR x).take (ms.length - (j + 1))).map (fun i => turn n (rd_T25 x.f5 i))) ++ [turn n g]).length = l := ⟨_, rfl⟩
      rw [hlB] at eB
      subst eB
      clear hlB hvd hoC hoD
      refine hK.out _ _ ?_ (fun hH5 => ?_)
      · exact ⟨o4C, o5C, HSS.out _ hkC⟩
      clear hK K hH4
      try simp only [Act.put, List.setIfInBounds_toArray, List.set_cons_zero, List.set_cons_succ]
      refine wpAnyH_done (by kernel_rfl) ?_ _
      refine Ph.Then.go ?_
      clear hH5
      refine wpAnyH_ready (rs := [26]) (by kernel_rfl) (by simp) ?_
      refine AllReadyH.cons (o := ?q26so) ?q26sho (fun K hK => ?q26shs) AllReadyH.nil
      case q26sho => simp only [List.getElem?_toArray, List.getElem?_cons_succ, List.getElem?_cons_zero]; exact rfl
      go_simp
      refine hK.out _ _ trivial (fun _ => ?_)
      clear hK K
      try simp only [Act.put, List.setIfInBounds_toArray, List.set_cons_zero, List.set_cons_succ]
      refine wpAnyH_ready (rs := [27]) (by kernel_rfl) (by simp) ?_
      refine AllReadyH.cons (o := ?q27so) ?q27sho (fun K hK => ?q27shs) AllReadyH.nil
      case q27sho => simp only [List.getElem?_toArray, List.getElem?_cons_succ, List.getElem?_cons_zero]; exact rfl
      go_simp
      refine hK.out _ _ trivial (fun _ => ?_)
      clear hK K
      try simp only [Act.put, List.setIfInBounds_toArray, List.set_cons_zero, List.set_cons_succ]
      refine wpAnyH_ready (rs := [28]) (by kernel_rfl) (by simp) ?_
      refine AllReadyH.cons (o := ?q28so) ?q28sho (fun K hK => ?q28shs) AllReadyH.nil
      case q28sho => simp only [List.getElem?_toArray, List.getElem?_cons_succ, List.getElem?_cons_zero]; exact rfl
      go_simp
      refine hK.out _ _ trivial (fun _ => ?_)
      clear hK K
      try simp only [Act.put, List.setIfInBounds_toArray, List.set_cons_zero, List.set_cons_succ]
      refine wpAnyH_done (by kernel_rfl) ?_ _
      have eN : ((memR x).take (ms.length - (j + 1))).map (rdOf ByteArray.empty x.f4) ++ [s] = ((memR x).take (ms.length - j)).map (rdOf ByteArray.empty x.f4) := by rw [HTK.out, List.map_append, List.map_singleton, HE.out.1]
      have eI : ((memR x).take (ms.length - (j + 1))).map (fun i => turn n (rd_T25 x.f5 i)) ++ [turn n g] = ((memR x).take (ms.length - j)).map (fun i => turn n (rd_T25 x.f5 i)) := by rw [HTK.out, List.map_append, List.map_singleton, HE.out.2]
      rw [eN, eI] at HN
      clear eN eI hRA hbA hgA hatA hRC hbC hgC hatC hkA hkB hkC hM hbB
      go_wp2_with fail
      go_roundw
      case rel => first | exact ⟨j, by go_num, by omega, _, _, HN⟩ | exact ⟨j, by go_num, by omega, _, _, Lib.hid (HN.out.step (Below.refl _ _).drew)⟩ | exact ⟨j, by go_num, by omega, _, _, Lib.hid (HN.out.step (pw_below_drewN (Below.refl _ _) _))⟩
      case measure => first | (simp [intOf]; done) | (simp [intOf]; omega)
end Go.Proofs.Ytdleegmdpgefmaa.J
