/- impl.ofJValue: what it makes, of every proper value. -/
import Derived.Test.YtdleegmdpgefmaaJ1
import Derived.Lib.Builder
import Derived.StringKeys
namespace Go.Proofs.Ytdleegmdpgefmaa.J
open Go.RowKit Go.Proofs.YtdleegmdpgefmaaW.PrintWords Go.Proofs.YtdleegmdpgefmaaW.PrintLast Go.Proofs.YtdleegmdpgefmaaW.PrintMore Go.Proofs.Ytdleegmdpgefmaa.PJ Go.Proofs.Ytdleegmdpgefmaa.K Go.Maps
set_option linter.unusedVariables false
set_option linter.unusedSimpArgs false

/-- 'm[k] = v' at a step of a region that draws its order. -/
theorem step_mapUpdate_own {H : Type} {P : Program} (w : World) {ops : Array Oper} {o : Oper} {a : Act} {K' : Act → World → Prop} {Q : Exit → Act → World → Prop} {E : Prop}
    (hg : o.guard = none) (m x v : Operand) (t : TypeId) (hop : o.op = Op.mapUpdate t m x v)
    (k e : TypeId) (K : Keyed P k) (ht : P.underlying t = some (.map k e)) (R : Value → Option (DataW H × List MemPlace)) (b n : Nat) (D : DataW H)
    (hm : a.eval m = .map (some b)) (hown : w.ownsMap P k R b n D) (hn : n < maxLen) (key val : Value) (kl : Lit) (hx : a.eval x = key) (hv : a.eval v = val) (hkey : keyOf P k key = some kl)
    (d : DataW H) (ps : List MemPlace) (hval : R val = some (d, ps))
    (hK : ∀ w', w'.ownsMap P k R b (n + 1) (D.put kl d) → w.grownBy w' (some b) → K' (a.put o.dst undef) w') :
    if Region.wanted o (yielded ops a.tmps) = true then Oper.wp P o a w K' Q else E := by
  have hw : Region.wanted o (yielded ops a.tmps) = true := by simp [Region.wanted, hg]
  rw [if_pos hw]
  obtain ⟨w', hrun, r1, r2⟩ := hown.update K ht hn hkey hval
  unfold Oper.wp
  simp [execOp, hop, hm, hx, hv, hrun, Result.andThen]
  exact hK w' r1 r2

theorem own_below {w w' : World} {b n : Nat} {D : DataW Value} (h : w.ownsMap Try.prog 9 heldE b n D) (hb : Below w.heap.size w w') : w'.ownsMap Try.prog 9 heldE b n D :=
  h.kept (row := none) ⟨hb.os, hb.tape, hb.output, hb.size, fun i hi _ => hb.block i hi⟩ (by simp)
/-- Members that were laid into the map at block B. -/
structure ObjAt (w wi : World) (cs : Array Value) (ms : List (ByteArray × D0)) (m i B : Nat) : Prop where
  map : ∃ D n, n ≤ i ∧ wi.ownsMap Try.prog 9 heldE B n D ∧ Same (Rep m (fun k => w.heap.size ≤ k ∧ k ≠ B) wi) D (objD (ms.take i))
  below : Below w.heap.size w wi
  box : wi.heap[w.heap.size]? = some (.cells cs 25 (0, 0))
  new : B = w.heap.size + 1
theorem ObjAt.start (w : World) (cs : Array Value) (ms : List (ByteArray × D0)) (m : Nat) : ObjAt w ((w.alloc (.cells cs 25)).alloc (.map #[] 0)) cs ms m 0 (w.heap.size + 1) := by
  have h := World.ownsMap_made (w.alloc (.cells cs 25)) Try.prog 9 heldE
  rw [World.size_alloc] at h
  exact ⟨⟨.map [], 0, Nat.le_refl _, h, Same.empty⟩, ((Below.refl _ _).alloc (Nat.le_refl _) _).alloc (by simp) _, by rw [Below.heap_alloc _ _ _ (by simp)]; exact heap_alloc_new w _, rfl⟩
theorem ObjAt.next {w wi w1 w2 : World} {cs : Array Value} {ms : List (ByteArray × D0)} {m i B H nD : Nat} {s : ByteArray} {d : D0} {D : DataW Value} {u : Value} (h : ObjAt w wi cs ms m i B) (hE : ms[i]? = some (s, d)) (hq : Below wi.heap.size wi w1) (hH : wi.heap.size ≤ H) (hu : Rep m (fun k => H ≤ k) w1 u d) (hnD : nD ≤ i)
    (hown : wi.ownsMap Try.prog 9 heldE B nD D) (hsame : Same (Rep m (fun k => w.heap.size ≤ k ∧ k ≠ B) wi) D (objD (ms.take i))) (hown2 : w2.ownsMap Try.prog 9 heldE B (nD + 1) (D.put (.string (bs s)) (.held u))) (hg : w1.grownBy w2 (some B)) : ObjAt w w2 cs ms m (i + 1) B := by
  have hB := h.new
  have hw := h.below.size
  have hBl := hown.lt
  have h1 := hq.size
  obtain ⟨hi, he⟩ := List.getElem?_eq_some_iff.1 hE
  refine ⟨⟨_, nD + 1, by omega, hown2, ?_⟩, ?_, ?_, hB⟩
  · have e : objD (ms.take (i + 1)) = (objD (ms.take i)).put (.string (bs s)) d := by
      rw [List.take_succ_eq_append_getElem hi, objD_snoc, he]; rfl
    rw [e]
    refine hsame.put (hown.tidy keyS) (objD_canon _).tidy (bs s) ((hu.mono fun k hk _ => (⟨by omega, by omega⟩ : w.heap.size ≤ k ∧ k ≠ B)).grown hg fun k hk e => by injection e with e; exact hk.2 e) fun v e hv => (hv.kept hq).grown hg fun k hk e => by injection e with e; exact hk.2 e
  · exact (h.below.trans (hq.mono hw)).grown hg (by omega) (fun k hk => by injection hk with hk; omega)
  · rw [hg.block _ (by omega) (by intro e; injection e with e; omega), hq.block _ (by omega)]
    exact h.box
theorem keyOfS {s : ByteArray} (hs : s.size ≤ 140737488351232) : keyOf Try.prog 9 (.string s) = some (.string (bs s)) := Go.WideMaps.keyOf_string_mk Try.underlying9 (by unfold maxLen; omega)

set_option maxHeartbeats 4000000 in
set_option maxRecDepth 100000 in
theorem ofJ (m : Nat) (hM : Mk m) : Mk (m + 1) := by
  intro x cs w hd hw hK
  obtain ⟨h0, h5, hn, hds⟩ := hd.inv
  obtain ⟨w3, ⟨w4, w4'⟩, w5, w5'⟩ := hw.inv
  obtain ⟨A4, c4, A5, c5, hcs, l4, g4, l5, g5⟩ := k25_open hK
  obtain rfl : cs = #[.int .i64 x.f0, .bool x.f1, .int .i64 x.f2, .string x.f3, .slice A4 x.f4.length c4, .slice A5 x.f5.length c5] := by
    apply Array.toList_inj.1; rw [hcs]
  have HM := Lib.hid hM
  have G4 := Lib.hid g4
  have G5 := Lib.hid g5
  have HD := Lib.hid hds
  have HW5 := Lib.hid w5'
  have HW4 := Lib.hid w4'
  have HNL := Lib.hid hn
  clear hcs hK hM g4 g5 hds w5' w4' hd hw hn
  have hcase : x.f0 = 0 ∨ x.f0 = 1 ∨ x.f0 = 2 ∨ x.f0 = 3 ∨ x.f0 = 4 ∨ x.f0 = 5 := by omega
  rcases hcase with hf | hf | hf | hf | hf | hf
  · rw [hf]
    have HF := Lib.hid hf
    clear hf h0 h5
    go_enter Try.func17, Try.ntmps17
    go_wp2_with fail
    go_ret
    exact ⟨_, rfl, .inl ⟨rfl, by rw [toD, HF.out]; rfl⟩, (Below.refl _ _).alloc (Nat.le_refl _) _⟩
  · rw [hf]
    have HF := Lib.hid hf
    clear hf h0 h5
    go_enter Try.func17, Try.ntmps17
    go_wp2_with fail
    go_ret
    exact ⟨_, rfl, .inr (.inl ⟨_, rfl, by rw [toD, HF.out]; rfl⟩), (Below.refl _ _).alloc (Nat.le_refl _) _⟩
  · rw [hf]
    have HF := Lib.hid hf
    clear hf h0 h5
    go_enter Try.func17, Try.ntmps17
    go_wp2_with fail
    go_ret
    exact ⟨_, rfl, .inr (.inr (.inl ⟨_, rfl, by rw [toD, HF.out]; rfl⟩)), (Below.refl _ _).alloc (Nat.le_refl _) _⟩
  · rw [hf]
    have HF := Lib.hid hf
    clear hf h0 h5
    go_enter Try.func17, Try.ntmps17
    go_wp2_with fail
    go_ret
    exact ⟨_, rfl, .inr (.inr (.inr (.inl ⟨_, rfl, by rw [toD, HF.out]; rfl⟩))), (Below.refl _ _).alloc (Nat.le_refl _) _⟩
  · rw [hf]
    have HF := Lib.hid hf
    clear hf h0 h5
    go_enter Try.func17, Try.ntmps17
    go_wp2_with fail
    have hb1 : Below w.heap.size w (w.alloc (.cells #[.int .i64 4, .bool x.f1, .int .i64 x.f2, .string x.f3, .slice A4 x.f4.length c4, .slice A5 x.f5.length c5] 25)) := (Below.refl _ _).alloc (Nat.le_refl _) _
    with_reducible refine (ofJs m HM.out A5 c5 x.f5 _ (Kd.C_below G5.out hb1) l5 w5 HD.out HW5.out).mono ?_
    rintro e w1 ⟨A', c', rfl, hc', hrow, hb2⟩
    have hb3 := hb1.trans (hb2.mono (by simp))
    have HX := Lib.hid (And.intro hrow hb3)
    clear hrow hb1 hb2 hb3
    go_wp2_with fail
    go_ret
    refine ⟨_, rfl, .inr (.inr (.inr (.inr (.inl ⟨A', c', x.f5.map (toD m), by simp, by rw [toD, HF.out]; rfl, by simpa using hc', by simp; omega, HX.out.1.imp (fun a v ho hv => ⟨?_, hv⟩) fun u e h => h.mono fun k hk _ => ?_⟩)))), HX.out.2⟩
    · simp at ho; omega
    · simp at hk; omega
  · rw [hf]
    have HF := Lib.hid hf
    have hlen := HNL.out hf
    clear hf h0 h5
    obtain ⟨ms, hms⟩ : ∃ ms, x.f4.zip (x.f5.map (toD m)) = ms := ⟨_, rfl⟩
    have HMS := Lib.hid hms
    have HLEN := Lib.hid hlen
    clear hms hlen
    have hmm := @run_makeMap Try.prog
    go_enter Try.func17, Try.ntmps17
    go_wp2_with fail
    clear hmm
    go_loopw [35] (fun iv wi => ∃ i : Nat, iv = .int .i64 i ∧ i ≤ x.f5.length ∧ Hid (ObjAt w wi #[.int .i64 5, .bool x.f1, .int .i64 x.f2, .string x.f3, .slice A4 x.f4.length c4, .slice A5 x.f5.length c5] ms m i (w.heap.size + 1))) (fun iv _ => x.f5.length - (intOf iv).toNat)
    case atStart => exact ⟨0, rfl, by omega, Lib.hid (ObjAt.start w _ ms m)⟩
    case round =>
      obtain ⟨i, rfl, hil, HS⟩ := hrel
      by_cases hlt : i < x.f5.length
      · have hd1 : decide ((i : Int) < (x.f5.length : Int)) = true := decide_eq_true (by omega)
        have hd2 : decide ((i : Int) < (x.f4.length : Int)) = true := decide_eq_true (by rw [HLEN.out]; omega)
        have hC := Kd.C_below G5.out HS.out.below
        obtain ⟨ad, A4', c4', A5', c5', rfl, q0, q1, q2, q3, q4, q5, l4', g4', l5', g5'⟩ := at_T25 hC (i : Int) (by omega) (by omega)
        rw [Int.toNat_natCast] at q0 q1 q2 q3 q4 q5
        have hg : rd_T25 x.f5 (i : Int) = x.f5[i] := by
          unfold rd_T25
          rw [Int.toNat_natCast, List.getD_eq_getElem?_getD, List.getElem?_eq_getElem hlt]; rfl
        obtain ⟨g, hgg⟩ : ∃ g, rd_T25 x.f5 (i : Int) = g := ⟨_, rfl⟩
        rw [hgg] at hg q0 q1 q2 q3 q4 q5 l4' g4' l5' g5'
        have HG := Lib.hid hg
        have HDg := Lib.hid (show Dp m g by rw [HG.out]; exact HD.out _ (List.getElem_mem _))
        have HWg := Lib.hid (show wfJ g by rw [HG.out]; exact HW5.out _ (List.getElem_mem _))
        have hi4 : i < x.f4.length := by rw [HLEN.out]; omega
        have HSi := Lib.hid (HW4.out x.f4[i] (List.getElem_mem _))
        obtain ⟨s, hs⟩ : ∃ s, x.f4[i] = s := ⟨_, rfl⟩
        rw [hs] at HSi
        have HE := Lib.hid (show ms[i]? = some (s, toD m g) by
          rw [← HMS.out, List.getElem?_zip_eq_some]
          refine ⟨by rw [List.getElem?_eq_getElem hi4, hs], ?_⟩
          rw [List.getElem?_map, List.getElem?_eq_getElem hlt, HG.out]; rfl)
        have hK0 := k25_mk wr g l4' g4' l5' g5'
        have HK := Lib.hid hK0
        obtain ⟨na, rfl, hna⟩ := G4.out.2.2 (by omega)
        obtain ⟨nc, _, hnk, hncell⟩ := hna i s (by rw [List.getElem?_eq_getElem hi4, hs])
        obtain rfl : nc = [.string s] := hnk
        have qs0 : w.cell? (na.add i) = some (.string s) := by
          have := hncell 0 (.string s) rfl
          simpa [Kd.string, Kd.scalar] using this
        have hnb : na.block < w.heap.size := by have := lt_of_cell qs0; rwa [block_add] at this
        have qs : wr.cell? (na.add i) = some (.string s) := by rw [HS.out.below.cell (by rw [block_add]; exact hnb)]; exact qs0
        have qb4 : wr.cell? ⟨w.heap.size, 4, none⟩ = some (.slice (some na) x.f4.length c4) := by rw [Lib.cell_of_heap HS.out.box]; rfl
        have hi0 : (0 : Int) ≤ (i : Int) := Int.natCast_nonneg _
        have hi1 : (i : Int) < (x.f4.length : Int) := by omega
        have hws := HS.out.below.size
        obtain ⟨D, nD, hnD, hown, hsame⟩ := HS.out.map
        have hwl : w.heap.size + 1 < wr.heap.size := hown.lt
        have hwl0 : w.heap.size < wr.heap.size := by omega
        have hnb2 : na.block < wr.heap.size := by omega
        have HO := Lib.hid (And.intro hown hsame)
        have hnD2 : nD < maxLen := by unfold maxLen; omega
        have HBN := Lib.hid (block_add na i)
        have HND := Lib.hid (And.intro hnD2 hnD)
        have hb1 : Below wr.heap.size wr (wr.alloc (.cells #[.int .i64 g.f0, .bool g.f1, .int .i64 g.f2, .string g.f3, .slice A4' g.f4.length c4', .slice A5' g.f5.length c5'] 25)) := (Below.refl _ _).alloc (Nat.le_refl _) _
        have HB1 := Lib.hid hb1
        clear hg hC l4' g4' l5' g5' hK0 hgg hna hncell qs0 hown hsame hb1 hnD2 hnD hs
        go_wp2_with fail
        go_region_held3 (fun w' => w'.cell? ⟨w.heap.size, 4, none⟩ = some (.slice (some na) x.f4.length c4) ∧ w'.cell? (na.add i) = some (.string s) ∧ w'.cell? ⟨wr.heap.size, 0, none⟩ = some (.int .i64 g.f0) ∧ w'.cell? ⟨wr.heap.size, 1, none⟩ = some (.bool g.f1) ∧ w'.cell? ⟨wr.heap.size, 2, none⟩ = some (.int .i64 g.f2) ∧ w'.cell? ⟨wr.heap.size, 3, none⟩ = some (.string g.f3) ∧ w'.cell? ⟨wr.heap.size, 4, none⟩ = some (.slice A4' g.f4.length c4') ∧ w'.cell? ⟨wr.heap.size, 5, none⟩ = some (.slice A5' g.f5.length c5')) (first
          | go_keep
          | (go_split_ands
             first
               | (refine ⟨?_, ?_, ?_, ?_, ?_, ?_, ?_, ?_⟩ <;> (rw [hb2.cell (by first | (simp; done) | (simp; omega) | (simp [HBN.out]; omega))]; go_keep))
               | (refine ⟨?_, ?_, ?_, ?_, ?_, ?_, ?_, ?_⟩ <;> (rw [hgrow.cell_far _ (by have := hb2.size; simp at this; first | omega | (simp; omega) | (simp [HBN.out]; omega)) (by first | (simp; done) | (simp; omega) | (simp [HBN.out]; omega))]; assumption))))
          ((first
            | (go_at_call 17; refine (HM.out.call g #[.int .i64 g.f0, .bool g.f1, .int .i64 g.f2, .string g.f3, .slice A4' g.f4.length c4', .slice A5' g.f5.length c5'] _ HDg.out HWg.out (kJ.K_below (by first | exact HB1.out | exact HB1.out.drew | exact pw_below_drewN HB1.out _) HK.out)).mono ?_; rintro e w1 ⟨u, rfl, hrep, hb2⟩; have hq : Below wr.heap.size wr w1 := (by first | exact HB1.out.trans (hb2.mono (by simp)) | exact HB1.out.drew.trans (hb2.mono (by simp))); obtain ⟨w2, hrun, hown2, hgrow⟩ := (own_below HO.out.1 hq).update keyS Try.underlying44 HND.out.1 (keyOfS HSi.out) (val := u) (d := .held u) (ps := []) rfl)
            | fail))
        have HN := Lib.hid (HS.out.next HE.out hq (by simp) hrep HND.out.2 HO.out.1 HO.out.2 hown2 hgrow)
        clear hq hrep hown2 hgrow hb2 hrun
        go_wp2_with fail
        go_roundw
        case rel => exact ⟨i + 1, by go_num, by omega, HN⟩
        case measure => simp [intOf]; omega
      · obtain rfl : i = x.f5.length := by omega
        have hd1 : decide ((x.f5.length : Int) < (x.f5.length : Int)) = false := by simp
        clear hlt
        have hml : ms.length = x.f5.length := by rw [← HMS.out]; simp [HLEN.out]
        obtain ⟨D, nD, hnD, hown, hsame⟩ := HS.out.map
        rw [List.take_of_length_le (by omega)] at hsame
        have HO := Lib.hid (And.intro hown (And.intro hsame HS.out.below))
        clear hown hsame hml
        go_wp2_with fail
        go_ret
        refine ⟨_, rfl, .inr (.inr (.inr (.inr (.inr ⟨_, D, rfl, ?_, by omega, ⟨nD, by omega, HO.out.1⟩, ?_⟩)))), HO.out.2.2⟩
        · rw [toD, HF.out, ← HMS.out] at *; exact objD_canon _
        · have e : toD (m + 1) x = objD ms := by rw [toD, HF.out, ← HMS.out]; rfl
          rw [e]
          exact HO.out.2.1.imp fun u e h => h.mono fun k hk _ => hk.1
theorem mk : ∀ m, Mk m
  | 0 => fun x cs w hd => by obtain ⟨m, e⟩ := hd.pos; omega
  | m + 1 => ofJ m (mk m)
end Go.Proofs.Ytdleegmdpgefmaa.J
