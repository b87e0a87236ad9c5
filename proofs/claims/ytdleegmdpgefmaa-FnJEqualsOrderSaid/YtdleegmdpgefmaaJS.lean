/- impl.JEquals; laws.jCountless. -/
import Derived.Test.YtdleegmdpgefmaaJR
import Derived.Test.YtdleegmdpgefmaaPJx
namespace Go.Proofs.Ytdleegmdpgefmaa.J
open Go.RowKit Go.Proofs.YtdleegmdpgefmaaW.PrintWords Go.Proofs.YtdleegmdpgefmaaW.PrintLast Go.Proofs.YtdleegmdpgefmaaW.PrintMore Go.Proofs.Ytdleegmdpgefmaa.PJ Go.Proofs.Ytdleegmdpgefmaa.K Go.Maps
set_option linter.unusedVariables false
set_option linter.unusedSimpArgs false

theorem jopen {w : World} {x : JV} {cs : Array Value} (hK : kJ.K w x cs.toList) : ∃ A4 c4 A5 c5, cs = #[.int .i64 x.f0, .bool x.f1, .int .i64 x.f2, .string x.f3, .slice A4 x.f4.length c4, .slice A5 x.f5.length c5] := by
  obtain ⟨A4, c4, A5, c5, hcs, l4, g4, l5, g5⟩ := k25_open hK
  exact ⟨A4, c4, A5, c5, by apply Array.toList_inj.1; rw [hcs]⟩
set_option maxHeartbeats 4000000 in
set_option maxRecDepth 100000 in
theorem implEq {n m : Nat} (a b : JV) (ca cb : Array Value) (w : World) (hda : Dp n a) (hdb : Dp m b) (hn : NoNum (toD n a)) (hwa : wfJ a) (hwb : wfJ b) (hKa : kJ.K w a ca.toList) (hKb : kJ.K w b cb.toList) (r : Bool) (hr : eqB (toD n a) (toD m b) = r) :
    Calls Try.prog 8 #[.agg ca, .agg cb] w fun e w' => e = .returned (.bool r) ∧ Below w.heap.size w w' := by
  obtain ⟨A4, c4, A5, c5, rfl⟩ := jopen hKa
  obtain ⟨B4, d4, B5, d5, rfl⟩ := jopen hKb
  have hb1 : Below w.heap.size w ((w.alloc (.cells #[.int .i64 a.f0, .bool a.f1, .int .i64 a.f2, .string a.f3, .slice A4 a.f4.length c4, .slice A5 a.f5.length c5] 25)).alloc (.cells #[.int .i64 b.f0, .bool b.f1, .int .i64 b.f2, .string b.f3, .slice B4 b.f4.length d4, .slice B5 b.f5.length d5] 25)) := ((Below.refl _ _).alloc (Nat.le_refl _) _).alloc (by simp) _
  have HKA := Lib.hid hKa
  have HKB := Lib.hid hKb
  have HB := Lib.hid hb1
  have HWA := Lib.hid hwa
  have HWB := Lib.hid hwb
  have HDA := Lib.hid hda
  have HDB := Lib.hid hdb
  have HN := Lib.hid hn
  have HR := Lib.hid hr
  clear hKa hKb hb1 hwa hwb hda hdb hn hr
  go_enter Try.func8, Try.ntmps8
  go_wp2_with fail
  obtain ⟨W0, hW0⟩ : ∃ W0, (w.alloc (.cells #[.int .i64 a.f0, .bool a.f1, .int .i64 a.f2, .string a.f3, .slice A4 a.f4.length c4, .slice A5 a.f5.length c5] 25)).alloc (.cells #[.int .i64 b.f0, .bool b.f1, .int .i64 b.f2, .string b.f3, .slice B4 b.f4.length d4, .slice B5 b.f5.length d5] 25) = W0 := ⟨_, rfl⟩
  have hz : W0.heap.size = w.heap.size + 2 := by rw [← hW0]; simp
  have h0 : W0.heap[w.heap.size]? = some (.cells #[.int .i64 a.f0, .bool a.f1, .int .i64 a.f2, .string a.f3, .slice A4 a.f4.length c4, .slice A5 a.f5.length c5] 25 (0, 0)) := by rw [← hW0, Below.heap_alloc _ _ _ (by simp)]; exact heap_alloc_new w _
  have h1 : W0.heap[w.heap.size + 1]? = some (.cells #[.int .i64 b.f0, .bool b.f1, .int .i64 b.f2, .string b.f3, .slice B4 b.f4.length d4, .slice B5 b.f5.length d5] 25 (0, 0)) := by
    have := heap_alloc_new (w.alloc (.cells #[.int .i64 a.f0, .bool a.f1, .int .i64 a.f2, .string a.f3, .slice A4 a.f4.length c4, .slice A5 a.f5.length c5] 25)) (.cells #[.int .i64 b.f0, .bool b.f1, .int .i64 b.f2, .string b.f3, .slice B4 b.f4.length d4, .slice B5 b.f5.length d5] 25)
    rw [World.size_alloc] at this
    rw [← hW0]; exact this
  rw [hW0]
  rw [hW0] at HB
  have p0 : W0.cell? ⟨w.heap.size, 0, none⟩ = some (.int .i64 a.f0) := by rw [Lib.cell_of_heap h0]; rfl
  have p1 : W0.cell? ⟨w.heap.size, 1, none⟩ = some (.bool a.f1) := by rw [Lib.cell_of_heap h0]; rfl
  have p2 : W0.cell? ⟨w.heap.size, 2, none⟩ = some (.int .i64 a.f2) := by rw [Lib.cell_of_heap h0]; rfl
  have p3 : W0.cell? ⟨w.heap.size, 3, none⟩ = some (.string a.f3) := by rw [Lib.cell_of_heap h0]; rfl
  have p4 : W0.cell? ⟨w.heap.size, 4, none⟩ = some (.slice A4 a.f4.length c4) := by rw [Lib.cell_of_heap h0]; rfl
  have p5 : W0.cell? ⟨w.heap.size, 5, none⟩ = some (.slice A5 a.f5.length c5) := by rw [Lib.cell_of_heap h0]; rfl
  have q0 : W0.cell? ⟨w.heap.size + 1, 0, none⟩ = some (.int .i64 b.f0) := by rw [Lib.cell_of_heap h1]; rfl
  have q1 : W0.cell? ⟨w.heap.size + 1, 1, none⟩ = some (.bool b.f1) := by rw [Lib.cell_of_heap h1]; rfl
  have q2 : W0.cell? ⟨w.heap.size + 1, 2, none⟩ = some (.int .i64 b.f2) := by rw [Lib.cell_of_heap h1]; rfl
  have q3 : W0.cell? ⟨w.heap.size + 1, 3, none⟩ = some (.string b.f3) := by rw [Lib.cell_of_heap h1]; rfl
  have q4 : W0.cell? ⟨w.heap.size + 1, 4, none⟩ = some (.slice B4 b.f4.length d4) := by rw [Lib.cell_of_heap h1]; rfl
  have q5 : W0.cell? ⟨w.heap.size + 1, 5, none⟩ = some (.slice B5 b.f5.length d5) := by rw [Lib.cell_of_heap h1]; rfl
  have HBW : Hid (Below W0.heap.size W0 W0) := Lib.hid (Below.refl _ _)
  have hlt0 : w.heap.size < W0.heap.size := by omega
  have hlt1 : w.heap.size + 1 < W0.heap.size := by omega
  have HZ := Lib.hid hz
  clear h0 h1 hz hW0
  go_region_held3 (fun w' => w'.cell? ⟨w.heap.size, 0, none⟩ = some (.int .i64 a.f0) ∧ w'.cell? ⟨w.heap.size, 1, none⟩ = some (.bool a.f1) ∧ w'.cell? ⟨w.heap.size, 2, none⟩ = some (.int .i64 a.f2) ∧ w'.cell? ⟨w.heap.size, 3, none⟩ = some (.string a.f3) ∧ w'.cell? ⟨w.heap.size, 4, none⟩ = some (.slice A4 a.f4.length c4) ∧ w'.cell? ⟨w.heap.size, 5, none⟩ = some (.slice A5 a.f5.length c5) ∧ w'.cell? ⟨w.heap.size + 1, 0, none⟩ = some (.int .i64 b.f0) ∧ w'.cell? ⟨w.heap.size + 1, 1, none⟩ = some (.bool b.f1) ∧ w'.cell? ⟨w.heap.size + 1, 2, none⟩ = some (.int .i64 b.f2) ∧ w'.cell? ⟨w.heap.size + 1, 3, none⟩ = some (.string b.f3) ∧ w'.cell? ⟨w.heap.size + 1, 4, none⟩ = some (.slice B4 b.f4.length d4) ∧ w'.cell? ⟨w.heap.size + 1, 5, none⟩ = some (.slice B5 b.f5.length d5))
    (first
      | go_keep
      | (first | exact ⟨(hb2.cell (p := ⟨w.heap.size, 0, none⟩) hlt0).trans p0, (hb2.cell (p := ⟨w.heap.size, 1, none⟩) hlt0).trans p1, (hb2.cell (p := ⟨w.heap.size, 2, none⟩) hlt0).trans p2, (hb2.cell (p := ⟨w.heap.size, 3, none⟩) hlt0).trans p3, (hb2.cell (p := ⟨w.heap.size, 4, none⟩) hlt0).trans p4, (hb2.cell (p := ⟨w.heap.size, 5, none⟩) hlt0).trans p5, (hb2.cell (p := ⟨w.heap.size + 1, 0, none⟩) hlt1).trans q0, (hb2.cell (p := ⟨w.heap.size + 1, 1, none⟩) hlt1).trans q1, (hb2.cell (p := ⟨w.heap.size + 1, 2, none⟩) hlt1).trans q2, (hb2.cell (p := ⟨w.heap.size + 1, 3, none⟩) hlt1).trans q3, (hb2.cell (p := ⟨w.heap.size + 1, 4, none⟩) hlt1).trans q4, (hb2.cell (p := ⟨w.heap.size + 1, 5, none⟩) hlt1).trans q5⟩ | exact ⟨(hb1.cell (p := ⟨w.heap.size, 0, none⟩) hlt0).trans p0, (hb1.cell (p := ⟨w.heap.size, 1, none⟩) hlt0).trans p1, (hb1.cell (p := ⟨w.heap.size, 2, none⟩) hlt0).trans p2, (hb1.cell (p := ⟨w.heap.size, 3, none⟩) hlt0).trans p3, (hb1.cell (p := ⟨w.heap.size, 4, none⟩) hlt0).trans p4, (hb1.cell (p := ⟨w.heap.size, 5, none⟩) hlt0).trans p5, (hb1.cell (p := ⟨w.heap.size + 1, 0, none⟩) hlt1).trans q0, (hb1.cell (p := ⟨w.heap.size + 1, 1, none⟩) hlt1).trans q1, (hb1.cell (p := ⟨w.heap.size + 1, 2, none⟩) hlt1).trans q2, (hb1.cell (p := ⟨w.heap.size + 1, 3, none⟩) hlt1).trans q3, (hb1.cell (p := ⟨w.heap.size + 1, 4, none⟩) hlt1).trans q4, (hb1.cell (p := ⟨w.heap.size + 1, 5, none⟩) hlt1).trans q5⟩))
    ((first
      | (go_at_call 16; refine (equalsD (HR1.out.kept (by first | exact hb23 | exact hb23.drew | exact pw_below_drewN hb23 _)) HN.out (HR2.out.kept (by first | exact Below.refl _ _ | exact (Below.refl _ _).drew | exact pw_below_drewN (Below.refl _ _) _))).mono ?_; rw [HR.out]; rintro e w3 ⟨rfl, hbl3⟩; have hb2 : Below W0.heap.size W0 w3 := (by first | exact hb2.trans (hbl3.mono hb2.size) | exact hb2.drew.trans (hbl3.mono hb2.size) | exact (pw_below_drewN hb2 _).trans (hbl3.mono hb2.size)))
      | (have hb1 := hb1; go_at_call 17; refine ((mk m).call b #[.int .i64 b.f0, .bool b.f1, .int .i64 b.f2, .string b.f3, .slice B4 b.f4.length d4, .slice B5 b.f5.length d5] _ HDB.out HWB.out (kJ.K_below (HB.out.trans ((by first | exact hb1 | exact hb1.drew | exact pw_below_drewN hb1 _ : Below W0.heap.size W0 _).mono HB.out.size)) HKB.out)).mono ?_; rintro e w2 ⟨u2, rfl, hr2, hbl2⟩; have hb2 : Below W0.heap.size W0 w2 := (by first | exact hb1.trans (hbl2.mono hb1.size) | exact hb1.drew.trans (hbl2.mono hb1.size) | exact (pw_below_drewN hb1 _).trans (hbl2.mono hb1.size)); have hb23 : Below w1.heap.size w1 w2 := (by first | exact hbl2 | exact (Below.refl _ _).drew.trans hbl2 | exact (pw_below_drewN (Below.refl _ _) _).trans hbl2); have HR2 := Lib.hid hr2; clear hr2)
      | (go_at_call 17; refine ((mk n).call a #[.int .i64 a.f0, .bool a.f1, .int .i64 a.f2, .string a.f3, .slice A4 a.f4.length c4, .slice A5 a.f5.length c5] _ HDA.out HWA.out (kJ.K_below (HB.out.trans ((by first | exact Below.refl _ _ | exact (Below.refl _ _).drew | exact pw_below_drewN (Below.refl _ _) _ : Below W0.heap.size W0 _).mono HB.out.size)) HKA.out)).mono ?_; rintro e w1 ⟨u1, rfl, hr1, hbl1⟩; have hb1 : Below W0.heap.size W0 w1 := (by first | exact hbl1 | exact (Below.refl _ _).drew.trans hbl1 | exact (pw_below_drewN (Below.refl _ _) _).trans hbl1); have HR1 := Lib.hid hr1; clear hr1)
      | fail))
  have HF := Lib.hid (HB.out.trans (hb2.mono HB.out.size))
  clear hbl1 hbl2 hbl3 hb23 hb2
  go_wp2_with fail
  go_ret
  first
    | exact ⟨rfl, HF.out⟩
    | exact ⟨rfl, HF.out.drew⟩
    | exact ⟨rfl, pw_below_drewN HF.out _⟩

/-! ### laws.jCountless -/
theorem rdJ (l : List JV) (i : Nat) (hi : i < l.length) : rd_T25 l (i : Int) = l[i] := by
  unfold rd_T25
  rw [Int.toNat_natCast, List.getD_eq_getElem?_getD, List.getElem?_eq_getElem hi]; rfl
theorem fold_noNum : ∀ (ms : List (ByteArray × D0)) (D : D0), CanonS D → (∀ k, Maps.has D k = true → NoNum (D.atKey k .nil)) → (∀ p ∈ ms, NoNum p.2) → ∀ k, Maps.has (ms.foldl putM D) k = true → NoNum ((ms.foldl putM D).atKey k .nil)
  | [], _, _, h, _ => h
  | p :: ms, D, hc, h, hm => by
    refine fold_noNum ms (putM D p) (hc.put _ _) (fun k hk => ?_) (fun q hq => hm q (by simp [hq]))
    unfold putM at hk ⊢
    by_cases e : k = .string (bs p.1)
    · subst e
      rw [atKey_put_same hc.isMap (key_lit _)]
      exact hm p (by simp)
    · rw [has_put_other e] at hk
      rw [atKey_put_other e]
      exact h k hk
theorem noNum_obj (ms : List (ByteArray × D0)) (h : ∀ p ∈ ms, NoNum p.2) : NoNum (objD ms) := by
  have hf := fold_noNum ms (.map []) canonS_empty (fun k hk => by cases hk) h
  obtain ⟨es, e, _⟩ := objD_canon ms
  have e' : ms.foldl putM (.map []) = .map es := e
  rw [e'] at hf
  rw [e]
  exact NoNum.map es hf
theorem countsE : ∀ (n : Nat) (x : JV), Dp n x → wfJ x → ∃ b, Ev (fun k => spec_JCounts.f k x.f0 x.f1 x.f2 x.f3 x.f4 x.f5) b ∧ (b = true → NoNum (toD n x))
  | 0, x, hd, _ => by obtain ⟨m, e⟩ := hd.pos; omega
  | n + 1, x, hd, hw => by
    obtain ⟨h0, h5, hn, hds⟩ := hd.inv
    have hl : x.f5.length ≤ 140737488351232 := by have := hw.inv.2.2.1; omega
    by_cases h2 : x.f0 = 2
    · refine ⟨false, ev_succ 0 fun k hk => ?_, fun h => by cases h⟩
      simp only [spec_JCounts.f]
      rw [if_pos h2]
    · have loop : ∀ (d i : Nat), i ≤ x.f5.length → x.f5.length - i = d → ∃ b, Ev (fun k => spec_JCounts.l0 k (i : Int) x.f0 x.f1 x.f2 x.f3 x.f4 x.f5) b ∧ (b = true → ∀ j, (h : j < x.f5.length) → i ≤ j → NoNum (toD n x.f5[j])) := by
        intro d
        induction d with
        | zero =>
          intro i hi hd
          refine ⟨true, ev_succ 0 fun k hk => ?_, fun _ j h hj => by omega⟩
          simp only [spec_JCounts.l0]
          rw [if_neg (by omega)]
        | succ d ih =>
          intro i hi hd
          have hlt : i < x.f5.length := by omega
          have e1 : wrap64 ((i : Int) + 1) = ((i + 1 : Nat) : Int) := by rw [wrap_in (by omega) (by omega)]; omega
          obtain ⟨b1, ⟨K1, hK1⟩, hb1⟩ := countsE n x.f5[i] (hds _ (List.getElem_mem _)) (hw.inv.2.2.2 _ (List.getElem_mem _))
          cases b1 with
          | false =>
            refine ⟨false, ev_succ K1 fun k hk => ?_, fun h => by cases h⟩
            simp only [spec_JCounts.l0, rdJ _ _ hlt]
            rw [if_pos (by omega), if_pos (by omega), show spec_JCounts.f k x.f5[i].f0 x.f5[i].f1 x.f5[i].f2 x.f5[i].f3 x.f5[i].f4 x.f5[i].f5 = some false from hK1 k hk]
            rfl
          | true =>
            obtain ⟨b2, ⟨K2, hK2⟩, hb2⟩ := ih (i + 1) (by omega) (by omega)
            refine ⟨b2, ev_succ (max K1 K2) fun k hk => ?_, fun h j hj hij => ?_⟩
            · simp only [spec_JCounts.l0, rdJ _ _ hlt, e1]
              rw [if_pos (by omega), if_pos (by omega), show spec_JCounts.f k x.f5[i].f0 x.f5[i].f1 x.f5[i].f2 x.f5[i].f3 x.f5[i].f4 x.f5[i].f5 = some true from hK1 k (by omega)]
              simp only [Option.bind_some, if_true]
              exact hK2 k (by omega)
            · by_cases e : j = i
              · subst e; exact hb1 rfl
              · exact hb2 h j hj (by omega)
      obtain ⟨b, ⟨K, hK⟩, hb⟩ := loop x.f5.length 0 (by omega) rfl
      refine ⟨b, ev_succ K fun k hk => ?_, fun h => ?_⟩
      · simp only [spec_JCounts.f]
        rw [if_neg h2]
        exact hK k hk
      · have hall : ∀ e ∈ x.f5.map (toD n), NoNum e := fun e he => by
          obtain ⟨y, hy, rfl⟩ := List.mem_map.1 he
          obtain ⟨j, hj, rfl⟩ := List.getElem_of_mem hy
          exact hb h j hj (by omega)
        rw [toD]
        repeat' split
        · exact NoNum.bool _
        · exact NoNum.str _
        · exact NoNum.slice _ _ hall
        · exact noNum_obj _ fun p hp => hall _ (List.of_mem_zip hp).2
        · exact NoNum.nil
/-- What JCounts tells of a value. -/
def CountC (x : JV) (b : Bool) : Prop := ∀ (cs : Array Value) (w : World), kJ.K w x cs.toList → Calls Try.prog 15 #[.agg cs] w fun e w' => e = .returned (.bool b) ∧ Below w.heap.size w w'
theorem CountC.at_ {x : JV} {b : Bool} (h : CountC x b) (cs : Array Value) (w : World) (hK : kJ.K w x cs.toList) : Calls Try.prog 15 #[.agg cs] w fun e w' => e = .returned (.bool b) ∧ Below w.heap.size w w' := h cs w hK
theorem counts (x : JV) (hd : Dp 1000 x) (hw : wfJ x) : ∃ b, (b = true → NoNum (toD 1000 x)) ∧ CountC x b := by
  obtain ⟨b, ⟨K, hK⟩, hb⟩ := countsE 1000 x hd hw
  refine ⟨b, hb, fun cs w h => ?_⟩
  obtain ⟨A4, c4, A5, c5, hcs, l4, g4, l5, g5⟩ := k25_open h
  obtain rfl : cs = #[.int .i64 x.f0, .bool x.f1, .int .i64 x.f2, .string x.f3, .slice A4 x.f4.length c4, .slice A5 x.f5.length c5] := by apply Array.toList_inj.1; rw [hcs]
  exact spec_JCounts.calls K x.f0 x.f1 x.f2 x.f3 A4 c4 x.f4 A5 c5 x.f5 b w g4 l4 g5 l5 (hK K (Nat.le_refl _))
theorem choice2 {α β : Type} [Inhabited β] {R : α → β → Prop} (l : List α) (h : ∀ y ∈ l, ∃ b, R y b) : ∃ f : Nat → β, ∀ i, (hi : i < l.length) → R l[i] (f i) := by
  classical
  have h' : ∀ i, (hi : i < l.length) → ∃ b, R l[i] b := fun i hi => h _ (List.getElem_mem _)
  exact ⟨fun i => if hi : i < l.length then (h' i hi).choose else default, fun i hi => by simp only [dif_pos hi]; exact (h' i hi).choose_spec⟩
/-- What jCountless tells of values. -/
def CountLC (l : List JV) (b : Bool) : Prop := ∀ (A : Option Addr) (c : Nat) (w : World), kJ.C w A l.length l → l.length ≤ c → Calls Try.prog 6 #[.slice A l.length c] w fun e w' => e = .returned (.bool b) ∧ Below w.heap.size w w'
theorem CountLC.at_ {l : List JV} {b : Bool} (h : CountLC l b) (A : Option Addr) (c : Nat) (w : World) (hC : kJ.C w A l.length l) (hc : l.length ≤ c) : Calls Try.prog 6 #[.slice A l.length c] w fun e w' => e = .returned (.bool b) ∧ Below w.heap.size w w' := h A c w hC hc
set_option maxHeartbeats 4000000 in
theorem countL (l : List JV) (hl : l.length ≤ 140737488351232) (hw : ∀ y ∈ l, wfJ y) : ∃ b, (b = true → ∀ y ∈ l, Dp 1000 y ∧ NoNum (toD 1000 y)) ∧ CountLC l b := by
  classical
  obtain ⟨f, hf⟩ := choice2 (R := fun (y : JV) (b : Bool × Bool) => PropC y b.1 ∧ (b.1 = true → Dp 1000 y ∧ CountC y b.2 ∧ (b.2 = true → NoNum (toD 1000 y)))) l fun y hy => by
    obtain ⟨b1, hd, hP⟩ := proper y (hw y hy)
    cases b1 with
    | false => exact ⟨(false, false), hP, fun h => by cases h⟩
    | true =>
      obtain ⟨b2, hn, hC⟩ := counts y (hd rfl) (hw y hy)
      exact ⟨(true, b2), hP, fun _ => ⟨hd rfl, hC, hn⟩⟩
  obtain ⟨bo, hbo⟩ : ∃ bo : Bool, bo = true ↔ ∀ i, i < l.length → (f i).1 = true ∧ (f i).2 = true := ⟨decide (∀ i, i < l.length → (f i).1 = true ∧ (f i).2 = true), decide_eq_true_iff⟩
  refine ⟨bo, fun hb y hy => ?_, fun A c w hr hc => ?_⟩
  · obtain ⟨j, hj, rfl⟩ := List.getElem_of_mem hy
    obtain ⟨k1, k2⟩ := hbo.1 hb j hj
    obtain ⟨_, h2⟩ := hf j hj
    exact ⟨(h2 k1).1, (h2 k1).2.2 k2⟩
  have HR := Lib.hid hr
  have HF := Lib.hid hf
  have HBO := Lib.hid hbo
  clear hr hw hf hbo
  go_enter Try.func6, Try.ntmps6
  go_wp2_with fail
  go_loopw [3] (fun iv wi => ∃ i : Nat, iv = .int .i64 i ∧ i ≤ l.length ∧ Hid (Below w.heap.size w wi ∧ ∀ j, j < i → (f j).1 = true ∧ (f j).2 = true)) (fun iv _ => l.length - (intOf iv).toNat)
  case atStart => exact ⟨0, rfl, by omega, Lib.hid ⟨Below.refl _ _, fun j h => by omega⟩⟩
  case round =>
    obtain ⟨i, rfl, hil, HS⟩ := hrel
    by_cases hlt : i < l.length
    · have hd1 : decide ((i : Int) < (l.length : Int)) = true := decide_eq_true (by omega)
      have hC := Kd.C_below HR.out HS.out.1
      obtain ⟨ad, A4, c4, A5, c5, rfl, q0, q1, q2, q3, q4, q5, l4, g4, l5, g5⟩ := at_T25 hC (i : Int) (by omega) (by omega)
      rw [Int.toNat_natCast] at q0 q1 q2 q3 q4 q5
      have hg := rdJ l i hlt
      obtain ⟨g, hgg⟩ : ∃ g, rd_T25 l (i : Int) = g := ⟨_, rfl⟩
      rw [hgg] at hg q0 q1 q2 q3 q4 q5 l4 g4 l5 g5
      obtain ⟨C1, C2⟩ := HF.out i hlt
      obtain ⟨b, hb⟩ : ∃ b, f i = b := ⟨_, rfl⟩
      rw [hb, ← hg] at C1 C2
      have HC1 := Lib.hid C1
      have HC2 := Lib.hid C2
      have HBB := Lib.hid hb
      have HK := Lib.hid (k25_mk wr g l4 g4 l5 g5)
      have hi0 : (0 : Int) ≤ (i : Int) := Int.natCast_nonneg _
      have hi1 : (i : Int) < (l.length : Int) := by omega
      have hltb : (ad.add (i * 6)).block < wr.heap.size := lt_of_cell q0
      have HLT := Lib.hid hltb
      clear hg hC l4 g4 l5 g5 hgg C1 C2 hb hltb
      obtain ⟨b1, b2⟩ := b
      cases b1
      · go_wp2_with fail
        with_reducible refine (HC1.out.at_ #[.int .i64 g.f0, .bool g.f1, .int .i64 g.f2, .string g.f3, .slice A4 g.f4.length c4, .slice A5 g.f5.length c5] _ HK.out).mono ?_
        rintro e w1 ⟨rfl, hbl⟩
        have HB := Lib.hid (HS.out.1.trans (hbl.mono HS.out.1.size))
        clear hbl
        go_wp2_with fail
        go_ret
        cases bo
        · exact ⟨rfl, HB.out⟩
        · have := (HBO.out.1 rfl i hlt).1
          rw [HBB.out] at this; cases this
      · go_wp2_with fail
        with_reducible refine (HC1.out.at_ #[.int .i64 g.f0, .bool g.f1, .int .i64 g.f2, .string g.f3, .slice A4 g.f4.length c4, .slice A5 g.f5.length c5] _ HK.out).mono ?_
        rintro e w1 ⟨rfl, hbl⟩
        have HB := Lib.hid (HS.out.1.trans (hbl.mono HS.out.1.size))
        have HK1 := Lib.hid (kJ.K_below hbl HK.out)
        have z0 := (hbl.cell (p := ad.add (i * 6)) HLT.out).trans q0
        have z1 := (hbl.cell (p := ⟨(ad.add (i * 6)).block, (ad.add (i * 6)).off + 1, none⟩) HLT.out).trans q1
        have z2 := (hbl.cell (p := ⟨(ad.add (i * 6)).block, (ad.add (i * 6)).off + 2, none⟩) HLT.out).trans q2
        have z3 := (hbl.cell (p := ⟨(ad.add (i * 6)).block, (ad.add (i * 6)).off + 3, none⟩) HLT.out).trans q3
        have z4 := (hbl.cell (p := ⟨(ad.add (i * 6)).block, (ad.add (i * 6)).off + 4, none⟩) HLT.out).trans q4
        have z5 := (hbl.cell (p := ⟨(ad.add (i * 6)).block, (ad.add (i * 6)).off + 5, none⟩) HLT.out).trans q5
        clear hbl q0 q1 q2 q3 q4 q5
        have HCC := Lib.hid (HC2.out (by simp)).2.1
        cases b2
        · go_wp2_with fail
          with_reducible refine (HCC.out.at_ #[.int .i64 g.f0, .bool g.f1, .int .i64 g.f2, .string g.f3, .slice A4 g.f4.length c4, .slice A5 g.f5.length c5] _ HK1.out).mono ?_
          rintro e w2 ⟨rfl, hbl⟩
          have HB2 := Lib.hid (HB.out.trans (hbl.mono HB.out.size))
          clear hbl
          go_wp2_with fail
          go_ret
          cases bo
          · exact ⟨rfl, HB2.out⟩
          · have := (HBO.out.1 rfl i hlt).2
            rw [HBB.out] at this; cases this
        · go_wp2_with fail
          with_reducible refine (HCC.out.at_ #[.int .i64 g.f0, .bool g.f1, .int .i64 g.f2, .string g.f3, .slice A4 g.f4.length c4, .slice A5 g.f5.length c5] _ HK1.out).mono ?_
          rintro e w2 ⟨rfl, hbl⟩
          have HB2 := Lib.hid (HB.out.trans (hbl.mono HB.out.size))
          clear hbl
          go_wp2_with fail
          go_roundw
          case rel => exact ⟨i + 1, by go_num, by omega, Lib.hid ⟨HB2.out, fun j h => by
            by_cases e : j = i
            · rw [e, HBB.out]; exact ⟨rfl, rfl⟩
            · exact HS.out.2 j (by omega)⟩⟩
          case measure => simp [intOf]; omega
    · obtain rfl : i = l.length := by omega
      have hd1 : decide ((l.length : Int) < (l.length : Int)) = false := by simp
      clear hlt
      go_wp2_with fail
      go_ret
      obtain rfl : bo = true := HBO.out.2 HS.out.2
      exact ⟨rfl, HS.out.1⟩
end Go.Proofs.Ytdleegmdpgefmaa.J
