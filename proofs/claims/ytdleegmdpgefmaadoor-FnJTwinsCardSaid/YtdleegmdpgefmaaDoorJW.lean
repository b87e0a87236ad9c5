/- spec.JEquals and spec.jWithin: what they tell of values without numbers. -/
import Derived.Test.YtdleegmdpgefmaaDoorJV
import Derived.Test.YtdleegmdpgefmaaDoorJQ
import Derived.Test.YtdleegmdpgefmaaDoorJS
namespace Go.Proofs.YtdleegmdpgefmaaDoor.J
open Go.RowKit Go.Proofs.YtdleegmdpgefmaaDoorW.PrintWords Go.Proofs.YtdleegmdpgefmaaDoorW.PrintLast Go.Proofs.YtdleegmdpgefmaaDoorW.PrintMore Go.Proofs.YtdleegmdpgefmaaDoor.PJ Go.Proofs.YtdleegmdpgefmaaDoor.K Go.Maps
set_option linter.unusedVariables false
set_option linter.unusedSimpArgs false

/-- What JEquals tells of two values. -/
def JeC (x y : JV) (b : Bool) : Prop := ∀ (ca cb : Array Value) (w : World), kJ.K w x ca.toList → kJ.K w y cb.toList → Calls Tryd.prog 9 #[.agg ca, .agg cb] w fun e w' => e = .returned (.bool b) ∧ Below w.heap.size w w'
theorem JeC.at_ {x y : JV} {b : Bool} (h : JeC x y b) (ca cb : Array Value) (w : World) (h1 : kJ.K w x ca.toList) (h2 : kJ.K w y cb.toList) : Calls Tryd.prog 9 #[.agg ca, .agg cb] w fun e w' => e = .returned (.bool b) ∧ Below w.heap.size w w' := h ca cb w h1 h2
/-- What jWithin tells of two values. -/
def JwC (x y : JV) (b : Bool) : Prop := ∀ (ca cb : Array Value) (w : World), kJ.K w x ca.toList → kJ.K w y cb.toList → Calls Tryd.prog 22 #[.agg ca, .agg cb] w fun e w' => e = .returned (.bool b) ∧ Below w.heap.size w w'
theorem JwC.at_ {x y : JV} {b : Bool} (h : JwC x y b) (ca cb : Array Value) (w : World) (h1 : kJ.K w x ca.toList) (h2 : kJ.K w y cb.toList) : Calls Tryd.prog 22 #[.agg ca, .agg cb] w fun e w' => e = .returned (.bool b) ∧ Below w.heap.size w w' := h ca cb w h1 h2
/-- The boxes of both arguments stand; nothing elder has turned. -/
structure Q2 (w wi : World) (ca cb : Array Value) : Prop where
  below : Below w.heap.size w wi
  b0 : wi.heap[w.heap.size]? = some (.cells ca 25 (0, 0))
  b1 : wi.heap[w.heap.size + 1]? = some (.cells cb 25 (0, 0))
theorem Q2.start (w : World) (ca cb : Array Value) : Q2 w ((w.alloc (.cells ca 25)).alloc (.cells cb 25)) ca cb := by
  refine ⟨((Below.refl _ _).alloc (Nat.le_refl _) _).alloc (by simp) _, ?_, ?_⟩
  · rw [Below.heap_alloc _ _ _ (by simp)]; exact heap_alloc_new w _
  · have := heap_alloc_new (w.alloc (.cells ca 25)) (.cells cb 25)
    rw [World.size_alloc] at this
    exact this
theorem Q2.lt {w wi : World} {ca cb : Array Value} (h : Q2 w wi ca cb) : w.heap.size + 1 < wi.heap.size := by
  rcases Nat.lt_or_ge (w.heap.size + 1) wi.heap.size with h' | h'
  · exact h'
  · have := h.b1; rw [Array.getElem?_eq_none h'] at this; cases this
theorem Q2.step {w wi w' : World} {ca cb : Array Value} (h : Q2 w wi ca cb) (hb : Below wi.heap.size wi w') : Q2 w w' ca cb := ⟨h.below.trans (hb.mono h.below.size), (hb.block _ (by have := h.lt; omega)).trans h.b0, (hb.block _ h.lt).trans h.b1⟩
theorem Q2.kept {w wi : World} {ca cb : Array Value} (h : Q2 w wi ca cb) {a : Addr} {v : Value} (ha : w.cell? a = some v) : wi.cell? a = some v := by rw [h.below.cell (lt_of_cell ha)]; exact ha
theorem Q2.c0 {w wi : World} {ca cb : Array Value} (h : Q2 w wi ca cb) (i : Nat) (v : Value) (hi : ca[i]? = some v) : wi.cell? ⟨w.heap.size, i, none⟩ = some v := by rw [Lib.cell_of_heap h.b0]; exact hi
theorem Q2.c1 {w wi : World} {ca cb : Array Value} (h : Q2 w wi ca cb) (i : Nat) (v : Value) (hi : cb[i]? = some v) : wi.cell? ⟨w.heap.size + 1, i, none⟩ = some v := by rw [Lib.cell_of_heap h.b1]; exact hi

/-- The call of JMember, in every world behind one. -/
def MemIn (wr : World) (cb : Array Value) (s : ByteArray) (r : Int) : Prop := ∀ W : World, Below wr.heap.size wr W → Calls Tryd.prog 35 #[.agg cb, .string s] W fun e w' => e = .returned (.int .i64 r) ∧ Below W.heap.size W w'
theorem MemIn.at_ {wr : World} {cb : Array Value} {s : ByteArray} {r : Int} (h : MemIn wr cb s r) {W : World} (hb : Below wr.heap.size wr W) : Calls Tryd.prog 35 #[.agg cb, .string s] W fun e w' => e = .returned (.int .i64 r) ∧ Below W.heap.size W w' := h W hb
/-- The call of JEquals, in every world behind one. -/
def JeIn (wr : World) (ca cb : Array Value) (b : Bool) : Prop := ∀ W : World, Below wr.heap.size wr W → Calls Tryd.prog 9 #[.agg ca, .agg cb] W fun e w' => e = .returned (.bool b) ∧ Below W.heap.size W w'
theorem JeIn.at_ {wr : World} {ca cb : Array Value} {b : Bool} (h : JeIn wr ca cb b) {W : World} (hb : Below wr.heap.size wr W) : Calls Tryd.prog 9 #[.agg ca, .agg cb] W fun e w' => e = .returned (.bool b) ∧ Below W.heap.size W w' := h W hb
theorem intAt {w : World} {A : Option Addr} {l : List Int} (h : (Kd.int .i64).C w A l.length l) (i : Nat) (hi : i < l.length) : ∃ ad, A = some ad ∧ w.cell? (ad.add i) = some (.int .i64 l[i]) := by
  obtain ⟨ad, rfl, hc⟩ := h.2.2 (by omega)
  obtain ⟨c, _, hk, hcell⟩ := hc i _ (List.getElem?_eq_getElem hi)
  obtain rfl : c = [.int .i64 l[i]] := hk
  refine ⟨ad, rfl, ?_⟩
  have := hcell 0 _ rfl
  simpa [Kd.int, Kd.scalar] using this
set_option maxHeartbeats 4000000 in
set_option maxRecDepth 100000 in
theorem jw (n : Nat) (x y : JV) (hJ : ∀ (s : ByteArray) (i j : Nat) (hi : Last x.f4 s i) (hj : Last y.f4 s j), ∃ (h1 : i < x.f5.length) (h2 : j < y.f5.length), JeC x.f5[i] y.f5[j] (eqB (toD n x.f5[i]) (toD n y.f5[j]))) (hlx : x.f4.length * 16 ≤ 140737488351232) (hly : y.f4.length * 16 ≤ 140737488351232) : JwC x y (withinB n x y) := by
  intro ca cb w hKa hKb
  obtain ⟨r, hr⟩ : ∃ r, withinB n x y = r := ⟨_, rfl⟩
  rw [hr]
  obtain ⟨A4, c4, A5, c5, hca, l4, g4, l5, g5⟩ := k25_open hKa
  obtain rfl : ca = #[.int .i64 x.f0, .bool x.f1, .int .i64 x.f2, .string x.f3, .slice A4 x.f4.length c4, .slice A5 x.f5.length c5] := by apply Array.toList_inj.1; rw [hca]
  obtain ⟨B4, d4, B5, d5, hcb, m4, e4, m5, e5⟩ := k25_open hKb
  obtain rfl : cb = #[.int .i64 y.f0, .bool y.f1, .int .i64 y.f2, .string y.f3, .slice B4 y.f4.length d4, .slice B5 y.f5.length d5] := by apply Array.toList_inj.1; rw [hcb]
  obtain ⟨K1, hK1⟩ := membersE x hlx
  have HM := Lib.hid (hK1 K1 (Nat.le_refl _))
  have HL4 := Lib.hid g4
  have HL5 := Lib.hid g5
  have HM4 := Lib.hid e4
  have HM5 := Lib.hid e5
  have HG := Lib.hid (And.intro (And.intro l4 l5) (And.intro m4 m5))
  have HJ := Lib.hid hJ
  have HR := Lib.hid hr
  have HLX := Lib.hid hlx
  have HLY := Lib.hid hly
  have HQ := Lib.hid (Q2.start w #[.int .i64 x.f0, .bool x.f1, .int .i64 x.f2, .string x.f3, .slice A4 x.f4.length c4, .slice A5 x.f5.length c5] #[.int .i64 y.f0, .bool y.f1, .int .i64 y.f2, .string y.f3, .slice B4 y.f4.length d4, .slice B5 y.f5.length d5])
  have HKA := Lib.hid hKa
  have HKB := Lib.hid hKb
  clear hK1 l4 l5 m4 m5 g4 g5 e4 e5 hJ hr hlx hly hKa hKb hca hcb
  go_enter Tryd.func22, Tryd.ntmps22
  go_wp2_with fail
  refine (spec_JMembers.calls K1 x.f0 x.f1 x.f2 x.f3 A4 c4 x.f4 A5 c5 x.f5 _ _ (Kd.C_below HL4.out HQ.out.below) HG.out.1.1 (Kd.C_below HL5.out HQ.out.below) HG.out.1.2 HM.out).mono ?_
  rintro e w1 ⟨v0, rfl, hR, hbl⟩
  obtain ⟨L, cl, rfl, hlc, hLC⟩ := Kd.R_reads hR
  have HL := Lib.hid hLC
  have HQ1 := Lib.hid (HQ.out.step hbl)
  clear hR hlc hLC hbl HQ
  obtain ⟨ms, hms⟩ : ∃ ms, memL x.f4 x.f4.length = ms := ⟨_, rfl⟩
  rw [hms] at HL
  rw [hms]
  have HMS := Lib.hid hms
  clear hms
  go_wp2_with fail
  have HML : Hid (ms.length ≤ x.f4.length) := Lib.hid (by rw [← HMS.out]; exact memL_len _ _)
  have hb1 : Below w1.heap.size w1 w1 := Below.refl _ _
  have HB1 := Lib.hid hb1
  clear hb1
  go_loopw [6, 7] (fun iv kv wi => ∃ i : Nat, iv = .int .i64 i ∧ i ≤ ms.length ∧ Hid (Q2 w wi #[.int .i64 x.f0, .bool x.f1, .int .i64 x.f2, .string x.f3, .slice A4 x.f4.length c4, .slice A5 x.f5.length c5] #[.int .i64 y.f0, .bool y.f1, .int .i64 y.f2, .string y.f3, .slice B4 y.f4.length d4, .slice B5 y.f5.length d5] ∧ Below w1.heap.size w1 wi ∧ ∀ (j : Nat) (s : ByteArray), (j : Int) ∈ ms.take i → Last x.f4 s j → ∃ k, Last y.f4 s k ∧ ∃ (hi : j < x.f5.length) (hj : k < y.f5.length), toD n x.f5[j] = toD n y.f5[k])) (fun iv _ _ => ms.length - (intOf iv).toNat)
  case atStart => exact ⟨0, rfl, by omega, Lib.hid ⟨HQ1.out, HB1.out, fun j s h => by simp at h⟩⟩
  case round =>
    obtain ⟨i, rfl, hil, HS⟩ := hrel
    have hml := HML.out
    have hlx := HLX.out
    by_cases hlt : i < ms.length
    · have hd1 : decide ((i : Int) < (ms.length : Int)) = true := decide_eq_true (by omega)
      obtain ⟨la, hla, q0⟩ := intAt (Kd.C_below HL.out HS.out.2.1) i hlt
      subst hla
      obtain ⟨j, hj, hjl, s, hs⟩ := (mem_memL x.f4 x.f4.length ms[i]).1 (by rw [HMS.out]; exact List.getElem_mem _)
      rw [hj] at q0
      obtain ⟨na, hna, qn⟩ := strAt (Kd.C_below HL4.out HS.out.1.below) j hjl
      subst hna
      have es : x.f4[j] = s := by have := hs.1; rw [List.getElem?_eq_getElem hjl] at this; exact Option.some.inj this
      rw [es] at qn
      have b0 := HS.out.1.c1 0 _ rfl
      have b1 := HS.out.1.c1 1 _ rfl
      have b2 := HS.out.1.c1 2 _ rfl
      have b3 := HS.out.1.c1 3 _ rfl
      have b4 := HS.out.1.c1 4 _ rfl
      have b5 := HS.out.1.c1 5 _ rfl
      have a4 := HS.out.1.c0 4 _ rfl
      have a5 := HS.out.1.c0 5 _ rfl
      have hsz := HS.out.1.lt
      have hi0 : (0 : Int) ≤ (i : Int) := Int.natCast_nonneg _
      have hi1 : (i : Int) < (ms.length : Int) := by omega
      have hj0 : (0 : Int) ≤ (j : Int) := Int.natCast_nonneg _
      have hj1 : (j : Int) < (x.f4.length : Int) := by omega
      obtain ⟨rk, hrk⟩ := memI y.f4 s
      obtain ⟨K2, hK2⟩ := memberE y (by have := HLY.out; omega) s rk hrk
      have HMI := Lib.hid (show MemIn wr #[.int .i64 y.f0, .bool y.f1, .int .i64 y.f2, .string y.f3, .slice B4 y.f4.length d4, .slice B5 y.f5.length d5] s rk from fun W hb => spec_JMember.calls K2 y.f0 y.f1 y.f2 y.f3 B4 d4 y.f4 B5 d5 y.f5 s rk W (Kd.C_below HM4.out (HS.out.1.below.trans (hb.mono HS.out.1.below.size))) HG.out.2.1 (Kd.C_below HM5.out (HS.out.1.below.trans (hb.mono HS.out.1.below.size))) HG.out.2.2 (hK2 K2 (Nat.le_refl _)))
      have HS1 := Lib.hid hs
      have HRK := Lib.hid hrk
      have HJI := Lib.hid hj
      have HJL := Lib.hid hjl
      clear hs hrk hK2 es hj
      have hsz0 : w.heap.size < wr.heap.size := by omega
      have ltl : la.block < wr.heap.size := by have := lt_of_cell q0; rwa [block_add] at this
      have ltn : na.block < wr.heap.size := by have := lt_of_cell qn; rwa [block_add] at this
      have BL := Lib.hid (block_add la i)
      have BN := Lib.hid (block_add na j)
      go_wp2_with fail
      go_region_held3 (fun w' => w'.cell? ⟨w.heap.size + 1, 0, none⟩ = some (.int .i64 y.f0) ∧ w'.cell? ⟨w.heap.size + 1, 1, none⟩ = some (.bool y.f1) ∧ w'.cell? ⟨w.heap.size + 1, 2, none⟩ = some (.int .i64 y.f2) ∧ w'.cell? ⟨w.heap.size + 1, 3, none⟩ = some (.string y.f3) ∧ w'.cell? ⟨w.heap.size + 1, 4, none⟩ = some (.slice B4 y.f4.length d4) ∧ w'.cell? ⟨w.heap.size + 1, 5, none⟩ = some (.slice B5 y.f5.length d5) ∧ w'.cell? ⟨w.heap.size, 4, none⟩ = some (.slice (some na) x.f4.length c4) ∧ w'.cell? (la.add i) = some (.int .i64 (j : Int)) ∧ w'.cell? (na.add j) = some (.string s))
        (first
          | go_keep
          | (go_split_ands; exact ⟨(hbn.cell (p := ⟨w.heap.size + 1, 0, none⟩) hsz).trans b0, (hbn.cell (p := ⟨w.heap.size + 1, 1, none⟩) hsz).trans b1, (hbn.cell (p := ⟨w.heap.size + 1, 2, none⟩) hsz).trans b2, (hbn.cell (p := ⟨w.heap.size + 1, 3, none⟩) hsz).trans b3, (hbn.cell (p := ⟨w.heap.size + 1, 4, none⟩) hsz).trans b4, (hbn.cell (p := ⟨w.heap.size + 1, 5, none⟩) hsz).trans b5, (hbn.cell (p := ⟨w.heap.size, 4, none⟩) hsz0).trans a4, (hbn.cell (by rw [BL.out]; exact ltl)).trans q0, (hbn.cell (by rw [BN.out]; exact ltn)).trans qn⟩))
        ((go_at_call 35; refine (HMI.out.at_ (by first | exact Below.refl _ _ | exact (Below.refl _ _).drew | exact pw_below_drewN (Below.refl _ _) _)).mono ?_; rintro e w2 ⟨rfl, hbl⟩; have hbn : Below wr.heap.size wr w2 := (by first | exact hbl | exact (Below.refl _ _).drew.trans hbl | exact (pw_below_drewN (Below.refl _ _) _).trans hbl)))
      have HBN := Lib.hid hbn
      have Q0 := Lib.hid q0
      clear hbl hbn qn b0 b1 b2 b3 b4 b5 a4 a5 q0 HMI
      go_wp2_with fail
      have HQ2 := Lib.hid (And.intro (HS.out.1.step HBN.out) (HS.out.2.1.trans (HBN.out.mono HS.out.2.1.size)))
      have Q0' := Lib.hid ((HBN.out.cell (by rw [BL.out]; exact ltl)).trans Q0.out)
      have ltl' : la.block < w2.heap.size := Nat.lt_of_lt_of_le ltl HBN.out.size
      clear HBN Q0 ltl ltn hsz hsz0
      rcases HRK.out with ⟨k, hk, rfl⟩ | ⟨hno, rfl⟩
      case inr =>
        have HNO := Lib.hid hno
        clear hno HRK
        go_wp2_with fail
        go_quiet (fail)
        go_wp2_with fail
        go_ret
        have hB := HQ2.out.1.below
        have hr : r = false := by
          rw [← HR.out]
          refine withinB_false.2 fun h => ?_
          obtain ⟨k, hk, _⟩ := h s j HS1.out
          exact HNO.out k hk.1
        subst hr
        first | exact ⟨rfl, pw_below_drewN hB _⟩ | exact ⟨rfl, hB⟩
      case inl =>
        have HKL := Lib.hid hk
        clear HRK hk
        obtain ⟨h1, h2, hJe⟩ := HJ.out s j k HS1.out HKL.out
        obtain ⟨xa, G4, gc4, G5, gc5, hxa, x0, x1, x2, x3, x4, x5, lg4, gg4, lg5, gg5⟩ := at_T25 (Kd.C_below HL5.out HQ2.out.1.below) (j : Int) (by omega) (by omega)
        subst hxa
        obtain ⟨ya, H4, hc4, H5, hc5, hya, y0, y1, y2, y3, y4, y5, lh4, gh4, lh5, gh5⟩ := at_T25 (Kd.C_below HM5.out HQ2.out.1.below) (k : Int) (by omega) (by omega)
        subst hya
        rw [Int.toNat_natCast] at x0 x1 x2 x3 x4 x5 y0 y1 y2 y3 y4 y5
        obtain ⟨g, hgg⟩ : ∃ g, rd_T25 x.f5 (j : Int) = g := ⟨_, rfl⟩
        obtain ⟨H, hhh⟩ : ∃ g, rd_T25 y.f5 (k : Int) = g := ⟨_, rfl⟩
        rw [hgg] at x0 x1 x2 x3 x4 x5 lg4 gg4 lg5 gg5
        rw [hhh] at y0 y1 y2 y3 y4 y5 lh4 gh4 lh5 gh5
        have hgj : x.f5[j] = g := by rw [← hgg, rdJ _ _ h1]
        have hHk : y.f5[k] = H := by rw [← hhh, rdJ _ _ h2]
        rw [hgj, hHk] at hJe
        obtain ⟨b, hb⟩ : ∃ b, eqB (toD n g) (toD n H) = b := ⟨_, rfl⟩
        rw [hb] at hJe
        have hKg := k25_mk w2 g lg4 gg4 lg5 gg5
        have hKH := k25_mk w2 H lh4 gh4 lh5 gh5
        have HJE := Lib.hid (show JeIn w2 #[.int .i64 g.f0, .bool g.f1, .int .i64 g.f2, .string g.f3, .slice G4 g.f4.length gc4, .slice G5 g.f5.length gc5] #[.int .i64 H.f0, .bool H.f1, .int .i64 H.f2, .string H.f3, .slice H4 H.f4.length hc4, .slice H5 H.f5.length hc5] b from fun W hbW => hJe.at_ _ _ W (kJ.K_below hbW hKg) (kJ.K_below hbW hKH))
        have HBQ := Lib.hid (And.intro hb (And.intro hgj hHk))
        have HLT := Lib.hid (And.intro h1 h2)
        have hj2 : (j : Int) < (x.f5.length : Int) := by omega
        have hk0 : (0 : Int) ≤ (k : Int) := Int.natCast_nonneg _
        have hk2 : (k : Int) < (y.f5.length : Int) := by omega
        have hkn : decide ((k : Int) < 0) = false := decide_eq_false (by omega)
        have a5' := HQ2.out.1.c0 5 _ rfl
        have b5' := HQ2.out.1.c1 5 _ rfl
        have ht1 := HQ2.out.1.lt
        have ht0 : w.heap.size < w2.heap.size := by omega
        have q0' := Q0'.out
        clear lg4 gg4 lg5 gg5 lh4 gh4 lh5 gh5 hgg hhh hJe hKg hKH hb hgj hHk Q0'
        cases b
        all_goals
          go_wp2_with fail
          go_region_held3 (fun w' => w'.cell? ⟨w.heap.size, 5, none⟩ = some (.slice (some xa) x.f5.length c5) ∧ w'.cell? ⟨w.heap.size + 1, 5, none⟩ = some (.slice (some ya) y.f5.length d5) ∧ w'.cell? (la.add i) = some (.int .i64 (j : Int)) ∧ w'.cell? (xa.add (j * 6)) = some (.int .i64 g.f0) ∧ w'.cell? ⟨(xa.add (j * 6)).block, (xa.add (j * 6)).off + 1, none⟩ = some (.bool g.f1) ∧ w'.cell? ⟨(xa.add (j * 6)).block, (xa.add (j * 6)).off + 2, none⟩ = some (.int .i64 g.f2) ∧ w'.cell? ⟨(xa.add (j * 6)).block, (xa.add (j * 6)).off + 3, none⟩ = some (.string g.f3) ∧ w'.cell? ⟨(xa.add (j * 6)).block, (xa.add (j * 6)).off + 4, none⟩ = some (.slice G4 g.f4.length gc4) ∧ w'.cell? ⟨(xa.add (j * 6)).block, (xa.add (j * 6)).off + 5, none⟩ = some (.slice G5 g.f5.length gc5) ∧ w'.cell? (ya.add (k * 6)) = some (.int .i64 H.f0) ∧ w'.cell? ⟨(ya.add (k * 6)).block, (ya.add (k * 6)).off + 1, none⟩ = some (.bool H.f1) ∧ w'.cell? ⟨(ya.add (k * 6)).block, (ya.add (k * 6)).off + 2, none⟩ = some (.int .i64 H.f2) ∧ w'.cell? ⟨(ya.add (k * 6)).block, (ya.add (k * 6)).off + 3, none⟩ = some (.string H.f3) ∧ w'.cell? ⟨(ya.add (k * 6)).block, (ya.add (k * 6)).off + 4, none⟩ = some (.slice H4 H.f4.length hc4) ∧ w'.cell? ⟨(ya.add (k * 6)).block, (ya.add (k * 6)).off + 5, none⟩ = some (.slice H5 H.f5.length hc5))
            (first
              | go_keep
              | (go_split_ands; exact ⟨(hbm.cell (p := ⟨w.heap.size, 5, none⟩) ht0).trans a5', (hbm.cell (p := ⟨w.heap.size + 1, 5, none⟩) ht1).trans b5', (hbm.cell (by rw [BL.out]; exact ltl')).trans q0', (hbm.cell (lt_of_cell x0)).trans x0, (hbm.cell (lt_of_cell x1)).trans x1, (hbm.cell (lt_of_cell x2)).trans x2, (hbm.cell (lt_of_cell x3)).trans x3, (hbm.cell (lt_of_cell x4)).trans x4, (hbm.cell (lt_of_cell x5)).trans x5, (hbm.cell (lt_of_cell y0)).trans y0, (hbm.cell (lt_of_cell y1)).trans y1, (hbm.cell (lt_of_cell y2)).trans y2, (hbm.cell (lt_of_cell y3)).trans y3, (hbm.cell (lt_of_cell y4)).trans y4, (hbm.cell (lt_of_cell y5)).trans y5⟩))
            ((go_at_call 9; refine (HJE.out.at_ (by first | exact Below.refl _ _ | exact (Below.refl _ _).drew | exact pw_below_drewN (Below.refl _ _) _)).mono ?_; rintro e w3 ⟨rfl, hbl⟩; have hbm : Below w2.heap.size w2 w3 := (by first | exact hbl | exact (Below.refl _ _).drew.trans hbl | exact (pw_below_drewN (Below.refl _ _) _).trans hbl)))
          have HBM := Lib.hid hbm
          clear hbl hbm
          go_wp2_with fail
        · go_ret
          have hB := HQ2.out.1.below.trans (HBM.out.mono HQ2.out.1.below.size)
          have hr : r = false := by
            rw [← HR.out]
            refine withinB_false.2 fun h => ?_
            obtain ⟨k', hk', p1, p2, e⟩ := h s j HS1.out
            obtain rfl : k' = k := hk'.uniq HKL.out
            rw [HBQ.out.2.1, HBQ.out.2.2] at e
            exact eqB_false.1 HBQ.out.1 e
          subst hr
          first | exact ⟨rfl, hB⟩ | exact ⟨rfl, pw_below_drewN hB _⟩
        · have hN : Hid (Q2 w w3 #[.int .i64 x.f0, .bool x.f1, .int .i64 x.f2, .string x.f3, .slice (some na) x.f4.length c4, .slice (some xa) x.f5.length c5] #[.int .i64 y.f0, .bool y.f1, .int .i64 y.f2, .string y.f3, .slice B4 y.f4.length d4, .slice (some ya) y.f5.length d5] ∧ Below w1.heap.size w1 w3 ∧ ∀ (j : Nat) (s : ByteArray), (j : Int) ∈ ms.take (i + 1) → Last x.f4 s j → ∃ k, Last y.f4 s k ∧ ∃ (hi : j < x.f5.length) (hj : k < y.f5.length), toD n x.f5[j] = toD n y.f5[k]) := by
            refine Lib.hid ⟨HQ2.out.1.step HBM.out, HQ2.out.2.trans (HBM.out.mono HQ2.out.2.size), fun j' s' hm hl => ?_⟩
            rw [List.take_succ_eq_append_getElem hlt, List.mem_append, List.mem_singleton] at hm
            rcases hm with hm | hm
            · exact HS.out.2.2 j' s' hm hl
            · obtain rfl : j' = j := by have := hm.trans HJI.out; omega
              obtain rfl : s' = s := Option.some.inj (hl.1.symm.trans HS1.out.1)
              refine ⟨k, HKL.out, h1, h2, ?_⟩
              rw [HBQ.out.2.1, HBQ.out.2.2]
              exact eqB_true.1 HBQ.out.1
          go_roundw
          case rel => exact ⟨i + 1, by go_num, by omega, hN⟩
          case measure => simp [intOf]; omega
    · obtain rfl : i = ms.length := by omega
      have hd1 : decide ((ms.length : Int) < (ms.length : Int)) = false := by simp
      clear hlt
      go_wp2_with fail
      go_ret
      have hr : r = true := by
        rw [← HR.out]
        refine withinB_true.2 fun s i hi => ?_
        have hm : (i : Int) ∈ ms := by rw [← HMS.out]; exact (mem_memL _ _ _).2 ⟨i, rfl, hi.lt, s, hi⟩
        exact HS.out.2.2 i s (by rw [List.take_of_length_le (Nat.le_refl _)]; exact hm) hi
      subst hr
      exact ⟨rfl, HS.out.1.below⟩
end Go.Proofs.YtdleegmdpgefmaaDoor.J
