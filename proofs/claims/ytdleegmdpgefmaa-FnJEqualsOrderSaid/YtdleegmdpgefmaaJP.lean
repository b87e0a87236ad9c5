/- spec.jProperIn, spec.JProper, laws.jProper, spec.JCounts: what they tell. -/
import Derived.Test.YtdleegmdpgefmaaJ1
import Derived.Test.YtdleegmdpgefmaaJG
import Derived.Test.YtdleegmdpgefmaaSpecUtf8LJ
import Derived.Lib.Builder
namespace Go.Proofs.Ytdleegmdpgefmaa.J
open Go.RowKit Go.Proofs.YtdleegmdpgefmaaW.PrintWords Go.Proofs.YtdleegmdpgefmaaW.PrintLast Go.Proofs.YtdleegmdpgefmaaW.PrintMore Go.Proofs.Ytdleegmdpgefmaa.PJ Go.Proofs.Ytdleegmdpgefmaa.K
set_option linter.unusedVariables false
set_option linter.unusedSimpArgs false

def UtfC (s : ByteArray) (b : Bool) : Prop := ∀ w, Calls Try.prog 26 #[.string s] w fun e w' => e = .returned (.bool b) ∧ Drawn0 w w'
theorem UtfC.at_ {s : ByteArray} {b : Bool} (h : UtfC s b) (w : World) : Calls Try.prog 26 #[.string s] w fun e w' => e = .returned (.bool b) ∧ Drawn0 w w' := h w
theorem utf_calls (s : ByteArray) (hs : s.size ≤ 140737488351232) : ∃ b, UtfC s b := by
  obtain ⟨b, K, hK⟩ := SUtf8LJ.utfE s hs
  exact ⟨b, fun w => spec_JUtf8.calls K s b w (hK K (Nat.le_refl _))⟩
def PropB (b : Bool) (w : World) (e : Ending) (w' : World) : Prop := e = .returned (.bool b) ∧ Below w.heap.size w w'
/-- What jProperIn tells of a value at a depth. -/
def PrC (d : Nat) (x : JV) (b : Bool) : Prop := ∀ (cs : Array Value) (w : World), kJ.K w x cs.toList → Calls Try.prog 20 #[.agg cs, .int .i64 (d : Int)] w (PropB b w)
theorem PrC.at_ {d : Nat} {x : JV} {b : Bool} (h : PrC d x b) (cs : Array Value) (w : World) (h2 : kJ.K w x cs.toList) : Calls Try.prog 20 #[.agg cs, .int .i64 (d : Int)] w fun e w' => e = .returned (.bool b) ∧ Below w.heap.size w w' := h cs w h2
/-- The box of the argument stands; nothing elder has turned. -/
def Q (w wi : World) (cs : Array Value) : Prop := Below w.heap.size w wi ∧ wi.heap[w.heap.size]? = some (.cells cs 25 (0, 0))
theorem Q.start (w : World) (cs : Array Value) : Q w (w.alloc (.cells cs 25)) cs := ⟨(Below.refl _ _).alloc (Nat.le_refl _) _, heap_alloc_new w _⟩
theorem Q.lt {w wi : World} {cs : Array Value} (h : Q w wi cs) : w.heap.size < wi.heap.size := by
  rcases Nat.lt_or_ge w.heap.size wi.heap.size with h' | h'
  · exact h'
  · have := h.2; rw [Array.getElem?_eq_none h'] at this; cases this
theorem Q.below {w wi w' : World} {cs : Array Value} (h : Q w wi cs) (hb : Below wi.heap.size wi w') : Q w w' cs := ⟨h.1.trans (hb.mono h.1.size), (hb.block _ h.lt).trans h.2⟩
theorem Q.drewN {w wi : World} {cs : Array Value} (h : Q w wi cs) (n : Nat) : Q w (wi.drewN n) cs := h.below (pw_below_drewN (Below.refl _ _) n)
theorem Q.kept {w wi : World} {cs : Array Value} (h : Q w wi cs) {a : Addr} {v : Value} (ha : w.cell? a = some v) : wi.cell? a = some v := by rw [h.1.cell (lt_of_cell ha)]; exact ha
theorem Q.cells {w wi : World} {v0 v1 v2 v3 v4 v5 : Value} (h : Q w wi #[v0, v1, v2, v3, v4, v5]) : wi.cell? ⟨w.heap.size, 4, none⟩ = some v4 ∧ wi.cell? ⟨w.heap.size, 5, none⟩ = some v5 := ⟨by rw [Lib.cell_of_heap h.2]; rfl, by rw [Lib.cell_of_heap h.2]; rfl⟩
theorem prop_no {w wi : World} {cs : Array Value} {b : Bool} (h : Q w wi cs) (hb : b = true → False) : PropB b w (.returned (.bool false)) wi := by
  cases b
  · exact ⟨rfl, h.1⟩
  · exact (hb rfl).elim
theorem prop_yes {w wi : World} {cs : Array Value} {b : Bool} (h : Q w wi cs) (hb : b = true) : PropB b w (.returned (.bool true)) wi := by
  subst hb; exact ⟨rfl, h.1⟩
theorem strAt {w : World} {A : Option Addr} {l : List ByteArray} (h : Kd.string.C w A l.length l) (i : Nat) (hi : i < l.length) : ∃ ad, A = some ad ∧ w.cell? (ad.add i) = some (.string l[i]) := by
  obtain ⟨ad, rfl, hc⟩ := h.2.2 (by omega)
  obtain ⟨c, _, hk, hcell⟩ := hc i _ (List.getElem?_eq_getElem hi)
  obtain rfl : c = [.string l[i]] := hk
  have := hcell 0 _ rfl
  exact ⟨ad, rfl, by simpa [Kd.string, Kd.scalar] using this⟩
set_option maxHeartbeats 2000000 in
set_option maxRecDepth 100000 in
theorem pr_low (d : Nat) (hd : d + 1 ≤ 1000) (x : JV) (A4 A5 : Option Addr) (c4 c5 : Nat) (w : World) (hw : wfJ x) (l4 : x.f4.length ≤ c4) (g4 : Kd.string.C w A4 x.f4.length x.f4) (l5 : x.f5.length ≤ c5) (g5 : kJ.C w A5 x.f5.length x.f5) (h0 : x.f0 < 0) :
    Calls Try.prog 20 #[.agg #[.int .i64 x.f0, .bool x.f1, .int .i64 x.f2, .string x.f3, .slice A4 x.f4.length c4, .slice A5 x.f5.length c5], .int .i64 ((d + 1 : Nat) : Int)] w (PropB false w) := by
  have hb4 : x.f4.length ≤ 140737488351232 := by have := hw.inv.2.1.1; omega
  have hb5 : x.f5.length ≤ 140737488351232 := by have := hw.inv.2.2.1; omega
  have HW := Lib.hid hw
  have G4 := Lib.hid g4
  have G5 := Lib.hid g5
  have hdd : ((((d + 1 : Nat) : Int)) == 0) = false := by rw [beq_eq_false_iff_ne]; omega
  have hds : (0 : Int) ≤ ((d + 1 : Nat) : Int) - 1 := by omega
  clear hw g4 g5
  go_enter Try.func20, Try.ntmps20
  go_wp2_with fail
  go_ret
  exact prop_no (Q.start w _) (fun h => by cases h)
set_option maxHeartbeats 2000000 in
set_option maxRecDepth 100000 in
theorem pr_high (d : Nat) (hd : d + 1 ≤ 1000) (x : JV) (A4 A5 : Option Addr) (c4 c5 : Nat) (w : World) (hw : wfJ x) (l4 : x.f4.length ≤ c4) (g4 : Kd.string.C w A4 x.f4.length x.f4) (l5 : x.f5.length ≤ c5) (g5 : kJ.C w A5 x.f5.length x.f5) (h0 : 0 ≤ x.f0) (h5 : 5 < x.f0) :
    Calls Try.prog 20 #[.agg #[.int .i64 x.f0, .bool x.f1, .int .i64 x.f2, .string x.f3, .slice A4 x.f4.length c4, .slice A5 x.f5.length c5], .int .i64 ((d + 1 : Nat) : Int)] w (PropB false w) := by
  have hb4 : x.f4.length ≤ 140737488351232 := by have := hw.inv.2.1.1; omega
  have hb5 : x.f5.length ≤ 140737488351232 := by have := hw.inv.2.2.1; omega
  have HW := Lib.hid hw
  have G4 := Lib.hid g4
  have G5 := Lib.hid g5
  have hdd : ((((d + 1 : Nat) : Int)) == 0) = false := by rw [beq_eq_false_iff_ne]; omega
  have hds : (0 : Int) ≤ ((d + 1 : Nat) : Int) - 1 := by omega
  clear hw g4 g5
  go_enter Try.func20, Try.ntmps20
  go_wp2_with fail
  go_ret
  exact prop_no (Q.start w _) (fun h => by cases h)
set_option maxHeartbeats 2000000 in
set_option maxRecDepth 100000 in
theorem pr_utf (d : Nat) (hd : d + 1 ≤ 1000) (x : JV) (A4 A5 : Option Addr) (c4 c5 : Nat) (w : World) (hw : wfJ x) (l4 : x.f4.length ≤ c4) (g4 : Kd.string.C w A4 x.f4.length x.f4) (l5 : x.f5.length ≤ c5) (g5 : kJ.C w A5 x.f5.length x.f5) (h0 : 0 ≤ x.f0) (h5 : x.f0 ≤ 5) (hC : UtfC x.f3 false) :
    Calls Try.prog 20 #[.agg #[.int .i64 x.f0, .bool x.f1, .int .i64 x.f2, .string x.f3, .slice A4 x.f4.length c4, .slice A5 x.f5.length c5], .int .i64 ((d + 1 : Nat) : Int)] w (PropB false w) := by
  have hb4 : x.f4.length ≤ 140737488351232 := by have := hw.inv.2.1.1; omega
  have hb5 : x.f5.length ≤ 140737488351232 := by have := hw.inv.2.2.1; omega
  have HW := Lib.hid hw
  have G4 := Lib.hid g4
  have G5 := Lib.hid g5
  have hdd : ((((d + 1 : Nat) : Int)) == 0) = false := by rw [beq_eq_false_iff_ne]; omega
  have hds : (0 : Int) ≤ ((d + 1 : Nat) : Int) - 1 := by omega
  clear hw g4 g5
  have HC := Lib.hid hC
  clear hC
  go_enter Try.func20, Try.ntmps20
  go_wp2_with fail
  refine (HC.out.at_ _).mono ?_
  rintro e w1 ⟨rfl, ⟨n1, rfl⟩⟩
  go_wp2_with fail
  go_ret
  exact prop_no ((Q.start w _).drewN n1) (fun h => by cases h)
set_option maxHeartbeats 2000000 in
set_option maxRecDepth 100000 in
theorem pr_else (d : Nat) (hd : d + 1 ≤ 1000) (x : JV) (A4 A5 : Option Addr) (c4 c5 : Nat) (w : World) (hw : wfJ x) (l4 : x.f4.length ≤ c4) (g4 : Kd.string.C w A4 x.f4.length x.f4) (l5 : x.f5.length ≤ c5) (g5 : kJ.C w A5 x.f5.length x.f5) (h0 : 0 ≤ x.f0) (h5 : x.f0 ≤ 5) (bo : Bool) (fN fI : Nat → Bool) (hN : ∀ i, (h : i < x.f4.length) → UtfC x.f4[i] (fN i)) (hI : ∀ j, (h : j < x.f5.length) → PrC d x.f5[j] (fI j)) (hbo : bo = true ↔ (∀ i, i < x.f4.length → fN i = true) ∧ ∀ j, j < x.f5.length → fI j = true) (hC : UtfC x.f3 true) (n2 : (x.f0 == 2) = false) (n5 : (x.f0 == 5) = false) :
    Calls Try.prog 20 #[.agg #[.int .i64 x.f0, .bool x.f1, .int .i64 x.f2, .string x.f3, .slice A4 x.f4.length c4, .slice A5 x.f5.length c5], .int .i64 ((d + 1 : Nat) : Int)] w (PropB bo w) := by
  have hb4 : x.f4.length ≤ 140737488351232 := by have := hw.inv.2.1.1; omega
  have hb5 : x.f5.length ≤ 140737488351232 := by have := hw.inv.2.2.1; omega
  have HW := Lib.hid hw
  have G4 := Lib.hid g4
  have G5 := Lib.hid g5
  have hdd : ((((d + 1 : Nat) : Int)) == 0) = false := by rw [beq_eq_false_iff_ne]; omega
  have hds : (0 : Int) ≤ ((d + 1 : Nat) : Int) - 1 := by omega
  clear hw g4 g5
  have HLN := Lib.hid hN
  have HLI := Lib.hid hI
  have HBO := Lib.hid hbo
  clear hN hI hbo
  have HC := Lib.hid hC
  clear hC
  go_enter Try.func20, Try.ntmps20
  go_wp2_with fail
  refine (HC.out.at_ _).mono ?_
  rintro e w1 ⟨rfl, ⟨n1, rfl⟩⟩
  go_wp2_with fail
  have HQ : Hid (Q w _ #[.int .i64 x.f0, .bool x.f1, .int .i64 x.f2, .string x.f3, .slice A4 x.f4.length c4, .slice A5 x.f5.length c5]) := Lib.hid ((Q.start w _).drewN n1)
  go_loopw [5] (fun iv wi => ∃ i : Nat, iv = .int .i64 i ∧ i ≤ x.f4.length ∧ Hid (Q w wi #[.int .i64 x.f0, .bool x.f1, .int .i64 x.f2, .string x.f3, .slice A4 x.f4.length c4, .slice A5 x.f5.length c5] ∧ ∀ j, j < i → fN j = true)) (fun iv _ => x.f4.length - (intOf iv).toNat)
  case atStart => exact ⟨0, rfl, by omega, Lib.hid ⟨HQ.out, fun j h => by omega⟩⟩
  case round =>
    clear HQ
    obtain ⟨i, rfl, hil, HQ⟩ := hrel
    obtain ⟨q4, q5⟩ := HQ.out.1.cells
    have hlt0 := HQ.out.1.lt
    by_cases hlt : i < x.f4.length
    · have hd1 : decide ((i : Int) < (x.f4.length : Int)) = true := decide_eq_true (by omega)
      obtain ⟨na, rfl, qs⟩ := strAt G4.out i hlt
      have qs2 := HQ.out.1.kept qs
      have C := HLN.out i hlt
      obtain ⟨s, hs⟩ : ∃ s, x.f4[i] = s := ⟨_, rfl⟩
      obtain ⟨b, hb⟩ : ∃ b, fN i = b := ⟨_, rfl⟩
      rw [hs] at qs2 C
      rw [hb] at C
      have HC := Lib.hid C
      have HBB := Lib.hid hb
      clear qs hs C hb
      have hi0 : (0 : Int) ≤ (i : Int) := Int.natCast_nonneg _
      have hi1 : (i : Int) < (x.f4.length : Int) := by omega
      cases b
      · go_wp2_with fail
        refine (HC.out.at_ _).mono ?_
        rintro e w1 ⟨rfl, ⟨n1, rfl⟩⟩
        go_wp2_with fail
        go_ret
        exact prop_no (HQ.out.1.drewN n1) (fun h => by have := (HBO.out.1 h).1 i hlt; rw [HBB.out] at this; cases this)
      · go_wp2_with fail
        refine (HC.out.at_ _).mono ?_
        rintro e w1 ⟨rfl, ⟨n1, rfl⟩⟩
        go_wp2_with fail
        go_roundw
        case rel => exact ⟨i + 1, by go_num, by omega, Lib.hid ⟨HQ.out.1.drewN n1, fun j h => by
          by_cases e : j = i
          · rw [e]; exact HBB.out
          · exact HQ.out.2 j (by omega)⟩⟩
        case measure => simp [intOf]; omega
    · obtain rfl : i = x.f4.length := by omega
      have hd1 : decide ((x.f4.length : Int) < (x.f4.length : Int)) = false := by simp
      clear hlt
      go_wp2_with fail
      go_loopw [6] (fun iv wi => ∃ i : Nat, iv = .int .i64 i ∧ i ≤ x.f5.length ∧ Hid (Q w wi #[.int .i64 x.f0, .bool x.f1, .int .i64 x.f2, .string x.f3, .slice A4 x.f4.length c4, .slice A5 x.f5.length c5] ∧ (∀ j, j < x.f4.length → fN j = true) ∧ ∀ j, j < i → fI j = true)) (fun iv _ => x.f5.length - (intOf iv).toNat)
      case atStart => exact ⟨0, rfl, by omega, Lib.hid ⟨HQ.out.1, HQ.out.2, fun j h => by omega⟩⟩
      case round =>
        clear HQ q4 q5 hlt0 hd1
        obtain ⟨i, rfl, hil2, HQ⟩ := hrel
        obtain ⟨q4, q5⟩ := HQ.out.1.cells
        have hlt0 := HQ.out.1.lt
        by_cases hlt : i < x.f5.length
        · have hd1 : decide ((i : Int) < (x.f5.length : Int)) = true := decide_eq_true (by omega)
          have hC := Kd.C_below G5.out HQ.out.1.1
          obtain ⟨ad, A4', c4', A5', c5', rfl, r0, r1, r2, r3, r4, r5, l4', g4', l5', g5'⟩ := at_T25 hC (i : Int) (by omega) (by omega)
          rw [Int.toNat_natCast] at r0 r1 r2 r3 r4 r5
          have hg : rd_T25 x.f5 (i : Int) = x.f5[i] := by
            unfold rd_T25
            rw [Int.toNat_natCast, List.getD_eq_getElem?_getD, List.getElem?_eq_getElem hlt]; rfl
          obtain ⟨g, hgg⟩ : ∃ g, rd_T25 x.f5 (i : Int) = g := ⟨_, rfl⟩
          rw [hgg] at hg r0 r1 r2 r3 r4 r5 l4' g4' l5' g5'
          have HG := Lib.hid hg
          have C := HLI.out i hlt
          obtain ⟨b, hb⟩ : ∃ b, fI i = b := ⟨_, rfl⟩
          rw [hb, ← HG.out] at C
          have HC := Lib.hid C
          have HBB := Lib.hid hb
          clear C hb
          have hK0 := k25_mk _ g l4' g4' l5' g5'
          have HK0 := Lib.hid hK0
          have hi0 : (0 : Int) ≤ (i : Int) := Int.natCast_nonneg _
          have hi1 : (i : Int) < (x.f5.length : Int) := by omega
          clear hg hC l4' g4' l5' g5' hK0 hgg
          cases b
          · go_wp2_with fail
            with_reducible refine (HC.out.at_ #[.int .i64 g.f0, .bool g.f1, .int .i64 g.f2, .string g.f3, .slice A4' g.f4.length c4', .slice A5' g.f5.length c5'] _ HK0.out).mono ?_
            rintro e w1 ⟨rfl, hbl⟩
            have HB := Lib.hid hbl
            clear hbl
            go_wp2_with fail
            go_ret
            exact prop_no (HQ.out.1.below HB.out) (fun h => by have := (HBO.out.1 h).2 i hlt; rw [HBB.out] at this; cases this)
          · go_wp2_with fail
            with_reducible refine (HC.out.at_ #[.int .i64 g.f0, .bool g.f1, .int .i64 g.f2, .string g.f3, .slice A4' g.f4.length c4', .slice A5' g.f5.length c5'] _ HK0.out).mono ?_
            rintro e w1 ⟨rfl, hbl⟩
            have HB := Lib.hid hbl
            clear hbl
            go_wp2_with fail
            go_roundw
            case rel => exact ⟨i + 1, by go_num, by omega, Lib.hid ⟨HQ.out.1.below HB.out, HQ.out.2.1, fun j h => by
              by_cases e : j = i
              · rw [e]; exact HBB.out
              · exact HQ.out.2.2 j (by omega)⟩⟩
            case measure => simp [intOf]; omega
        · obtain rfl : i = x.f5.length := by omega
          have hd1 : decide ((x.f5.length : Int) < (x.f5.length : Int)) = false := by simp
          clear hlt
          go_wp2_with fail
          go_ret
          exact prop_yes HQ.out.1 (HBO.out.2 ⟨HQ.out.2.1, HQ.out.2.2⟩)
set_option maxHeartbeats 2000000 in
set_option maxRecDepth 100000 in
theorem pr_obj (d : Nat) (hd : d + 1 ≤ 1000) (x : JV) (A4 A5 : Option Addr) (c4 c5 : Nat) (w : World) (hw : wfJ x) (l4 : x.f4.length ≤ c4) (g4 : Kd.string.C w A4 x.f4.length x.f4) (l5 : x.f5.length ≤ c5) (g5 : kJ.C w A5 x.f5.length x.f5) (h0 : 0 ≤ x.f0) (h5 : x.f0 ≤ 5) (bo : Bool) (fN fI : Nat → Bool) (hN : ∀ i, (h : i < x.f4.length) → UtfC x.f4[i] (fN i)) (hI : ∀ j, (h : j < x.f5.length) → PrC d x.f5[j] (fI j)) (hbo : bo = true ↔ (∀ i, i < x.f4.length → fN i = true) ∧ ∀ j, j < x.f5.length → fI j = true) (hC : UtfC x.f3 true) (f5 : x.f0 = 5) (hn : x.f4.length = x.f5.length) :
    Calls Try.prog 20 #[.agg #[.int .i64 x.f0, .bool x.f1, .int .i64 x.f2, .string x.f3, .slice A4 x.f4.length c4, .slice A5 x.f5.length c5], .int .i64 ((d + 1 : Nat) : Int)] w (PropB bo w) := by
  have hb4 : x.f4.length ≤ 140737488351232 := by have := hw.inv.2.1.1; omega
  have hb5 : x.f5.length ≤ 140737488351232 := by have := hw.inv.2.2.1; omega
  have HW := Lib.hid hw
  have G4 := Lib.hid g4
  have G5 := Lib.hid g5
  have hdd : ((((d + 1 : Nat) : Int)) == 0) = false := by rw [beq_eq_false_iff_ne]; omega
  have hds : (0 : Int) ≤ ((d + 1 : Nat) : Int) - 1 := by omega
  clear hw g4 g5
  have HLN := Lib.hid hN
  have HLI := Lib.hid hI
  have HBO := Lib.hid hbo
  clear hN hI hbo
  have HC := Lib.hid hC
  clear hC
  have n2 : (x.f0 == 2) = false := by rw [f5]; rfl
  have n5 : (x.f0 == 5) = true := by rw [f5]; rfl
  have hne : ((x.f4.length : Int) != (x.f5.length : Int)) = false := by simp [hn]
  have HN := Lib.hid hn
  have HF5 := Lib.hid f5
  clear hn f5
  go_enter Try.func20, Try.ntmps20
  go_wp2_with fail
  refine (HC.out.at_ _).mono ?_
  rintro e w1 ⟨rfl, ⟨n1, rfl⟩⟩
  go_wp2_with fail
  have HQ : Hid (Q w _ #[.int .i64 x.f0, .bool x.f1, .int .i64 x.f2, .string x.f3, .slice A4 x.f4.length c4, .slice A5 x.f5.length c5]) := Lib.hid ((Q.start w _).drewN n1)
  go_loopw [5] (fun iv wi => ∃ i : Nat, iv = .int .i64 i ∧ i ≤ x.f4.length ∧ Hid (Q w wi #[.int .i64 x.f0, .bool x.f1, .int .i64 x.f2, .string x.f3, .slice A4 x.f4.length c4, .slice A5 x.f5.length c5] ∧ ∀ j, j < i → fN j = true)) (fun iv _ => x.f4.length - (intOf iv).toNat)
  case atStart => exact ⟨0, rfl, by omega, Lib.hid ⟨HQ.out, fun j h => by omega⟩⟩
  case round =>
    clear HQ
    obtain ⟨i, rfl, hil, HQ⟩ := hrel
    obtain ⟨q4, q5⟩ := HQ.out.1.cells
    have hlt0 := HQ.out.1.lt
    by_cases hlt : i < x.f4.length
    · have hd1 : decide ((i : Int) < (x.f4.length : Int)) = true := decide_eq_true (by omega)
      obtain ⟨na, rfl, qs⟩ := strAt G4.out i hlt
      have qs2 := HQ.out.1.kept qs
      have C := HLN.out i hlt
      obtain ⟨s, hs⟩ : ∃ s, x.f4[i] = s := ⟨_, rfl⟩
      obtain ⟨b, hb⟩ : ∃ b, fN i = b := ⟨_, rfl⟩
      rw [hs] at qs2 C
      rw [hb] at C
      have HC := Lib.hid C
      have HBB := Lib.hid hb
      clear qs hs C hb
      have hi0 : (0 : Int) ≤ (i : Int) := Int.natCast_nonneg _
      have hi1 : (i : Int) < (x.f4.length : Int) := by omega
      cases b
      · go_wp2_with fail
        refine (HC.out.at_ _).mono ?_
        rintro e w1 ⟨rfl, ⟨n1, rfl⟩⟩
        go_wp2_with fail
        go_ret
        exact prop_no (HQ.out.1.drewN n1) (fun h => by have := (HBO.out.1 h).1 i hlt; rw [HBB.out] at this; cases this)
      · go_wp2_with fail
        refine (HC.out.at_ _).mono ?_
        rintro e w1 ⟨rfl, ⟨n1, rfl⟩⟩
        go_wp2_with fail
        go_roundw
        case rel => exact ⟨i + 1, by go_num, by omega, Lib.hid ⟨HQ.out.1.drewN n1, fun j h => by
          by_cases e : j = i
          · rw [e]; exact HBB.out
          · exact HQ.out.2 j (by omega)⟩⟩
        case measure => simp [intOf]; omega
    · obtain rfl : i = x.f4.length := by omega
      have hd1 : decide ((x.f4.length : Int) < (x.f4.length : Int)) = false := by simp
      clear hlt
      go_wp2_with fail
      go_loopw [6] (fun iv wi => ∃ i : Nat, iv = .int .i64 i ∧ i ≤ x.f5.length ∧ Hid (Q w wi #[.int .i64 x.f0, .bool x.f1, .int .i64 x.f2, .string x.f3, .slice A4 x.f4.length c4, .slice A5 x.f5.length c5] ∧ (∀ j, j < x.f4.length → fN j = true) ∧ ∀ j, j < i → fI j = true)) (fun iv _ => x.f5.length - (intOf iv).toNat)
      case atStart => exact ⟨0, rfl, by omega, Lib.hid ⟨HQ.out.1, HQ.out.2, fun j h => by omega⟩⟩
      case round =>
        clear HQ q4 q5 hlt0 hd1
        obtain ⟨i, rfl, hil2, HQ⟩ := hrel
        obtain ⟨q4, q5⟩ := HQ.out.1.cells
        have hlt0 := HQ.out.1.lt
        by_cases hlt : i < x.f5.length
        · have hd1 : decide ((i : Int) < (x.f5.length : Int)) = true := decide_eq_true (by omega)
          have hC := Kd.C_below G5.out HQ.out.1.1
          obtain ⟨ad, A4', c4', A5', c5', rfl, r0, r1, r2, r3, r4, r5, l4', g4', l5', g5'⟩ := at_T25 hC (i : Int) (by omega) (by omega)
          rw [Int.toNat_natCast] at r0 r1 r2 r3 r4 r5
          have hg : rd_T25 x.f5 (i : Int) = x.f5[i] := by
            unfold rd_T25
            rw [Int.toNat_natCast, List.getD_eq_getElem?_getD, List.getElem?_eq_getElem hlt]; rfl
          obtain ⟨g, hgg⟩ : ∃ g, rd_T25 x.f5 (i : Int) = g := ⟨_, rfl⟩
          rw [hgg] at hg r0 r1 r2 r3 r4 r5 l4' g4' l5' g5'
          have HG := Lib.hid hg
          have C := HLI.out i hlt
          obtain ⟨b, hb⟩ : ∃ b, fI i = b := ⟨_, rfl⟩
          rw [hb, ← HG.out] at C
          have HC := Lib.hid C
          have HBB := Lib.hid hb
          clear C hb
          have hK0 := k25_mk _ g l4' g4' l5' g5'
          have HK0 := Lib.hid hK0
          have hi0 : (0 : Int) ≤ (i : Int) := Int.natCast_nonneg _
          have hi1 : (i : Int) < (x.f5.length : Int) := by omega
          clear hg hC l4' g4' l5' g5' hK0 hgg
          cases b
          · go_wp2_with fail
            with_reducible refine (HC.out.at_ #[.int .i64 g.f0, .bool g.f1, .int .i64 g.f2, .string g.f3, .slice A4' g.f4.length c4', .slice A5' g.f5.length c5'] _ HK0.out).mono ?_
            rintro e w1 ⟨rfl, hbl⟩
            have HB := Lib.hid hbl
            clear hbl
            go_wp2_with fail
            go_ret
            exact prop_no (HQ.out.1.below HB.out) (fun h => by have := (HBO.out.1 h).2 i hlt; rw [HBB.out] at this; cases this)
          · go_wp2_with fail
            with_reducible refine (HC.out.at_ #[.int .i64 g.f0, .bool g.f1, .int .i64 g.f2, .string g.f3, .slice A4' g.f4.length c4', .slice A5' g.f5.length c5'] _ HK0.out).mono ?_
            rintro e w1 ⟨rfl, hbl⟩
            have HB := Lib.hid hbl
            clear hbl
            go_wp2_with fail
            go_roundw
            case rel => exact ⟨i + 1, by go_num, by omega, Lib.hid ⟨HQ.out.1.below HB.out, HQ.out.2.1, fun j h => by
              by_cases e : j = i
              · rw [e]; exact HBB.out
              · exact HQ.out.2.2 j (by omega)⟩⟩
            case measure => simp [intOf]; omega
        · obtain rfl : i = x.f5.length := by omega
          have hd1 : decide ((x.f5.length : Int) < (x.f5.length : Int)) = false := by simp
          clear hlt
          go_wp2_with fail
          go_ret
          exact prop_yes HQ.out.1 (HBO.out.2 ⟨HQ.out.2.1, HQ.out.2.2⟩)
set_option maxHeartbeats 2000000 in
set_option maxRecDepth 100000 in
theorem pr_obj_no (d : Nat) (hd : d + 1 ≤ 1000) (x : JV) (A4 A5 : Option Addr) (c4 c5 : Nat) (w : World) (hw : wfJ x) (l4 : x.f4.length ≤ c4) (g4 : Kd.string.C w A4 x.f4.length x.f4) (l5 : x.f5.length ≤ c5) (g5 : kJ.C w A5 x.f5.length x.f5) (h0 : 0 ≤ x.f0) (h5 : x.f0 ≤ 5) (hC : UtfC x.f3 true) (f5 : x.f0 = 5) (hn : x.f4.length ≠ x.f5.length) :
    Calls Try.prog 20 #[.agg #[.int .i64 x.f0, .bool x.f1, .int .i64 x.f2, .string x.f3, .slice A4 x.f4.length c4, .slice A5 x.f5.length c5], .int .i64 ((d + 1 : Nat) : Int)] w (PropB false w) := by
  have hb4 : x.f4.length ≤ 140737488351232 := by have := hw.inv.2.1.1; omega
  have hb5 : x.f5.length ≤ 140737488351232 := by have := hw.inv.2.2.1; omega
  have HW := Lib.hid hw
  have G4 := Lib.hid g4
  have G5 := Lib.hid g5
  have hdd : ((((d + 1 : Nat) : Int)) == 0) = false := by rw [beq_eq_false_iff_ne]; omega
  have hds : (0 : Int) ≤ ((d + 1 : Nat) : Int) - 1 := by omega
  clear hw g4 g5
  have HC := Lib.hid hC
  clear hC
  have n2 : (x.f0 == 2) = false := by rw [f5]; rfl
  have n5 : (x.f0 == 5) = true := by rw [f5]; rfl
  have hne : ((x.f4.length : Int) != (x.f5.length : Int)) = true := by rw [bne_iff_ne]; omega
  have HF5 := Lib.hid f5
  clear hn f5
  go_enter Try.func20, Try.ntmps20
  go_wp2_with fail
  refine (HC.out.at_ _).mono ?_
  rintro e w1 ⟨rfl, ⟨n1, rfl⟩⟩
  go_wp2_with fail
  go_ret
  exact prop_no ((Q.start w _).drewN n1) (fun h => by cases h)
set_option maxHeartbeats 2000000 in
set_option maxRecDepth 100000 in
theorem pr_num0 (d : Nat) (hd : d + 1 ≤ 1000) (x : JV) (A4 A5 : Option Addr) (c4 c5 : Nat) (w : World) (hw : wfJ x) (l4 : x.f4.length ≤ c4) (g4 : Kd.string.C w A4 x.f4.length x.f4) (l5 : x.f5.length ≤ c5) (g5 : kJ.C w A5 x.f5.length x.f5) (h0 : 0 ≤ x.f0) (h5 : x.f0 ≤ 5) (bo : Bool) (fN fI : Nat → Bool) (hN : ∀ i, (h : i < x.f4.length) → UtfC x.f4[i] (fN i)) (hI : ∀ j, (h : j < x.f5.length) → PrC d x.f5[j] (fI j)) (hbo : bo = true ↔ (∀ i, i < x.f4.length → fN i = true) ∧ ∀ j, j < x.f5.length → fI j = true) (hC : UtfC x.f3 true) (f2 : x.f0 = 2) (e1 : (x.f3.toList == ([] : List UInt8)) = true) (e2 : (x.f3.toList != ([] : List UInt8)) = false) (e3 : x.f3.toList.isEmpty = true) :
    Calls Try.prog 20 #[.agg #[.int .i64 x.f0, .bool x.f1, .int .i64 x.f2, .string x.f3, .slice A4 x.f4.length c4, .slice A5 x.f5.length c5], .int .i64 ((d + 1 : Nat) : Int)] w (PropB bo w) := by
  have hb4 : x.f4.length ≤ 140737488351232 := by have := hw.inv.2.1.1; omega
  have hb5 : x.f5.length ≤ 140737488351232 := by have := hw.inv.2.2.1; omega
  have HW := Lib.hid hw
  have G4 := Lib.hid g4
  have G5 := Lib.hid g5
  have hdd : ((((d + 1 : Nat) : Int)) == 0) = false := by rw [beq_eq_false_iff_ne]; omega
  have hds : (0 : Int) ≤ ((d + 1 : Nat) : Int) - 1 := by omega
  clear hw g4 g5
  have HLN := Lib.hid hN
  have HLI := Lib.hid hI
  have HBO := Lib.hid hbo
  clear hN hI hbo
  have n2 : (x.f0 == 2) = true := by rw [f2]; rfl
  have n5 : (x.f0 == 5) = false := by rw [f2]; rfl
  have HF2 := Lib.hid f2
  clear f2
  have HC := Lib.hid hC
  clear hC
  go_enter Try.func20, Try.ntmps20
  go_wp2_with fail
  refine (HC.out.at_ _).mono ?_
  rintro e w1 ⟨rfl, ⟨n1, rfl⟩⟩
  go_wp2_with fail
  have HQ : Hid (Q w _ #[.int .i64 x.f0, .bool x.f1, .int .i64 x.f2, .string x.f3, .slice A4 x.f4.length c4, .slice A5 x.f5.length c5]) := Lib.hid ((Q.start w _).drewN n1)
  go_loopw [5] (fun iv wi => ∃ i : Nat, iv = .int .i64 i ∧ i ≤ x.f4.length ∧ Hid (Q w wi #[.int .i64 x.f0, .bool x.f1, .int .i64 x.f2, .string x.f3, .slice A4 x.f4.length c4, .slice A5 x.f5.length c5] ∧ ∀ j, j < i → fN j = true)) (fun iv _ => x.f4.length - (intOf iv).toNat)
  case atStart => exact ⟨0, rfl, by omega, Lib.hid ⟨HQ.out, fun j h => by omega⟩⟩
  case round =>
    clear HQ
    obtain ⟨i, rfl, hil, HQ⟩ := hrel
    obtain ⟨q4, q5⟩ := HQ.out.1.cells
    have hlt0 := HQ.out.1.lt
    by_cases hlt : i < x.f4.length
    · have hd1 : decide ((i : Int) < (x.f4.length : Int)) = true := decide_eq_true (by omega)
      obtain ⟨na, rfl, qs⟩ := strAt G4.out i hlt
      have qs2 := HQ.out.1.kept qs
      have C := HLN.out i hlt
      obtain ⟨s, hs⟩ : ∃ s, x.f4[i] = s := ⟨_, rfl⟩
      obtain ⟨b, hb⟩ : ∃ b, fN i = b := ⟨_, rfl⟩
      rw [hs] at qs2 C
      rw [hb] at C
      have HC := Lib.hid C
      have HBB := Lib.hid hb
      clear qs hs C hb
      have hi0 : (0 : Int) ≤ (i : Int) := Int.natCast_nonneg _
      have hi1 : (i : Int) < (x.f4.length : Int) := by omega
      cases b
      · go_wp2_with fail
        refine (HC.out.at_ _).mono ?_
        rintro e w1 ⟨rfl, ⟨n1, rfl⟩⟩
        go_wp2_with fail
        go_ret
        exact prop_no (HQ.out.1.drewN n1) (fun h => by have := (HBO.out.1 h).1 i hlt; rw [HBB.out] at this; cases this)
      · go_wp2_with fail
        refine (HC.out.at_ _).mono ?_
        rintro e w1 ⟨rfl, ⟨n1, rfl⟩⟩
        go_wp2_with fail
        go_roundw
        case rel => exact ⟨i + 1, by go_num, by omega, Lib.hid ⟨HQ.out.1.drewN n1, fun j h => by
          by_cases e : j = i
          · rw [e]; exact HBB.out
          · exact HQ.out.2 j (by omega)⟩⟩
        case measure => simp [intOf]; omega
    · obtain rfl : i = x.f4.length := by omega
      have hd1 : decide ((x.f4.length : Int) < (x.f4.length : Int)) = false := by simp
      clear hlt
      go_wp2_with fail
      go_loopw [6] (fun iv wi => ∃ i : Nat, iv = .int .i64 i ∧ i ≤ x.f5.length ∧ Hid (Q w wi #[.int .i64 x.f0, .bool x.f1, .int .i64 x.f2, .string x.f3, .slice A4 x.f4.length c4, .slice A5 x.f5.length c5] ∧ (∀ j, j < x.f4.length → fN j = true) ∧ ∀ j, j < i → fI j = true)) (fun iv _ => x.f5.length - (intOf iv).toNat)
      case atStart => exact ⟨0, rfl, by omega, Lib.hid ⟨HQ.out.1, HQ.out.2, fun j h => by omega⟩⟩
      case round =>
        clear HQ q4 q5 hlt0 hd1
        obtain ⟨i, rfl, hil2, HQ⟩ := hrel
        obtain ⟨q4, q5⟩ := HQ.out.1.cells
        have hlt0 := HQ.out.1.lt
        by_cases hlt : i < x.f5.length
        · have hd1 : decide ((i : Int) < (x.f5.length : Int)) = true := decide_eq_true (by omega)
          have hC := Kd.C_below G5.out HQ.out.1.1
          obtain ⟨ad, A4', c4', A5', c5', rfl, r0, r1, r2, r3, r4, r5, l4', g4', l5', g5'⟩ := at_T25 hC (i : Int) (by omega) (by omega)
          rw [Int.toNat_natCast] at r0 r1 r2 r3 r4 r5
          have hg : rd_T25 x.f5 (i : Int) = x.f5[i] := by
            unfold rd_T25
            rw [Int.toNat_natCast, List.getD_eq_getElem?_getD, List.getElem?_eq_getElem hlt]; rfl
          obtain ⟨g, hgg⟩ : ∃ g, rd_T25 x.f5 (i : Int) = g := ⟨_, rfl⟩
          rw [hgg] at hg r0 r1 r2 r3 r4 r5 l4' g4' l5' g5'
          have HG := Lib.hid hg
          have C := HLI.out i hlt
          obtain ⟨b, hb⟩ : ∃ b, fI i = b := ⟨_, rfl⟩
          rw [hb, ← HG.out] at C
          have HC := Lib.hid C
          have HBB := Lib.hid hb
          clear C hb
          have hK0 := k25_mk _ g l4' g4' l5' g5'
          have HK0 := Lib.hid hK0
          have hi0 : (0 : Int) ≤ (i : Int) := Int.natCast_nonneg _
          have hi1 : (i : Int) < (x.f5.length : Int) := by omega
          clear hg hC l4' g4' l5' g5' hK0 hgg
          cases b
          · go_wp2_with fail
            with_reducible refine (HC.out.at_ #[.int .i64 g.f0, .bool g.f1, .int .i64 g.f2, .string g.f3, .slice A4' g.f4.length c4', .slice A5' g.f5.length c5'] _ HK0.out).mono ?_
            rintro e w1 ⟨rfl, hbl⟩
            have HB := Lib.hid hbl
            clear hbl
            go_wp2_with fail
            go_ret
            exact prop_no (HQ.out.1.below HB.out) (fun h => by have := (HBO.out.1 h).2 i hlt; rw [HBB.out] at this; cases this)
          · go_wp2_with fail
            with_reducible refine (HC.out.at_ #[.int .i64 g.f0, .bool g.f1, .int .i64 g.f2, .string g.f3, .slice A4' g.f4.length c4', .slice A5' g.f5.length c5'] _ HK0.out).mono ?_
            rintro e w1 ⟨rfl, hbl⟩
            have HB := Lib.hid hbl
            clear hbl
            go_wp2_with fail
            go_roundw
            case rel => exact ⟨i + 1, by go_num, by omega, Lib.hid ⟨HQ.out.1.below HB.out, HQ.out.2.1, fun j h => by
              by_cases e : j = i
              · rw [e]; exact HBB.out
              · exact HQ.out.2.2 j (by omega)⟩⟩
            case measure => simp [intOf]; omega
        · obtain rfl : i = x.f5.length := by omega
          have hd1 : decide ((x.f5.length : Int) < (x.f5.length : Int)) = false := by simp
          clear hlt
          go_wp2_with fail
          go_ret
          exact prop_yes HQ.out.1 (HBO.out.2 ⟨HQ.out.2.1, HQ.out.2.2⟩)
set_option maxHeartbeats 2000000 in
set_option maxRecDepth 100000 in
theorem pr_num1 (d : Nat) (hd : d + 1 ≤ 1000) (x : JV) (A4 A5 : Option Addr) (c4 c5 : Nat) (w : World) (hw : wfJ x) (l4 : x.f4.length ≤ c4) (g4 : Kd.string.C w A4 x.f4.length x.f4) (l5 : x.f5.length ≤ c5) (g5 : kJ.C w A5 x.f5.length x.f5) (h0 : 0 ≤ x.f0) (h5 : x.f0 ≤ 5) (bo : Bool) (fN fI : Nat → Bool) (hN : ∀ i, (h : i < x.f4.length) → UtfC x.f4[i] (fN i)) (hI : ∀ j, (h : j < x.f5.length) → PrC d x.f5[j] (fI j)) (hbo : bo = true ↔ (∀ i, i < x.f4.length → fN i = true) ∧ ∀ j, j < x.f5.length → fI j = true) (hC : UtfC x.f3 true) (hD : IsDecC x.f3 true) (f2 : x.f0 = 2) (e1 : (x.f3.toList == ([] : List UInt8)) = false) (e2 : (x.f3.toList != ([] : List UInt8)) = true) (e3 : x.f3.toList.isEmpty = false) :
    Calls Try.prog 20 #[.agg #[.int .i64 x.f0, .bool x.f1, .int .i64 x.f2, .string x.f3, .slice A4 x.f4.length c4, .slice A5 x.f5.length c5], .int .i64 ((d + 1 : Nat) : Int)] w (PropB bo w) := by
  have hb4 : x.f4.length ≤ 140737488351232 := by have := hw.inv.2.1.1; omega
  have hb5 : x.f5.length ≤ 140737488351232 := by have := hw.inv.2.2.1; omega
  have HW := Lib.hid hw
  have G4 := Lib.hid g4
  have G5 := Lib.hid g5
  have hdd : ((((d + 1 : Nat) : Int)) == 0) = false := by rw [beq_eq_false_iff_ne]; omega
  have hds : (0 : Int) ≤ ((d + 1 : Nat) : Int) - 1 := by omega
  clear hw g4 g5
  have HLN := Lib.hid hN
  have HLI := Lib.hid hI
  have HBO := Lib.hid hbo
  clear hN hI hbo
  have n2 : (x.f0 == 2) = true := by rw [f2]; rfl
  have n5 : (x.f0 == 5) = false := by rw [f2]; rfl
  have HF2 := Lib.hid f2
  clear f2
  have HC := Lib.hid hC
  clear hC
  have HD := Lib.hid hD
  clear hD
  go_enter Try.func20, Try.ntmps20
  go_wp2_with fail
  refine (HC.out.at_ _).mono ?_
  rintro e w1 ⟨rfl, ⟨n1, rfl⟩⟩
  go_wp2_with fail
  refine (HD.out.at_ _).mono ?_
  rintro e w2 ⟨rfl, hb⟩
  have HQ2 := Lib.hid (((Q.start w #[.int .i64 x.f0, .bool x.f1, .int .i64 x.f2, .string x.f3, .slice A4 x.f4.length c4, .slice A5 x.f5.length c5]).drewN n1).below hb)
  obtain ⟨q4, q5⟩ := HQ2.out.cells
  have q0 : w2.cell? ⟨w.heap.size, 0, none⟩ = some (.int .i64 x.f0) := by rw [Lib.cell_of_heap HQ2.out.2]; rfl
  clear hb
  go_wp2_with fail
  have HQ := HQ2
  clear HQ2 q4 q5 q0
  go_loopw [5] (fun iv wi => ∃ i : Nat, iv = .int .i64 i ∧ i ≤ x.f4.length ∧ Hid (Q w wi #[.int .i64 x.f0, .bool x.f1, .int .i64 x.f2, .string x.f3, .slice A4 x.f4.length c4, .slice A5 x.f5.length c5] ∧ ∀ j, j < i → fN j = true)) (fun iv _ => x.f4.length - (intOf iv).toNat)
  case atStart => exact ⟨0, rfl, by omega, Lib.hid ⟨HQ.out, fun j h => by omega⟩⟩
  case round =>
    clear HQ
    obtain ⟨i, rfl, hil, HQ⟩ := hrel
    obtain ⟨q4, q5⟩ := HQ.out.1.cells
    have hlt0 := HQ.out.1.lt
    by_cases hlt : i < x.f4.length
    · have hd1 : decide ((i : Int) < (x.f4.length : Int)) = true := decide_eq_true (by omega)
      obtain ⟨na, rfl, qs⟩ := strAt G4.out i hlt
      have qs2 := HQ.out.1.kept qs
      have C := HLN.out i hlt
      obtain ⟨s, hs⟩ : ∃ s, x.f4[i] = s := ⟨_, rfl⟩
      obtain ⟨b, hb⟩ : ∃ b, fN i = b := ⟨_, rfl⟩
      rw [hs] at qs2 C
      rw [hb] at C
      have HC := Lib.hid C
      have HBB := Lib.hid hb
      clear qs hs C hb
      have hi0 : (0 : Int) ≤ (i : Int) := Int.natCast_nonneg _
      have hi1 : (i : Int) < (x.f4.length : Int) := by omega
      cases b
      · go_wp2_with fail
        refine (HC.out.at_ _).mono ?_
        rintro e w1 ⟨rfl, ⟨n1, rfl⟩⟩
        go_wp2_with fail
        go_ret
        exact prop_no (HQ.out.1.drewN n1) (fun h => by have := (HBO.out.1 h).1 i hlt; rw [HBB.out] at this; cases this)
      · go_wp2_with fail
        refine (HC.out.at_ _).mono ?_
        rintro e w1 ⟨rfl, ⟨n1, rfl⟩⟩
        go_wp2_with fail
        go_roundw
        case rel => exact ⟨i + 1, by go_num, by omega, Lib.hid ⟨HQ.out.1.drewN n1, fun j h => by
          by_cases e : j = i
          · rw [e]; exact HBB.out
          · exact HQ.out.2 j (by omega)⟩⟩
        case measure => simp [intOf]; omega
    · obtain rfl : i = x.f4.length := by omega
      have hd1 : decide ((x.f4.length : Int) < (x.f4.length : Int)) = false := by simp
      clear hlt
      go_wp2_with fail
      go_loopw [6] (fun iv wi => ∃ i : Nat, iv = .int .i64 i ∧ i ≤ x.f5.length ∧ Hid (Q w wi #[.int .i64 x.f0, .bool x.f1, .int .i64 x.f2, .string x.f3, .slice A4 x.f4.length c4, .slice A5 x.f5.length c5] ∧ (∀ j, j < x.f4.length → fN j = true) ∧ ∀ j, j < i → fI j = true)) (fun iv _ => x.f5.length - (intOf iv).toNat)
      case atStart => exact ⟨0, rfl, by omega, Lib.hid ⟨HQ.out.1, HQ.out.2, fun j h => by omega⟩⟩
      case round =>
        clear HQ q4 q5 hlt0 hd1
        obtain ⟨i, rfl, hil2, HQ⟩ := hrel
        obtain ⟨q4, q5⟩ := HQ.out.1.cells
        have hlt0 := HQ.out.1.lt
        by_cases hlt : i < x.f5.length
        · have hd1 : decide ((i : Int) < (x.f5.length : Int)) = true := decide_eq_true (by omega)
          have hC := Kd.C_below G5.out HQ.out.1.1
          obtain ⟨ad, A4', c4', A5', c5', rfl, r0, r1, r2, r3, r4, r5, l4', g4', l5', g5'⟩ := at_T25 hC (i : Int) (by omega) (by omega)
          rw [Int.toNat_natCast] at r0 r1 r2 r3 r4 r5
          have hg : rd_T25 x.f5 (i : Int) = x.f5[i] := by
            unfold rd_T25
            rw [Int.toNat_natCast, List.getD_eq_getElem?_getD, List.getElem?_eq_getElem hlt]; rfl
          obtain ⟨g, hgg⟩ : ∃ g, rd_T25 x.f5 (i : Int) = g := ⟨_, rfl⟩
          rw [hgg] at hg r0 r1 r2 r3 r4 r5 l4' g4' l5' g5'
          have HG := Lib.hid hg
          have C := HLI.out i hlt
          obtain ⟨b, hb⟩ : ∃ b, fI i = b := ⟨_, rfl⟩
          rw [hb, ← HG.out] at C
          have HC := Lib.hid C
          have HBB := Lib.hid hb
          clear C hb
          have hK0 := k25_mk _ g l4' g4' l5' g5'
          have HK0 := Lib.hid hK0
          have hi0 : (0 : Int) ≤ (i : Int) := Int.natCast_nonneg _
          have hi1 : (i : Int) < (x.f5.length : Int) := by omega
          clear hg hC l4' g4' l5' g5' hK0 hgg
          cases b
          · go_wp2_with fail
            with_reducible refine (HC.out.at_ #[.int .i64 g.f0, .bool g.f1, .int .i64 g.f2, .string g.f3, .slice A4' g.f4.length c4', .slice A5' g.f5.length c5'] _ HK0.out).mono ?_
            rintro e w1 ⟨rfl, hbl⟩
            have HB := Lib.hid hbl
            clear hbl
            go_wp2_with fail
            go_ret
            exact prop_no (HQ.out.1.below HB.out) (fun h => by have := (HBO.out.1 h).2 i hlt; rw [HBB.out] at this; cases this)
          · go_wp2_with fail
            with_reducible refine (HC.out.at_ #[.int .i64 g.f0, .bool g.f1, .int .i64 g.f2, .string g.f3, .slice A4' g.f4.length c4', .slice A5' g.f5.length c5'] _ HK0.out).mono ?_
            rintro e w1 ⟨rfl, hbl⟩
            have HB := Lib.hid hbl
            clear hbl
            go_wp2_with fail
            go_roundw
            case rel => exact ⟨i + 1, by go_num, by omega, Lib.hid ⟨HQ.out.1.below HB.out, HQ.out.2.1, fun j h => by
              by_cases e : j = i
              · rw [e]; exact HBB.out
              · exact HQ.out.2.2 j (by omega)⟩⟩
            case measure => simp [intOf]; omega
        · obtain rfl : i = x.f5.length := by omega
          have hd1 : decide ((x.f5.length : Int) < (x.f5.length : Int)) = false := by simp
          clear hlt
          go_wp2_with fail
          go_ret
          exact prop_yes HQ.out.1 (HBO.out.2 ⟨HQ.out.2.1, HQ.out.2.2⟩)
set_option maxHeartbeats 2000000 in
set_option maxRecDepth 100000 in
theorem pr_num2 (d : Nat) (hd : d + 1 ≤ 1000) (x : JV) (A4 A5 : Option Addr) (c4 c5 : Nat) (w : World) (hw : wfJ x) (l4 : x.f4.length ≤ c4) (g4 : Kd.string.C w A4 x.f4.length x.f4) (l5 : x.f5.length ≤ c5) (g5 : kJ.C w A5 x.f5.length x.f5) (h0 : 0 ≤ x.f0) (h5 : x.f0 ≤ 5) (hC : UtfC x.f3 true) (hD : IsDecC x.f3 false) (f2 : x.f0 = 2) (e1 : (x.f3.toList == ([] : List UInt8)) = false) (e2 : (x.f3.toList != ([] : List UInt8)) = true) (e3 : x.f3.toList.isEmpty = false) :
    Calls Try.prog 20 #[.agg #[.int .i64 x.f0, .bool x.f1, .int .i64 x.f2, .string x.f3, .slice A4 x.f4.length c4, .slice A5 x.f5.length c5], .int .i64 ((d + 1 : Nat) : Int)] w (PropB false w) := by
  have hb4 : x.f4.length ≤ 140737488351232 := by have := hw.inv.2.1.1; omega
  have hb5 : x.f5.length ≤ 140737488351232 := by have := hw.inv.2.2.1; omega
  have HW := Lib.hid hw
  have G4 := Lib.hid g4
  have G5 := Lib.hid g5
  have hdd : ((((d + 1 : Nat) : Int)) == 0) = false := by rw [beq_eq_false_iff_ne]; omega
  have hds : (0 : Int) ≤ ((d + 1 : Nat) : Int) - 1 := by omega
  clear hw g4 g5
  have n2 : (x.f0 == 2) = true := by rw [f2]; rfl
  have n5 : (x.f0 == 5) = false := by rw [f2]; rfl
  have HF2 := Lib.hid f2
  clear f2
  have HC := Lib.hid hC
  clear hC
  have HD := Lib.hid hD
  clear hD
  go_enter Try.func20, Try.ntmps20
  go_wp2_with fail
  refine (HC.out.at_ _).mono ?_
  rintro e w1 ⟨rfl, ⟨n1, rfl⟩⟩
  go_wp2_with fail
  refine (HD.out.at_ _).mono ?_
  rintro e w2 ⟨rfl, hb⟩
  have HQ2 := Lib.hid (((Q.start w #[.int .i64 x.f0, .bool x.f1, .int .i64 x.f2, .string x.f3, .slice A4 x.f4.length c4, .slice A5 x.f5.length c5]).drewN n1).below hb)
  obtain ⟨q4, q5⟩ := HQ2.out.cells
  have q0 : w2.cell? ⟨w.heap.size, 0, none⟩ = some (.int .i64 x.f0) := by rw [Lib.cell_of_heap HQ2.out.2]; rfl
  clear hb
  go_wp2_with fail
  go_ret
  exact prop_no HQ2.out (fun h => by cases h)
theorem pr_nil (x : JV) (cs : Array Value) (w : World) : Calls Try.prog 20 #[.agg cs, .int .i64 0] w (PropB false w) := by
  go_enter Try.func20, Try.ntmps20
  go_wp2_with fail
  go_ret
  exact prop_no (Q.start w _) (fun h => by cases h)
theorem str_nil_facts : ((⟨#[]⟩ : ByteArray).toList == ([] : List UInt8)) = true ∧ ((⟨#[]⟩ : ByteArray).toList != ([] : List UInt8)) = false ∧ (⟨#[]⟩ : ByteArray).toList.isEmpty = true := by
  have : (⟨#[]⟩ : ByteArray).toList = [] := by rw [ByteArray.toList_eq]
  rw [this]; exact ⟨rfl, rfl, rfl⟩
theorem no_ {d : Nat} {x : JV} {b : Bool} (h : ∀ (A4 A5 : Option Addr) (c4 c5 : Nat) (w : World), x.f4.length ≤ c4 → Kd.string.C w A4 x.f4.length x.f4 → x.f5.length ≤ c5 → kJ.C w A5 x.f5.length x.f5 → Calls Try.prog 20 #[.agg #[.int .i64 x.f0, .bool x.f1, .int .i64 x.f2, .string x.f3, .slice A4 x.f4.length c4, .slice A5 x.f5.length c5], .int .i64 (d : Int)] w (PropB b w)) : PrC d x b := fun cs w hK => by
  obtain ⟨A4, c4, A5, c5, hcs, l4, g4, l5, g5⟩ := k25_open hK
  obtain rfl : cs = #[.int .i64 x.f0, .bool x.f1, .int .i64 x.f2, .string x.f3, .slice A4 x.f4.length c4, .slice A5 x.f5.length c5] := by apply Array.toList_inj.1; rw [hcs]
  exact h A4 A5 c4 c5 w l4 g4 l5 g5
theorem properIn : ∀ d : Nat, d ≤ 1000 → ∀ x, wfJ x → ∃ b, (b = true → Dp d x) ∧ PrC d x b
  | 0, _ => fun x _ => ⟨false, (fun h => by cases h), fun cs w _ => pr_nil x cs w⟩
  | d + 1, hd => fun x hw => by
    classical
    have hP := properIn d (by omega)
    obtain ⟨b, hC⟩ := utf_calls x.f3 hw.inv.1
    by_cases h0 : x.f0 < 0
    · exact ⟨false, (fun h => by cases h), no_ fun A4 A5 c4 c5 w l4 g4 l5 g5 => pr_low d hd x A4 A5 c4 c5 w hw l4 g4 l5 g5 h0⟩
    have h0' : 0 ≤ x.f0 := by omega
    by_cases h5 : 5 < x.f0
    · exact ⟨false, (fun h => by cases h), no_ fun A4 A5 c4 c5 w l4 g4 l5 g5 => pr_high d hd x A4 A5 c4 c5 w hw l4 g4 l5 g5 h0' h5⟩
    have h5' : x.f0 ≤ 5 := by omega
    cases b with
    | false => exact ⟨false, (fun h => by cases h), no_ fun A4 A5 c4 c5 w l4 g4 l5 g5 => pr_utf d hd x A4 A5 c4 c5 w hw l4 g4 l5 g5 h0' h5' hC⟩
    | true =>
      have hN0 : ∀ i, (h : i < x.f4.length) → ∃ b, UtfC x.f4[i] b := fun i h => utf_calls _ (hw.inv.2.1.2 _ (List.getElem_mem _))
      have hI0 : ∀ j, (h : j < x.f5.length) → ∃ b, (b = true → Dp d x.f5[j]) ∧ PrC d x.f5[j] b := fun j h => hP _ (hw.inv.2.2.2 _ (List.getElem_mem _))
      obtain ⟨fN, hN⟩ : ∃ fN : Nat → Bool, ∀ i, (h : i < x.f4.length) → UtfC x.f4[i] (fN i) := ⟨fun i => if h : i < x.f4.length then (hN0 i h).choose else true, fun i h => by simp only [dif_pos h]; exact (hN0 i h).choose_spec⟩
      obtain ⟨fI, hI⟩ : ∃ fI : Nat → Bool, ∀ j, (h : j < x.f5.length) → (fI j = true → Dp d x.f5[j]) ∧ PrC d x.f5[j] (fI j) := ⟨fun j => if h : j < x.f5.length then (hI0 j h).choose else true, fun j h => by simp only [dif_pos h]; exact (hI0 j h).choose_spec⟩
      have hI1 := fun j h => (hI j h).2
      obtain ⟨bo, hbo⟩ : ∃ bo : Bool, bo = true ↔ (∀ i, i < x.f4.length → fN i = true) ∧ ∀ j, j < x.f5.length → fI j = true := ⟨decide ((∀ i, i < x.f4.length → fN i = true) ∧ ∀ j, j < x.f5.length → fI j = true), decide_eq_true_iff⟩
      have hDp : (x.f0 = 5 → x.f4.length = x.f5.length) → bo = true → Dp (d + 1) x := fun h hb => Dp.mk d x h0' h5' h fun y hy => by
        obtain ⟨j, hj, rfl⟩ := List.getElem_of_mem hy
        exact (hI j hj).1 ((hbo.1 hb).2 j hj)
      by_cases f2 : x.f0 = 2
      · have hx5 : x.f0 = 5 → x.f4.length = x.f5.length := fun h => by omega
        rcases str_cases x.f3 with he | ⟨_, e1, e2, e3⟩
        · obtain ⟨e1, e2, e3⟩ := str_nil_facts
          exact ⟨bo, hDp hx5, no_ fun A4 A5 c4 c5 w l4 g4 l5 g5 => pr_num0 d hd x A4 A5 c4 c5 w hw l4 g4 l5 g5 h0' h5' bo fN fI hN hI1 hbo hC f2 (by rw [he]; exact e1) (by rw [he]; exact e2) (by rw [he]; exact e3)⟩
        · obtain ⟨bd, hD⟩ := isDecimal x.f3 hw.inv.1
          cases bd with
          | false => exact ⟨false, (fun h => by cases h), no_ fun A4 A5 c4 c5 w l4 g4 l5 g5 => pr_num2 d hd x A4 A5 c4 c5 w hw l4 g4 l5 g5 h0' h5' hC hD f2 e1 e2 e3⟩
          | true => exact ⟨bo, hDp hx5, no_ fun A4 A5 c4 c5 w l4 g4 l5 g5 => pr_num1 d hd x A4 A5 c4 c5 w hw l4 g4 l5 g5 h0' h5' bo fN fI hN hI1 hbo hC hD f2 e1 e2 e3⟩
      · by_cases f5 : x.f0 = 5
        · by_cases hn : x.f4.length = x.f5.length
          · exact ⟨bo, hDp fun _ => hn, no_ fun A4 A5 c4 c5 w l4 g4 l5 g5 => pr_obj d hd x A4 A5 c4 c5 w hw l4 g4 l5 g5 h0' h5' bo fN fI hN hI1 hbo hC f5 hn⟩
          · exact ⟨false, (fun h => by cases h), no_ fun A4 A5 c4 c5 w l4 g4 l5 g5 => pr_obj_no d hd x A4 A5 c4 c5 w hw l4 g4 l5 g5 h0' h5' hC f5 hn⟩
        · exact ⟨bo, hDp fun h => absurd h f5, no_ fun A4 A5 c4 c5 w l4 g4 l5 g5 => pr_else d hd x A4 A5 c4 c5 w hw l4 g4 l5 g5 h0' h5' bo fN fI hN hI1 hbo hC (by rw [beq_eq_false_iff_ne]; exact f2) (by rw [beq_eq_false_iff_ne]; exact f5)⟩
end Go.Proofs.Ytdleegmdpgefmaa.J
