/- spec.JEquals: what it tells of values without numbers. -/
import Derived.Test.YtdleegmdpgefmaaDoorJW
namespace Go.Proofs.YtdleegmdpgefmaaDoor.J
open Go.RowKit Go.Proofs.YtdleegmdpgefmaaDoorW.PrintWords Go.Proofs.YtdleegmdpgefmaaDoorW.PrintLast Go.Proofs.YtdleegmdpgefmaaDoorW.PrintMore Go.Proofs.YtdleegmdpgefmaaDoor.PJ Go.Proofs.YtdleegmdpgefmaaDoor.K Go.Maps
set_option linter.unusedVariables false
set_option linter.unusedSimpArgs false

theorem jopen2 {w : World} {x : JV} {cs : Array Value} (hK : kJ.K w x cs.toList) : ∃ A4 c4 A5 c5, cs = #[.int .i64 x.f0, .bool x.f1, .int .i64 x.f2, .string x.f3, .slice A4 x.f4.length c4, .slice A5 x.f5.length c5] ∧ x.f4.length ≤ c4 ∧ Kd.string.C w A4 x.f4.length x.f4 ∧ x.f5.length ≤ c5 ∧ kJ.C w A5 x.f5.length x.f5 := by
  obtain ⟨A4, c4, A5, c5, hcs, l4, g4, l5, g5⟩ := k25_open hK
  exact ⟨A4, c4, A5, c5, by apply Array.toList_inj.1; rw [hcs], l4, g4, l5, g5⟩

set_option maxHeartbeats 4000000 in
set_option maxRecDepth 100000 in
theorem je_kind (x y : JV) (r : Bool) (hr : r = false) (hne : x.f0 ≠ y.f0) : JeC x y r := by
  intro ca cb w hKa hKb
  obtain ⟨A4, c4, A5, c5, rfl, l4, g4, l5, g5⟩ := jopen2 hKa
  obtain ⟨B4, d4, B5, d5, rfl, m4, e4, m5, e5⟩ := jopen2 hKb
  have HKA := Lib.hid hKa
  have HKB := Lib.hid hKb
  have HG5 := Lib.hid g5
  have HE5 := Lib.hid e5
  have HLL := Lib.hid (And.intro l5 m5)
  clear hKa hKb l4 g4 l5 g5 m4 e4 m5 e5
  have hq := Q2.start w #[.int .i64 x.f0, .bool x.f1, .int .i64 x.f2, .string x.f3, .slice A4 x.f4.length c4, .slice A5 x.f5.length c5] #[.int .i64 y.f0, .bool y.f1, .int .i64 y.f2, .string y.f3, .slice B4 y.f4.length d4, .slice B5 y.f5.length d5]
  have a0 := hq.c0 0 _ rfl
  have b0 := hq.c1 0 _ rfl
  have a1 := hq.c0 1 _ rfl
  have b1 := hq.c1 1 _ rfl
  have a2 := hq.c0 2 _ rfl
  have b2 := hq.c1 2 _ rfl
  have a3 := hq.c0 3 _ rfl
  have b3 := hq.c1 3 _ rfl
  have a4 := hq.c0 4 _ rfl
  have b4 := hq.c1 4 _ rfl
  have a5 := hq.c0 5 _ rfl
  have b5 := hq.c1 5 _ rfl
  have HQ := Lib.hid hq
  obtain ⟨W0, hW0⟩ : ∃ W0, (w.alloc (.cells #[.int .i64 x.f0, .bool x.f1, .int .i64 x.f2, .string x.f3, .slice A4 x.f4.length c4, .slice A5 x.f5.length c5] 25)).alloc (.cells #[.int .i64 y.f0, .bool y.f1, .int .i64 y.f2, .string y.f3, .slice B4 y.f4.length d4, .slice B5 y.f5.length d5] 25) = W0 := ⟨_, rfl⟩
  rw [hW0] at a0 a1 a2 a3 a4 a5 b0 b1 b2 b3 b4 b5 HQ
  clear hq
  go_enter Tryd.func9, Tryd.ntmps9
  go_wp2_with fail
  go_ret
  subst hr
  exact ⟨rfl, HQ.out.below⟩

set_option maxHeartbeats 4000000 in
set_option maxRecDepth 100000 in
theorem je_nil (x y : JV) (r : Bool) (hr : r = true) (hkx : x.f0 = 0) (hky : y.f0 = 0) : JeC x y r := by
  intro ca cb w hKa hKb
  obtain ⟨A4, c4, A5, c5, rfl, l4, g4, l5, g5⟩ := jopen2 hKa
  obtain ⟨B4, d4, B5, d5, rfl, m4, e4, m5, e5⟩ := jopen2 hKb
  have HKA := Lib.hid hKa
  have HKB := Lib.hid hKb
  have HG5 := Lib.hid g5
  have HE5 := Lib.hid e5
  have HLL := Lib.hid (And.intro l5 m5)
  clear hKa hKb l4 g4 l5 g5 m4 e4 m5 e5
  rw [hkx] at HKA ⊢
  rw [hky] at HKB ⊢
  have hq := Q2.start w #[.int .i64 0, .bool x.f1, .int .i64 x.f2, .string x.f3, .slice A4 x.f4.length c4, .slice A5 x.f5.length c5] #[.int .i64 0, .bool y.f1, .int .i64 y.f2, .string y.f3, .slice B4 y.f4.length d4, .slice B5 y.f5.length d5]
  have a0 := hq.c0 0 _ rfl
  have b0 := hq.c1 0 _ rfl
  have a1 := hq.c0 1 _ rfl
  have b1 := hq.c1 1 _ rfl
  have a2 := hq.c0 2 _ rfl
  have b2 := hq.c1 2 _ rfl
  have a3 := hq.c0 3 _ rfl
  have b3 := hq.c1 3 _ rfl
  have a4 := hq.c0 4 _ rfl
  have b4 := hq.c1 4 _ rfl
  have a5 := hq.c0 5 _ rfl
  have b5 := hq.c1 5 _ rfl
  have HQ := Lib.hid hq
  obtain ⟨W0, hW0⟩ : ∃ W0, (w.alloc (.cells #[.int .i64 0, .bool x.f1, .int .i64 x.f2, .string x.f3, .slice A4 x.f4.length c4, .slice A5 x.f5.length c5] 25)).alloc (.cells #[.int .i64 0, .bool y.f1, .int .i64 y.f2, .string y.f3, .slice B4 y.f4.length d4, .slice B5 y.f5.length d5] 25) = W0 := ⟨_, rfl⟩
  rw [hW0] at a0 a1 a2 a3 a4 a5 b0 b1 b2 b3 b4 b5 HQ
  clear hq
  go_enter Tryd.func9, Tryd.ntmps9
  go_wp2_with fail
  go_ret
  subst hr
  exact ⟨rfl, HQ.out.below⟩

set_option maxHeartbeats 4000000 in
set_option maxRecDepth 100000 in
theorem je_bool (x y : JV) (r : Bool) (hr : r = (x.f1 == y.f1)) (hkx : x.f0 = 1) (hky : y.f0 = 1) : JeC x y r := by
  intro ca cb w hKa hKb
  obtain ⟨A4, c4, A5, c5, rfl, l4, g4, l5, g5⟩ := jopen2 hKa
  obtain ⟨B4, d4, B5, d5, rfl, m4, e4, m5, e5⟩ := jopen2 hKb
  have HKA := Lib.hid hKa
  have HKB := Lib.hid hKb
  have HG5 := Lib.hid g5
  have HE5 := Lib.hid e5
  have HLL := Lib.hid (And.intro l5 m5)
  clear hKa hKb l4 g4 l5 g5 m4 e4 m5 e5
  rw [hkx] at HKA ⊢
  rw [hky] at HKB ⊢
  have hq := Q2.start w #[.int .i64 1, .bool x.f1, .int .i64 x.f2, .string x.f3, .slice A4 x.f4.length c4, .slice A5 x.f5.length c5] #[.int .i64 1, .bool y.f1, .int .i64 y.f2, .string y.f3, .slice B4 y.f4.length d4, .slice B5 y.f5.length d5]
  have a0 := hq.c0 0 _ rfl
  have b0 := hq.c1 0 _ rfl
  have a1 := hq.c0 1 _ rfl
  have b1 := hq.c1 1 _ rfl
  have a2 := hq.c0 2 _ rfl
  have b2 := hq.c1 2 _ rfl
  have a3 := hq.c0 3 _ rfl
  have b3 := hq.c1 3 _ rfl
  have a4 := hq.c0 4 _ rfl
  have b4 := hq.c1 4 _ rfl
  have a5 := hq.c0 5 _ rfl
  have b5 := hq.c1 5 _ rfl
  have HQ := Lib.hid hq
  obtain ⟨W0, hW0⟩ : ∃ W0, (w.alloc (.cells #[.int .i64 1, .bool x.f1, .int .i64 x.f2, .string x.f3, .slice A4 x.f4.length c4, .slice A5 x.f5.length c5] 25)).alloc (.cells #[.int .i64 1, .bool y.f1, .int .i64 y.f2, .string y.f3, .slice B4 y.f4.length d4, .slice B5 y.f5.length d5] 25) = W0 := ⟨_, rfl⟩
  rw [hW0] at a0 a1 a2 a3 a4 a5 b0 b1 b2 b3 b4 b5 HQ
  clear hq
  go_enter Tryd.func9, Tryd.ntmps9
  go_wp2_with fail
  go_ret
  subst hr
  exact ⟨rfl, HQ.out.below⟩

set_option maxHeartbeats 4000000 in
set_option maxRecDepth 100000 in
theorem je_str (x y : JV) (r : Bool) (hr : r = (x.f3.toList == y.f3.toList)) (hkx : x.f0 = 3) (hky : y.f0 = 3) : JeC x y r := by
  intro ca cb w hKa hKb
  obtain ⟨A4, c4, A5, c5, rfl, l4, g4, l5, g5⟩ := jopen2 hKa
  obtain ⟨B4, d4, B5, d5, rfl, m4, e4, m5, e5⟩ := jopen2 hKb
  have HKA := Lib.hid hKa
  have HKB := Lib.hid hKb
  have HG5 := Lib.hid g5
  have HE5 := Lib.hid e5
  have HLL := Lib.hid (And.intro l5 m5)
  clear hKa hKb l4 g4 l5 g5 m4 e4 m5 e5
  rw [hkx] at HKA ⊢
  rw [hky] at HKB ⊢
  have hq := Q2.start w #[.int .i64 3, .bool x.f1, .int .i64 x.f2, .string x.f3, .slice A4 x.f4.length c4, .slice A5 x.f5.length c5] #[.int .i64 3, .bool y.f1, .int .i64 y.f2, .string y.f3, .slice B4 y.f4.length d4, .slice B5 y.f5.length d5]
  have a0 := hq.c0 0 _ rfl
  have b0 := hq.c1 0 _ rfl
  have a1 := hq.c0 1 _ rfl
  have b1 := hq.c1 1 _ rfl
  have a2 := hq.c0 2 _ rfl
  have b2 := hq.c1 2 _ rfl
  have a3 := hq.c0 3 _ rfl
  have b3 := hq.c1 3 _ rfl
  have a4 := hq.c0 4 _ rfl
  have b4 := hq.c1 4 _ rfl
  have a5 := hq.c0 5 _ rfl
  have b5 := hq.c1 5 _ rfl
  have HQ := Lib.hid hq
  obtain ⟨W0, hW0⟩ : ∃ W0, (w.alloc (.cells #[.int .i64 3, .bool x.f1, .int .i64 x.f2, .string x.f3, .slice A4 x.f4.length c4, .slice A5 x.f5.length c5] 25)).alloc (.cells #[.int .i64 3, .bool y.f1, .int .i64 y.f2, .string y.f3, .slice B4 y.f4.length d4, .slice B5 y.f5.length d5] 25) = W0 := ⟨_, rfl⟩
  rw [hW0] at a0 a1 a2 a3 a4 a5 b0 b1 b2 b3 b4 b5 HQ
  clear hq
  go_enter Tryd.func9, Tryd.ntmps9
  go_wp2_with fail
  go_ret
  subst hr
  exact ⟨rfl, HQ.out.below⟩

set_option maxHeartbeats 4000000 in
set_option maxRecDepth 100000 in
theorem je_arr_no (x y : JV) (r : Bool) (hr : r = false) (hkx : x.f0 = 4) (hky : y.f0 = 4) (hlen : x.f5.length ≠ y.f5.length) : JeC x y r := by
  intro ca cb w hKa hKb
  obtain ⟨A4, c4, A5, c5, rfl, l4, g4, l5, g5⟩ := jopen2 hKa
  obtain ⟨B4, d4, B5, d5, rfl, m4, e4, m5, e5⟩ := jopen2 hKb
  have HKA := Lib.hid hKa
  have HKB := Lib.hid hKb
  have HG5 := Lib.hid g5
  have HE5 := Lib.hid e5
  have HLL := Lib.hid (And.intro l5 m5)
  clear hKa hKb l4 g4 l5 g5 m4 e4 m5 e5
  rw [hkx] at HKA ⊢
  rw [hky] at HKB ⊢
  have hq := Q2.start w #[.int .i64 4, .bool x.f1, .int .i64 x.f2, .string x.f3, .slice A4 x.f4.length c4, .slice A5 x.f5.length c5] #[.int .i64 4, .bool y.f1, .int .i64 y.f2, .string y.f3, .slice B4 y.f4.length d4, .slice B5 y.f5.length d5]
  have a0 := hq.c0 0 _ rfl
  have b0 := hq.c1 0 _ rfl
  have a1 := hq.c0 1 _ rfl
  have b1 := hq.c1 1 _ rfl
  have a2 := hq.c0 2 _ rfl
  have b2 := hq.c1 2 _ rfl
  have a3 := hq.c0 3 _ rfl
  have b3 := hq.c1 3 _ rfl
  have a4 := hq.c0 4 _ rfl
  have b4 := hq.c1 4 _ rfl
  have a5 := hq.c0 5 _ rfl
  have b5 := hq.c1 5 _ rfl
  have HQ := Lib.hid hq
  obtain ⟨W0, hW0⟩ : ∃ W0, (w.alloc (.cells #[.int .i64 4, .bool x.f1, .int .i64 x.f2, .string x.f3, .slice A4 x.f4.length c4, .slice A5 x.f5.length c5] 25)).alloc (.cells #[.int .i64 4, .bool y.f1, .int .i64 y.f2, .string y.f3, .slice B4 y.f4.length d4, .slice B5 y.f5.length d5] 25) = W0 := ⟨_, rfl⟩
  rw [hW0] at a0 a1 a2 a3 a4 a5 b0 b1 b2 b3 b4 b5 HQ
  clear hq
  go_enter Tryd.func9, Tryd.ntmps9
  go_wp2_with fail
  go_ret
  subst hr
  exact ⟨rfl, HQ.out.below⟩

set_option maxHeartbeats 4000000 in
set_option maxRecDepth 100000 in
theorem je_arr (x y : JV) (r : Bool) (hkx : x.f0 = 4) (hky : y.f0 = 4) (HLEN : Hid (x.f5.length = y.f5.length)) (hne0 : ((x.f5.length : Int) != (y.f5.length : Int)) = false) (f : Nat → Bool) (HJ : Hid (∀ (i : Nat) (h1 : i < x.f5.length) (h2 : i < y.f5.length), JeC x.f5[i] y.f5[i] (f i))) (HR : Hid (r = true ↔ ∀ i, i < x.f5.length → f i = true)) (HLM : Hid (x.f5.length ≤ 140737488351232)) : JeC x y r := by
  intro ca cb w hKa hKb
  obtain ⟨A4, c4, A5, c5, rfl, l4, g4, l5, g5⟩ := jopen2 hKa
  obtain ⟨B4, d4, B5, d5, rfl, m4, e4, m5, e5⟩ := jopen2 hKb
  have HKA := Lib.hid hKa
  have HKB := Lib.hid hKb
  have HG5 := Lib.hid g5
  have HE5 := Lib.hid e5
  have HLL := Lib.hid (And.intro l5 m5)
  clear hKa hKb l4 g4 l5 g5 m4 e4 m5 e5
  rw [hkx] at HKA ⊢
  rw [hky] at HKB ⊢
  have hq := Q2.start w #[.int .i64 4, .bool x.f1, .int .i64 x.f2, .string x.f3, .slice A4 x.f4.length c4, .slice A5 x.f5.length c5] #[.int .i64 4, .bool y.f1, .int .i64 y.f2, .string y.f3, .slice B4 y.f4.length d4, .slice B5 y.f5.length d5]
  have a0 := hq.c0 0 _ rfl
  have b0 := hq.c1 0 _ rfl
  have a1 := hq.c0 1 _ rfl
  have b1 := hq.c1 1 _ rfl
  have a2 := hq.c0 2 _ rfl
  have b2 := hq.c1 2 _ rfl
  have a3 := hq.c0 3 _ rfl
  have b3 := hq.c1 3 _ rfl
  have a4 := hq.c0 4 _ rfl
  have b4 := hq.c1 4 _ rfl
  have a5 := hq.c0 5 _ rfl
  have b5 := hq.c1 5 _ rfl
  have HQ := Lib.hid hq
  obtain ⟨W0, hW0⟩ : ∃ W0, (w.alloc (.cells #[.int .i64 4, .bool x.f1, .int .i64 x.f2, .string x.f3, .slice A4 x.f4.length c4, .slice A5 x.f5.length c5] 25)).alloc (.cells #[.int .i64 4, .bool y.f1, .int .i64 y.f2, .string y.f3, .slice B4 y.f4.length d4, .slice B5 y.f5.length d5] 25) = W0 := ⟨_, rfl⟩
  rw [hW0] at a0 a1 a2 a3 a4 a5 b0 b1 b2 b3 b4 b5 HQ
  clear hq
  go_enter Tryd.func9, Tryd.ntmps9
  go_wp2_with fail
  clear a0 a1 a2 a3 a4 a5 b0 b1 b2 b3 b4 b5 hkx hky
  have hlm := HLM.out
  go_loopw [5] (fun iv wi => ∃ i : Nat, iv = .int .i64 i ∧ i ≤ x.f5.length ∧ Hid (Q2 w wi #[.int .i64 4, .bool x.f1, .int .i64 x.f2, .string x.f3, .slice A4 x.f4.length c4, .slice A5 x.f5.length c5] #[.int .i64 4, .bool y.f1, .int .i64 y.f2, .string y.f3, .slice B4 y.f4.length d4, .slice B5 y.f5.length d5] ∧ ∀ j, j < i → f j = true)) (fun iv _ => x.f5.length - (intOf iv).toNat)
  case atStart => exact ⟨0, rfl, by omega, Lib.hid ⟨HQ.out, fun j h => by omega⟩⟩
  case round =>
    obtain ⟨i, rfl, hil, HS⟩ := hrel
    by_cases hlt : i < x.f5.length
    · have hd1 : decide ((i : Int) < (x.f5.length : Int)) = true := decide_eq_true (by omega)
      have hlt2 : i < y.f5.length := by rw [← HLEN.out]; exact hlt
      obtain ⟨xa, G4, gc4, G5, gc5, hxa, x0, x1, x2, x3, x4, x5, lg4, gg4, lg5, gg5⟩ := at_T25 (Kd.C_below HG5.out HS.out.1.below) (i : Int) (by omega) (by omega)
      subst hxa
      obtain ⟨ya, H4, hc4, H5, hc5, hya, y0, y1, y2, y3, y4, y5, lh4, gh4, lh5, gh5⟩ := at_T25 (Kd.C_below HE5.out HS.out.1.below) (i : Int) (by omega) (by omega)
      subst hya
      rw [Int.toNat_natCast] at x0 x1 x2 x3 x4 x5 y0 y1 y2 y3 y4 y5
      obtain ⟨g, hgg⟩ : ∃ g, rd_T25 x.f5 (i : Int) = g := ⟨_, rfl⟩
      obtain ⟨H, hhh⟩ : ∃ g, rd_T25 y.f5 (i : Int) = g := ⟨_, rfl⟩
      rw [hgg] at x0 x1 x2 x3 x4 x5 lg4 gg4 lg5 gg5
      rw [hhh] at y0 y1 y2 y3 y4 y5 lh4 gh4 lh5 gh5
      have hgj : x.f5[i] = g := by rw [← hgg, rdJ _ _ hlt]
      have hHk : y.f5[i] = H := by rw [← hhh, rdJ _ _ hlt2]
      have hJe := HJ.out i hlt hlt2
      rw [hgj, hHk] at hJe
      obtain ⟨b, hb⟩ : ∃ b, f i = b := ⟨_, rfl⟩
      rw [hb] at hJe
      have hKg := k25_mk wr g lg4 gg4 lg5 gg5
      have hKH := k25_mk wr H lh4 gh4 lh5 gh5
      have HJE := Lib.hid (show JeIn wr #[.int .i64 g.f0, .bool g.f1, .int .i64 g.f2, .string g.f3, .slice G4 g.f4.length gc4, .slice G5 g.f5.length gc5] #[.int .i64 H.f0, .bool H.f1, .int .i64 H.f2, .string H.f3, .slice H4 H.f4.length hc4, .slice H5 H.f5.length hc5] b from fun W hbW => hJe.at_ _ _ W (kJ.K_below hbW hKg) (kJ.K_below hbW hKH))
      have HBQ := Lib.hid hb
      have hi0 : (0 : Int) ≤ (i : Int) := Int.natCast_nonneg _
      have hi1 : (i : Int) < (x.f5.length : Int) := by omega
      have hi2 : (i : Int) < (y.f5.length : Int) := by omega
      have a5' := HS.out.1.c0 5 _ rfl
      have b5' := HS.out.1.c1 5 _ rfl
      have ht1 := HS.out.1.lt
      have ht0 : w.heap.size < wr.heap.size := by omega
      clear lg4 gg4 lg5 gg5 lh4 gh4 lh5 gh5 hgg hhh hJe hKg hKH hb hgj hHk
      cases b
      all_goals
        go_wp2_with fail
        go_region_held3 (fun w' => w'.cell? ⟨w.heap.size, 5, none⟩ = some (.slice (some xa) x.f5.length c5) ∧ w'.cell? ⟨w.heap.size + 1, 5, none⟩ = some (.slice (some ya) y.f5.length d5) ∧ w'.cell? (xa.add (i * 6)) = some (.int .i64 g.f0) ∧ w'.cell? ⟨(xa.add (i * 6)).block, (xa.add (i * 6)).off + 1, none⟩ = some (.bool g.f1) ∧ w'.cell? ⟨(xa.add (i * 6)).block, (xa.add (i * 6)).off + 2, none⟩ = some (.int .i64 g.f2) ∧ w'.cell? ⟨(xa.add (i * 6)).block, (xa.add (i * 6)).off + 3, none⟩ = some (.string g.f3) ∧ w'.cell? ⟨(xa.add (i * 6)).block, (xa.add (i * 6)).off + 4, none⟩ = some (.slice G4 g.f4.length gc4) ∧ w'.cell? ⟨(xa.add (i * 6)).block, (xa.add (i * 6)).off + 5, none⟩ = some (.slice G5 g.f5.length gc5) ∧ w'.cell? (ya.add (i * 6)) = some (.int .i64 H.f0) ∧ w'.cell? ⟨(ya.add (i * 6)).block, (ya.add (i * 6)).off + 1, none⟩ = some (.bool H.f1) ∧ w'.cell? ⟨(ya.add (i * 6)).block, (ya.add (i * 6)).off + 2, none⟩ = some (.int .i64 H.f2) ∧ w'.cell? ⟨(ya.add (i * 6)).block, (ya.add (i * 6)).off + 3, none⟩ = some (.string H.f3) ∧ w'.cell? ⟨(ya.add (i * 6)).block, (ya.add (i * 6)).off + 4, none⟩ = some (.slice H4 H.f4.length hc4) ∧ w'.cell? ⟨(ya.add (i * 6)).block, (ya.add (i * 6)).off + 5, none⟩ = some (.slice H5 H.f5.length hc5))
          (first
            | go_keep
            | (go_split_ands; exact ⟨(hbm.cell (p := ⟨w.heap.size, 5, none⟩) ht0).trans a5', (hbm.cell (p := ⟨w.heap.size + 1, 5, none⟩) ht1).trans b5', (hbm.cell (lt_of_cell x0)).trans x0, (hbm.cell (lt_of_cell x1)).trans x1, (hbm.cell (lt_of_cell x2)).trans x2, (hbm.cell (lt_of_cell x3)).trans x3, (hbm.cell (lt_of_cell x4)).trans x4, (hbm.cell (lt_of_cell x5)).trans x5, (hbm.cell (lt_of_cell y0)).trans y0, (hbm.cell (lt_of_cell y1)).trans y1, (hbm.cell (lt_of_cell y2)).trans y2, (hbm.cell (lt_of_cell y3)).trans y3, (hbm.cell (lt_of_cell y4)).trans y4, (hbm.cell (lt_of_cell y5)).trans y5⟩))
          ((go_at_call 9; refine (HJE.out.at_ (by first | exact Below.refl _ _ | exact (Below.refl _ _).drew | exact pw_below_drewN (Below.refl _ _) _)).mono ?_; rintro e w3 ⟨rfl, hbl⟩; have hbm : Below wr.heap.size wr w3 := (by first | exact hbl | exact (Below.refl _ _).drew.trans hbl | exact (pw_below_drewN (Below.refl _ _) _).trans hbl)))
        have HBM := Lib.hid hbm
        clear hbl hbm
        go_wp2_with fail
      · go_ret
        have hB := HS.out.1.below.trans (HBM.out.mono HS.out.1.below.size)
        have hr : r = false := by
          cases r
          · rfl
          · have := HR.out.1 rfl i hlt
            rw [HBQ.out] at this; cases this
        subst hr
        first | exact ⟨rfl, hB⟩ | exact ⟨rfl, pw_below_drewN hB _⟩
      · have hN : Hid (Q2 w w3 #[.int .i64 4, .bool x.f1, .int .i64 x.f2, .string x.f3, .slice A4 x.f4.length c4, .slice (some xa) x.f5.length c5] #[.int .i64 4, .bool y.f1, .int .i64 y.f2, .string y.f3, .slice B4 y.f4.length d4, .slice (some ya) y.f5.length d5] ∧ ∀ j, j < i + 1 → f j = true) := by
          refine Lib.hid ⟨HS.out.1.step HBM.out, fun j h => ?_⟩
          by_cases e : j = i
          · rw [e]; exact HBQ.out
          · exact HS.out.2 j (by omega)
        go_roundw
        case rel => exact ⟨i + 1, by go_num, by omega, hN⟩
        case measure => simp [intOf]; omega
    · obtain rfl : i = x.f5.length := by omega
      have hd1 : decide ((x.f5.length : Int) < (x.f5.length : Int)) = false := by simp
      have a5' := HS.out.1.c0 5 _ rfl
      clear hlt
      go_wp2_with fail
      go_ret
      have hr : r = true := HR.out.2 HS.out.2
      subst hr
      exact ⟨rfl, HS.out.1.below⟩

set_option maxHeartbeats 4000000 in
set_option maxRecDepth 100000 in
theorem je_obj (x y : JV) (r p q : Bool) (hr : r = (p && q)) (h1 : JwC x y p) (h2 : JwC y x q) (hkx : x.f0 = 5) (hky : y.f0 = 5) : JeC x y r := by
  intro ca cb w hKa hKb
  obtain ⟨A4, c4, A5, c5, rfl, l4, g4, l5, g5⟩ := jopen2 hKa
  obtain ⟨B4, d4, B5, d5, rfl, m4, e4, m5, e5⟩ := jopen2 hKb
  have HKA := Lib.hid hKa
  have HKB := Lib.hid hKb
  have HG5 := Lib.hid g5
  have HE5 := Lib.hid e5
  have HLL := Lib.hid (And.intro l5 m5)
  clear hKa hKb l4 g4 l5 g5 m4 e4 m5 e5
  rw [hkx] at HKA ⊢
  rw [hky] at HKB ⊢
  have hq := Q2.start w #[.int .i64 5, .bool x.f1, .int .i64 x.f2, .string x.f3, .slice A4 x.f4.length c4, .slice A5 x.f5.length c5] #[.int .i64 5, .bool y.f1, .int .i64 y.f2, .string y.f3, .slice B4 y.f4.length d4, .slice B5 y.f5.length d5]
  have a0 := hq.c0 0 _ rfl
  have b0 := hq.c1 0 _ rfl
  have a1 := hq.c0 1 _ rfl
  have b1 := hq.c1 1 _ rfl
  have a2 := hq.c0 2 _ rfl
  have b2 := hq.c1 2 _ rfl
  have a3 := hq.c0 3 _ rfl
  have b3 := hq.c1 3 _ rfl
  have a4 := hq.c0 4 _ rfl
  have b4 := hq.c1 4 _ rfl
  have a5 := hq.c0 5 _ rfl
  have b5 := hq.c1 5 _ rfl
  have HQ := Lib.hid hq
  obtain ⟨W0, hW0⟩ : ∃ W0, (w.alloc (.cells #[.int .i64 5, .bool x.f1, .int .i64 x.f2, .string x.f3, .slice A4 x.f4.length c4, .slice A5 x.f5.length c5] 25)).alloc (.cells #[.int .i64 5, .bool y.f1, .int .i64 y.f2, .string y.f3, .slice B4 y.f4.length d4, .slice B5 y.f5.length d5] 25) = W0 := ⟨_, rfl⟩
  rw [hW0] at a0 a1 a2 a3 a4 a5 b0 b1 b2 b3 b4 b5 HQ
  clear hq
  go_enter Tryd.func9, Tryd.ntmps9
  go_wp2_with fail
  have H1 := Lib.hid h1
  have H2 := Lib.hid h2
  clear h1 h2 a0 a1 a2 a3 a4 a5 b0 b1 b2 b3 b4 b5 hkx hky
  refine (H1.out.at_ _ _ _ (kJ.K_below HQ.out.below HKA.out) (kJ.K_below HQ.out.below HKB.out)).mono ?_
  rintro e w1 ⟨rfl, hbl⟩
  have HQ1 := Lib.hid (HQ.out.step hbl)
  clear hbl HQ
  have a0 := HQ1.out.c0 0 _ rfl
  have a1 := HQ1.out.c0 1 _ rfl
  have a2 := HQ1.out.c0 2 _ rfl
  have a3 := HQ1.out.c0 3 _ rfl
  have a4 := HQ1.out.c0 4 _ rfl
  have a5 := HQ1.out.c0 5 _ rfl
  have b0 := HQ1.out.c1 0 _ rfl
  have b1 := HQ1.out.c1 1 _ rfl
  have b2 := HQ1.out.c1 2 _ rfl
  have b3 := HQ1.out.c1 3 _ rfl
  have b4 := HQ1.out.c1 4 _ rfl
  have b5 := HQ1.out.c1 5 _ rfl
  subst hr
  cases p
  · go_wp2_with fail
    go_ret
    exact ⟨rfl, HQ1.out.below⟩
  · go_wp2_with fail
    refine (H2.out.at_ _ _ _ (kJ.K_below HQ1.out.below HKB.out) (kJ.K_below HQ1.out.below HKA.out)).mono ?_
    rintro e w2 ⟨rfl, hbl⟩
    have HQ2 := Lib.hid (HQ1.out.step hbl)
    clear hbl
    go_wp2_with fail
    go_ret
    exact ⟨by simp, HQ2.out.below⟩

end Go.Proofs.YtdleegmdpgefmaaDoor.J
