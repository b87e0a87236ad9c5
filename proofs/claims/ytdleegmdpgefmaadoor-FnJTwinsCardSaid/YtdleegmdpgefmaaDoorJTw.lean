/- impl.JTwins, spec.JTwins. -/
import Derived.Test.YtdleegmdpgefmaaDoorJDup
import Derived.Test.YtdleegmdpgefmaaDoorLawEq
namespace Go.Proofs.YtdleegmdpgefmaaDoor.J
open Go.RowKit Go.Proofs.YtdleegmdpgefmaaDoorW.PrintWords Go.Proofs.YtdleegmdpgefmaaDoorW.PrintLast Go.Proofs.YtdleegmdpgefmaaDoorW.PrintMore Go.Proofs.YtdleegmdpgefmaaDoor.PJ Go.Proofs.YtdleegmdpgefmaaDoor.K Go.Maps
set_option linter.unusedVariables false
set_option linter.unusedSimpArgs false

set_option maxHeartbeats 4000000 in
set_option maxRecDepth 100000 in
theorem Dups (n : Nat) (ok : Nat → Prop) (w : World) (A : Option Addr) (c m : Nat) (ds : List D0) (hm : ds.length = m) (hc : m ≤ c) (hl : m ≤ 20) (h : RowAt (Rep n ok w) ok w A ds) (hn : ∀ e ∈ ds, NoNum e) :
    Calls Tryd.prog 23 #[.slice A m c] w fun e w' => ∃ a b : Int, e = .returned (.tuple #[.int .i64 a, .int .i64 b, .nilIface]) ∧ TwI ds a b ∧ Below w.heap.size w w' := by
  have HC := Lib.hid (show Calls Tryd.prog 36 #[.slice A m c] w fun e w' => ∃ a b : Int, e = .returned (.tuple #[.int .i64 a, .int .i64 b, .nilIface]) ∧ TwI ds a b ∧ Below w.heap.size w w' by subst hm; exact dups n ok w A c ds hc hl h hn)
  clear h hn hm hc hl
  go_enter Tryd.func23, Tryd.ntmps23
  go_wp2_with fail
  refine HC.out.mono ?_
  rintro e w1 ⟨a, b, rfl, ht, hb⟩
  have HT := Lib.hid (And.intro ht hb)
  clear ht hb
  go_wp2_with fail
  go_ret3
  exact ⟨a, b, rfl, HT.out⟩
set_option maxHeartbeats 4000000 in
set_option maxRecDepth 100000 in
theorem implTw (A : Option Addr) (c : Nat) (l : List JV) (w : World) (hC : kJ.C w A l.length l) (hc : l.length ≤ c) (hl : l.length ≤ 20) (hw : ∀ y ∈ l, wfJ y) (hd : ∀ y ∈ l, Dp 1000 y ∧ NoNum (toD 1000 y)) :
    Calls Tryd.prog 10 #[.slice A l.length c] w fun e w' => ∃ a b : Int, e = .returned (.tuple #[.int .i64 a, .int .i64 b]) ∧ TwI (l.map (toD 1000)) a b ∧ Below w.heap.size w w' := by
  have HC := Lib.hid hC
  have HW := Lib.hid hw
  have HD := Lib.hid hd
  have HCC := Lib.hid hc
  clear hC hw hd hc
  go_enter Tryd.func10, Tryd.ntmps10
  go_wp2_with fail
  refine (ofJs 1000 (mk 1000) A c l _ HC.out HCC.out (by omega) (fun y hy => (HD.out y hy).1) HW.out).mono ?_
  rintro e w1 ⟨A', c', rfl, hc', hrow, hbl⟩
  have HROW := Lib.hid hrow
  have HB := Lib.hid hbl
  have HC' := Lib.hid hc'
  clear hrow hbl hc'
  go_wp2_with fail
  refine (Dups 1000 _ _ A' c' l.length (l.map (toD 1000)) (by simp) HC'.out hl HROW.out (fun e he => by
    obtain ⟨y, hy, rfl⟩ := List.mem_map.1 he
    exact (HD.out y hy).2)).mono ?_
  rintro e w2 ⟨a, b, rfl, ht, hb⟩
  have HT := Lib.hid (And.intro ht (HB.out.trans (hb.mono HB.out.size)))
  clear ht hb
  go_wp2_with fail
  go_ret2
  exact ⟨a, b, rfl, HT.out⟩
set_option maxHeartbeats 4000000 in
set_option maxRecDepth 100000 in
theorem specTw (A : Option Addr) (c : Nat) (l : List JV) (w : World) (hC : kJ.C w A l.length l) (hc : l.length ≤ c) (hl : l.length ≤ 20) (hw : ∀ y ∈ l, wfJ y) (hd : ∀ y ∈ l, Dp 1000 y ∧ NoNum (toD 1000 y)) :
    Calls Tryd.prog 11 #[.slice A l.length c] w fun e w' => ∃ a b : Int, e = .returned (.tuple #[.int .i64 a, .int .i64 b]) ∧ TwI (l.map (toD 1000)) a b ∧ Below w.heap.size w w' := by
  have HC := Lib.hid hC
  have HW := Lib.hid hw
  have HD := Lib.hid hd
  have hB : Below w.heap.size w w := Below.refl _ _
  have HB := Lib.hid hB
  clear hC hw hd hc hB
  go_enter Tryd.func11, Tryd.ntmps11
  go_wp2_with fail
  go_loopw [4] (fun iv wi => ∃ k : Nat, iv = .int .i64 k ∧ 1 ≤ k ∧ k ≤ l.length + 1 ∧ Hid (Below w.heap.size w wi ∧ ∀ i' k' : Nat, i' < k' → k' < k → k' < l.length → (l.map (toD 1000))[i']? ≠ (l.map (toD 1000))[k']?)) (fun iv _ => l.length + 1 - (intOf iv).toNat)
  case atStart => exact ⟨1, rfl, by omega, by omega, Lib.hid ⟨HB.out, fun i' k' h1 h2 h3 => by omega⟩⟩
  case round =>
    obtain ⟨k, rfl, hi1, hil, HS⟩ := hrel
    by_cases hlt : k < l.length
    · have hd1 : decide ((k : Int) < (l.length : Int)) = true := decide_eq_true (by omega)
      have hk0 : (0 : Int) ≤ (k : Int) := Int.natCast_nonneg _
      have hk2 : (k : Int) < (l.length : Int) := by omega
      go_wp2_with fail
      go_loopw [5] (fun jv wj => ∃ i : Nat, jv = .int .i64 i ∧ i ≤ k ∧ Hid (Below w.heap.size w wj ∧ ∀ i' : Nat, i' < i → (l.map (toD 1000))[i']? ≠ (l.map (toD 1000))[k]?)) (fun jv _ => k - (intOf jv).toNat)
      case atStart => exact ⟨0, rfl, by omega, Lib.hid ⟨HS.out.1, fun j' h => by omega⟩⟩
      case round =>
        obtain ⟨i, rfl, hji, HT⟩ := hrel
        by_cases hjt : i < k
        · have hd2 : decide ((i : Int) < (k : Int)) = true := decide_eq_true (by omega)
          have hil2 : i < l.length := by omega
          obtain ⟨xa, G4, gc4, G5, gc5, hxa, x0, x1, x2, x3, x4, x5, lg4, gg4, lg5, gg5⟩ := at_T25 (Kd.C_below HC.out HT.out.1) (i : Int) (by omega) (by omega)
          obtain ⟨ya, H4, hc4, H5, hc5, hya, y0, y1, y2, y3, y4, y5, lh4, gh4, lh5, gh5⟩ := at_T25 (Kd.C_below HC.out HT.out.1) (k : Int) (by omega) (by omega)
          subst hxa
          obtain rfl : xa = ya := Option.some.inj hya
          rw [Int.toNat_natCast] at x0 x1 x2 x3 x4 x5 y0 y1 y2 y3 y4 y5
          obtain ⟨g, hgg⟩ : ∃ g, rd_T25 l (i : Int) = g := ⟨_, rfl⟩
          obtain ⟨H, hhh⟩ : ∃ g, rd_T25 l (k : Int) = g := ⟨_, rfl⟩
          rw [hgg] at x0 x1 x2 x3 x4 x5 lg4 gg4 lg5 gg5
          rw [hhh] at y0 y1 y2 y3 y4 y5 lh4 gh4 lh5 gh5
          have hgj : l[i] = g := by rw [← hgg, rdJ _ _ hil2]
          have hHk : l[k] = H := by rw [← hhh, rdJ _ _ hlt]
          have mg : g ∈ l := hgj ▸ List.getElem_mem _
          have mH : H ∈ l := hHk ▸ List.getElem_mem _
          have hJe := je 1000 g H (HD.out g mg).1 (HD.out H mH).1 (HD.out g mg).2 (HD.out H mH).2 (HW.out g mg) (HW.out H mH)
          obtain ⟨b, hb⟩ : ∃ b, eqB (toD 1000 g) (toD 1000 H) = b := ⟨_, rfl⟩
          rw [hb] at hJe
          have hKg := k25_mk wr g lg4 gg4 lg5 gg5
          have hKH := k25_mk wr H lh4 gh4 lh5 gh5
          have HJE := Lib.hid (show JeIn wr #[.int .i64 g.f0, .bool g.f1, .int .i64 g.f2, .string g.f3, .slice G4 g.f4.length gc4, .slice G5 g.f5.length gc5] #[.int .i64 H.f0, .bool H.f1, .int .i64 H.f2, .string H.f3, .slice H4 H.f4.length hc4, .slice H5 H.f5.length hc5] b from fun W hbW => hJe.at_ _ _ W (kJ.K_below hbW hKg) (kJ.K_below hbW hKH))
          have hEi : (l.map (toD 1000))[i]? = some (toD 1000 g) := by rw [List.getElem?_map, List.getElem?_eq_getElem hil2, hgj]; rfl
          have hEk : (l.map (toD 1000))[k]? = some (toD 1000 H) := by rw [List.getElem?_map, List.getElem?_eq_getElem hlt, hHk]; rfl
          have HEQ := Lib.hid (And.intro hb (And.intro hEi hEk))
          have hj0 : (0 : Int) ≤ (i : Int) := Int.natCast_nonneg _
          have hj1 : (i : Int) < (l.length : Int) := by omega
          clear lg4 gg4 lg5 gg5 lh4 gh4 lh5 gh5 hgg hhh hJe hKg hKH hb hgj hHk mg mH hEi hEk hya
          cases b
          all_goals
            go_wp2_with fail
            go_region_held3 (fun w' => w'.cell? (xa.add (i * 6)) = some (.int .i64 g.f0) ∧ w'.cell? ⟨(xa.add (i * 6)).block, (xa.add (i * 6)).off + 1, none⟩ = some (.bool g.f1) ∧ w'.cell? ⟨(xa.add (i * 6)).block, (xa.add (i * 6)).off + 2, none⟩ = some (.int .i64 g.f2) ∧ w'.cell? ⟨(xa.add (i * 6)).block, (xa.add (i * 6)).off + 3, none⟩ = some (.string g.f3) ∧ w'.cell? ⟨(xa.add (i * 6)).block, (xa.add (i * 6)).off + 4, none⟩ = some (.slice G4 g.f4.length gc4) ∧ w'.cell? ⟨(xa.add (i * 6)).block, (xa.add (i * 6)).off + 5, none⟩ = some (.slice G5 g.f5.length gc5) ∧ w'.cell? (xa.add (k * 6)) = some (.int .i64 H.f0) ∧ w'.cell? ⟨(xa.add (k * 6)).block, (xa.add (k * 6)).off + 1, none⟩ = some (.bool H.f1) ∧ w'.cell? ⟨(xa.add (k * 6)).block, (xa.add (k * 6)).off + 2, none⟩ = some (.int .i64 H.f2) ∧ w'.cell? ⟨(xa.add (k * 6)).block, (xa.add (k * 6)).off + 3, none⟩ = some (.string H.f3) ∧ w'.cell? ⟨(xa.add (k * 6)).block, (xa.add (k * 6)).off + 4, none⟩ = some (.slice H4 H.f4.length hc4) ∧ w'.cell? ⟨(xa.add (k * 6)).block, (xa.add (k * 6)).off + 5, none⟩ = some (.slice H5 H.f5.length hc5))
              (first
                | go_keep
                | (go_split_ands; exact ⟨(hbm.cell (lt_of_cell x0)).trans x0, (hbm.cell (lt_of_cell x1)).trans x1, (hbm.cell (lt_of_cell x2)).trans x2, (hbm.cell (lt_of_cell x3)).trans x3, (hbm.cell (lt_of_cell x4)).trans x4, (hbm.cell (lt_of_cell x5)).trans x5, (hbm.cell (lt_of_cell y0)).trans y0, (hbm.cell (lt_of_cell y1)).trans y1, (hbm.cell (lt_of_cell y2)).trans y2, (hbm.cell (lt_of_cell y3)).trans y3, (hbm.cell (lt_of_cell y4)).trans y4, (hbm.cell (lt_of_cell y5)).trans y5⟩))
              ((go_at_call 9; refine (HJE.out.at_ (by first | exact Below.refl _ _ | exact (Below.refl _ _).drew | exact pw_below_drewN (Below.refl _ _) _)).mono ?_; rintro e w3 ⟨rfl, hbl⟩; have hbm : Below wr.heap.size wr w3 := (by first | exact hbl | exact (Below.refl _ _).drew.trans hbl | exact (pw_below_drewN (Below.refl _ _) _).trans hbl)))
            have HBM := Lib.hid hbm
            clear hbl hbm
            go_wp2_with fail
          · go_roundw
            case rel =>
              refine ⟨i + 1, by go_num, by omega, Lib.hid ⟨HT.out.1.trans (HBM.out.mono HT.out.1.size), fun j' h => ?_⟩⟩
              by_cases e : j' = i
              · subst e
                rw [HEQ.out.2.1, HEQ.out.2.2]
                exact fun e => eqB_false.1 HEQ.out.1 (Option.some.inj e)
              · exact HT.out.2 j' (by omega)
            case measure => simp [intOf]; omega
          · go_ret2
            refine ⟨_, _, rfl, .inr ⟨i, k, rfl, rfl, hjt, by simpa using hlt, ?_⟩, HT.out.1.trans (HBM.out.mono HT.out.1.size)⟩
            rw [HEQ.out.2.1, HEQ.out.2.2, eqB_true.1 HEQ.out.1]
        · obtain rfl : i = k := by omega
          have hd2 : decide ((i : Int) < (i : Int)) = false := by simp
          clear hjt
          go_wp2_with fail
          refine ⟨⟨i + 1, by go_num, by omega, by omega, Lib.hid ⟨HT.out.1, fun i' k' h1 h2 h3 => ?_⟩⟩, by simp [intOf]; omega⟩
          by_cases e : k' = i
          · subst e; exact HT.out.2 i' h1
          · exact HS.out.2 i' k' h1 (by omega) h3
    · have hd1 : decide ((k : Int) < (l.length : Int)) = false := decide_eq_false (by omega)
      go_wp2_with fail
      go_ret2
      exact ⟨_, _, rfl, .inl ⟨rfl, rfl, fun i' k' h1 h2 => HS.out.2 i' k' h1 (by simp at h2; omega) (by simpa using h2)⟩, HS.out.1⟩
end Go.Proofs.YtdleegmdpgefmaaDoor.J
