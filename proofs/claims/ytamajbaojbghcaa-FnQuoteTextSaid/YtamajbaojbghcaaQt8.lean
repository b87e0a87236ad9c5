/- The specification's lexer at a quoted text: the walk of quoted. -/
import Derived.Test.YtamajbaojbghcaaQt7
namespace Go.Proofs.Ytamajbaojbghcaa.Qt
open Go.RowKit Go.Lib Go.Proofs.YtamajbaojbghcaaW.PrintWords Go.Proofs.YtamajbaojbghcaaW.PrintLast Go.Proofs.YtamajbaojbghcaaW.PrintMore Go.Proofs.Ytamajbaojbghcaa.PX Go.Proofs.Ytamajbaojbghcaa.K Go.Proofs.Ytamajbaojbghcaa.Lx
set_option linter.unusedVariables false
set_option linter.unusedSimpArgs false
theorem srcW (x : Nat) (hx : 32 ≤ x) (w : World) : Calls Try.prog 71 #[.int .i32 x] w fun e w' => e = .returned (.bool true) ∧ ∃ m, w' = w.drewN m := by
  refine (spec_IsSource.calls x true w (by unfold spec_IsSource.f; rw [if_neg (by omega), if_neg (by omega), if_neg (by omega)]; exact congrArg some (decide_eq_true (by omega)))).mono ?_
  rintro e w' ⟨rfl, ⟨m, rfl⟩⟩
  exact ⟨rfl, m, rfl⟩
theorem infoR : (Try.prog.info? 21).map (fun i => (i.zero, i.size, i.bytes)) = some (some (.int .i32 0), 1, 4) := by kernel_rfl
/-- In the midst of a quoted text. -/
structure Qd (W wi : World) (b g c : Nat) (R : List Nat) (k : Nat) (v : Value) : Prop where
  s : Sl wi b g c (qz R) (pos R k)
  r : Kd.R (Kd.int .i32) 21 wi W.heap.size (fun j => W.heap.size ≤ j) v (zs (R.take k))
  gb : W.grownBy wi (some g)
  lt : g < W.heap.size
  bl : b < W.heap.size
theorem Qd.own {W wi : World} {b g c k : Nat} {R : List Nat} {v : Value} (h : Qd W wi b g c R k v) (j : Nat) (hj : j < W.heap.size) : some j ≠ v.ownBlock := fun e => by have := h.r.1 j e.symm; omega
theorem Qd.row {W wi w2 : World} {b g c k : Nat} {R : List Nat} {v : Value} (h : Qd W wi b g c R k v) (hg : wi.grownBy w2 (some g)) : Kd.R (Kd.int .i32) 21 w2 W.heap.size (fun j => W.heap.size ≤ j) v (zs (R.take k)) :=
  Kd.R_step h.r (fun j hj hlt => hg.block j hlt (by have h3 := h.lt; have h4 : W.heap.size ≤ j := hj; intro e; have := Option.some.inj e; omega))
theorem gb_put (wr : World) (g m m2 : Nat) (v : Value) : wr.grownBy (((wr.drewN m).setCell ⟨g, 1, none⟩ v).drewN m2) (some g) := gb_below (gb_trans (gb_below (gb_refl _ _) (pw_below_drewN (Below.refl _ _) _)) (gb_set _ _ _ _)) (pw_below_drewN (Below.refl _ _) _)
/-- A character more. -/
theorem Qd.next {W wi w1 : World} {b g c k : Nat} {R : List Nat} {v v1 : Value} (hk : k < R.length) (h : Sl wi b g c (qz R) (pos R (k + 1))) (hg0 : W.grownBy wi (some g)) (hlt : g < W.heap.size) (hbl : b < W.heap.size) (hv : ∀ j, v.ownBlock = some j → W.heap.size ≤ j) (hR : Kd.R (Kd.int .i32) 21 w1 W.heap.size (fun j => W.heap.size ≤ j) v1 (zs (R.take k) ++ [(R[k] : Int)])) (hg : wi.grownBy w1 v.ownBlock) : Qd W w1 b g c R (k + 1) v1 := by
  refine ⟨h.grown hg (fun e => by have := hv g e.symm; omega) (fun e => by have := hv b e.symm; omega), ?_, ⟨hg.os.trans hg0.os, hg.tape.trans hg0.tape, hg.output.trans hg0.output, Nat.le_trans hg0.size hg.size, fun j hj hne => (hg.block j (Nat.lt_of_lt_of_le hj hg0.size) (fun e => by have := hv j e.symm; omega)).trans (hg0.block j hj hne)⟩, hlt, hbl⟩
  have e : zs (R.take (k + 1)) = zs (R.take k) ++ [(R[k] : Int)] := by
    unfold zs; rw [List.take_succ_eq_append_getElem hk, List.map_append]; rfl
  rw [e]; exact hR
theorem conv_any {A : Option Addr} {n cc : Nat} {w : World} {xs : List Int} (h : (Kd.int .i32).C w A n xs) : (convert 63 9 (.slice A n cc)).run Try.prog w = .ok (.string (runesBytes xs)) w := by
  obtain ⟨hn, _, hc⟩ := h
  by_cases hp : 0 < n
  · obtain ⟨ad, rfl, hcells⟩ := hc hp
    have := run_convert_runes w 63 9 21 ad n cc xs (by omega) Try.underlying63 Try.underlying21 Try.underlying9 (by
      intro j hj
      obtain ⟨cs, _, hk, hcell⟩ := hcells j _ (List.getElem?_eq_getElem hj)
      obtain rfl : cs = [.int .i32 xs[j]] := hk
      have := hcell 0 _ rfl
      rw [List.getD_eq_getElem?_getD, List.getElem?_eq_getElem hj]
      simpa [Kd.int, Kd.scalar] using this)
    rw [this, List.take_of_length_le (by omega)]
  · obtain rfl : n = 0 := by omega
    obtain rfl : xs = [] := List.length_eq_zero_iff.1 (by omega)
    cases A with
    | none => exact run_convert_runes_nil w _ _ _ _ _ Try.underlying63 Try.underlying21 Try.underlying9
    | some ad =>
      have := run_convert_runes w 63 9 21 ad 0 cc [] (Nat.le_refl _) Try.underlying63 Try.underlying21 Try.underlying9 (by intro j hj; simp at hj)
      exact this
theorem qR_cases (r : Nat) : (qR r = [r] ∧ 32 ≤ r ∧ r ≠ 34 ∧ r ≠ 92) ∨ (∃ y, qR r = [92, y] ∧ ((y = 34 ∧ r = 34) ∨ (y = 92 ∧ r = 92) ∨ (y = 98 ∧ r = 8) ∨ (y = 102 ∧ r = 12) ∨ (y = 110 ∧ r = 10) ∨ (y = 114 ∧ r = 13) ∨ (y = 116 ∧ r = 9))) ∨ (qR r = [92, 117, 48, 48, hn (r / 16), hn (r % 16)] ∧ r < 160) := by
  unfold qR
  split
  · right; left; exact ⟨34, rfl, by omega⟩
  split
  · right; left; exact ⟨92, rfl, by omega⟩
  split
  · right; left; exact ⟨98, rfl, by omega⟩
  split
  · right; left; exact ⟨102, rfl, by omega⟩
  split
  · right; left; exact ⟨110, rfl, by omega⟩
  split
  · right; left; exact ⟨114, rfl, by omega⟩
  split
  · right; left; exact ⟨116, rfl, by omega⟩
  split
  · right; right; exact ⟨rfl, by omega⟩
  · left; exact ⟨rfl, by omega, by omega, by omega⟩
set_option maxHeartbeats 8000000 in
set_option maxRecDepth 100000 in
theorem quotedW {wi : World} {b g c : Nat} {R : List Nat} (h : Sl wi b g c (qz R) 0) (hv : ∀ r ∈ R, val r) (hZ : (qz R).length ≤ 1099511627776) (hRl : R.length ≤ 1099511627776) : Calls Try.prog 77 #[.pointer (some ⟨g, 0, none⟩)] wi fun e w' => e = .returned (.bool true) ∧ Sd wi w' b g c (qz R) (pos R R.length + 1) (runesBytes (zs R)) := by
  have c1 := h.c1
  have f1 := h.fz 1
  have HV := Lib.hid hv
  have H1 := Lib.hid (show Qd wi (wi.setCell ⟨g, 1, none⟩ (.int .i64 ((1 : Nat) : Int))) b g c R 0 (.slice none 0 0) from ⟨h.set 1, Kd.R_nil _ _ _ _ _, gb_set _ _ _ _, blk_lt h.blk, h.blt⟩)
  clear h hv
  go_enter Try.func77, Try.ntmps77
  go_wp2_with fail
  go_loopw [4] (fun ov wk => ∃ k : Nat, k ≤ R.length ∧ Hid (Qd wi wk b g c R k ov)) (fun _ wk => (qz R).length - aOf g wk)
  case atStart => exact ⟨0, by omega, H1⟩
  case round =>
    obtain ⟨k, hk, HI⟩ := hrel
    clear H1 c1 f1
    have c0 := HI.out.s.c0
    have c1 := HI.out.s.c1
    have f1 := HI.out.s.fz 1
    have hpl := pos_le R k hk
    have hql := qz_len R
    obtain ⟨p, hp⟩ : ∃ p, pos R k = p := ⟨_, rfl⟩
    obtain ⟨x, hx⟩ : ∃ x, (qz R)[p]? = some x := by
      have : p < (qz R).length := by omega
      exact ⟨_, List.getElem?_eq_getElem this⟩
    have tx := HI.out.s.txt _ _ hx
    rw [hp] at c1 hpl
    have HPE := Lib.hid hp
    have HAO := Lib.hid (show aOf g wr = p by rw [← hp]; exact HI.out.s.aOf)
    obtain ⟨N, hN⟩ : ∃ N, (qz R).length = N := ⟨_, rfl⟩
    rw [hN] at c0 hZ hql ⊢
    have HNE := Lib.hid hN
    have hlt : p < N := by omega
    have HQL := Lib.hid hql
    have HPL := Lib.hid hpl
    have hd : decide ((p : Int) < (N : Int)) = true := decide_eq_true (by omega)
    have q0 : (0 : Int) ≤ (p : Int) := Int.natCast_nonneg _
    have q1 : (p : Int) < (N : Int) := by omega
    have HX := Lib.hid hx
    have HZ := Lib.hid (show (qz R).length ≤ 1099511627776 by omega)
    have HRL := Lib.hid hRl
    clear hx hp hN hql hpl
    by_cases hlast : k = R.length
    · subst hlast
      obtain rfl : x = 34 := by
        have h1 := HX.out
        rw [← HPE.out, qz_end] at h1
        exact (Option.some.inj h1).symm
      obtain ⟨A, cc, rfl, hcc, hC⟩ := Kd.R_reads HI.out.r
      have hrun := fun m => conv_any (cc := cc) (Kd.R_reads' (Kd.R_far (Kd.R_drewN HI.out.r m) (p := ⟨g, 1, none⟩) (fun j hj => by have h3 := HI.out.lt; have h4 : wi.heap.size ≤ j := hj; show j ≠ g; omega) (.int .i64 ((p + 1 : Nat) : Int)))).2.2
      have HPUT := Lib.hid (fun m => putW (runesBytes (zs R)) ((HI.out.s.drewN m).set (p + 1)) (by omega))
      have hfull : zs (R.take R.length) = zs R := by rw [List.take_length]
      rw [hfull] at hrun ⊢
      have hgb := fun m => gb_trans (gb_below HI.out.gb (pw_below_drewN (Below.refl _ _) m)) (gb_set (wr.drewN m) g 1 (.int .i64 ((p + 1 : Nat) : Int)))
      have HGB := Lib.hid hgb
      have hcast : ((p + 1 : Nat) : Int) = (p : Int) + 1 := rfl
      rw [hcast] at hrun
      clear hC hfull hgb hcast hcc
      go_wp2_with fail
      go_quiet (fail)
      go_wp2_with fail
      go_quiet (fail)
      go_wp2_with fail
      refine (HPUT.out _).mono ?_
      rintro e w2 ⟨rfl, hsd⟩
      have HSD := Lib.hid hsd
      clear hsd hrun
      go_wp2_with fail
      go_ret
      obtain ⟨hex, hg2⟩ := HSD.out
      rw [HPE.out]
      exact ⟨rfl, ⟨hex, gb_trans (HGB.out _) hg2⟩⟩
    · have hkl : k < R.length := by omega
      obtain ⟨r, hr⟩ : ∃ r, R[k] = r := ⟨_, rfl⟩
      have hvr : val r := by rw [← hr]; exact HV.out _ (List.getElem_mem hkl)
      have hr2 : r < 65536 := by unfold val at hvr; omega
      have HAT := Lib.hid (fun j hj => qz_at R k j hkl hj)
      have HNX := Lib.hid (pos_next R k hkl)
      have HNEXT := Lib.hid (fun (wj w1 : World) (v1 : Value) (hs : Sl wj b g c (qz R) (pos R (k + 1))) (hg0 : wi.grownBy wj (some g)) => @Qd.next wi wj w1 b g c k R u4 v1 hkl hs hg0 HI.out.lt HI.out.bl (fun j hj => HI.out.r.1 j hj))
      rw [hr] at HAT HNX HNEXT
      rw [HPE.out] at HNX HAT
      rcases qR_cases r with ⟨hq, hq1, hq2, hq3⟩ | ⟨y, hq, hy⟩ | ⟨hq, hq1⟩
      · obtain rfl : x = r := by
          have h1 := HAT.out 0 (by rw [hq]; exact Nat.zero_lt_one)
          rw [Nat.add_zero, HX.out] at h1
          have := Option.some.inj h1
          simpa [hq] using this
        have n34 : ((x : Int) == 34) = false := by simp; omega
        have n10 : ((x : Int) == 10) = false := by simp; omega
        have n13 : ((x : Int) == 13) = false := by simp; omega
        have n92 : ((x : Int) == 92) = false := by simp; omega
        have HSRC := Lib.hid (srcW x hq1)
        have HE := Lib.hid (show pos R (k + 1) = p + 1 by rw [HNX.out, hq]; rfl)
        have HLEN := Lib.hid (show ((zs (R.take k)).length + 1) * 4 ≤ 140737488355328 by rw [zs_len, List.length_take]; have := HRL.out; omega)
        have HSL := Lib.hid (fun m m2 => show Sl (((wr.drewN m).setCell ⟨g, 1, none⟩ (.int .i64 ((p : Int) + 1))).drewN m2) b g c (qz R) (p + 1) from HPE.out ▸ ((HI.out.s.drewN m).set (p + 1)).drewN m2)
        clear hq hr hvr HNX HAT
        go_wp2_with fail
        go_quiet (fail)
        go_wp2_with fail
        go_quiet (fail)
        go_wp2_with fail
        refine (HSRC.out _).mono ?_
        rintro e w2 ⟨rfl, m, hw2⟩
        have HG0 := Lib.hid (show wr.grownBy w2 (some g) by rw [hw2]; exact gb_put _ _ _ _ _)
        have HS0 := Lib.hid (show Sl w2 b g c (qz R) (p + 1) by rw [hw2]; exact HSL.out _ _)
        clear hw2 HSL
        have HR1 := Lib.hid (HI.out.row HG0.out)
        have HG1 := Lib.hid (gb_trans HI.out.gb HG0.out)
        have HS1 := Lib.hid (show Sl _ b g c (qz R) (pos R (k + 1)) by rw [HE.out]; exact HS0.out)
        go_wp2_with (at_builtin; refine RowKit.Hid.out ?_)
        refine Lib.hid ?_
        refine Kd.R_append (Kd.int .i32) (w0 := w2) wi.heap.size rfl (.tmp 46) (.tmp 48) 63 21 (.int .i32 0) 4 rfl Try.underlying63 infoR rfl (by decide) (by decide) u4 (zs (R.take k)) (x : Int) [.int .i32 x] (fun j => wi.heap.size ≤ j) (fun _ => False) rfl rfl rfl (fun _ hk => hk.elim) (fun j hj => Nat.le_trans HG1.out.size hj) HR1.out (Below.refl _ _) HG1.out.size HLEN.out ?_
        intro v1 w1 hR hb hg hat
        have HN := Lib.hid (HNEXT.out _ w1 v1 HS1.out HG1.out hR hg)
        have HA2 := Lib.hid HN.out.s.aOf
        clear hR hb hg hat
        go_wp2_with fail
        go_roundw
        case rel => exact ⟨k + 1, by omega, HN⟩
        case measure => rw [HA2.out, HAO.out, HE.out]; omega
      · obtain rfl : x = 92 := by
          have h1 := HAT.out 0 (by rw [hq]; exact Nat.zero_lt_succ _)
          rw [Nat.add_zero, HX.out] at h1
          have := Option.some.inj h1
          simpa [hq] using this
        have hy1 : (qz R)[p + 1]? = some y := by
          have h1 := HAT.out 1 (by rw [hq]; exact Nat.lt_succ_self _)
          simpa [hq] using h1
        have HY1 := Lib.hid hy1
        have HYY := Lib.hid hy
        have HSRC := Lib.hid (srcW 92 (by decide))
        have HE := Lib.hid (show pos R (k + 1) = p + 1 + 1 by rw [HNX.out, hq]; rfl)
        have HLEN := Lib.hid (show ((zs (R.take k)).length + 1) * 4 ≤ 140737488355328 by rw [zs_len, List.length_take]; have := HRL.out; omega)
        have HSL := Lib.hid (fun m m2 => show Sl (((wr.drewN m).setCell ⟨g, 1, none⟩ (.int .i64 ((p : Int) + 1))).drewN m2) b g c (qz R) (p + 1) from HPE.out ▸ ((HI.out.s.drewN m).set (p + 1)).drewN m2)
        clear hq hr hvr HNX HAT hy1 hy
        go_wp2_with fail
        go_quiet (fail)
        go_wp2_with fail
        go_quiet (fail)
        go_wp2_with fail
        refine (HSRC.out _).mono ?_
        rintro e w2 ⟨rfl, m, hw2⟩
        have HG0 := Lib.hid (show wr.grownBy w2 (some g) by rw [hw2]; exact gb_put _ _ _ _ _)
        have HS0 := Lib.hid (show Sl w2 b g c (qz R) (p + 1) by rw [hw2]; exact HSL.out _ _)
        clear hw2 HSL
        go_wp2_with fail
        refine (escOne y r HS0.out HY1.out HZ.out HYY.out).mono ?_
        rintro e w3 ⟨rfl, hs3, hg3⟩
        have HS3 := Lib.hid hs3
        have HG3 := Lib.hid (gb_trans HG0.out hg3)
        clear hs3 hg3
        have HR1 := Lib.hid (HI.out.row HG3.out)
        have HG1 := Lib.hid (gb_trans HI.out.gb HG3.out)
        have HS1 := Lib.hid (show Sl _ b g c (qz R) (pos R (k + 1)) by rw [HE.out]; exact HS3.out)
        go_wp2_with (at_builtin; refine RowKit.Hid.out ?_)
        refine Lib.hid ?_
        refine Kd.R_append (Kd.int .i32) (w0 := w3) wi.heap.size rfl (.tmp 80) (.tmp 82) 63 21 (.int .i32 0) 4 rfl Try.underlying63 infoR rfl (by decide) (by decide) u4 (zs (R.take k)) (r : Int) [.int .i32 r] (fun j => wi.heap.size ≤ j) (fun _ => False) rfl rfl rfl (fun _ hk => hk.elim) (fun j hj => Nat.le_trans HG1.out.size hj) HR1.out (Below.refl _ _) HG1.out.size HLEN.out ?_
        intro v1 w1 hR hb hg hat
        have HN := Lib.hid (HNEXT.out _ w1 v1 HS1.out HG1.out hR hg)
        have HA2 := Lib.hid HN.out.s.aOf
        clear hR hb hg hat
        go_wp2_with fail
        go_roundw
        case rel => exact ⟨k + 1, by omega, HN⟩
        case measure => rw [HA2.out, HAO.out, HE.out]; omega
      · obtain rfl : x = 92 := by
          have h1 := HAT.out 0 (by rw [hq]; exact Nat.zero_lt_succ _)
          rw [Nat.add_zero, HX.out] at h1
          have := Option.some.inj h1
          simpa [hq] using this
        have h117 : (qz R)[p + 1]? = some 117 := by
          have h1 := HAT.out 1 (by rw [hq]; simp)
          simpa [hq] using h1
        have hdd : ∀ i, i < 4 → (qz R)[p + 1 + 1 + i]? = some (hn (dd r i)) := by
          intro i hi
          have h1 := HAT.out (2 + i) (by rw [hq]; simp; omega)
          rw [show p + 1 + 1 + i = p + (2 + i) by omega, h1]
          have : i = 0 ∨ i = 1 ∨ i = 2 ∨ i = 3 := by omega
          rcases this with rfl | rfl | rfl | rfl <;> simp [hq, dd, hn]
        have H117 := Lib.hid h117
        have HDD := Lib.hid hdd
        have HSRC := Lib.hid (srcW 92 (by decide))
        have HE := Lib.hid (show pos R (k + 1) = p + 1 + 5 by rw [HNX.out, hq]; rfl)
        have HLEN := Lib.hid (show ((zs (R.take k)).length + 1) * 4 ≤ 140737488355328 by rw [zs_len, List.length_take]; have := HRL.out; omega)
        have HSL := Lib.hid (fun m m2 => show Sl (((wr.drewN m).setCell ⟨g, 1, none⟩ (.int .i64 ((p : Int) + 1))).drewN m2) b g c (qz R) (p + 1) from HPE.out ▸ ((HI.out.s.drewN m).set (p + 1)).drewN m2)
        clear hq hr hvr HNX HAT h117 hdd
        go_wp2_with fail
        go_quiet (fail)
        go_wp2_with fail
        go_quiet (fail)
        go_wp2_with fail
        refine (HSRC.out _).mono ?_
        rintro e w2 ⟨rfl, m, hw2⟩
        have HG0 := Lib.hid (show wr.grownBy w2 (some g) by rw [hw2]; exact gb_put _ _ _ _ _)
        have HS0 := Lib.hid (show Sl w2 b g c (qz R) (p + 1) by rw [hw2]; exact HSL.out _ _)
        clear hw2 HSL
        go_wp2_with fail
        refine (escUni r HS0.out H117.out HDD.out HZ.out hq1).mono ?_
        rintro e w3 ⟨rfl, hs3, hg3⟩
        have HS3 := Lib.hid hs3
        have HG3 := Lib.hid (gb_trans HG0.out hg3)
        clear hs3 hg3
        have HR1 := Lib.hid (HI.out.row HG3.out)
        have HG1 := Lib.hid (gb_trans HI.out.gb HG3.out)
        have HS1 := Lib.hid (show Sl _ b g c (qz R) (pos R (k + 1)) by rw [HE.out]; exact HS3.out)
        go_wp2_with (at_builtin; refine RowKit.Hid.out ?_)
        refine Lib.hid ?_
        refine Kd.R_append (Kd.int .i32) (w0 := w3) wi.heap.size rfl (.tmp 80) (.tmp 82) 63 21 (.int .i32 0) 4 rfl Try.underlying63 infoR rfl (by decide) (by decide) u4 (zs (R.take k)) (r : Int) [.int .i32 r] (fun j => wi.heap.size ≤ j) (fun _ => False) rfl rfl rfl (fun _ hk => hk.elim) (fun j hj => Nat.le_trans HG1.out.size hj) HR1.out (Below.refl _ _) HG1.out.size HLEN.out ?_
        intro v1 w1 hR hb hg hat
        have HN := Lib.hid (HNEXT.out _ w1 v1 HS1.out HG1.out hR hg)
        have HA2 := Lib.hid HN.out.s.aOf
        clear hR hb hg hat
        go_wp2_with fail
        go_roundw
        case rel => exact ⟨k + 1, by omega, HN⟩
        case measure => rw [HA2.out, HAO.out, HE.out]; omega
end Go.Proofs.Ytamajbaojbghcaa.Qt
