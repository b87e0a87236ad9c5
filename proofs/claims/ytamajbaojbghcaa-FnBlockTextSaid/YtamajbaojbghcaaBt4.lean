/- spec.BlockValue: the walk. -/
import Derived.Test.YtamajbaojbghcaaBt3
namespace Go.Proofs.Ytamajbaojbghcaa.Bt
open Go.RowKit Go.Proofs.YtamajbaojbghcaaW.PrintWords Go.Proofs.YtamajbaojbghcaaW.PrintLast Go.Proofs.YtamajbaojbghcaaW.PrintMore Go.Proofs.Ytamajbaojbghcaa.PB Go.Proofs.Ytamajbaojbghcaa.K
set_option linter.unusedVariables false
set_option linter.unusedSimpArgs false
theorem ldW (x : ByteArray) (w : World) (hx : x.size ≤ 1099511627776) : Calls Try.prog 43 #[.string x] w fun e w' => e = .returned (.int .i64 (ld (bs x) : Int)) ∧ ∃ m, w' = w.drewN m := by
  obtain ⟨K, hK⟩ := leadE x hx
  refine (spec_leading.calls K x _ w (hK K (Nat.le_refl _))).mono ?_
  rintro e w' ⟨rfl, ⟨nd, rfl⟩⟩
  exact ⟨rfl, nd, rfl⟩
/-- The indent as the specification has it. -/
def cs : Option Nat → Int
  | none => -1
  | some n => n
theorem foldS (M : List (List UInt8)) (i : Nat) (h1 : 1 ≤ i) (hi : i < M.length) : ((M.take (i + 1)).drop 1).foldl mn none = mn (((M.take i).drop 1).foldl mn none) M[i] := by
  rw [List.take_succ_eq_append_getElem hi, List.drop_append_of_le_length (by rw [List.length_take]; omega), List.foldl_append]; rfl
theorem mnS_set (a : Option Nat) {x : List UInt8} (h : ¬ blk x = true) (h2 : cs a < 0 ∨ (ld x : Int) < cs a) : mn a x = some (ld x) := by
  unfold mn
  rw [if_neg h]
  cases a with
  | none => rfl
  | some m => simp only [cs] at h2; simp; omega
theorem mnS_keep (a : Option Nat) {x : List UInt8} (h : ¬ blk x = true) (h2 : ¬ cs a < 0) (h3 : ¬ (ld x : Int) < cs a) : mn a x = a := by
  unfold mn
  rw [if_neg h]
  cases a with
  | none => simp only [cs] at h2; omega
  | some m => simp only [cs] at h3; simp; omega
theorem mn_blk (a : Option Nat) {x : List UInt8} (h : blk x = true) : mn a x = a := by unfold mn; rw [if_pos h]
theorem CutTo.skip {c : Nat} {L0 L : List ByteArray} {i : Nat} (h : CutTo c L0 L i) (h0 : c = 0 ∨ i = 0) : CutTo c L0 L (i + 1) := by
  refine ⟨h.len, fun j hj => ?_⟩
  rw [h.at_ j hj]
  rcases h0 with rfl | rfl
  · simp
  · rw [if_neg (by omega), if_neg (by omega)]
theorem blk_eq (x : ByteArray) : ((ld (bs x) : Int) == (x.size : Int)) = blk (bs x) := by
  unfold blk
  rw [bs_len]
  by_cases h : ld (bs x) = x.size
  · rw [h, beq_self_eq_true, beq_self_eq_true]
  · rw [beq_eq_false_iff_ne.2 h, beq_eq_false_iff_ne.2 (show ¬ (ld (bs x) : Int) = (x.size : Int) by omega)]
set_option maxHeartbeats 4000000 in
set_option maxRecDepth 100000 in
theorem valueW (s : ByteArray) (w : World) (hs : s.size ≤ 65536) (h13 : (13 : UInt8) ∉ bs s) : Calls Try.prog 22 #[.string s] w fun e w' => e = .returned (.string ⟨(bval (bs s)).toArray⟩) ∧ Below w.heap.size w w' := by
  obtain ⟨L, ⟨K, hK⟩, hL⟩ := linesE s (by omega) h13
  have hlen : L.length ≤ 65537 := by
    have := split_length 10 (bs s)
    rw [← hL, List.length_map, bs_len] at this
    omega
  have hle : ∀ x ∈ L.map bs, x.length ≤ 65536 := by
    intro x hx
    rw [hL] at hx
    have := split_le 10 (bs s) x hx
    rw [bs_len] at this; omega
  have hpos : 0 < L.length := by
    have := splitL_ne 10 (bs s)
    rw [← hL] at this
    cases L with
    | nil => simp at this
    | cons a l => simp
  have hV : (bval (bs s)) = joinL 10 (left (cut ((comS (L.map bs)).getD 0) (L.map bs))) := by unfold bval; rw [hL]
  obtain ⟨V, hVe⟩ : ∃ V, bval (bs s) = V := ⟨_, rfl⟩
  rw [hVe] at hV ⊢
  have HV := Lib.hid hV
  have HLE := Lib.hid hle
  have HP := Lib.hid hpos
  clear hV hVe hL hle hpos h13
  go_enter Try.func22, Try.ntmps22
  go_wp2_with fail
  refine (spec_Lines.calls K s L w (hK K (Nat.le_refl _))).mono ?_
  rintro e w1 ⟨v, rfl, hR, hb⟩
  obtain ⟨g, cap, rfl, hg, -, -⟩ := Kd.R_form hR HP.out
  have HR := Lib.hid (Rw.mk hb hR hg)
  have hcap := HR.out.cap
  clear hR hb hg hK
  go_upto_block 0 with fail
  go_cut [4] (fun cv wc => cv = .int .i64 (cs (comS (L.map bs))) ∧ Aside0 (Rw w wc g cap L))
  case first =>
    go_wp2_with fail
    go_loopw [4, 17] (fun cv iv wi => ∃ i : Nat, ∃ c : Int, iv = .int .i64 i ∧ cv = .int .i64 c ∧ i ≤ L.length ∧ Hid (c = cs ((((L.map bs).take i).drop 1).foldl mn none)) ∧ Hid (Rw w wi g cap L)) (fun cv iv _ => L.length - (intOf iv).toNat)
    case atStart => exact ⟨0, _, rfl, rfl, by omega, Lib.hid rfl, HR⟩
    case round =>
      obtain ⟨i, c, rfl, rfl, hil, HC, HI⟩ := hrel
      clear HR
      by_cases hlt : i < L.length
      · have hd1 : decide ((i : Int) < (L.length : Int)) = true := decide_eq_true (by omega)
        have n0 := (HI.out.cell i hlt).1
        have hx := li_le HLE.out i hlt
        have hi0 : (0 : Int) ≤ (i : Int) := Int.natCast_nonneg _
        have hi1 : (i : Int) < (L.length : Int) := by omega
        have HW := Lib.hid (fun w => ldW (li L i) w (by omega))
        have hll : ld (bs (li L i)) ≤ (li L i).size := by rw [← bs_len]; exact ld_le _
        by_cases h0 : i = 0
        · subst h0
          have HN := Lib.hid (show c = cs ((((L.map bs).take (0 + 1)).drop 1).foldl mn none) by
            rw [HC.out, List.drop_of_length_le (by rw [List.length_take]; omega), List.drop_of_length_le (by rw [List.length_take]; omega)])
          obtain ⟨x, hxe⟩ : ∃ x, li L 0 = x := ⟨_, rfl⟩
          rw [hxe] at n0 hx HW hll
          obtain ⟨m, hm⟩ : ∃ m : Int, (ld (bs x) : Int) = m := ⟨_, rfl⟩
          rw [hm] at HW
          clear hxe hm hll
          go_wp2_with fail
          refine (HW.out _).mono ?_
          rintro e w2 ⟨rfl, nd, rfl⟩
          have HI2 := Lib.hid (HI.out.drewN nd)
          clear n0 HW
          go_wp2_with fail
          go_roundw
          case rel => exact ⟨0 + 1, c, by go_num, rfl, by omega, HN, HI2⟩
          case measure => first | (simp [intOf]; done) | (simp [intOf]; omega)
        · have hip : 0 < i := by omega
          have HF := Lib.hid (foldS (L.map bs) i (by omega) (by simpa using hlt))
          rw [li_map hlt] at HF
          obtain ⟨x, hxe⟩ : ∃ x, li L i = x := ⟨_, rfl⟩
          rw [hxe] at n0 hx HW HF hll
          have hxl := bs_len x
          by_cases hbk : blk (bs x) = true
          · have hb2 := (blk_iff _).1 hbk
            rw [bs_len] at hb2
            rw [hb2] at HW
            have HN := Lib.hid (show c = cs ((((L.map bs).take (i + 1)).drop 1).foldl mn none) by rw [HF.out, mn_blk _ hbk]; exact HC.out)
            clear hbk hb2 hxe hll hxl HF HC
            go_wp2_with fail
            refine (HW.out _).mono ?_
            rintro e w2 ⟨rfl, nd, rfl⟩
            have HI2 := Lib.hid (HI.out.drewN nd)
            clear n0 HW
            go_wp2_with fail
            go_roundw
            case rel => exact ⟨i + 1, c, by go_num, rfl, by omega, HN, HI2⟩
            case measure => first | (simp [intOf]; done) | (simp [intOf]; omega)
          · have hne : ld (bs x) ≠ x.size := fun e => hbk ((blk_iff _).2 (by rw [bs_len]; exact e))
            have hd2 : decide ((ld (bs x) : Int) < (x.size : Int)) = true := decide_eq_true (by omega)
            by_cases hc : c < 0
            · have hd3 : decide (c < 0) = true := decide_eq_true hc
              have HN := Lib.hid (show (ld (bs x) : Int) = cs ((((L.map bs).take (i + 1)).drop 1).foldl mn none) by
                rw [HF.out, mnS_set _ hbk (.inl (by rw [← HC.out]; exact hc))]; rfl)
              obtain ⟨m, hm⟩ : ∃ m : Int, (ld (bs x) : Int) = m := ⟨_, rfl⟩
              rw [hm] at HW hd2 HN
              clear hbk hne hxe hll hxl HF HC hm
              go_wp2_with fail
              refine (HW.out _).mono ?_
              rintro e w2 ⟨rfl, nd, rfl⟩
              have HI2 := Lib.hid (HI.out.drewN nd)
              clear n0 HW
              go_wp2_with fail
              go_roundw
              case rel => exact ⟨i + 1, m, by go_num, rfl, by omega, HN, HI2⟩
              case measure => first | (simp [intOf]; done) | (simp [intOf]; omega)
            · have hd3 : decide (c < 0) = false := decide_eq_false hc
              by_cases hc2 : (ld (bs x) : Int) < c
              · have hd4 : decide ((ld (bs x) : Int) < c) = true := decide_eq_true hc2
                have HN := Lib.hid (show (ld (bs x) : Int) = cs ((((L.map bs).take (i + 1)).drop 1).foldl mn none) by
                  rw [HF.out, mnS_set _ hbk (.inr (by rw [← HC.out]; exact hc2))]; rfl)
                obtain ⟨m, hm⟩ : ∃ m : Int, (ld (bs x) : Int) = m := ⟨_, rfl⟩
                rw [hm] at HW hd2 hd4 HN hc2
                clear hbk hne hxe hll hxl HF HC hm
                go_wp2_with fail
                refine (HW.out _).mono ?_
                rintro e w2 ⟨rfl, nd, rfl⟩
                have HI2 := Lib.hid (HI.out.drewN nd)
                clear n0 HW
                go_wp2_with fail
                go_roundw
                case rel => exact ⟨i + 1, m, by go_num, rfl, by omega, HN, HI2⟩
                case measure => first | (simp [intOf]; done) | (simp [intOf]; omega)
              · have hd4 : decide ((ld (bs x) : Int) < c) = false := decide_eq_false hc2
                have HN := Lib.hid (show c = cs ((((L.map bs).take (i + 1)).drop 1).foldl mn none) by
                  rw [HF.out, mnS_keep _ hbk (by rw [← HC.out]; exact hc) (by rw [← HC.out]; exact hc2)]; exact HC.out)
                obtain ⟨m, hm⟩ : ∃ m : Int, (ld (bs x) : Int) = m := ⟨_, rfl⟩
                rw [hm] at HW hd2 hd4 hc2
                clear hbk hne hxe hll hxl HF HC hm
                go_wp2_with fail
                refine (HW.out _).mono ?_
                rintro e w2 ⟨rfl, nd, rfl⟩
                have HI2 := Lib.hid (HI.out.drewN nd)
                clear n0 HW
                go_wp2_with fail
                go_roundw
                case rel => exact ⟨i + 1, c, by go_num, rfl, by omega, HN, HI2⟩
                case measure => first | (simp [intOf]; done) | (simp [intOf]; omega)
      · obtain rfl : i = L.length := by omega
        have hd1 : decide ((L.length : Int) < (L.length : Int)) = false := by simp
        have HN := Lib.hid (show c = cs (comS (L.map bs)) by
          rw [HC.out]; unfold comS; rw [List.take_of_length_le (by simp)])
        clear hlt HC
        go_wp2_with fail
        go_meet
        exact ⟨by rw [← HN.out], ⟨HI.out⟩⟩
  case rest =>
    obtain ⟨rfl, HRx⟩ := hcut
    have HR2 := Lib.hid HRx.out
    clear HR HRx
    obtain ⟨C, hC⟩ : ∃ C, comS (L.map bs) = C := ⟨_, rfl⟩
    have hCb : ∀ n, C = some n → n ≤ 65536 := by rw [← hC]; exact fold_le 65536 _ none (fun n h => by cases h) (fun x hx => HLE.out x (List.mem_of_mem_drop hx))
    have HV2 := Lib.hid (show V = joinL 10 (left (cut (C.getD 0) (L.map bs))) by rw [← hC]; exact HV.out)
    have HCB := Lib.hid hCb
    obtain ⟨q, hqe⟩ : ∃ q, cs C = q := ⟨_, rfl⟩
    rw [hC, hqe]
    have hq1 : q ≤ 65536 := by
      rw [← hqe]
      cases C with
      | none => simp [cs]
      | some n => have := hCb n rfl; simp only [cs]; omega
    have hq2 : ¬ 0 < q → C.getD 0 = 0 := by
      rw [← hqe]
      cases C with
      | none => intro _; rfl
      | some n => intro h; simp only [cs] at h; show n = 0; omega
    have hq3 : 0 < q → ((C.getD 0 : Nat) : Int) = q := by
      rw [← hqe]
      cases C with
      | none => intro h; simp only [cs] at h; omega
      | some n => intro h; rfl
    have HQ2 := Lib.hid hq2
    have HQ3 := Lib.hid hq3
    clear hC hCb HV hq2 hq3 hqe HCB
    go_upto_block 2 with fail
    go_cut [] (fun wd => ∃ L2 : List ByteArray, Aside0 (L2.map bs = cut (C.getD 0) (L.map bs)) ∧ Aside0 (Rw w wd g cap L2))
    case first =>
      have HS := Lib.hid (CutTo.start (C.getD 0) L 0 (by omega))
      go_wp2_with fail
      go_loopw [45] (fun iv wi => ∃ i : Nat, ∃ L' : List ByteArray, iv = .int .i64 i ∧ i ≤ L.length ∧ Hid (CutTo (C.getD 0) L L' i) ∧ Hid (Rw w wi g cap L')) (fun iv _ => L.length - (intOf iv).toNat)
      case atStart => exact ⟨0, L, rfl, by omega, HS, HR2⟩
      case round =>
        obtain ⟨i, L', rfl, hil, HT, HI⟩ := hrel
        clear HS HR2
        by_cases hlt : i < L.length
        · have hd1 : decide ((i : Int) < (L.length : Int)) = true := decide_eq_true (by omega)
          have hlt' : i < L'.length := by rw [HT.out.len]; exact hlt
          obtain ⟨n0, f0⟩ := HI.out.cell i hlt'
          have hi0 : (0 : Int) ≤ (i : Int) := Int.natCast_nonneg _
          have hi2 : (i : Int) < (L.length : Int) := by omega
          have HXS := Lib.hid (HT.out.le HLE.out i hlt)
          by_cases h0 : i = 0
          · subst h0
            have HT2 := Lib.hid (HT.out.skip (.inr rfl))
            obtain ⟨x, hxe⟩ : ∃ x, li L' 0 = x := ⟨_, rfl⟩
            rw [hxe] at n0 HXS
            clear hxe hlt' hlt
            go_wp2_with fail
            go_roundw
            case rel => exact ⟨0 + 1, L', by go_num, by omega, HT2, HI⟩
            case measure => first | (simp [intOf]; done) | (simp [intOf]; omega)
          · have hip : 0 < i := by omega
            by_cases hqp : 0 < q
            · have hqd : decide (0 < q) = true := decide_eq_true hqp
              have hcq := HQ3.out hqp
              have HX := Lib.hid (fun x hx => HT.out.next (by omega) hlt x hx)
              have HPUT := Lib.hid (fun x => HI.out.put i x)
              obtain ⟨x, hxe⟩ : ∃ x, li L' i = x := ⟨_, rfl⟩
              rw [hxe] at n0 HXS HX
              have hxs : x.size ≤ 65536 := HXS.out
              have hxl := bs_len x
              obtain ⟨qn, rfl⟩ : ∃ qn : Nat, q = qn := ⟨q.toNat, by omega⟩
              have hqn : C.getD 0 = qn := by omega
              rw [hqn] at HX HT
              by_cases hsh : x.size < qn
              · have hmin : min (qn : Int) (x.size : Int) = (x.size : Int) := by omega
                have HT2 := Lib.hid (HX.out ByteArray.empty (by rw [List.drop_of_length_le (by omega)]; rfl))
                have HI2 := Lib.hid (HPUT.out ByteArray.empty)
                clear hxl HX HPUT hlt hcq hxe hlt'
                go_wp2_with fail
                go_roundw
                case rel => exact ⟨i + 1, _, by go_num, by omega, by rw [hqn]; exact HT2, HI2⟩
                case measure => first | (simp [intOf]; done) | (simp [intOf]; omega)
              · have hmin : min (qn : Int) (x.size : Int) = (qn : Int) := by omega
                have HT2 := Lib.hid (HX.out (x.extract qn x.size) (by rw [bs_drop]))
                have HI2 := Lib.hid (HPUT.out (x.extract qn x.size))
                have hn0 : (0 : Int) ≤ (qn : Int) := Int.natCast_nonneg _
                have hn1 : (qn : Int) ≤ (x.size : Int) := by omega
                clear hxl HX HPUT hlt hcq hxe hlt'
                go_wp2_with fail
                go_roundw
                case rel => exact ⟨i + 1, _, by go_num, by omega, by rw [hqn]; exact HT2, HI2⟩
                case measure => first | (simp [intOf]; done) | (simp [intOf]; omega)
            · have hqd : decide (0 < q) = false := decide_eq_false hqp
              have HT2 := Lib.hid (HT.out.skip (.inl (HQ2.out (by omega))))
              obtain ⟨x, hxe⟩ : ∃ x, li L' i = x := ⟨_, rfl⟩
              rw [hxe] at n0 HXS
              clear hxe hlt' hlt
              go_wp2_with fail
              go_roundw
              case rel => exact ⟨i + 1, L', by go_num, by omega, HT2, HI⟩
              case measure => first | (simp [intOf]; done) | (simp [intOf]; omega)
        · obtain rfl : i = L.length := by omega
          have hd1 : decide ((L.length : Int) < (L.length : Int)) = false := by simp
          have HA := Lib.hid (HT.out.all (Nat.le_refl _))
          clear hlt HT
          go_wp2_with fail
          go_meet
          exact ⟨L', ⟨HA.out⟩, ⟨HI.out⟩⟩
    case rest =>
      obtain ⟨L2, hM, HRx⟩ := hcut
      have HR := Lib.hid HRx.out
      have hN : L2.length = L.length := by
        have e := congrArg List.length hM.out
        rwa [List.length_map, cut_length, List.length_map] at e
      have hle2 : ∀ x ∈ L2.map bs, x.length ≤ 65536 := by
        rw [hM.out]; exact cut_le _ _ _ HLE.out
      have HV3 := Lib.hid (show V = joinL 10 (left (L2.map bs)) by rw [hM.out]; exact HV2.out)
      have HLE2 := Lib.hid hle2
      obtain ⟨N, hNe⟩ : ∃ N, L.length = N := ⟨_, rfl⟩
      rw [hNe] at hN hlen hcap ⊢
      have HN := Lib.hid hN
      clear HR2 HRx hM hle2 hN HLE HP hNe HV2 HQ2 HQ3 hq1
      have hst : stN (L2.map bs) ≤ N := by
        have := stN_le (L2.map bs)
        rwa [List.length_map, HN.out] at this
      go_upto_block 4 with fail
      go_cut [3] (fun v wd => ∃ A : Option Addr, ∃ n c : Nat, v = .slice A n c ∧ n ≤ c ∧ stN (L2.map bs) + n = N ∧ (0 < n → A = some ⟨g, stN (L2.map bs), none⟩) ∧ Aside0 (Rw w wd g cap L2))
      case first =>
        go_wp2_with fail
        go_loopw [3] (fun v wi => ∃ A : Option Addr, ∃ a n c : Nat, v = .slice A n c ∧ n ≤ c ∧ a + n = N ∧ Hid (0 < n → A = some ⟨g, a, none⟩) ∧ Hid (stN (L2.map bs) = a + stN ((L2.map bs).drop a)) ∧ Hid (Rw w wi g cap L2)) (fun v _ => match v with | .slice _ n _ => n | _ => 0)
        case atStart => exact ⟨_, 0, N, cap, rfl, hcap, by omega, Lib.hid (fun _ => rfl), Lib.hid (by simp), HR⟩
        case round =>
          obtain ⟨A, a, n, c, rfl, hnc, han, HA, HS, HI⟩ := hrel
          clear HR
          by_cases hlt : 0 < n
          · obtain rfl := HA.out hlt
            have hd1 : decide ((n : Int) > 0) = true := decide_eq_true (by omega)
            have hlt' : a < L2.length := by rw [HN.out]; omega
            have hlm : a < (L2.map bs).length := by simpa using hlt'
            have n0 := (HI.out.cell a hlt').1
            have hx := li_le HLE2.out a hlt'
            have hn1 : (0 : Int) < (n : Int) := by omega
            have HW := Lib.hid (fun w => ldW (li L2 a) w (by omega))
            have HE := Lib.hid (blk_eq (li L2 a))
            have HSY := Lib.hid (stN_yes (L2.map bs) a hlm)
            have HSN := Lib.hid (stN_no (L2.map bs) a hlm)
            rw [li_map hlt'] at HSY HSN
            obtain ⟨x, hxe⟩ : ∃ x, li L2 a = x := ⟨_, rfl⟩
            rw [hxe] at n0 hx HW HE HSY HSN
            obtain ⟨m, hm⟩ : ∃ m : Int, (ld (bs x) : Int) = m := ⟨_, rfl⟩
            rw [hm] at HW HE
            have hbq := HE.out
            clear hxe hm hlt' hlm
            by_cases hbk : blk (bs x) = true
            · rw [hbk] at hbq
              have HS2 := Lib.hid (show stN (L2.map bs) = (a + 1) + stN ((L2.map bs).drop (a + 1)) by rw [HS.out]; exact HSY.out hbk)
              clear HSY HSN HS HE hbk
              go_wp2_with fail
              go_quiet (exact Calls.quiet_of (HW.out _))
              go_wp2_with fail
              refine ⟨⟨_, a + 1, n - 1, c - 1, rfl, by omega, by omega, Lib.hid (fun h => if_neg (by omega)), HS2, Lib.hid (HI.out.drewN nq)⟩, ?_⟩
              show n - 1 < n
              omega
            · have hbk' : blk (bs x) = false := by simpa using hbk
              rw [hbk'] at hbq
              have HS2 := Lib.hid (show stN (L2.map bs) = a by rw [HS.out]; exact HSN.out hbk)
              clear HSY HSN HS HE hbk hbk'
              go_wp2_with fail
              go_quiet (exact Calls.quiet_of (HW.out _))
              go_wp2_with fail
              go_meet
              exact ⟨_, n, c, rfl, hnc, by rw [HS2.out]; exact han, fun _ => by rw [HS2.out], ⟨HI.out.drewN nq⟩⟩
          · obtain rfl : n = 0 := by omega
            have HS2 := Lib.hid (show stN (L2.map bs) = N by
              rw [HS.out]
              have := stN_end (L2.map bs)
              rw [List.length_map, HN.out] at this
              obtain rfl : a = N := by omega
              exact this)
            clear HS hlt
            go_wp2_with fail
            go_quiet (fail)
            go_wp2_with fail
            go_meet
            exact ⟨_, 0, c, rfl, by omega, by rw [HS2.out]; rfl, fun h => by omega, ⟨HI.out.drewN nq⟩⟩
      case rest =>
        obtain ⟨A, n0, c, rfl, hnc, hsn, hA, HRx⟩ := hcut
        have HR2 := Lib.hid HRx.out
        have HA := Lib.hid hA
        clear HR HRx hA
        have hleft : left (L2.map bs) = ((L2.map bs).take (enN (L2.map bs) (stN (L2.map bs)) N)).drop (stN (L2.map bs)) := by
          unfold left; rw [List.length_map, HN.out]
        have hV4 := HV3.out
        rw [hleft] at hV4
        obtain ⟨st, hste⟩ : ∃ st, stN (L2.map bs) = st := ⟨_, rfl⟩
        rw [hste] at hV4 hsn HA
        have HV4 := Lib.hid hV4
        clear hleft hste HV3 hV4 hst
        have hNle : n0 ≤ N := by omega
        go_upto_block 6 with fail
        go_cut [3] (fun v wd => ∃ n : Nat, v = .slice A n c ∧ n ≤ n0 ∧ st + n = enN (L2.map bs) st N ∧ Aside0 (Rw w wd g cap L2))
        case first =>
          go_wp2_with fail
          go_loopw [3] (fun v wi => ∃ n : Nat, v = .slice A n c ∧ n ≤ n0 ∧ Hid (enN (L2.map bs) st N = enN (L2.map bs) st (st + n)) ∧ Hid (Rw w wi g cap L2)) (fun v _ => match v with | .slice _ n _ => n | _ => 0)
          case atStart => exact ⟨n0, rfl, Nat.le_refl _, Lib.hid (by rw [hsn]), HR2⟩
          case round =>
            obtain ⟨n, rfl, hnn, HE, HI⟩ := hrel
            clear HR2
            by_cases hlt : 0 < n
            · have hA2 := HA.out (by omega)
              obtain ⟨p, rfl⟩ : ∃ p, n = p + 1 := ⟨n - 1, by omega⟩
              have hlt' : st + p < L2.length := by rw [HN.out]; omega
              have hlm : st + p < (L2.map bs).length := by simpa using hlt'
              have n0 := (HI.out.cell (st + p) hlt').1
              have hx := li_le HLE2.out (st + p) hlt'
              have hw : wrap64 (((p + 1 : Nat) : Int) - 1) = (p : Int) := by rw [wrap_in (by omega) (by omega)]; omega
              have hi0 : (0 : Int) ≤ (p : Int) := Int.natCast_nonneg _
              have hi1 : (p : Int) < ((p + 1 : Nat) : Int) := by omega
              have hi2 : (p : Int) ≤ (c : Int) := by omega
              have HW := Lib.hid (fun w => ldW (li L2 (st + p)) w (by omega))
              have HB := Lib.hid (blk_eq (li L2 (st + p)))
              have HEY := Lib.hid (enN_yes (L2.map bs) st (st + p) (by omega) hlm)
              have HEN := Lib.hid (enN_no (L2.map bs) st (st + p) hlm)
              rw [li_map hlt'] at HEY HEN
              obtain ⟨x, hxe⟩ : ∃ x, li L2 (st + p) = x := ⟨_, rfl⟩
              rw [hxe] at n0 hx HW HB HEY HEN
              obtain ⟨m, hm⟩ : ∃ m : Int, (ld (bs x) : Int) = m := ⟨_, rfl⟩
              rw [hm] at HW HB
              have hbq := HB.out
              subst hA2
              clear hxe hm hlt' hlm
              obtain ⟨n, hn⟩ : ∃ n, p + 1 = n := ⟨_, rfl⟩
              have hnp : 0 < n := by omega
              rw [hn] at hw hi1 hnn ⊢
              have hw' : IntKind.i64.wrap ((n : Int) - 1) = (p : Int) := by rw [i64_w]; exact hw
              have HNE := Lib.hid hn
              have hEn : st + p + 1 = st + n := by omega
              clear hn hlt
              by_cases hbk : blk (bs x) = true
              · rw [hbk] at hbq
                have HE2 := Lib.hid (show enN (L2.map bs) st N = enN (L2.map bs) st (st + p) by
                  rw [HE.out]; exact HEY.out hbk)
                clear HEY HEN HE HB hbk
                go_wp2_with fail
                go_quiet (exact Calls.quiet_of (HW.out _))
                go_wp2_with fail
                refine ⟨⟨p, rfl, by have := HNE.out; omega, HE2, Lib.hid (HI.out.drewN nq)⟩, ?_⟩
                show p < n
                have := HNE.out
                omega
              · have hbk' : blk (bs x) = false := by simpa using hbk
                rw [hbk'] at hbq
                have HE2 := Lib.hid (show enN (L2.map bs) st N = st + n by
                  rw [HE.out, ← hEn]; exact HEN.out hbk)
                clear HEY HEN HE HB hbk hbk'
                go_wp2_with fail
                go_quiet (exact Calls.quiet_of (HW.out _))
                go_wp2_with fail
                go_meet
                exact ⟨n, rfl, hnn, HE2.out.symm, ⟨HI.out.drewN nq⟩⟩
            · obtain rfl : n = 0 := by omega
              have HE2 := Lib.hid (show enN (L2.map bs) st N = st by rw [HE.out, Nat.add_zero, enN_eq])
              clear HE hlt
              go_wp2_with fail
              go_quiet (fail)
              go_wp2_with fail
              go_meet
              exact ⟨0, rfl, by omega, by rw [HE2.out]; rfl, ⟨HI.out.drewN nq⟩⟩
        case rest =>
          obtain ⟨n, rfl, hnn, hen, HRx⟩ := hcut
          have HI0 := Lib.hid HRx.out
          have hV5 := HV4.out
          rw [← hen] at hV5
          obtain ⟨X, hX⟩ : ∃ X, ((L2.map bs).take (st + n)).drop st = X := ⟨_, rfl⟩
          rw [hX] at hV5
          have hXn : X.length = n := by
            rw [← hX, List.length_drop, List.length_take, List.length_map, HN.out]; omega
          have hXi : ∀ i, i < n → joinL 10 (X.take (i + 1)) = if i = 0 then bs (li L2 (st + i)) else joinL 10 (X.take i) ++ 10 :: bs (li L2 (st + i)) := by
            intro i h
            rw [joinL_take 10 X i (by rw [hXn]; exact h)]
            have e : X[i]? = some (bs (li L2 (st + i))) := by
              rw [← hX, List.getElem?_drop, List.getElem?_take, if_pos (by omega), List.getElem?_eq_getElem (by rw [List.length_map, HN.out]; omega), li_map (by rw [HN.out]; omega)]
            rw [List.getElem?_eq_getElem (by rw [hXn]; exact h)] at e
            rw [Option.some.inj e]
          have hXle : ∀ i, (joinL 10 (X.take i)).length ≤ 4295098369 := by
            intro i
            have h1 := joinL_len 10 (X.take i) 65536 (fun y hy => HLE2.out y (by
              have := List.mem_of_mem_take hy
              rw [← hX] at this
              exact List.mem_of_mem_take (List.mem_of_mem_drop this)))
            have h2 : (X.take i).length ≤ 65537 := by rw [List.length_take]; omega
            have h3 := Nat.mul_le_mul_right (65536 + 1) h2
            omega
          have HV5 := Lib.hid hV5
          have HXN := Lib.hid hXn
          have HXI := Lib.hid hXi
          have HXL := Lib.hid hXle
          have hnN : st + n ≤ N := by omega
          have h0 : (⟨(joinL 10 (X.take 0)).toArray⟩ : ByteArray) = ⟨#[]⟩ := rfl
          have H0 := Lib.hid h0
          clear HR2 HRx HV4 hV5 hX hXn hXi hXle hen h0
          go_wp2_with fail
          go_loopw [10, 109] (fun ov iv wi => ∃ i : Nat, ∃ o : ByteArray, iv = .int .i64 i ∧ ov = .string o ∧ i ≤ n ∧ Hid (o = ⟨(joinL 10 (X.take i)).toArray⟩) ∧ Hid (Rw w wi g cap L2)) (fun ov iv _ => n - (intOf iv).toNat)
          case atStart => exact ⟨0, _, rfl, rfl, by omega, Lib.hid rfl, HI0⟩
          case round =>
            obtain ⟨i, o, rfl, rfl, hil, HO, HI⟩ := hrel
            clear HI0
            have hos : o.size ≤ 4295098369 := by
              rw [← bs_len, HO.out, bs_mk]; exact HXL.out i
            by_cases hlt : i < n
            · have hA2 := HA.out (by omega)
              subst hA2
              have hd1 : decide ((i : Int) < (n : Int)) = true := decide_eq_true (by omega)
              have hlt' : st + i < L2.length := by rw [HN.out]; omega
              have n0 := (HI.out.cell (st + i) hlt').1
              have hx := li_le HLE2.out (st + i) hlt'
              have hi0 : (0 : Int) ≤ (i : Int) := Int.natCast_nonneg _
              have hi1 : (i : Int) < (n : Int) := by omega
              have HJ := Lib.hid (HXI.out i hlt)
              obtain ⟨x, hxe⟩ : ∃ x, li L2 (st + i) = x := ⟨_, rfl⟩
              rw [hxe] at n0 hx HJ
              have hs1 : (9223372036854775807 < o.size + 1) = False := eq_false (by omega)
              have hs2 : (9223372036854775807 < o.size + x.size) = False := eq_false (by omega)
              have hs3 : (9223372036854775807 < o.size + 1 + x.size) = False := eq_false (by omega)
              clear hxe hlt'
              by_cases h0 : i = 0
              · subst h0
                rw [Nat.add_zero] at n0
                have HN2 := Lib.hid (show o ++ x = ⟨(joinL 10 (X.take (0 + 1))).toArray⟩ by
                  rw [HJ.out, if_pos rfl, HO.out]
                  apply bs_ext
                  rw [bs_append, bs_mk, bs_mk]; rfl)
                clear hlt HJ
                go_wp2_with fail
                go_roundw
                case rel => exact ⟨0 + 1, _, by go_num, rfl, by omega, HN2, HI⟩
                case measure => first | (simp [intOf]; done) | (simp [intOf]; omega)
              · have hip : 0 < i := by omega
                have HN2 := Lib.hid (show (o ++ ⟨#[10]⟩) ++ x = ⟨(joinL 10 (X.take (i + 1))).toArray⟩ by
                  rw [HJ.out, if_neg h0, HO.out]
                  apply bs_ext
                  simp only [bs_append, bs_mk]
                  show _ ++ [10] ++ _ = _
                  rw [List.append_assoc]; rfl)
                clear hlt HJ
                go_wp2_with fail
                go_roundw
                case rel => exact ⟨i + 1, _, by go_num, rfl, by omega, HN2, HI⟩
                case measure => first | (simp [intOf]; done) | (simp [intOf]; omega)
            · obtain rfl : i = n := by omega
              have hd1 : decide ((i : Int) < (i : Int)) = false := by simp
              have HO2 := Lib.hid (show o = ⟨V.toArray⟩ by
                rw [HO.out, HV5.out, List.take_of_length_le (by rw [HXN.out]; exact Nat.le_refl _)])
              have hbl := HI.out.below
              clear hlt HO
              go_wp2_with fail
              go_ret
              exact ⟨by rw [← HO2.out]; rfl, hbl⟩
end Go.Proofs.Ytamajbaojbghcaa.Bt
