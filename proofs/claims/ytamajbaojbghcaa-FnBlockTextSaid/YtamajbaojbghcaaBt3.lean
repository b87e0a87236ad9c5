/- lexer.blockStringValue: the walk. -/
import Derived.Test.YtamajbaojbghcaaBt2
import Derived.Test.YtamajbaojbghcaaShelf
import Derived.Deep.CutBlock
import Derived.Deep.DeepCutAuto
namespace Go.Proofs.Ytamajbaojbghcaa.Bt
open Go.RowKit Go.Proofs.YtamajbaojbghcaaW.PrintWords Go.Proofs.YtamajbaojbghcaaW.PrintLast Go.Proofs.YtamajbaojbghcaaW.PrintMore Go.Proofs.Ytamajbaojbghcaa.PB Go.Proofs.Ytamajbaojbghcaa.K
set_option linter.unusedVariables false
set_option linter.unusedSimpArgs false
/-- A line of a list. -/
def li (L : List ByteArray) (i : Nat) : ByteArray := L[i]?.getD ⟨#[]⟩
theorem li_get {L : List ByteArray} {i : Nat} (h : i < L.length) : li L i = L[i] := by unfold li; rw [List.getElem?_eq_getElem h]; rfl
theorem li_map {L : List ByteArray} {i : Nat} (h : i < L.length) : (L.map bs)[i]'(by simpa using h) = bs (li L i) := by rw [List.getElem_map, li_get h]
theorem rdOf_li (L : List ByteArray) (i : Nat) (h : i < L.length) : rdOf (⟨#[]⟩ : ByteArray) L (i : Int) = li L i := by
  unfold rdOf li
  simp [h]
/-- The call's own row of texts. -/
structure Rw (w wi : World) (g cap : Nat) (L : List ByteArray) : Prop where
  below : Below w.heap.size w wi
  r : Kd.string.R 9 wi w.heap.size (fun _ => True) (.slice (some ⟨g, 0, none⟩) L.length cap) L
  ge : w.heap.size ≤ g
theorem Rw.cap {w wi : World} {g cap : Nat} {L : List ByteArray} (h : Rw w wi g cap L) : L.length ≤ cap := (Kd.R_reads' h.r).2.1
theorem Rw.cell {w wi : World} {g cap : Nat} {L : List ByteArray} (h : Rw w wi g cap L) (i : Nat) (hi : i < L.length) : wi.cell? ⟨g, i, none⟩ = some (.string (li L i)) ∧ wi.frozen? ⟨g, i, none⟩ = false := by
  have := Kd.R_cell (⟨#[]⟩ : ByteArray) h.r (i : Int) (by omega) (by omega)
  rw [rdOf_li L i hi] at this
  simpa using this
theorem Rw.put {w wi : World} {g cap : Nat} {L : List ByteArray} (h : Rw w wi g cap L) (i : Nat) (x : ByteArray) : Rw w (wi.setCell ⟨g, i, none⟩ (.string x)) g cap (L.set i x) := by
  refine ⟨below_set h.below h.ge, ?_, h.ge⟩
  have := (Kd.R_put h.r (i : Int) x).1
  rw [List.length_set]
  rw [Int.toNat_natCast] at this
  exact this
theorem Rw.step {w wi w' : World} {g cap : Nat} {L : List ByteArray} (h : Rw w wi g cap L) (hb : Below wi.heap.size wi w') : Rw w w' g cap L := ⟨h.below.trans (hb.mono h.below.size), Kd.R_below h.r hb, h.ge⟩
theorem Rw.drewN {w wi : World} {g cap : Nat} {L : List ByteArray} (h : Rw w wi g cap L) (m : Nat) : Rw w (wi.drewN m) g cap L := ⟨pw_below_drewN h.below m, Kd.R_drewN h.r m, h.ge⟩
/-- The indent as the program has it. -/
def ci : Option Nat → Int
  | none => 2147483647
  | some n => n
/-- The lines cut up to one. -/
structure CutTo (c : Nat) (L0 L : List ByteArray) (i : Nat) : Prop where
  len : L.length = L0.length
  at_ : ∀ j, j < L0.length → bs (li L j) = if 1 ≤ j ∧ j < i then (bs (li L0 j)).drop c else bs (li L0 j)
theorem CutTo.start (c : Nat) (L0 : List ByteArray) (i : Nat) (hi : i ≤ 1) : CutTo c L0 L0 i := ⟨rfl, fun j hj => by rw [if_neg (by omega)]⟩
theorem li_set (L : List ByteArray) (i j : Nat) (x : ByteArray) (hi : i < L.length) : li (L.set i x) j = if i = j then x else li L j := by
  unfold li
  rw [List.getElem?_set]
  by_cases h : i = j
  · subst h; simp [hi]
  · simp [h]
theorem CutTo.next {c : Nat} {L0 L : List ByteArray} {i : Nat} (h : CutTo c L0 L i) (h1 : 1 ≤ i) (hi : i < L0.length) (x : ByteArray) (hx : bs x = (bs (li L i)).drop c) : CutTo c L0 (L.set i x) (i + 1) := by
  refine ⟨by rw [List.length_set]; exact h.len, fun j hj => ?_⟩
  rw [li_set L i j x (by rw [h.len]; exact hi)]
  by_cases hij : i = j
  · subst hij
    rw [if_pos rfl, if_pos ⟨h1, by omega⟩, hx, h.at_ i hj, if_neg (by omega)]
  · rw [if_neg hij, h.at_ j hj]
    by_cases hc : 1 ≤ j ∧ j < i
    · rw [if_pos hc, if_pos ⟨hc.1, by omega⟩]
    · rw [if_neg hc, if_neg (by omega)]
theorem cut_get (c : Nat) (M : List (List UInt8)) (j : Nat) (h : j < M.length) : (cut c M)[j]? = some (if 1 ≤ j then (M[j]).drop c else M[j]) := by
  cases M with
  | nil => simp at h
  | cons a T =>
    cases j with
    | zero => simp [cut]
    | succ j =>
      have h' : j < T.length := by simpa using h
      simp [cut, h']
theorem CutTo.all {c : Nat} {L0 L : List ByteArray} {i : Nat} (h : CutTo c L0 L i) (hi : L0.length ≤ i) : L.map bs = cut c (L0.map bs) := by
  apply List.ext_getElem?
  intro j
  by_cases hj : j < L0.length
  · have hj' : j < L.length := by rw [h.len]; exact hj
    rw [cut_get c _ j (by simpa using hj), List.getElem?_eq_getElem (by simpa using hj'), li_map hj', h.at_ j hj, li_map hj]
    by_cases h0 : 1 ≤ j
    · rw [if_pos ⟨h0, by omega⟩, if_pos h0]
    · rw [if_neg (by omega), if_neg h0]
  · have e := cut_length c (L0.map bs)
    rw [List.length_map] at e
    rw [List.getElem?_eq_none (by rw [List.length_map, h.len]; omega), List.getElem?_eq_none (by omega)]
theorem cut_le (c : Nat) (L : List (List UInt8)) (B : Nat) (h : ∀ x ∈ L, x.length ≤ B) : ∀ x ∈ cut c L, x.length ≤ B := by
  intro x hx
  unfold cut at hx
  rcases List.mem_append.1 hx with hx | hx
  · exact h x (List.mem_of_mem_take hx)
  · obtain ⟨y, hy, rfl⟩ := List.mem_map.1 hx
    have := h y (List.mem_of_mem_drop hy)
    rw [List.length_drop]; omega
theorem li_le {L : List ByteArray} {B : Nat} (h : ∀ x ∈ L.map bs, x.length ≤ B) (i : Nat) (hi : i < L.length) : (li L i).size ≤ B := by
  rw [← bs_len]
  exact h _ (List.mem_map.2 ⟨_, by rw [li_get hi]; exact List.getElem_mem hi, rfl⟩)
theorem CutTo.le {c : Nat} {L0 L : List ByteArray} {i B : Nat} (h : CutTo c L0 L i) (hle : ∀ x ∈ L0.map bs, x.length ≤ B) (j : Nat) (hj : j < L0.length) : (li L j).size ≤ B := by
  have h1 := li_le hle j hj
  have h2 := h.at_ j hj
  rw [← bs_len, h2]
  rw [← bs_len] at h1
  split
  · rw [List.length_drop]; omega
  · exact h1
theorem lw_blk {x : List UInt8} (h : blk x = true) : lw x = 2147483647 := by unfold lw; rw [if_pos ((blk_iff x).1 h)]
theorem lw_no {x : List UInt8} (h : ¬ blk x = true) : lw x = (ld x : Int) ∧ ld x < x.length := by
  have h' : ¬ ld x = x.length := fun e => h ((blk_iff x).2 e)
  unfold lw
  rw [if_neg h']
  have := ld_le x
  exact ⟨rfl, by omega⟩
theorem ci_mn_blk (a : Option Nat) {x : List UInt8} (h : blk x = true) : ci (mn a x) = ci a := by unfold mn; rw [if_pos h]
theorem ci_mn_lt (a : Option Nat) {x : List UInt8} (h : ¬ blk x = true) (h2 : (ld x : Int) < ci a) : mn a x = some (ld x) := by
  unfold mn
  rw [if_neg h]
  cases a with
  | none => rfl
  | some m => simp only [ci] at h2; simp; omega
theorem ci_mn_ge (a : Option Nat) {x : List UInt8} (h : ¬ blk x = true) (h2 : ¬ (ld x : Int) < ci a) (h3 : ld x ≤ 2147483646) : mn a x = a := by
  unfold mn
  rw [if_neg h]
  cases a with
  | none => simp only [ci] at h2; omega
  | some m => simp only [ci] at h2; simp; omega
theorem fold_le (B : Nat) : ∀ (L : List (List UInt8)) (a : Option Nat), (∀ n, a = some n → n ≤ B) → (∀ x ∈ L, x.length ≤ B) → ∀ n, L.foldl mn a = some n → n ≤ B := by
  intro L
  induction L with
  | nil => intro a ha _ n h; exact ha n h
  | cons x L ih =>
    intro a ha hL n h
    refine ih (mn a x) ?_ (fun y hy => hL y (by simp [hy])) n h
    intro m hm
    unfold mn at hm
    have hx := hL x (by simp)
    have hl := ld_le x
    split at hm
    · exact ha m hm
    · cases a with
      | none => simp only [Option.some.injEq] at hm; omega
      | some k =>
        simp only [Option.some.injEq] at hm
        have := ha k rfl
        split at hm <;> omega
/-- The value as the program has it. -/
def blkV (l : List UInt8) : List UInt8 := joinL 10 (left (cut ((comI (splitL 10 l)).getD 0) (splitL 10 l)))
theorem join_lib (L : List (List UInt8)) : Lib.join L [10] = joinL 10 L := by
  unfold Lib.join
  induction L with
  | nil => rfl
  | cons a L ih =>
    cases L with
    | nil => simp [List.intercalate, joinL]
    | cons b L => rw [joinL, ← ih]; simp [List.intercalate]
set_option maxHeartbeats 4000000 in
set_option maxRecDepth 100000 in
theorem blockW (s : ByteArray) (w : World) (hs : s.size ≤ 65536) : Calls Try.prog 70 #[.string s] w fun e w' => e = .returned (.string ⟨(blkV (bs s)).toArray⟩) ∧ Below w.heap.size w w' := by
  obtain ⟨L, ⟨K, hK⟩, hL⟩ := Split.zzSplit_ev s ⟨#[10]⟩ 10 rfl (by omega)
  have hlen : L.length ≤ 65537 := by
    have := split_length 10 (bs s)
    rw [← hL, List.length_map, bs_len] at this
    omega
  have hle : ∀ x ∈ L.map bs, x.length ≤ 65536 := by
    intro x hx
    rw [hL] at hx
    have := split_le 10 (bs s) x hx
    rw [bs_len] at this; omega
  have hpos : 0 < L.length := by
    have := splitL_ne 10 (bs s)
    rw [← hL] at this
    cases L with
    | nil => simp at this
    | cons a l => simp
  have hV : (blkV (bs s)) = joinL 10 (left (cut ((comI (L.map bs)).getD 0) (L.map bs))) := by unfold blkV; rw [hL]
  obtain ⟨V, hVe⟩ : ∃ V, blkV (bs s) = V := ⟨_, rfl⟩
  rw [hVe] at hV ⊢
  have HV := Lib.hid hV
  have HLE := Lib.hid hle
  have HP := Lib.hid hpos
  clear hV hVe hL hle hpos
  go_enter Try.func70, Try.ntmps70
  go_wp2_with fail
  refine (lexer_zzSplit.calls K s ⟨#[10]⟩ L w (hK K (Nat.le_refl _))).mono ?_
  rintro e w1 ⟨v, rfl, hR, hb⟩
  obtain ⟨g, cap, rfl, hg, -, -⟩ := Kd.R_form hR HP.out
  have HR := Lib.hid (Rw.mk hb hR hg)
  have hcap := HR.out.cap
  clear hR hb hg hK
  go_upto_block 0 with fail
  go_cut [4] (fun cv wc => cv = .int .i64 (ci (comI (L.map bs))) ∧ Aside0 (Rw w wc g cap L))
  case first =>
    go_wp2_with fail
    go_loopw [4, 15] (fun cv iv wi => ∃ i : Nat, ∃ c : Int, iv = .int .i64 i ∧ cv = .int .i64 c ∧ i ≤ L.length ∧ c ≤ 2147483647 ∧ Hid (c = ci (((L.map bs).take i).foldl mn none)) ∧ Hid (Rw w wi g cap L)) (fun cv iv _ => L.length - (intOf iv).toNat)
    case atStart => exact ⟨0, _, rfl, rfl, by omega, by omega, Lib.hid rfl, HR⟩
    case round =>
      obtain ⟨i, c, rfl, rfl, hil, hcc, HC, HI⟩ := hrel
      clear HR
      by_cases hlt : i < L.length
      · have hd1 : decide ((i : Int) < (L.length : Int)) = true := decide_eq_true (by omega)
        have n0 := (HI.out.cell i hlt).1
        have hx := li_le HLE.out i hlt
        have hi0 : (0 : Int) ≤ (i : Int) := Int.natCast_nonneg _
        have hi1 : (i : Int) < (L.length : Int) := by omega
        have HF := Lib.hid (fold_take (L.map bs) i (by simpa using hlt))
        rw [li_map hlt] at HF
        obtain ⟨x, hxe⟩ : ∃ x, li L i = x := ⟨_, rfl⟩
        rw [hxe] at n0 hx HF
        have hxl := bs_len x
        by_cases hbk : blk (bs x) = true
        · have HLW := Lib.hid (leadW x wr (by omega))
          rw [lw_blk hbk] at HLW
          have HN := Lib.hid (show c = ci (((L.map bs).take (i + 1)).foldl mn none) by rw [HF.out, ci_mn_blk _ hbk]; exact HC.out)
          have hd2 : decide ((2147483647 : Int) < (x.size : Int)) = false := decide_eq_false (by omega)
          clear hbk hxe hxl HF HC hlt
          go_wp2_with fail
          refine HLW.out.mono ?_
          rintro e w2 ⟨rfl, hb2⟩
          have HI2 := Lib.hid (HI.out.step hb2)
          clear n0 HLW hb2
          go_wp2_with fail
          go_roundw
          case rel => exact ⟨i + 1, c, by go_num, rfl, by omega, hcc, HN, HI2⟩
          case measure => first | (simp [intOf]; done) | (simp [intOf]; omega)
        · have HLW := Lib.hid (leadW x wr (by omega))
          obtain ⟨e1, e2⟩ := lw_no hbk
          rw [e1] at HLW
          have hd2 : decide ((ld (bs x) : Int) < (x.size : Int)) = true := decide_eq_true (by omega)
          have hld : ld (bs x) ≤ 65536 := by omega
          by_cases hc2 : (ld (bs x) : Int) < c
          · have hd3 : decide ((ld (bs x) : Int) < c) = true := decide_eq_true hc2
            have hm := ci_mn_lt _ hbk (by rw [← HC.out]; exact hc2)
            by_cases hz : ld (bs x) = 0
            · have HN := Lib.hid (show (0 : Int) = ci (comI (L.map bs)) by
                unfold comI
                rw [fold_zero (L.map bs) (i + 1) (by rw [HF.out, hm, hz])]; rfl)
              rw [hz] at HLW hd2 hd3
              have hd4 : 0 < x.size := by omega
              have hd5 : 0 < c := by omega
              clear hd2 hd3
              clear hbk hxe hxl HF HC hlt hm e1 e2 hc2 hz hld
              go_wp2_with fail
              refine HLW.out.mono ?_
              rintro e w2 ⟨rfl, hb2⟩
              have HI2 := Lib.hid (HI.out.step hb2)
              clear n0 HLW hb2
              go_wp2_with fail
              go_meet
              exact ⟨by rw [← HN.out], ⟨HI2.out⟩⟩
            · have hz2 : ((ld (bs x) : Int) == 0) = false := by first | (simp; done) | (simp; omega)
              have HN := Lib.hid (show (ld (bs x) : Int) = ci (((L.map bs).take (i + 1)).foldl mn none) by rw [HF.out, hm]; rfl)
              have hld : (ld (bs x) : Int) ≤ 65536 := by omega
              obtain ⟨m, hm2⟩ : ∃ m : Int, (ld (bs x) : Int) = m := ⟨_, rfl⟩
              rw [hm2] at HLW hd2 hd3 hz2 HN hld
              clear hbk hxe hxl HF HC hlt hm e1 e2 hc2 hz hm2
              go_wp2_with fail
              refine HLW.out.mono ?_
              rintro e w2 ⟨rfl, hb2⟩
              have HI2 := Lib.hid (HI.out.step hb2)
              clear n0 HLW hb2
              go_wp2_with fail
              go_roundw
              case rel => exact ⟨i + 1, m, by go_num, rfl, by omega, by omega, HN, HI2⟩
              case measure => first | (simp [intOf]; done) | (simp [intOf]; omega)
          · have hd3 : decide ((ld (bs x) : Int) < c) = false := decide_eq_false hc2
            have HN := Lib.hid (show c = ci (((L.map bs).take (i + 1)).foldl mn none) by
              rw [HF.out, ci_mn_ge _ hbk (by rw [← HC.out]; exact hc2) (by omega)]; exact HC.out)
            obtain ⟨m, hm2⟩ : ∃ m : Int, (ld (bs x) : Int) = m := ⟨_, rfl⟩
            rw [hm2] at HLW hd2 hd3
            clear hbk hxe hxl HF HC hlt e1 e2 hc2 hm2
            go_wp2_with fail
            refine HLW.out.mono ?_
            rintro e w2 ⟨rfl, hb2⟩
            have HI2 := Lib.hid (HI.out.step hb2)
            clear n0 HLW hb2
            go_wp2_with fail
            go_roundw
            case rel => exact ⟨i + 1, c, by go_num, rfl, by omega, hcc, HN, HI2⟩
            case measure => first | (simp [intOf]; done) | (simp [intOf]; omega)
      · obtain rfl : i = L.length := by omega
        have hd1 : decide ((L.length : Int) < (L.length : Int)) = false := by simp
        have HN := Lib.hid (show c = ci (comI (L.map bs)) by
          rw [HC.out]; unfold comI; rw [List.take_of_length_le (by simp)])
        clear hlt HC
        go_wp2_with fail
        go_meet
        exact ⟨by rw [← HN.out], ⟨HI.out⟩⟩
  case rest =>
    obtain ⟨rfl, HRx⟩ := hcut
    have HR2 := Lib.hid HRx.out
    clear HR HRx
    obtain ⟨C, hC⟩ : ∃ C, comI (L.map bs) = C := ⟨_, rfl⟩
    have hCb : ∀ n, C = some n → n ≤ 65536 := by rw [← hC]; exact fold_le 65536 _ none (fun n h => by cases h) HLE.out
    have HV2 := Lib.hid (show V = joinL 10 (left (cut (C.getD 0) (L.map bs))) by rw [← hC]; exact HV.out)
    have hq : (ci C != 2147483647) = C.isSome := by
      cases C with
      | none => rfl
      | some n => have := hCb n rfl; simp [ci]; omega
    have HQ := Lib.hid hq
    have HCB := Lib.hid hCb
    have hNp : decide ((L.length : Int) > 0) = true := decide_eq_true (by have := HP.out; omega)
    have hNp' : 0 < L.length := HP.out
    obtain ⟨q, hqe⟩ : ∃ q, ci C = q := ⟨_, rfl⟩
    rw [hC, hqe]
    rw [hqe] at hq
    rw [hqe] at HQ
    clear hC hCb hq HV
    go_upto_region 11 with fail
    go_cut [40] (fun v wd => v = .bool C.isSome ∧ Aside0 (Rw w wd g cap L))
    case first =>
      have hq2 := HQ.out
      cases hb : C.isSome
      · rw [hb] at hq2
        go_wp2_with fail
        go_meet
        exact ⟨congrArg Value.bool hb.symm, ⟨HR2.out⟩⟩
      · rw [hb] at hq2
        go_wp2_with fail
        go_meet
        exact ⟨congrArg Value.bool hb.symm, ⟨HR2.out⟩⟩
    case rest =>
      obtain ⟨rfl, HRx⟩ := hcut
      have HR := Lib.hid HRx.out
      clear HR2 HRx HQ
      go_upto_if 40 with fail
      go_cut [] (fun wd => ∃ L2 : List ByteArray, Aside0 (L2.map bs = cut (C.getD 0) (L.map bs)) ∧ Aside0 (Rw w wd g cap L2))
      case first =>
        cases C with
        | none =>
          simp only [Option.isSome]
          go_wp2_with fail
          go_meet
          exact ⟨L, ⟨(cut_zero _).symm⟩, ⟨HR.out⟩⟩
        | some n =>
          have hn := HCB.out n rfl
          obtain rfl : (n : Int) = q := hqe
          simp only [Option.isSome]
          have HS := Lib.hid (CutTo.start n L 1 (Nat.le_refl _))
          go_wp2_with fail
          go_loopw [8] (fun iv wi => ∃ i : Nat, ∃ L' : List ByteArray, iv = .int .i64 i ∧ 1 ≤ i ∧ i ≤ L.length ∧ Hid (CutTo n L L' i) ∧ Hid (Rw w wi g cap L')) (fun iv _ => L.length - (intOf iv).toNat)
          case atStart => exact ⟨1, L, rfl, Nat.le_refl _, hNp', HS, HR⟩
          case round =>
            obtain ⟨i, L', rfl, hi1, hil, HT, HI⟩ := hrel
            clear HS HR
            by_cases hlt : i < L.length
            · have hd1 : decide ((i : Int) < (L.length : Int)) = true := decide_eq_true (by omega)
              have hlt' : i < L'.length := by rw [HT.out.len]; exact hlt
              obtain ⟨n0, f0⟩ := HI.out.cell i hlt'
              have hi0 : (0 : Int) ≤ (i : Int) := Int.natCast_nonneg _
              have hi2 : (i : Int) < (L.length : Int) := by omega
              have HX := Lib.hid (fun x hx => HT.out.next hi1 hlt x hx)
              have HPUT := Lib.hid (fun x => HI.out.put i x)
              have HXS := Lib.hid (HT.out.le HLE.out i hlt)
              obtain ⟨x, hxe⟩ : ∃ x, li L' i = x := ⟨_, rfl⟩
              rw [hxe] at n0 HX HXS
              clear hxe hlt'
              have hxl := bs_len x
              by_cases hsh : x.size < n
              · have hd2 : decide ((x.size : Int) < (n : Int)) = true := decide_eq_true (by omega)
                have HT2 := Lib.hid (HX.out ⟨#[]⟩ (by rw [List.drop_of_length_le (by omega)]; rfl))
                have HI2 := Lib.hid (HPUT.out ⟨#[]⟩)
                clear hxl HX HPUT hlt
                go_wp2_with fail
                go_roundw
                case rel => exact ⟨i + 1, _, by go_num, by omega, by omega, HT2, HI2⟩
                case measure => first | (simp [intOf]; done) | (simp [intOf]; omega)
              · have hd2 : decide ((x.size : Int) < (n : Int)) = false := decide_eq_false (by omega)
                have HT2 := Lib.hid (HX.out (x.extract n x.size) (by rw [bs_drop]))
                have HI2 := Lib.hid (HPUT.out (x.extract n x.size))
                have hn0 : (0 : Int) ≤ (n : Int) := Int.natCast_nonneg _
                have hn1 : (n : Int) ≤ (x.size : Int) := by omega
                have hxs : x.size ≤ 65536 := HXS.out
                clear hxl HX HPUT hlt
                go_wp2_with fail
                go_roundw
                case rel => exact ⟨i + 1, _, by go_num, by omega, by omega, HT2, HI2⟩
                case measure => first | (simp [intOf]; done) | (simp [intOf]; omega)
            · obtain rfl : i = L.length := by omega
              have hd1 : decide ((L.length : Int) < (L.length : Int)) = false := by simp
              have HA := Lib.hid (HT.out.all (Nat.le_refl _))
              clear hlt HT
              go_wp2_with fail
              go_meet
              exact ⟨L', ⟨HA.out⟩, ⟨HI.out⟩⟩
      case rest =>
        obtain ⟨L2, hM, HRx⟩ := hcut
        have HR2 := Lib.hid HRx.out
        have hN : L2.length = L.length := by
          have e := congrArg List.length hM.out
          rwa [List.length_map, cut_length, List.length_map] at e
        have hle2 : ∀ x ∈ L2.map bs, x.length ≤ 65536 := by
          rw [hM.out]; exact cut_le _ _ _ HLE.out
        have HV3 := Lib.hid (show V = joinL 10 (left (L2.map bs)) by rw [hM.out]; exact HV2.out)
        have HLE2 := Lib.hid hle2
        obtain ⟨N, hNe⟩ : ∃ N, L.length = N := ⟨_, rfl⟩
        rw [hNe] at hN hlen hcap hNp' ⊢
        have HN := Lib.hid hN
        clear HR HRx hM hle2 hN HLE HP HCB hNp hqe hNe HV2
        go_upto_block 4 with fail
        go_cut [9] (fun sv wd => sv = .int .i64 (stN (L2.map bs) : Nat) ∧ Aside0 (Rw w wd g cap L2))
        case first =>
          go_wp2_with fail
          go_loopw [9] (fun sv wi => ∃ i : Nat, sv = .int .i64 i ∧ i ≤ N ∧ Hid (stN (L2.map bs) = i + stN ((L2.map bs).drop i)) ∧ Hid (Rw w wi g cap L2)) (fun sv _ => N - (intOf sv).toNat)
          case atStart => exact ⟨0, rfl, by omega, Lib.hid (by simp), HR2⟩
          case round =>
            obtain ⟨i, rfl, hil, HS, HI⟩ := hrel
            clear HR2
            by_cases hlt : i < N
            · have hd1 : decide ((i : Int) < (N : Int)) = true := decide_eq_true (by omega)
              have hlt' : i < L2.length := by rw [HN.out]; exact hlt
              have hlm : i < (L2.map bs).length := by simpa using hlt'
              have n0 := (HI.out.cell i hlt').1
              have hx := li_le HLE2.out i hlt'
              have hi0 : (0 : Int) ≤ (i : Int) := Int.natCast_nonneg _
              have hi1 : (i : Int) < (N : Int) := by omega
              by_cases hbk : blk (bs (li L2 i)) = true
              · have HLW := Lib.hid (leadW (li L2 i) wr (by omega))
                rw [lw_blk hbk] at HLW
                have HS2 := Lib.hid (show stN (L2.map bs) = (i + 1) + stN ((L2.map bs).drop (i + 1)) by
                  rw [HS.out]; exact stN_yes _ i hlm (by rw [li_map hlt']; exact hbk))
                obtain ⟨x, hxe⟩ : ∃ x, li L2 i = x := ⟨_, rfl⟩
                rw [hxe] at n0 hx HLW
                clear hbk hxe hlt' hlm hlt HS
                go_wp2_with fail
                refine HLW.out.mono ?_
                rintro e w2 ⟨rfl, hb2⟩
                have HI2 := Lib.hid (HI.out.step hb2)
                clear n0 HLW hb2
                go_wp2_with fail
                go_roundw
                case rel => exact ⟨i + 1, by go_num, by omega, HS2, HI2⟩
                case measure => first | (simp [intOf]; done) | (simp [intOf]; omega)
              · have HLW := Lib.hid (leadW (li L2 i) wr (by omega))
                obtain ⟨e1, e2⟩ := lw_no hbk
                rw [e1] at HLW
                have HS2 := Lib.hid (show stN (L2.map bs) = i by
                  rw [HS.out]; exact stN_no _ i hlm (by rw [li_map hlt']; exact hbk))
                have hz : ((ld (bs (li L2 i)) : Int) == 2147483647) = false := by
                  rw [bs_len] at e2; simp; omega
                obtain ⟨m, hm2⟩ : ∃ m : Int, (ld (bs (li L2 i)) : Int) = m := ⟨_, rfl⟩
                rw [hm2] at HLW hz
                obtain ⟨x, hxe⟩ : ∃ x, li L2 i = x := ⟨_, rfl⟩
                rw [hxe] at n0 hx HLW
                clear hbk hxe hlt' hlm hlt HS e1 e2 hm2
                go_wp2_with fail
                refine HLW.out.mono ?_
                rintro e w2 ⟨rfl, hb2⟩
                have HI2 := Lib.hid (HI.out.step hb2)
                clear n0 HLW hb2
                go_wp2_with fail
                go_meet
                exact ⟨by rw [HS2.out], ⟨HI2.out⟩⟩
            · obtain rfl : i = N := by omega
              have hd1 : decide ((i : Int) < (i : Int)) = false := by simp
              have HS2 := Lib.hid (show stN (L2.map bs) = i by
                rw [HS.out]
                have := stN_end (L2.map bs)
                rw [List.length_map, HN.out] at this
                exact this)
              clear hlt HS
              go_wp2_with fail
              go_meet
              exact ⟨by rw [HS2.out], ⟨HI.out⟩⟩
        case rest =>
          obtain ⟨rfl, HRx⟩ := hcut
          have HR := Lib.hid HRx.out
          have hst : stN (L2.map bs) ≤ N := by
            have := stN_le (L2.map bs)
            rwa [List.length_map, HN.out] at this
          have hleft : left (L2.map bs) = ((L2.map bs).take (enN (L2.map bs) (stN (L2.map bs)) N)).drop (stN (L2.map bs)) := by
            unfold left; rw [List.length_map, HN.out]
          have hV4 := HV3.out
          rw [hleft] at hV4
          obtain ⟨st, hste⟩ : ∃ st, stN (L2.map bs) = st := ⟨_, rfl⟩
          rw [hste] at hst hV4
          rw [hste]
          have HV4 := Lib.hid hV4
          clear HR2 HRx hleft hste HV3 hV4
          go_upto_block 6 with fail
          go_cut [10] (fun ev wd => ev = .int .i64 (enN (L2.map bs) st N : Nat) ∧ Aside0 (Rw w wd g cap L2))
          case first =>
            go_wp2_with fail
            go_loopw [10] (fun ev wi => ∃ e : Nat, ev = .int .i64 e ∧ st ≤ e ∧ e ≤ N ∧ Hid (enN (L2.map bs) st N = enN (L2.map bs) st e) ∧ Hid (Rw w wi g cap L2)) (fun ev _ => (intOf ev).toNat)
            case atStart => exact ⟨N, rfl, hst, Nat.le_refl _, Lib.hid rfl, HR⟩
            case round =>
              obtain ⟨e, rfl, hse, heN, HE, HI⟩ := hrel
              clear HR
              by_cases hlt : st < e
              · obtain ⟨p, rfl⟩ : ∃ p, e = p + 1 := ⟨e - 1, by omega⟩
                have hd1 : decide ((st : Int) < ((p + 1 : Nat) : Int)) = true := decide_eq_true (by omega)
                have hlt' : p < L2.length := by rw [HN.out]; omega
                have hlm : p < (L2.map bs).length := by simpa using hlt'
                have n0 := (HI.out.cell p hlt').1
                have hx := li_le HLE2.out p hlt'
                have hw : wrap64 (((p + 1 : Nat) : Int) - 1) = (p : Int) := by rw [wrap_in (by omega) (by omega)]; omega
                have hi0 : (0 : Int) ≤ (p : Int) := Int.natCast_nonneg _
                have hi1 : (p : Int) < (N : Int) := by omega
                obtain ⟨E, hE⟩ : ∃ E : Int, ((p + 1 : Nat) : Int) = E := ⟨_, rfl⟩
                rw [hE] at hd1 hw ⊢
                by_cases hbk : blk (bs (li L2 p)) = true
                · have HLW := Lib.hid (leadW (li L2 p) wr (by omega))
                  rw [lw_blk hbk] at HLW
                  have HE2 := Lib.hid (show enN (L2.map bs) st N = enN (L2.map bs) st p by
                    rw [HE.out]; exact enN_yes _ st p hlt hlm (by rw [li_map hlt']; exact hbk))
                  obtain ⟨x, hxe⟩ : ∃ x, li L2 p = x := ⟨_, rfl⟩
                  rw [hxe] at n0 hx HLW
                  clear hbk hxe hlt' hlm HE
                  have HEE := Lib.hid hE
                  clear hE
                  go_wp2_with fail
                  refine HLW.out.mono ?_
                  rintro e w2 ⟨rfl, hb2⟩
                  have HI2 := Lib.hid (HI.out.step hb2)
                  clear n0 HLW hb2
                  go_wp2_with fail
                  go_roundw
                  case rel => exact ⟨p, congrArg (Value.int .i64) hw, by omega, by omega, HE2, HI2⟩
                  case measure =>
                    have := HEE.out
                    rw [hw]
                    simp [intOf]; omega
                · have HLW := Lib.hid (leadW (li L2 p) wr (by omega))
                  obtain ⟨e1, e2⟩ := lw_no hbk
                  rw [e1] at HLW
                  have HE2 := Lib.hid (show ((enN (L2.map bs) st N : Nat) : Int) = E by
                    rw [HE.out, enN_no _ st p hlm (by rw [li_map hlt']; exact hbk)]; exact hE)
                  have hz : ((ld (bs (li L2 p)) : Int) == 2147483647) = false := by
                    rw [bs_len] at e2; simp; omega
                  obtain ⟨m, hm2⟩ : ∃ m : Int, (ld (bs (li L2 p)) : Int) = m := ⟨_, rfl⟩
                  rw [hm2] at HLW hz
                  obtain ⟨x, hxe⟩ : ∃ x, li L2 p = x := ⟨_, rfl⟩
                  rw [hxe] at n0 hx HLW
                  clear hbk hxe hlt' hlm HE e1 e2 hm2 hE
                  go_wp2_with fail
                  refine HLW.out.mono ?_
                  rintro e w2 ⟨rfl, hb2⟩
                  have HI2 := Lib.hid (HI.out.step hb2)
                  clear n0 HLW hb2
                  go_wp2_with fail
                  go_meet
                  exact ⟨by rw [HE2.out], ⟨HI2.out⟩⟩
              · obtain rfl : st = e := by omega
                have hd1 : decide ((st : Int) < (st : Int)) = false := by simp
                have HE2 := Lib.hid (show enN (L2.map bs) st N = st by rw [HE.out, enN_eq])
                clear hlt HE
                go_wp2_with fail
                go_meet
                exact ⟨by rw [HE2.out], ⟨HI.out⟩⟩
          case rest =>
            obtain ⟨rfl, HRx⟩ := hcut
            have HI := Lib.hid HRx.out
            have hen := enN_le (L2.map bs) st N
            have hge := enN_ge (L2.map bs) st N hst
            obtain ⟨en, hene⟩ : ∃ en, enN (L2.map bs) st N = en := ⟨_, rfl⟩
            have hV5 := HV4.out
            rw [hene] at hen hge hV5 ⊢
            have HV5 := Lib.hid hV5
            clear HR HRx hene HV4 hV5
            have hs1 : (0 : Int) ≤ (st : Int) := Int.natCast_nonneg _
            have hs2 : (st : Int) ≤ (en : Int) := by omega
            have hs3 : (en : Int) ≤ (cap : Int) := by omega
            go_wp2_with fail
            case inl h =>
              have hz : en - st = 0 := by omega
              have hv : (⟨V.toArray⟩ : ByteArray) = ⟨#[]⟩ := by
                rw [HV5.out, List.drop_of_length_le (by rw [List.length_take]; omega)]; rfl
              rw [hz]
              have HVV := Lib.hid hv
              clear hv
              refine (Try.strings_Join_none _ _ _ _).mono ?_
              rintro e w2 ⟨rfl, rfl⟩
              have hbl := HI.out.below
              go_wp2_with fail
              go_ret
              exact ⟨by rw [HVV.out]; rfl, hbl⟩
            case inr h =>
              have hxs : ((L2.take en).drop st).length = en - st := by rw [List.length_drop, List.length_take, HN.out]; omega
              have hjl : (Lib.join (((L2.take en).drop st).map (·.data.toList)) (⟨#[10]⟩ : ByteArray).data.toList) = V := by
                rw [HV5.out, ← join_lib, List.map_drop, List.map_take]; rfl
              have hJ := Try.strings_Join g st (cap - st) ((L2.take en).drop st) ⟨#[10]⟩ wc (by
                intro j x hjx
                have hj : j < en - st := by
                  rw [← hxs]
                  exact (List.getElem?_eq_some_iff.1 hjx).1
                rw [List.getElem?_drop, List.getElem?_take, if_pos (by omega)] at hjx
                have hc := (HI.out.cell (st + j) (by rw [HN.out]; omega)).1
                unfold li at hc
                rw [hjx] at hc
                exact hc) (Kd.R_lt HI.out.r g rfl) (by rw [hxs]; omega) (by rw [hxs]; omega) (by
                rw [hjl, HV5.out]
                have := joinL_len 10 (((L2.map bs).take en).drop st) 65536 (fun x hx => HLE2.out x (List.mem_of_mem_take (List.mem_of_mem_drop hx)))
                have h2 : (((L2.map bs).take en).drop st).length ≤ 65537 := by rw [List.length_drop, List.length_take]; omega
                have h3 := Nat.mul_le_mul_right (65536 + 1) h2
                omega)
              rw [hxs, hjl] at hJ
              have HJ := Lib.hid hJ
              clear hJ hjl hxs
              with_reducible refine HJ.out.mono ?_
              rintro e w2 ⟨rfl, hb2⟩
              have hbl := HI.out.below.trans (hb2.mono HI.out.below.size)
              go_wp2_with fail
              go_ret
              exact ⟨rfl, hbl⟩
end Go.Proofs.Ytamajbaojbghcaa.Bt
