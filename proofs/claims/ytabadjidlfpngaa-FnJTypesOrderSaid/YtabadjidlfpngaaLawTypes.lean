/- FnJTypes: of the names that are added those of types are told, each once, and no others. -/
import Derived.Test.YtabadjidlfpngaaTypesImpl
namespace Go.Proofs.Ytabadjidlfpngaa.Types
open Go.RowKit Go.Proofs.Ytabadjidlfpngaa.PFnJTypes Go.Proofs.YtabadjidlfpngaaW.PrintWords Go.Proofs.YtabadjidlfpngaaW.PrintLast Go.Proofs.YtabadjidlfpngaaW.PrintMore Go.Proofs.Ytabadjidlfpngaa.K
set_option linter.unusedVariables false
set_option linter.unusedSimpArgs false

theorem fitsLoop (l : List ByteArray) (hl : l.length ≤ 2147483647) (d : Nat) : ∀ i : Nat, i ≤ l.length → l.length - i ≤ d → ∃ b, Ev (fun k => laws_zzFits4.l0 k l (l.length : Int) i) b := by
  induction d with
  | zero =>
    intro i hi hd
    refine ⟨true, ev_succ 0 fun k _ => ?_⟩
    simp only [laws_zzFits4.l0]
    rw [if_neg (by omega)]
  | succ d ih =>
    intro i hi hd
    by_cases he : i = l.length
    · refine ⟨true, ev_succ 0 fun k _ => ?_⟩
      simp only [laws_zzFits4.l0]
      rw [if_neg (by omega)]
    obtain ⟨b, K, hK⟩ := ih (i + 1) (by omega) (by omega)
    have ew : wrap64 ((i : Int) + 1) = ((i + 1 : Nat) : Int) := by rw [wrap_in (by omega) (by omega)]; omega
    by_cases hs : ((rdOf ByteArray.empty l (i : Int)).size : Int) > 2147483647
    · refine ⟨false, ev_succ 0 fun k _ => ?_⟩
      simp only [laws_zzFits4.l0]
      rw [if_pos (by omega), if_pos (by omega), if_pos (by omega), if_pos hs]
    · refine ⟨b, ev_succ K fun k hk => ?_⟩
      simp only [laws_zzFits4.l0, ew]
      rw [if_pos (by omega), if_pos (by omega), if_pos (by omega), if_neg hs]
      exact hK k hk
theorem fitsE (l : List ByteArray) : ∃ b, Ev (fun k => laws_zzFits4.f k l) b ∧ (b = true → l.length ≤ 2147483647) := by
  by_cases h : l.length ≤ 2147483647
  · obtain ⟨b, K, hK⟩ := fitsLoop l h l.length 0 (Nat.zero_le _) (by omega)
    refine ⟨b, ⟨K, fun k hk => ?_⟩, fun _ => h⟩
    simp only [laws_zzFits4.f]
    rw [if_neg (by omega)]
    exact hK k hk
  · refine ⟨false, ⟨0, fun k _ => ?_⟩, fun e => by cases e⟩
    simp only [laws_zzFits4.f]
    rw [if_pos (by omega)]

theorem amongLoop (s : ByteArray) (l : List ByteArray) (hl : l.length ≤ 2147483647) (d : Nat) : ∀ i : Nat, i ≤ l.length → l.length - i ≤ d → Ev (fun k => spec_JAmong.l0 k s l i) (told (l.drop i) (bs s)) := by
  induction d with
  | zero =>
    intro i hi hd
    refine ev_succ 0 fun k _ => ?_
    simp only [spec_JAmong.l0]
    rw [if_neg (by omega), List.drop_of_length_le (by omega)]
    rfl
  | succ d ih =>
    intro i hi hd
    by_cases he : i = l.length
    · refine ev_succ 0 fun k _ => ?_
      simp only [spec_JAmong.l0]
      rw [if_neg (by omega), List.drop_of_length_le (by omega)]
      rfl
    have hlt : i < l.length := by omega
    obtain ⟨K, hK⟩ := ih (i + 1) (by omega) (by omega)
    simp only at hK
    have ew : wrap64 ((i : Int) + 1) = ((i + 1 : Nat) : Int) := by rw [wrap_in (by omega) (by omega)]; omega
    have hrd : rdOf ByteArray.empty l (i : Int) = l[i] := by
      unfold rdOf
      simp [List.getD_eq_getElem?_getD, List.getElem?_eq_getElem hlt]
    have htold : told (l.drop i) (bs s) = (bs s == bs l[i] || told (l.drop (i + 1)) (bs s)) := by
      rw [List.drop_eq_getElem_cons hlt]
      unfold told
      rw [List.map_cons, List.contains_cons]
    rw [htold]
    by_cases hs : l[i] = s
    · refine ev_succ 0 fun k _ => ?_
      simp only [spec_JAmong.l0]
      rw [if_pos (by omega), if_pos (by omega), hrd, if_pos (by rw [hs]), hs]
      simp
    · refine ev_succ K fun k hk => ?_
      simp only [spec_JAmong.l0, ew]
      have hne : (bs s == bs l[i]) = false := beq_eq_false_iff_ne.2 fun e => hs (bs_ext e.symm)
      rw [if_pos (by omega), if_pos (by omega), hrd, if_neg (fun e => hs (bs_ext (toList_inj.1 e))), hK k hk, hne, Bool.false_or]
theorem amongE (s : ByteArray) (l : List ByteArray) (hl : l.length ≤ 2147483647) : Ev (fun k => spec_JAmong.f k s l) (told l (bs s)) := by
  have := amongLoop s l hl l.length 0 (Nat.zero_le _) (by omega)
  rwa [List.drop_zero] at this

theorem isKindE (s : ByteArray) : spec_JIsKind.f s = some (kinds.contains (bs s)) := by
  have e : s.toList = bs s := by rw [ByteArray.toList_eq, bs_data]
  unfold spec_JIsKind.f
  rw [e]
  repeat' split
  all_goals first
    | (simp_all [kinds]; done)
    | skip

theorem text_bs (l : List ByteArray) : (kindText l).map bs = kinds.filter (told l) := by
  unfold kindText
  rw [List.map_map]
  conv => rhs; rw [← List.map_id (kinds.filter (told l))]
  apply List.map_congr_left
  intro k _
  simp [bs_mk]
theorem text_len (l : List ByteArray) : (kindText l).length ≤ 7 := by
  unfold kindText
  rw [List.length_map]
  exact List.length_filter_le _ _
/-- What is told is a kind, and was added. -/
theorem text_is (l : List ByteArray) (i : Nat) (h : i < (kindText l).length) : spec_JIsKind.f (kindText l)[i] = some true ∧ told l (bs (kindText l)[i]) = true ∧ told ((kindText l).take i) (bs (kindText l)[i]) = false := by
  have hm : bs (kindText l)[i] ∈ kinds.filter (told l) := by
    rw [← text_bs]
    exact List.mem_map.2 ⟨_, List.getElem_mem h, rfl⟩
  obtain ⟨h1, h2⟩ := List.mem_filter.1 hm
  refine ⟨by rw [isKindE, List.contains_iff_mem.2 h1], h2, ?_⟩
  unfold told
  rw [Bool.eq_false_iff, Ne, List.contains_iff_mem]
  intro k
  have hnd : ((kindText l).map bs).Nodup := by
    rw [text_bs]
    have hk : kinds.Nodup := by decide
    exact List.Pairwise.sublist List.filter_sublist hk
  rw [List.map_take] at k
  obtain ⟨j, hj, hje⟩ := List.getElem_of_mem k
  rw [List.length_take] at hj
  rw [List.getElem_take] at hje
  have hj' : j < ((kindText l).map bs).length := by omega
  have hi' : i < ((kindText l).map bs).length := by rw [List.length_map]; exact h
  have hii : ((kindText l).map bs)[i] = bs (kindText l)[i] := List.getElem_map _
  have := (List.getElem_inj hnd (h₀ := hj') (h₁ := hi')).1 (by rw [hje, hii])
  omega
/-- A kind that was added is told. -/
theorem text_has (l : List ByteArray) (s : ByteArray) (hk : kinds.contains (bs s) = true) (hs : s ∈ l) : told (kindText l) (bs s) = true := by
  unfold told
  rw [text_bs, List.contains_iff_mem, List.mem_filter]
  refine ⟨List.contains_iff_mem.1 hk, ?_⟩
  unfold told
  rw [List.contains_iff_mem]
  exact List.mem_map.2 ⟨s, hs, rfl⟩

set_option maxHeartbeats 2000000 in
theorem walk (A : Option Addr) (c : Nat) (l : List ByteArray) (w : World) (hr : Kd.string.C w A l.length l) (hc : l.length ≤ c) :
    Calls Try.prog 5 #[.slice A l.length c] w fun e w' => e = .returned (.bool true) ∧ Below w.heap.size w w' := by
  have HR := Lib.hid hr
  clear hr
  have hbr : Below w.heap.size w w := Below.refl _ _
  obtain ⟨o, ⟨K0, hK0⟩, ho⟩ := fitsE l
  have HK0 := Lib.hid (hK0 K0 (Nat.le_refl _))
  clear hK0
  go_enter Try.func5, Try.ntmps5
  go_wp2_with fail
  refine (laws_zzFits4.calls K0 A c l o _ HR.out hc HK0.out).mono ?_
  rintro e w1 ⟨rfl, ⟨n, rfl⟩⟩
  have hbr := pw_below_drewN hbr n
  have hra := Kd.C_below HR.out hbr
  generalize w.drewN n = wa at *
  cases o with
  | false =>
    go_wp2_with fail
    go_ret
    exact ⟨rfl, hbr⟩
  | true =>
  have hl := ho rfl
  have HRa := Lib.hid hra
  clear ho hra
  go_wp2_with fail
  refine (implTypes A c l _ HRa.out hc (by omega)).mono ?_
  rintro e w2 ⟨A1, c1, rfl, hC, hc1, hb2⟩
  have hbr := hbr.trans (hb2.mono hbr.size)
  have hrl := text_len l
  have his := text_is l
  have hhas := text_has l
  have HIS := Lib.hid his
  have HHAS := Lib.hid hhas
  have hemp : (kindText l).isEmpty = (((kindText l).length : Int) == 0) := by
    cases kindText l with
    | nil => rfl
    | cons a r =>
      symm
      rw [List.length_cons]
      show (((r.length + 1 : Nat) : Int) == 0) = false
      rw [beq_eq_false_iff_ne]; omega
  have HEMP := Lib.hid hemp
  have HC := Lib.hid hC
  have hrb := Kd.C_below HR.out hbr
  have HRb := Lib.hid hrb
  clear his hhas hemp hC hb2 hrb
  generalize kindText l = rl at *
  go_wp2_with fail
  go_loopw [5] (fun iv wi => ∃ i : Nat, iv = .int .i64 i ∧ i ≤ rl.length ∧ Aside0 (Below w2.heap.size w2 wi)) (fun iv _ => rl.length - (intOf iv).toNat)
  case atStart => exact ⟨0, rfl, by omega, ⟨Below.refl _ _⟩⟩
  case round =>
    obtain ⟨i, rfl, hil, HB⟩ := hrel
    by_cases hlt : i < rl.length
    · have hd1 : decide ((i : Int) < (rl.length : Int)) = true := decide_eq_true (by omega)
      obtain ⟨ad, hA1, hcell⟩ := str_at HC.out HB.out i hlt
      subst hA1
      obtain ⟨g, hg⟩ : ∃ g, rl[i] = g := ⟨_, rfl⟩
      have hgd : rl.getD i ⟨#[]⟩ = g := by rw [List.getD_eq_getElem?_getD, List.getElem?_eq_getElem hlt, ← hg]; rfl
      rw [hgd] at hcell
      obtain ⟨k1, k2, k3⟩ := HIS.out i hlt
      rw [hg] at k1 k2 k3
      obtain ⟨K1, hK1⟩ := amongE g l hl
      obtain ⟨K2, hK2⟩ := amongE g (rl.take i) (by rw [List.length_take]; omega)
      have hk1 := hK1 K1 (Nat.le_refl _)
      have hk2 := hK2 K2 (Nat.le_refl _)
      simp only [k2] at hk1
      simp only [k3] at hk2
      have hlen : (rl.take i).length = i := by rw [List.length_take]; omega
      have hCr := Kd.C_below HC.out HB.out
      have hRr := Kd.C_below HRb.out HB.out
      have hCt := Kd.C_take (m := i) hCr (by omega)
      have c2 := fun m => spec_JAmong.calls K1 g A c l true (wr.drewN m) (Kd.C_drewN hRr m) hc hk1
      have c3 := fun m => spec_JAmong.calls K2 g (some ad) c1 (rl.take i) false (wr.drewN m) (Kd.C_drewN hCt m) (by omega) hk2
      rw [hlen] at c3
      obtain ⟨ti, hti, _, htz, _⟩ := info_parts info9
      have hcut := cut_to (P := Try.prog) 32 9 .i64 Try.underlying32 hti (some ad) rl.length c1 (i : Int) (by omega) (by omega) hc1
      rw [Int.toNat_natCast] at hcut
      have q0 : (0 : Int) ≤ (i : Int) := by omega
      have q1 : (i : Int) < (rl.length : Int) := by omega
      have hbx : Below w.heap.size w wr := hbr.trans (HB.out.mono hbr.size)
      have C2 := Aside0.mk c2
      have C3 := Aside0.mk c3
      clear hg hgd k2 k3 hK1 hK2 hk1 hk2 hlen hCr hRr hCt c2 c3 hti htz
      go_wp2_with fail
      go_quiet (first
        | (go_at_call 16; (with_reducible refine (spec_JIsKind.calls g true _ k1).mono ?_); rintro e w' ⟨rfl, ⟨nd, rfl⟩⟩; (first | exact ⟨rfl, _, World.drewN_drewN _ _ _⟩ | exact ⟨rfl, _, Eq.trans (World.drewN_drewN _ _ _) (congrArg (World.drewN _) (Nat.add_assoc _ _ _))⟩))
        | (go_at_call 17; (with_reducible refine (C2.out _).mono ?_); rintro e w' ⟨rfl, ⟨nd, rfl⟩⟩; (first | exact ⟨rfl, _, World.drewN_drewN _ _ _⟩ | exact ⟨rfl, _, Eq.trans (World.drewN_drewN _ _ _) (congrArg (World.drewN _) (Nat.add_assoc _ _ _))⟩))
        | (go_at_call 17; (with_reducible refine (C3.out _).mono ?_); rintro e w' ⟨rfl, ⟨nd, rfl⟩⟩; (first | exact ⟨rfl, _, World.drewN_drewN _ _ _⟩ | exact ⟨rfl, _, Eq.trans (World.drewN_drewN _ _ _) (congrArg (World.drewN _) (Nat.add_assoc _ _ _))⟩)))
      go_wp2_with fail
      go_roundw
      case rel => exact ⟨i + 1, by go_num, by omega, ⟨pw_below_drewN HB.out _⟩⟩
      case measure => simp [intOf]; omega
    · obtain rfl : i = rl.length := by omega
      have hd1 : decide ((rl.length : Int) < (rl.length : Int)) = false := by simp
      clear hlt
      have hbx : Below w.heap.size w wr := hbr.trans (HB.out.mono hbr.size)
      have hCr := Kd.C_below HC.out HB.out
      have hRr := Kd.C_below HRb.out HB.out
      have HCr := Lib.hid hCr
      have HRr := Lib.hid hRr
      clear hCr hRr
      go_wp2_with fail
      obtain ⟨wq, rfl⟩ : ∃ wq : World, wq = wr := ⟨_, rfl⟩
      go_loopw [6] (fun iv wi => ∃ i : Nat, iv = .int .i64 i ∧ i ≤ l.length ∧ Aside0 (Below wq.heap.size wq wi)) (fun iv _ => l.length - (intOf iv).toNat)
      case atStart => exact ⟨0, rfl, by omega, ⟨Below.refl _ _⟩⟩
      case round =>
        obtain ⟨i, rfl, hil, HB2⟩ := hrel
        have hby : Below w.heap.size w wr := hbx.trans (HB2.out.mono hbx.size)
        by_cases hlt : i < l.length
        · have hd1 : decide ((i : Int) < (l.length : Int)) = true := decide_eq_true (by omega)
          obtain ⟨ad, hA1, hcell⟩ := str_at HRr.out HB2.out i hlt
          subst hA1
          obtain ⟨g, hg⟩ : ∃ g, l[i] = g := ⟨_, rfl⟩
          have hgd : l.getD i ⟨#[]⟩ = g := by rw [List.getD_eq_getElem?_getD, List.getElem?_eq_getElem hlt, ← hg]; rfl
          rw [hgd] at hcell
          have hgm : g ∈ l := hg ▸ List.getElem_mem hlt
          obtain ⟨κ, hκ⟩ : ∃ κ, kinds.contains (bs g) = κ := ⟨_, rfl⟩
          have hk := isKindE g
          rw [hκ] at hk
          have HKI := Lib.hid hk
          clear hg hgd hk
          have q0 : (0 : Int) ≤ (i : Int) := by omega
          have q1 : (i : Int) < (l.length : Int) := by omega
          cases κ with
          | false =>
            clear hκ hgm
            go_wp2_with fail
            refine (spec_JIsKind.calls g false _ HKI.out).mono ?_
            rintro e w3 ⟨rfl, ⟨n3, rfl⟩⟩
            go_wp2_with fail
            go_roundw
            case rel => exact ⟨i + 1, by go_num, by omega, ⟨pw_below_drewN HB2.out _⟩⟩
            case measure => simp [intOf]; omega
          | true =>
            obtain ⟨K3, hK3⟩ := amongE g rl (by omega)
            have hk3 := hK3 K3 (Nat.le_refl _)
            simp only [HHAS.out g hκ hgm] at hk3
            have HK3 := Lib.hid hk3
            have hCq := Kd.C_below HCr.out HB2.out
            have HCq := Lib.hid hCq
            clear hκ hgm hK3 hk3 hCq
            go_wp2_with fail
            refine (spec_JIsKind.calls g true _ HKI.out).mono ?_
            rintro e w3 ⟨rfl, ⟨n3, rfl⟩⟩
            go_wp2_with fail
            refine (spec_JAmong.calls K3 g A1 c1 rl true _ (Kd.C_drewN HCq.out n3) hc1 HK3.out).mono ?_
            rintro e w4 ⟨rfl, ⟨n4, rfl⟩⟩
            go_wp2_with fail
            go_roundw
            case rel => exact ⟨i + 1, by go_num, by omega, ⟨pw_below_drewN HB2.out (n3 + n4)⟩⟩
            case measure => simp [intOf]; omega
        · obtain rfl : i = l.length := by omega
          have hd1 : decide ((l.length : Int) < (l.length : Int)) = false := by simp
          clear hlt
          go_wp2_with fail
          go_ret
          exact ⟨by rw [HEMP.out]; simp, hby⟩
end Go.Proofs.Ytabadjidlfpngaa.Types
