/- strconv.Atoi; validateIPV4, IsIPv4, impl.JIPv4: what they answer. -/
import Derived.Test.YtfnnahopbghndaaDoorFmt0
import Derived.Test.YtfnnahopbghndaaDoorFmtSplit
import Derived.Test.YtfnnahopbghndaaDoorFmtBase
import Derived.Test.YtfnnahopbghndaaDoorFmtSemBase
import Derived.Test.YtfnnahopbghndaaDoorShelf
import Derived.Test.YtfnnahopbghndaaDoorErrs
import Derived.Outline
namespace Go.Proofs.YtfnnahopbghndaaDoor.Fmt
open Go.RowKit Go.Proofs.YtfnnahopbghndaaDoorW.PrintWords Go.Proofs.YtfnnahopbghndaaDoorW.PrintLast Go.Proofs.YtfnnahopbghndaaDoorW.PrintMore Go.Proofs.YtfnnahopbghndaaDoor.K
set_option linter.unusedVariables false
set_option linter.unusedSimpArgs false

/-- The errors that strconv keeps. -/
def Kept (w : World) : Prop := Errs.Var w 1 ∧ Errs.Var w 2
theorem Kept.below {w w' : World} (h : Kept w) (hb : Below w.heap.size w w') : Kept w' := by
  obtain ⟨⟨a, ha⟩, ⟨b, hb2⟩⟩ := h
  exact ⟨⟨a, pw_cell_below hb ha⟩, ⟨b, pw_cell_below hb hb2⟩⟩

/-- What Atoi answers: a number, or an error. -/
def AtoiSays (l : List UInt8) (e : Ending) : Prop :=
  (∃ v : Int, Lib.atoiAll l = .ok v ∧ e = .returned (.tuple #[.int .i64 v, .nilIface])) ∨
  ((∀ v, Lib.atoiAll l ≠ .ok v) ∧ ∃ (n : Int) (T : TypeId) (a : Addr), e = .returned (.tuple #[.int .i64 n, .iface T (.pointer (some a))]))
theorem atoiW (s : ByteArray) (w : World) (hs : s.size ≤ 2147483647) (hk : Kept w) : Calls Tryd.prog 48 #[.string s] w fun e w' => AtoiSays (bs s) e ∧ Below w.heap.size w w' := by
  obtain ⟨⟨a, ha⟩, ⟨b, hb⟩⟩ := hk
  cases h : Lib.atoiAll s.data.toList with
  | ok v =>
    refine (Tryd.strconv_Atoi_ok s (by omega) v h w).mono ?_
    rintro e w' ⟨rfl, hw⟩
    refine ⟨.inl ⟨v, h, rfl⟩, ?_⟩
    rcases hw with rfl | ⟨t, rfl⟩
    · exact Below.refl _ _
    · exact Lib.bytesWorld_below _ _ _
  | «syntax» =>
    refine (Tryd.strconv_Atoi_syntax s (by omega) h _ w ha (.inr ⟨_, _, rfl⟩)).mono ?_
    rintro e w' ⟨N, rfl, _, _, hb⟩
    exact ⟨.inr ⟨(fun v hv => by rw [bs, h] at hv; cases hv), _, _, _, rfl⟩, hb⟩
  | range =>
    refine (Tryd.strconv_Atoi_range s (by omega) h _ w hb (.inr ⟨_, _, rfl⟩)).mono ?_
    rintro e w' ⟨N, rfl, _, _, hb⟩
    exact ⟨.inr ⟨(fun v hv => by rw [bs, h] at hv; cases hv), _, _, _, rfl⟩, hb⟩

/-- A group of an address, as the code takes it. -/
def octOk (g : List UInt8) : Prop := ¬ (1 < g.length ∧ g.head? = some 48) ∧ ∃ v : Int, Lib.atoiAll g = .ok v ∧ 0 ≤ v ∧ v ≤ 255
def ip4Ok (l : List UInt8) : Prop := (splitL 46 l).length = 4 ∧ ∀ g ∈ splitL 46 l, octOk g

set_option maxHeartbeats 4000000 in
set_option maxRecDepth 100000 in
theorem ip4 (s : ByteArray) (k : Nat) (gs : List ByteArray) (w : World) (hk : Kept w) (h : PzzSplit.jsonschema_zzSplit.f k s ⟨#[46]⟩ = some gs)
    (hgl : ∀ i, i < gs.length → (gs.getD i ⟨#[]⟩).size ≤ 2147483647) (hlen : gs.length ≤ 4294967296) :
    Calls Tryd.prog 39 #[.iface 9 (.string s)] w fun e w' => Res (gs.length = 4 ∧ ∀ i, i < gs.length → octOk (bs (gs.getD i ⟨#[]⟩))) e ∧ Below w.heap.size w w' := by
  have hta := asStr s
  have HK := Lib.hid hk
  have HGL := Lib.hid hgl
  clear hk hgl
  go_enter Tryd.func39, Tryd.ntmps39
  go_wp2_with fail
  refine (PzzSplit.jsonschema_zzSplit.calls k s ⟨#[46]⟩ gs _ h).mono ?_
  rintro e w1 ⟨v, rfl, hR, hb⟩
  obtain ⟨A, c, rfl, hlc, hC⟩ := Kd.R_reads hR
  have hsz1 : w.heap.size ≤ w1.heap.size := hb.size
  have HC := Lib.hid hC
  clear hR hta hC
  by_cases h4 : gs.length = 4
  · have h4b : ((gs.length : Int) != 4) = false := by rw [bne_eq_false_iff_eq]; omega
    have H4 := Lib.hid h4
    clear h4
    go_wp2_with fail
    go_loopw [25] (fun i wr => ∃ n : Nat, n ≤ gs.length ∧ i = .int .i64 n ∧ Aside0 (∀ j, j < n → octOk (bs (gs.getD j ⟨#[]⟩))) ∧ Aside0 (Below w1.heap.size w1 wr)) (fun i _ => gs.length - (intOf i).toNat)
    case atStart => exact ⟨0, by omega, rfl, ⟨fun j hj => by omega⟩, ⟨Below.refl _ _⟩⟩
    case round =>
      obtain ⟨n, hn, rfl, HA, HB⟩ := hrel
      have hbr : Below w.heap.size w wr := fin0 hb hsz1 HB.out
      have hszr : w.heap.size ≤ wr.heap.size := hbr.size
      have HKr := Lib.hid (HK.out.below hbr)
      by_cases hlt : n < gs.length
      · have hd1 : decide ((n : Int) < (gs.length : Int)) = true := decide_eq_true (by omega)
        obtain ⟨ad, rfl, hcell⟩ := str_at HC.out HB.out n hlt
        obtain ⟨g, hg⟩ : ∃ g, g = gs.getD n ⟨#[]⟩ := ⟨_, rfl⟩
        have hgs : g.size ≤ 2147483647 := by rw [hg]; exact HGL.out n hlt
        rw [← hg] at hcell
        have HG := Lib.hid hg
        have hno : ¬ octOk (bs g) → ¬ (gs.length = 4 ∧ ∀ i, i < gs.length → octOk (bs (gs.getD i ⟨#[]⟩))) := by
          intro k1 k2
          have := k2.2 n hlt
          rw [← HG.out] at this
          exact k1 this
        have HNO := Lib.hid hno
        have hbl := bs_len g
        have HBL := Lib.hid hbl
        clear hg hno hbl
        have hcase : (1 < g.size ∧ ∃ h0 : 0 < g.size, ((((g[0]'h0).toNat : Int) == 48) = true)) ∨ (¬ (1 < (bs g).length ∧ (bs g).head? = some 48) ∧ ((¬ 1 < g.size) ∨ (1 < g.size ∧ ∃ h0 : 0 < g.size, (((g[0]'h0).toNat : Int) == 48) = false))) := by
          by_cases h1 : 1 < g.size
          · have h0 : 0 < g.size := by omega
            by_cases h48 : (g[0]'h0).toNat = 48
            · exact .inl ⟨h1, h0, by rw [beq_iff_eq]; omega⟩
            · refine .inr ⟨fun k => h48 ?_, .inr ⟨h1, h0, by rw [beq_eq_false_iff_ne]; omega⟩⟩
              have := k.2
              rw [head_bs h0] at this
              rw [Option.some.inj this]; rfl
          · exact .inr ⟨fun k => h1 (by rw [← HBL.out]; exact k.1), .inl h1⟩
        rcases hcase with ⟨h1, h0, h48⟩ | ⟨hgood, hcase⟩
        · have HEAD := Lib.hid (head_bs h0)
          have H48 := Lib.hid (show (g[0]'h0).toNat = 48 by have := beq_iff_eq.1 h48; omega)
          go_wp2_with fail
          refine (locErr _ _ _).mono ?_
          rintro e w' ⟨⟨T, a, rfl⟩, hb2⟩
          go_wp2_with fail
          go_ret
          refine ⟨resErr (HNO.out (fun k => k.1 ⟨by rw [HBL.out]; exact h1, ?_⟩)), fin0 hbr hszr hb2⟩
          rw [HEAD.out]; congr 1; exact UInt8.toNat_inj.1 H48.out
        · have HGOOD := Lib.hid hgood
          clear hgood
          rcases hcase with h1 | ⟨h1, h0, h48⟩
          all_goals
            go_wp2_with fail
            refine (atoiW g _ hgs HKr.out).mono ?_
            rintro e w2 ⟨hsay, hb2⟩
            have hbr2 : Below w.heap.size w w2 := fin0 hbr hszr hb2
            have hsz2 : w.heap.size ≤ w2.heap.size := hbr2.size
            have HB2 : Aside0 (Below w1.heap.size w1 w2) := ⟨fin0 HB.out HB.out.size hb2⟩
            clear hb2
            rcases hsay with ⟨v, hv, rfl⟩ | ⟨hv, m, T, a, rfl⟩
            · have HV := Lib.hid hv
              clear hv
              by_cases hv0 : v < 0
              · go_wp2_with fail
                refine (locErr _ _ _).mono ?_
                rintro e w' ⟨⟨T, a, rfl⟩, hb3⟩
                go_wp2_with fail
                go_ret
                exact ⟨resErr (HNO.out (fun k => by obtain ⟨_, v', h1', h2', _⟩ := k; rw [HV.out] at h1'; cases h1'; omega)), fin0 hbr2 hsz2 hb3⟩
              · by_cases hv1 : 255 < v
                · go_wp2_with fail
                  refine (locErr _ _ _).mono ?_
                  rintro e w' ⟨⟨T, a, rfl⟩, hb3⟩
                  go_wp2_with fail
                  go_ret
                  exact ⟨resErr (HNO.out (fun k => by obtain ⟨_, v', h1', _, h2'⟩ := k; rw [HV.out] at h1'; cases h1'; omega)), fin0 hbr2 hsz2 hb3⟩
                · go_wp2_with fail
                  go_roundw
                  case rel => exact ⟨n + 1, by omega, by go_num, ⟨fun j hj => by
                    by_cases e : j = n
                    · subst e; rw [← HG.out]; exact ⟨HGOOD.out, v, HV.out, by omega, by omega⟩
                    · exact HA.out j (by omega)⟩, HB2⟩
                  case measure => simp [intOf]; omega
            · have HV := Lib.hid hv
              clear hv
              go_wp2_with fail
              go_ret
              exact ⟨resErr (HNO.out (fun k => by obtain ⟨_, v', h1', _⟩ := k; exact HV.out v' h1')), hbr2⟩
      · have hd1 : decide ((n : Int) < (gs.length : Int)) = false := decide_eq_false (by omega)
        go_wp2_with fail
        go_ret
        obtain rfl : n = gs.length := by omega
        exact ⟨resOk ⟨H4.out, HA.out⟩, hbr⟩
  · have h4b : ((gs.length : Int) != 4) = true := by rw [bne_iff_ne]; omega
    go_wp2_with fail
    refine (locErr _ _ _).mono ?_
    rintro e w' ⟨⟨T, a, rfl⟩, hb2⟩
    go_wp2_with fail
    go_ret
    exact ⟨resErr (fun hh => h4 hh.1), fin0 hb hsz1 hb2⟩

theorem valIP4 (s : ByteArray) (w : World) (hs : s.size ≤ 2147483647) (hk : Kept w) : Calls Tryd.prog 39 #[.iface 9 (.string s)] w fun e w' => Res (ip4Ok (bs s)) e ∧ Below w.heap.size w w' := by
  obtain ⟨gs, ⟨K, hK⟩, hg⟩ := Split.zzSplit_ev s ⟨#[46]⟩ 46 (by decide) (by omega)
  have hlt := bs_len s
  have hgl : gs.length = (splitL 46 (bs s)).length := by rw [← hg, List.length_map]
  have hsl := split_length 46 (bs s)
  have hmem : ∀ i, i < gs.length → (gs.getD i ⟨#[]⟩).size ≤ 2147483647 := by
    intro i hi
    have : bs (gs.getD i ⟨#[]⟩) ∈ splitL 46 (bs s) := by
      rw [← getD_bs hg]
      exact mem_getD.2 ⟨i, by omega, rfl⟩
    have h1 := split_le 46 (bs s) _ this
    rw [bs_len, bs_len] at h1
    omega
  refine (ip4 s K gs w hk (hK K (Nat.le_refl _)) hmem (by omega)).mono ?_
  rintro e w' ⟨h, hb⟩
  refine ⟨h.congr ?_, hb⟩
  unfold ip4Ok
  rw [all_split hg octOk, ← hgl]

theorem isIP4 (s : ByteArray) (w : World) (hs : s.size ≤ 2147483647) (hk : Kept w) : Calls Tryd.prog 27 #[.string s] w fun e w' => Says (ip4Ok (bs s)) e ∧ Below w.heap.size w w' := by
  go_enter Tryd.func27, Tryd.ntmps27
  go_wp2_with fail
  refine (valIP4 s _ hs hk).mono ?_
  rintro e w1 ⟨hr, hb⟩
  rcases hr with ⟨hok, rfl⟩ | ⟨hok, ⟨T, a, rfl⟩⟩
  · go_wp2_with fail
    go_ret
    exact ⟨⟨_, rfl, by simp [hok]⟩, hb⟩
  · go_wp2_with fail
    go_ret
    exact ⟨⟨_, rfl, by simp [hok]⟩, hb⟩

theorem implIP4 (s : ByteArray) (w : World) (hs : s.size ≤ 2147483647) (hk : Kept w) : Calls Tryd.prog 12 #[.string s] w fun e w' => Says (ip4Ok (bs s)) e ∧ Below w.heap.size w w' := by
  go_enter Tryd.func12, Tryd.ntmps12
  go_wp2_with fail
  refine (isIP4 s _ hs hk).mono ?_
  rintro e w1 ⟨⟨b, rfl, hb1⟩, hb⟩
  have HB := Lib.hid hb1
  clear hb1
  go_wp2_with fail
  go_ret
  exact ⟨⟨_, rfl, HB.out⟩, hb⟩
end Go.Proofs.YtfnnahopbghndaaDoor.Fmt
