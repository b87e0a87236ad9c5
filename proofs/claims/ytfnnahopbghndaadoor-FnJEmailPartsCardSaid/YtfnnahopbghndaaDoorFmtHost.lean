/- validateHostname, IsHostname, impl.JHostname: what they answer. -/
import Derived.Test.YtfnnahopbghndaaDoorFmt0
import Derived.Test.YtfnnahopbghndaaDoorFmtSplit
import Derived.Test.YtfnnahopbghndaaDoorFmtBase
import Derived.Test.YtfnnahopbghndaaDoorPvalidateHostnamex1
import Derived.Outline
namespace Go.Proofs.YtfnnahopbghndaaDoor.Fmt
open Go.RowKit Go.Proofs.YtfnnahopbghndaaDoorW.PrintWords Go.Proofs.YtfnnahopbghndaaDoorW.PrintLast Go.Proofs.YtfnnahopbghndaaDoorW.PrintMore Go.Proofs.YtfnnahopbghndaaDoor.K
set_option linter.unusedVariables false
set_option linter.unusedSimpArgs false

def hostB (b : UInt8) : Bool := (97 ≤ b && b ≤ 122) || (65 ≤ b && b ≤ 90) || (48 ≤ b && b ≤ 57) || b == 45
def hostR (r : Nat) : Prop := (97 ≤ r ∧ r ≤ 122) ∨ (65 ≤ r ∧ r ≤ 90) ∨ (48 ≤ r ∧ r ≤ 57) ∨ r = 45
theorem hostK : Kind hostB hostR where
  iff b := by
    unfold hostB hostR
    simp only [Bool.or_eq_true, Bool.and_eq_true, decide_eq_true_eq, beq_iff_eq, UInt8.le_iff_toNat_le, ← UInt8.toNat_inj]
    simp only [UInt8.toNat_ofNat]
    omega
  low r h := by unfold hostR; omega

def labelOk (g : List UInt8) : Prop := 1 ≤ g.length ∧ g.length ≤ 63 ∧ g.head? ≠ some 45 ∧ g.getLast? ≠ some 45 ∧ ∀ b ∈ g, hostB b = true
/-- What TrimSuffix at a dot leaves. -/
def trimDot (l : List UInt8) : List UInt8 := if l.getLast? = some 46 then l.dropLast else l
def hostOk (l : List UInt8) : Prop := (trimDot l).length ≤ 253 ∧ ∀ g ∈ splitL 46 (trimDot l), labelOk g

theorem hasPrefix1 (s c : ByteArray) (x : UInt8) (hc : bs c = [x]) : PvalidateHostname.strings_HasPrefix.f s c = some (decide ((bs s).head? = some x)) := by
  have hcs : c.size = 1 := by rw [← bs_len, hc]; rfl
  have hl := bs_len s
  unfold PvalidateHostname.strings_HasPrefix.f PvalidateHostname.stringslite_HasPrefix.f
  rw [hcs]
  by_cases h : (s.size : Int) ≥ ((1 : Nat) : Int)
  · rw [if_pos h, if_pos (by omega), if_pos (by omega)]
    simp only [Option.bind_some]
    congr 1
    rw [Bool.eq_iff_iff, beq_iff_eq, decide_eq_true_eq, toList_inj, hc]
    simp only [Int.toNat_natCast, bs_take]
    cases hb : bs s with
    | nil => rw [hb] at hl; simp at hl; omega
    | cons a l => simp
  · rw [if_neg h]
    simp only [Option.bind_some]
    congr 1
    have : bs s = [] := by apply List.eq_nil_of_length_eq_zero; omega
    rw [this]; simp

theorem hasSuffix1 (s c : ByteArray) (x : UInt8) (hc : bs c = [x]) (hs : s.size ≤ 4294967296) : PvalidateHostname.stringslite_HasSuffix.f s c = some (decide ((bs s).getLast? = some x)) := by
  have hcs : c.size = 1 := by rw [← bs_len, hc]; rfl
  have hl := bs_len s
  unfold PvalidateHostname.stringslite_HasSuffix.f
  rw [hcs]
  by_cases h : (s.size : Int) ≥ ((1 : Nat) : Int)
  · have e : wrap64 ((s.size : Int) - ((1 : Nat) : Int)) = ((s.size - 1 : Nat) : Int) := by rw [wrap_in (by omega) (by omega)]; omega
    rw [if_pos h, e, if_pos (by omega), if_pos (by omega)]
    congr 1
    rw [Bool.eq_iff_iff, beq_iff_eq, decide_eq_true_eq, toList_inj, hc]
    simp only [Int.toNat_natCast, bs_drop]
    rw [← last_drop _ _ (by omega), hl]
  · rw [if_neg h]
    congr 1
    have : bs s = [] := by apply List.eq_nil_of_length_eq_zero; omega
    rw [this]; simp

theorem trim1 (s c : ByteArray) (hc : bs c = [46]) (hs : s.size ≤ 4294967296) : ∃ r, PvalidateHostname.strings_TrimSuffix.f s c = some r ∧ bs r = trimDot (bs s) ∧ r.size ≤ s.size := by
  have hcs : c.size = 1 := by rw [← bs_len, hc]; rfl
  have hl := bs_len s
  unfold PvalidateHostname.strings_TrimSuffix.f PvalidateHostname.stringslite_TrimSuffix.f
  rw [hasSuffix1 s c 46 hc hs, hcs]
  simp only [Option.bind_some, decide_eq_true_eq]
  unfold trimDot
  by_cases h : (bs s).getLast? = some 46
  · have h1 : 1 ≤ s.size := by
      rw [← hl]
      cases hb : bs s with
      | nil => rw [hb] at h; simp at h
      | cons a l => simp
    have e : wrap64 ((s.size : Int) - ((1 : Nat) : Int)) = ((s.size - 1 : Nat) : Int) := by rw [wrap_in (by omega) (by omega)]; omega
    rw [if_pos h, if_pos h, e, if_pos (by omega), if_pos (by omega)]
    refine ⟨_, rfl, ?_, ?_⟩
    · simp only [Int.toNat_natCast, bs_take]
      rw [List.dropLast_eq_take, hl]
    · simp only [Int.toNat_natCast, ByteArray.size_extract]; omega
  · rw [if_neg h, if_neg h]
    exact ⟨s, rfl, rfl, Nat.le_refl _⟩

set_option maxHeartbeats 4000000 in
set_option maxRecDepth 100000 in
theorem host (s t : ByteArray) (k : Nat) (gs : List ByteArray) (w : World) (h0 : PvalidateHostname.strings_TrimSuffix.f s ⟨#[46]⟩ = some t) (h : PzzSplit.jsonschema_zzSplit.f k t ⟨#[46]⟩ = some gs)
    (hgl : ∀ i, i < gs.length → (gs.getD i ⟨#[]⟩).size ≤ 4294967296) (hlen : gs.length ≤ 4294967296) :
    Calls Tryd.prog 45 #[.iface 9 (.string s)] w fun e w' => Res (t.size ≤ 253 ∧ ∀ i, i < gs.length → labelOk (bs (gs.getD i ⟨#[]⟩))) e ∧ Below w.heap.size w w' := by
  have hta := asStr s
  go_enter Tryd.func45, Tryd.ntmps45
  go_wp2_with fail
  refine (PvalidateHostname.strings_TrimSuffix.calls s ⟨#[46]⟩ t _ h0).mono ?_
  rintro e w0 ⟨rfl, ⟨n0, rfl⟩⟩
  by_cases h253 : t.size ≤ 253
  · go_wp2_with fail
    refine (PzzSplit.jsonschema_zzSplit.calls k t ⟨#[46]⟩ gs _ h).mono ?_
    rintro e w1 ⟨v, rfl, hR, hb⟩
    obtain ⟨A, c, rfl, hlc, hC⟩ := Kd.R_reads hR
    have hb0 : Below w.heap.size w w1 := (pw_below_drewN (Below.refl _ w) n0).trans hb
    have hsz1 : w.heap.size ≤ w1.heap.size := hb0.size
    clear hb hR hta
    go_wp2_with fail
    go_loopw [25] (fun i wr => ∃ n : Nat, n ≤ gs.length ∧ i = .int .i64 n ∧ Aside0 (∀ j, j < n → labelOk (bs (gs.getD j ⟨#[]⟩))) ∧ Aside0 (Below w1.heap.size w1 wr)) (fun i _ => gs.length - (intOf i).toNat)
    case atStart => exact ⟨0, by omega, rfl, ⟨fun j hj => by omega⟩, ⟨Below.refl _ _⟩⟩
    case round =>
      obtain ⟨n, hn, rfl, HA, HB⟩ := hrel
      have hszr : w1.heap.size ≤ wr.heap.size := HB.out.size
      have hbr : Below w.heap.size w wr := fin0 hb0 hsz1 HB.out
      by_cases hlt : n < gs.length
      · have hd1 : decide ((n : Int) < (gs.length : Int)) = true := decide_eq_true (by omega)
        obtain ⟨ad, rfl, hcell⟩ := str_at hC HB.out n hlt
        obtain ⟨g, hg⟩ : ∃ g, g = gs.getD n ⟨#[]⟩ := ⟨_, rfl⟩
        rw [← hg] at hcell
        have hgs : g.size ≤ 4294967296 := by rw [hg]; exact hgl n hlt
        have HG := Lib.hid hg
        have hglen := bs_len g
        have HGL := Lib.hid hglen
        clear hg hglen
        by_cases hl1 : 1 ≤ g.size
        · by_cases hl2 : g.size ≤ 63
          · go_wp2_with fail
            refine (PvalidateHostname.strings_HasPrefix.calls g ⟨#[45]⟩ _ _ (hasPrefix1 g ⟨#[45]⟩ 45 (by decide))).mono ?_
            rintro e w2 ⟨rfl, ⟨n2, rfl⟩⟩
            have hbr2 : Below w.heap.size w (wr.drewN n2) := pw_below_drewN hbr n2
            have hszr2 : w1.heap.size ≤ (wr.drewN n2).heap.size := hszr
            have HB2 : Aside0 (Below w1.heap.size w1 (wr.drewN n2)) := ⟨pw_below_drewN HB.out n2⟩
            generalize wr.drewN n2 = wr2 at *
            by_cases hp1 : (bs g).head? = some 45
            · have hdp : decide ((bs g).head? = some 45) = true := decide_eq_true hp1
              go_wp2_with fail
              refine (locErr _ _ _).mono ?_
              rintro e w' ⟨⟨T, a, rfl⟩, hb⟩
              go_wp2_with fail
              go_ret
              exact ⟨resErr (fun hh => by have := (hh.2 n hlt).2.2.1; rw [← HG.out] at this; exact this hp1), fin0 hbr2 (by omega) hb⟩
            · have hdp : decide ((bs g).head? = some 45) = false := decide_eq_false hp1
              go_wp2_with fail
              refine (PvalidateHostname.strings_HasSuffix.calls g ⟨#[45]⟩ _ _ (by unfold PvalidateHostname.strings_HasSuffix.f; rw [hasSuffix1 g ⟨#[45]⟩ 45 (by decide) hgs]; rfl)).mono ?_
              rintro e w3 ⟨rfl, ⟨n3, rfl⟩⟩
              have hbr3 : Below w.heap.size w (wr2.drewN n3) := pw_below_drewN hbr2 n3
              have hszr3 : w1.heap.size ≤ (wr2.drewN n3).heap.size := hszr2
              have HB3 : Aside0 (Below w1.heap.size w1 (wr2.drewN n3)) := ⟨pw_below_drewN HB2.out n3⟩
              generalize wr2.drewN n3 = wr3 at *
              by_cases hp2 : (bs g).getLast? = some 45
              · have hdp2 : decide ((bs g).getLast? = some 45) = true := decide_eq_true hp2
                go_wp2_with fail
                refine (locErr _ _ _).mono ?_
                rintro e w' ⟨⟨T, a, rfl⟩, hb⟩
                go_wp2_with fail
                go_ret
                exact ⟨resErr (fun hh => by have := (hh.2 n hlt).2.2.2.1; rw [← HG.out] at this; exact this hp2), fin0 hbr3 (by omega) hb⟩
              · have hdp2 : decide ((bs g).getLast? = some 45) = false := decide_eq_false hp2
                go_wp2_with fail
                go_loopw [] (fun wi => Aside0 (Iter hostB g wr3.heap.size w1.heap.size w1 wi)) (fun wi => g.size - wi.iterPos wr3.heap.size)
                case atStart => exact ⟨Iter.start HB3.out hszr3⟩
                case round =>
                  obtain ⟨⟨pos, hit, HS0, HB4⟩⟩ := hrel
                  have HS := Lib.hid HS0
                  clear HS0
                  by_cases hp : pos < g.size
                  · have hnx : ∀ ty, (Instr.next (.pointer (some ⟨wr3.heap.size, 0, none⟩)) true ty).run Tryd.prog wr = _ := fun ty => Lib.run_next_any_at wr wr3.heap.size g pos ty hit hp
                    have hB5 : Below w1.heap.size w1 (wr.iterAt wr3.heap.size g (pos + (Utf8.decode g pos).2)) := Lib.below_iterAt HB4 hszr3 g _
                    have hs5 : w1.heap.size ≤ (wr.iterAt wr3.heap.size g (pos + (Utf8.decode g pos).2)).heap.size := hB5.size
                    have hb5 : Below w.heap.size w (wr.iterAt wr3.heap.size g (pos + (Utf8.decode g pos).2)) := fin0 hb0 hsz1 hB5
                    go_wp2_with fail
                    all_goals first
                      | (refine (locErr _ _ _).mono ?_
                         rintro e w' ⟨⟨T, a, rfl⟩, hb⟩
                         have hr : ¬ hostR (Utf8.decode g pos).1 := by unfold hostR; simp at *; omega
                         go_wp2_with fail
                         go_ret
                         exact ⟨resErr (fun hh => hostK.fail hp hr (by have := (hh.2 n hlt).2.2.2.2; rw [← HG.out] at this; exact this)), fin1 hb5 (by omega) hb⟩)
                      | (have hr : hostR (Utf8.decode g pos).1 := by unfold hostR; simp at *; omega
                         obtain ⟨h1, h2⟩ := hostK.step hp hr HS.out
                         go_roundw
                         case rel => exact ⟨⟨_, Lib.iterAt_heap wr wr3.heap.size g pos _ hit, h2, hB5⟩⟩
                         case measure =>
                           rw [iterPos_of (Lib.iterAt_heap wr wr3.heap.size g pos _ hit), iterPos_of hit]
                           omega)
                  · have hnx : ∀ ty, (Instr.next (.pointer (some ⟨wr3.heap.size, 0, none⟩)) true ty).run Tryd.prog wr = _ := fun ty => Lib.run_next_end_at wr wr3.heap.size g pos ty hit hp
                    go_wp2_with fail
                    go_roundw
                    case rel => exact ⟨n + 1, by omega, by go_num, ⟨fun j hj => by
                      by_cases e : j = n
                      · subst e; rw [← HG.out]; exact ⟨by rw [HGL.out]; omega, by rw [HGL.out]; omega, hp1, hp2, HS.out.all hp⟩
                      · exact HA.out j (by omega)⟩, ⟨HB4⟩⟩
                    case measure => simp [intOf]; omega
          · go_wp2_with fail
            refine (locErr _ _ _).mono ?_
            rintro e w' ⟨⟨T, a, rfl⟩, hb⟩
            go_wp2_with fail
            go_ret
            exact ⟨resErr (fun hh => by have := (hh.2 n hlt).2.1; rw [← HG.out, HGL.out] at this; omega), fin0 hbr (by omega) hb⟩
        · go_wp2_with fail
          refine (locErr _ _ _).mono ?_
          rintro e w' ⟨⟨T, a, rfl⟩, hb⟩
          go_wp2_with fail
          go_ret
          exact ⟨resErr (fun hh => by have := (hh.2 n hlt).1; rw [← HG.out, HGL.out] at this; omega), fin0 hbr (by omega) hb⟩
      · have hd1 : decide ((n : Int) < (gs.length : Int)) = false := decide_eq_false (by omega)
        go_wp2_with fail
        go_ret
        obtain rfl : n = gs.length := by omega
        exact ⟨resOk ⟨h253, HA.out⟩, hbr⟩
  · go_wp2_with fail
    refine (locErr _ _ _).mono ?_
    rintro e w' ⟨⟨T, a, rfl⟩, hb⟩
    go_wp2_with fail
    go_ret
    exact ⟨resErr (fun hh => h253 hh.1), fin0 (pw_below_drewN (Below.refl _ w) n0) (by simp) hb⟩

theorem valHost (s : ByteArray) (w : World) (hs : s.size ≤ 2147483647) : Calls Tryd.prog 45 #[.iface 9 (.string s)] w fun e w' => Res (hostOk (bs s)) e ∧ Below w.heap.size w w' := by
  obtain ⟨t, ht, ht2, htl⟩ := trim1 s ⟨#[46]⟩ (by decide) (by omega)
  obtain ⟨gs, ⟨K, hK⟩, hg⟩ := Split.zzSplit_ev t ⟨#[46]⟩ 46 (by decide) (by omega)
  have hlt := bs_len t
  have hgl : gs.length = (splitL 46 (bs t)).length := by rw [← hg, List.length_map]
  have hsl := split_length 46 (bs t)
  have hmem : ∀ i, i < gs.length → (gs.getD i ⟨#[]⟩).size ≤ 4294967296 := by
    intro i hi
    have : bs (gs.getD i ⟨#[]⟩) ∈ splitL 46 (bs t) := by
      rw [← getD_bs hg]
      exact mem_getD.2 ⟨i, by omega, rfl⟩
    have h1 := split_le 46 (bs t) _ this
    rw [bs_len, bs_len] at h1
    omega
  refine (host s t K gs w ht (hK K (Nat.le_refl _)) hmem (by omega)).mono ?_
  rintro e w' ⟨h, hb⟩
  refine ⟨h.congr ?_, hb⟩
  unfold hostOk
  rw [← ht2, all_split hg labelOk, bs_len]

theorem isHost (s : ByteArray) (w : World) (hs : s.size ≤ 2147483647) : Calls Tryd.prog 38 #[.string s] w fun e w' => Says (hostOk (bs s)) e ∧ Below w.heap.size w w' := by
  go_enter Tryd.func38, Tryd.ntmps38
  go_wp2_with fail
  refine (valHost s _ hs).mono ?_
  rintro e w1 ⟨hr, hb⟩
  rcases hr with ⟨hok, rfl⟩ | ⟨hok, ⟨T, a, rfl⟩⟩
  · go_wp2_with fail
    go_ret
    exact ⟨⟨_, rfl, by simp [hok]⟩, hb⟩
  · go_wp2_with fail
    go_ret
    exact ⟨⟨_, rfl, by simp [hok]⟩, hb⟩

theorem implHost (s : ByteArray) (w : World) (hs : s.size ≤ 2147483647) : Calls Tryd.prog 25 #[.string s] w fun e w' => Says (hostOk (bs s)) e ∧ Below w.heap.size w w' := by
  go_enter Tryd.func25, Tryd.ntmps25
  go_wp2_with fail
  refine (isHost s _ hs).mono ?_
  rintro e w1 ⟨⟨b, rfl, hb1⟩, hb⟩
  have HB := Lib.hid hb1
  clear hb1
  go_wp2_with fail
  go_ret
  exact ⟨⟨_, rfl, HB.out⟩, hb⟩
end Go.Proofs.YtfnnahopbghndaaDoor.Fmt
