/- validateSemver, IsSemver, impl.JSemver: what they answer. -/
import Derived.Test.YtdjmjgdafghdgaaFmtRel
import Derived.Test.YtdjmjgdafghdgaaShelf
import Derived.Deep.DeepCutAuto
namespace Go.Proofs.Ytdjmjgdafghdgaa.Fmt
open Go.RowKit Go.Proofs.YtdjmjgdafghdgaaW.PrintWords Go.Proofs.YtdjmjgdafghdgaaW.PrintLast Go.Proofs.YtdjmjgdafghdgaaW.PrintMore Go.Proofs.Ytdjmjgdafghdgaa.K
set_option linter.unusedVariables false
set_option linter.unusedSimpArgs false

theorem indexByte_eq (l : List UInt8) (c : UInt8) : Lib.indexByte l c = idx1 c l := by
  induction l with
  | nil => rfl
  | cons a l ih =>
    simp only [Lib.indexByte, idx1, ih, beq_iff_eq]
    have := idx1_lo c l
    split
    · rfl
    · by_cases h : idx1 c l = -1
      · rw [if_pos h, if_pos (by omega)]
      · rw [if_neg h, if_neg (by omega)]

theorem idxB (s : ByteArray) (c : Int) (x : UInt8) (i : Int) (w : World) (hx : c.toNat.toUInt8 = x) (hi : idx1 x (bs s) = i) : Calls Try.prog 67 #[.string s, .int .u8 c] w fun e w' => e = .returned (.int .i64 i) ∧ w = w' := by
  have := Try.strings_IndexByte s c w
  rw [indexByte_eq, hx, bs_data, hi] at this
  exact this.mono fun e w' ⟨h1, h2⟩ => ⟨h1, h2.symm⟩

/-- What stands ahead of a byte; what stands behind it. -/
def before (c : UInt8) (l : List UInt8) : List UInt8 := if idx1 c l < 0 then l else l.take (idx1 c l).toNat
def after (c : UInt8) (l : List UInt8) : Option (List UInt8) := if idx1 c l < 0 then none else some (l.drop ((idx1 c l).toNat + 1))

def buildId (g : List UInt8) : Prop := g ≠ [] ∧ ∀ b ∈ g, hostB b = true
def preId (g : List UInt8) : Prop := (g ≠ [] ∧ ∀ b ∈ g, hostB b = true) ∧ ¬ (g.all digB = true ∧ 1 < g.length ∧ g.head? = some 48)
def coreId (g : List UInt8) : Prop := g ≠ [] ∧ ¬ (1 < g.length ∧ g.head? = some 48) ∧ ∀ b ∈ g, digB b = true
def buildOk (o : Option (List UInt8)) : Prop := ∀ r, o = some r → ∀ g ∈ splitL 46 r, buildId g
def preOk (o : Option (List UInt8)) : Prop := ∀ r, o = some r → ∀ g ∈ splitL 46 r, preId g
def coreOk (l : List UInt8) : Prop := (splitL 46 l).length = 3 ∧ ∀ g ∈ splitL 46 l, coreId g
def semOk (l : List UInt8) : Prop := buildOk (after 43 l) ∧ preOk (after 45 (before 43 l)) ∧ coreOk (before 45 (before 43 l))

theorem bs_nil {g : ByteArray} : bs g = [] ↔ g.size = 0 := by
  rw [← bs_len]
  exact List.length_eq_zero_iff.symm

theorem head_bs {g : ByteArray} (h : 0 < g.size) : (bs g).head? = some (g[0]'h) := by
  have hl := bs_len g
  rw [List.head?_eq_getElem?, List.getElem?_eq_getElem (by omega)]
  rw [bs_at g 0 h (by omega)]

/-- All that was so far of a kind, as a bool. -/
def allTo (g : ByteArray) (pos : Nat) : Bool := ((bs g).take pos).all digB
theorem allTo_step {g : ByteArray} {pos : Nat} (hp : pos < g.size) : allTo g (pos + 1) = (allTo g pos && digB (g[pos]'hp)) := by
  have hl := bs_len g
  unfold allTo
  rw [List.take_succ_eq_append_getElem (by omega), List.all_append, bs_at g pos hp (by omega)]
  simp
theorem allTo_end {g : ByteArray} {pos : Nat} (hp : ¬ pos < g.size) : allTo g pos = (bs g).all digB := by
  have hl := bs_len g
  unfold allTo
  rw [List.take_of_length_le (by omega)]
instance (r : Nat) : Decidable (digR r) := by unfold digR; exact inferInstance
theorem rune_dig {g : ByteArray} {pos : Nat} (hp : pos < g.size) (hr : hostR (Utf8.decode g pos).1) : digB (g[pos]'hp) = decide (digR (Utf8.decode g pos).1) := by
  rcases decode_cases g pos hp with ⟨e, _⟩ | ⟨h1, _, h2⟩
  · rw [e, Bool.eq_iff_iff, decide_eq_true_eq]; exact digK.iff _
  · exact absurd hr (hostK.low _ h1)

def VIter (g : ByteArray) (e : Bool) (k B : Nat) (w wi : World) : Prop := ∃ pos : Nat, wi.heap[k]? = some (.stringIter g pos) ∧ Sofar hostB g pos ∧ e = allTo g pos ∧ Below B w wi

/-- A text cut at a byte, split at dots. -/
structure Cut (s : ByteArray) (c : UInt8) (k : Nat) (gs : List ByteArray) : Prop where
  split : 0 ≤ idx1 c (bs s) → PFnJUUID.jsonschema_zzSplit.f k (s.extract ((idx1 c (bs s)).toNat + 1) s.size) ⟨#[46]⟩ = some gs
  map : 0 ≤ idx1 c (bs s) → gs.map bs = splitL 46 ((bs s).drop ((idx1 c (bs s)).toNat + 1))
  few : gs.length ≤ 4294967296

theorem Cut.mk_ (s : ByteArray) (c : UInt8) (hs : s.size ≤ 2147483647) : ∃ k gs, Cut s c k gs := by
  by_cases h : 0 ≤ idx1 c (bs s)
  · have hsz : (s.extract ((idx1 c (bs s)).toNat + 1) s.size).size ≤ 2147483647 := by rw [ByteArray.size_extract]; omega
    obtain ⟨gs, ⟨K, hK⟩, hg⟩ := Split.zzSplit_ev (s.extract ((idx1 c (bs s)).toNat + 1) s.size) ⟨#[46]⟩ 46 (by decide) (by omega)
    refine ⟨K, gs, fun _ => hK K (Nat.le_refl _), fun _ => by rw [hg, bs_drop], ?_⟩
    have h1 := split_length 46 (bs (s.extract ((idx1 c (bs s)).toNat + 1) s.size))
    rw [← hg, List.length_map, bs_len] at h1
    omega
  · exact ⟨0, [], fun k => absurd k h, fun k => absurd k h, by simp⟩

/-- What a text is cut into. -/
structure At (s : ByteArray) (c : UInt8) (i : Int) (k : Nat) (gs : List ByteArray) : Prop where
  idx : idx1 c (bs s) = i
  lo : -1 ≤ i
  hi : i < s.size ∨ i < 0
  few : gs.length ≤ 4294967296
  some_ : ∀ j : Nat, i = j → PFnJUUID.jsonschema_zzSplit.f k (s.extract (j + 1) s.size) ⟨#[46]⟩ = some gs ∧ gs.map bs = splitL 46 ((bs s).drop (j + 1)) ∧ before c (bs s) = bs (s.extract 0 j) ∧ after c (bs s) = some ((bs s).drop (j + 1))
  none_ : i < 0 → before c (bs s) = bs s ∧ after c (bs s) = none

theorem At.mk_ (s : ByteArray) (c : UInt8) (hs : s.size ≤ 2147483647) : ∃ i k gs, At s c i k gs := by
  obtain ⟨k, gs, h⟩ := Cut.mk_ s c hs
  have hl := bs_len s
  have h1 := idx1_lo c (bs s)
  have h2 := idx1_hi c (bs s)
  refine ⟨idx1 c (bs s), k, gs, rfl, h1, by rw [hl] at h2; exact h2, h.few, ?_, ?_⟩
  · intro j hj
    have hge : 0 ≤ idx1 c (bs s) := by omega
    have e := h.split hge
    have e2 := h.map hge
    rw [hj] at e e2
    simp only [Int.toNat_natCast] at e e2
    refine ⟨e, e2, ?_, ?_⟩
    · unfold before; rw [if_neg (by omega), hj, bs_take]; simp
    · unfold after; rw [if_neg (by omega), hj]; simp
  · intro hn
    unfold before after
    rw [if_pos hn, if_pos hn]
    exact ⟨rfl, rfl⟩


theorem not_build {g : List UInt8} (ls : List UInt8) (h : g ∈ splitL 46 ls) (hn : ¬ buildId g) (o : Option (List UInt8)) (ho : o = some ls) : ¬ buildOk o := fun hh => hn (hh ls ho g h)
theorem not_pre {g : List UInt8} (ls : List UInt8) (h : g ∈ splitL 46 ls) (hn : ¬ preId g) (o : Option (List UInt8)) (ho : o = some ls) : ¬ preOk o := fun hh => hn (hh ls ho g h)
theorem in_split {gs : List ByteArray} {ls : List UInt8} (h : gs.map bs = splitL 46 ls) {n : Nat} (hn : n < gs.length) : bs (gs.getD n ⟨#[]⟩) ∈ splitL 46 ls := by
  have hl : (splitL 46 ls).length = gs.length := by rw [← h, List.length_map]
  rw [← getD_bs h]
  exact mem_getD.2 ⟨n, by omega, rfl⟩
theorem VIter.start {g : ByteArray} {B : Nat} {w wr : World} (h0 : Below B w wr) (h1 : B ≤ wr.heap.size) : VIter g true wr.heap.size B w (wr.iter g 0) :=
  ⟨0, World.iter_heap wr g 0, Sofar.zero _ _, by simp [allTo], h0.alloc h1 _⟩
theorem emp_true {g : ByteArray} (h : g.size = 0) : g.toList.isEmpty = true := by
  rw [ByteArray.toList_eq, bs_data, bs_nil.2 h]; rfl
theorem emp_false {g : ByteArray} (h : g.size ≠ 0) : g.toList.isEmpty = false := by
  rw [ByteArray.toList_eq, bs_data, List.isEmpty_eq_false_iff]
  exact fun e => h (bs_nil.1 e)

set_option maxHeartbeats 8000000 in
set_option maxRecDepth 100000 in
theorem valSem (s : ByteArray) (w : World) (hs : s.size ≤ 2147483647) :
    Calls Try.prog 60 #[.iface 9 (.string s)] w fun e w' => Res (semOk (bs s)) e ∧ Below w.heap.size w w' := by
  have hta := asStr s
  obtain ⟨i1, k1, gs1, hc1⟩ := At.mk_ s 43 hs
  have lo1 := hc1.lo
  have hi1 := hc1.hi
  have few1 := hc1.few
  have HC1 := Lib.hid hc1
  clear hc1
  go_enter Try.func60, Try.ntmps60
  go_wp2_with fail
  refine (idxB s 43 43 i1 _ rfl HC1.out.idx).mono ?_
  rintro e w' ⟨rfl, rfl⟩
  go_upto_if 34 with fail
  clear hta
  go_cut [3] (fun v wc => ∃ s1 : ByteArray, v = .string s1 ∧ Aside0 (bs s1 = before 43 (bs s)) ∧ s1.size ≤ 2147483647 ∧ Aside0 (buildOk (after 43 (bs s))) ∧ Aside0 (Below w.heap.size w wc))
  case first =>
    by_cases hneg : i1 < 0
    · obtain ⟨hb1, ha1⟩ := HC1.out.none_ hneg
      have hbi : (i1 != -1) = false := by rw [bne_eq_false_iff_eq]; omega
      have HB1 := Lib.hid hb1
      have HA1 := Lib.hid ha1
      clear hb1 ha1
      go_wp2_with fail
      go_meet
      exact ⟨s, rfl, ⟨HB1.out.symm⟩, hs, ⟨by rw [HA1.out]; exact fun r h => by cases h⟩, ⟨Below.refl _ _⟩⟩
    · obtain ⟨j, rfl⟩ := Int.eq_ofNat_of_zero_le (by omega : 0 ≤ i1)
      have hj : j < s.size := by omega
      have hbi : ((j : Int) != -1) = true := by rw [bne_iff_ne]; omega
      have HX := Lib.hid (HC1.out.some_ j rfl)
      clear hneg
      by_cases hemp : j + 1 = s.size
      · have hE : (s.extract (j + 1) s.size).toList.isEmpty = true := by
          rw [ByteArray.toList_eq, bs_data, bs_drop, List.drop_of_length_le (by rw [bs_len]; omega)]; rfl
        have HEM := Lib.hid hemp
        clear hemp
        go_wp2_with fail
        refine (locErr _ _ _).mono ?_
        rintro e w' ⟨⟨T, a, rfl⟩, hb⟩
        go_wp2_with fail
        go_ret
        refine ⟨resErr (fun hh => ?_), hb⟩
        have h1 := hh.1 _ HX.out.2.2.2
        rw [List.drop_of_length_le (by rw [bs_len, HEM.out]; exact Nat.le_refl _)] at h1
        exact (h1 [] (by simp [splitL])).1 rfl
      · have hE : (s.extract (j + 1) s.size).toList.isEmpty = false := by
          rw [ByteArray.toList_eq, bs_data, bs_drop, List.isEmpty_eq_false_iff]
          intro h
          have := congrArg List.length h
          rw [List.length_drop, bs_len] at this
          simp at this; omega
        go_wp2_with fail
        refine (PFnJUUID.jsonschema_zzSplit.calls k1 _ ⟨#[46]⟩ gs1 _ HX.out.1).mono ?_
        rintro e w1 ⟨v, rfl, hR, hb⟩
        obtain ⟨A, c, rfl, hlc, hC⟩ := Kd.R_reads hR
        have hsz1 : w.heap.size ≤ w1.heap.size := hb.size
        clear hR
        go_wp2_with fail
        go_loopw [45] (fun i wr => ∃ n : Nat, n ≤ gs1.length ∧ i = .int .i64 n ∧ Aside0 (∀ m, m < n → buildId (bs (gs1.getD m ⟨#[]⟩))) ∧ Aside0 (Below w1.heap.size w1 wr)) (fun i _ => gs1.length - (intOf i).toNat)
        case atStart => exact ⟨0, by omega, rfl, ⟨fun m hm => by omega⟩, ⟨Below.refl _ _⟩⟩
        case round =>
          obtain ⟨n, hn, rfl, HA, HB⟩ := hrel
          have hszr : w1.heap.size ≤ wr.heap.size := HB.out.size
          have hbr : Below w.heap.size w wr := fin0 hb hsz1 HB.out
          by_cases hlt : n < gs1.length
          · have hd1 : decide ((n : Int) < (gs1.length : Int)) = true := decide_eq_true (by omega)
            obtain ⟨ad, rfl, hcell⟩ := str_at hC HB.out n hlt
            obtain ⟨g, hg⟩ : ∃ g, g = gs1.getD n ⟨#[]⟩ := ⟨_, rfl⟩
            rw [← hg] at hcell
            have hin : bs g ∈ splitL 46 ((bs s).drop (j + 1)) := by rw [hg]; exact in_split HX.out.2.1 hlt
            have HIN := Lib.hid hin
            have HG := Lib.hid hg
            clear hg hin
            by_cases hg0 : g.size = 0
            · have hE2 := emp_true hg0
              have HG0 := Lib.hid hg0
              clear hg0
              go_wp2_with fail
              refine (locErr _ _ _).mono ?_
              rintro e w' ⟨⟨T, a, rfl⟩, hb⟩
              go_wp2_with fail
              go_ret

              exact ⟨resErr (fun hh => not_build _ HIN.out (fun k => k.1 (bs_nil.2 HG0.out)) _ HX.out.2.2.2 hh.1), fin0 hbr hbr.size hb⟩
            · have hE2 := emp_false hg0
              go_wp2_with fail
              obtain ⟨wo, rfl⟩ : ∃ wo : World, wo = wr := ⟨_, rfl⟩
              go_loopw [] (fun wi => Aside0 (Iter hostB g wo.heap.size w1.heap.size w1 wi)) (fun wi => g.size - wi.iterPos wo.heap.size)
              case atStart => exact ⟨Iter.start HB.out hszr⟩
              case round =>
                obtain ⟨⟨pos, hit, HS0, HB4⟩⟩ := hrel
                have HS := Lib.hid HS0
                clear HS0
                by_cases hp : pos < g.size
                · have hnx : ∀ ty, (Instr.next (.pointer (some ⟨wo.heap.size, 0, none⟩)) true ty).run Try.prog wr = _ := fun ty => Lib.run_next_any_at wr wo.heap.size g pos ty hit hp
                  have hB5 : Below w1.heap.size w1 (wr.iterAt wo.heap.size g (pos + (Utf8.decode g pos).2)) := Lib.below_iterAt HB4 hszr g _
                  have hs5 : w1.heap.size ≤ (wr.iterAt wo.heap.size g (pos + (Utf8.decode g pos).2)).heap.size := hB5.size
                  have hb5 : Below w.heap.size w (wr.iterAt wo.heap.size g (pos + (Utf8.decode g pos).2)) := fin0 hb hsz1 hB5
                  have hcl : hostR (Utf8.decode g pos).1 ∨ ¬ hostR (Utf8.decode g pos).1 := Classical.em _
                  have hcs : ((48 ≤ (Utf8.decode g pos).1 ∧ (Utf8.decode g pos).1 ≤ 57) ∨ (97 ≤ (Utf8.decode g pos).1 ∧ (Utf8.decode g pos).1 ≤ 122) ∨ (65 ≤ (Utf8.decode g pos).1 ∧ (Utf8.decode g pos).1 ≤ 90) ∨ (Utf8.decode g pos).1 = 45) ∨
                      ((Utf8.decode g pos).1 < 45 ∨ (45 < (Utf8.decode g pos).1 ∧ (Utf8.decode g pos).1 < 48) ∨ (57 < (Utf8.decode g pos).1 ∧ (Utf8.decode g pos).1 < 65) ∨ (90 < (Utf8.decode g pos).1 ∧ (Utf8.decode g pos).1 < 97) ∨ 122 < (Utf8.decode g pos).1) := by omega
                  clear hcl
                  rcases hcs with hcs | hcs
                  · have hr : hostR (Utf8.decode g pos).1 := by unfold hostR; omega
                    obtain ⟨h1, h2⟩ := hostK.step hp hr HS.out
                    have H1 := Lib.hid h1
                    have H2 := Lib.hid h2
                    have HR := Lib.hid hr
                    clear h1 h2 hr
                    rcases hcs with ⟨hlo, hhi⟩ | ⟨hlo, hhi⟩ | ⟨hlo, hhi⟩ | heq
                    · go_wp2_with fail
                      go_roundw
                      case rel => exact ⟨⟨_, Lib.iterAt_heap wr wo.heap.size g pos _ hit, H2.out, hB5⟩⟩
                      case measure =>
                        rw [iterPos_of (Lib.iterAt_heap wr wo.heap.size g pos _ hit), iterPos_of hit, H1.out]
                        omega
                    · go_wp2_with fail
                      go_roundw
                      case rel => exact ⟨⟨_, Lib.iterAt_heap wr wo.heap.size g pos _ hit, H2.out, hB5⟩⟩
                      case measure =>
                        rw [iterPos_of (Lib.iterAt_heap wr wo.heap.size g pos _ hit), iterPos_of hit, H1.out]
                        omega
                    · go_wp2_with fail
                      go_roundw
                      case rel => exact ⟨⟨_, Lib.iterAt_heap wr wo.heap.size g pos _ hit, H2.out, hB5⟩⟩
                      case measure =>
                        rw [iterPos_of (Lib.iterAt_heap wr wo.heap.size g pos _ hit), iterPos_of hit, H1.out]
                        omega
                    · have heb : (((Utf8.decode g pos).1 : Int) == 45) = true := by rw [beq_iff_eq]; omega
                      have hlo : 45 ≤ (Utf8.decode g pos).1 := by omega
                      have hhi : (Utf8.decode g pos).1 ≤ 45 := by omega
                      clear heq
                      go_wp2_with fail
                      go_roundw
                      case rel => exact ⟨⟨_, Lib.iterAt_heap wr wo.heap.size g pos _ hit, H2.out, hB5⟩⟩
                      case measure =>
                        rw [iterPos_of (Lib.iterAt_heap wr wo.heap.size g pos _ hit), iterPos_of hit, H1.out]
                        omega
                  · have hr : ¬ hostR (Utf8.decode g pos).1 := by unfold hostR; omega
                    have heb : (((Utf8.decode g pos).1 : Int) == 45) = false := by rw [beq_eq_false_iff_ne]; omega
                    have HR := Lib.hid hr
                    clear hr
                    rcases hcs with hlo | ⟨hlo, hhi⟩ | ⟨hlo, hhi⟩ | ⟨hlo, hhi⟩ | hlo
                    all_goals
                      go_wp2_with fail
                      refine (locErr _ _ _).mono ?_
                      rintro e w' ⟨⟨T, a, rfl⟩, hb⟩
                      go_wp2_with fail
                      go_ret
                      exact ⟨resErr (fun hh => not_build _ HIN.out (fun k => hostK.fail hp HR.out k.2) _ HX.out.2.2.2 hh.1), fin1 hb5 hb5.size hb⟩
                · have hnx : ∀ ty, (Instr.next (.pointer (some ⟨wo.heap.size, 0, none⟩)) true ty).run Try.prog wr = _ := fun ty => Lib.run_next_end_at wr wo.heap.size g pos ty hit hp
                  go_wp2_with fail
                  go_roundw
                  case rel => exact ⟨n + 1, by omega, by go_num, ⟨fun m hm => by
                    by_cases e : m = n
                    · subst e; rw [← HG.out]; exact ⟨fun k => hg0 (bs_nil.1 k), HS.out.all hp⟩
                    · exact HA.out m (by omega)⟩, ⟨HB4⟩⟩
                  case measure => simp [intOf]; omega
          · have hd1 : decide ((n : Int) < (gs1.length : Int)) = false := decide_eq_false (by omega)
            obtain rfl : n = gs1.length := by omega
            go_wp2_with fail
            go_meet
            refine ⟨s.extract 0 j, rfl, ⟨HX.out.2.2.1.symm⟩, by rw [ByteArray.size_extract]; omega, ⟨?_⟩, ⟨hbr⟩⟩
            intro r hr
            rw [HX.out.2.2.2] at hr
            obtain rfl := Option.some.inj hr
            rw [all_split HX.out.2.1 buildId]
            exact HA.out
  case rest =>
    obtain ⟨s1, rfl, HS1, hs1, HBU, HBW⟩ := hcut
    obtain ⟨i2, k2, gs2, hc2⟩ := At.mk_ s1 45 hs1
    have lo2 := hc2.lo
    have hi2 := hc2.hi
    have few2 := hc2.few
    have HC2 := Lib.hid hc2
    clear hc2 HC1 lo1 hi1 few1
    go_wp2_with fail
    refine (idxB s1 45 45 i2 _ rfl HC2.out.idx).mono ?_
    rintro e w' ⟨rfl, rfl⟩
    go_upto_if 94 with fail
    go_cut [3] (fun v wd => ∃ s2 : ByteArray, v = .string s2 ∧ Aside0 (bs s2 = before 45 (bs s1)) ∧ s2.size ≤ 2147483647 ∧ Aside0 (preOk (after 45 (bs s1))) ∧ Aside0 (Below w.heap.size w wd))
    case first =>
      by_cases hneg : i2 < 0
      · obtain ⟨hb1, ha1⟩ := HC2.out.none_ hneg
        have hbi : (i2 != -1) = false := by rw [bne_eq_false_iff_eq]; omega
        have HB1 := Lib.hid hb1
        have HA1 := Lib.hid ha1
        clear hb1 ha1
        go_wp2_with fail
        go_meet
        exact ⟨s1, rfl, ⟨HB1.out.symm⟩, hs1, ⟨by rw [HA1.out]; exact fun r h => by cases h⟩, HBW⟩
      · obtain ⟨j, rfl⟩ := Int.eq_ofNat_of_zero_le (by omega : 0 ≤ i2)
        have hj : j < s1.size := by omega
        have hbi : ((j : Int) != -1) = true := by rw [bne_iff_ne]; omega
        have HX := Lib.hid (HC2.out.some_ j rfl)
        clear hneg
        go_wp2_with fail
        refine (PFnJUUID.jsonschema_zzSplit.calls k2 _ ⟨#[46]⟩ gs2 _ HX.out.1).mono ?_
        rintro e w1 ⟨v, rfl, hR, hb⟩
        obtain ⟨A, c, rfl, hlc, hC⟩ := Kd.R_reads hR
        have hb := fin0 HBW.out HBW.out.size hb
        have hsz1 : w.heap.size ≤ w1.heap.size := hb.size
        clear hR
        go_wp2_with fail
        go_loopw [102] (fun i wr => ∃ n : Nat, n ≤ gs2.length ∧ i = .int .i64 n ∧ Aside0 (∀ m, m < n → preId (bs (gs2.getD m ⟨#[]⟩))) ∧ Aside0 (Below w1.heap.size w1 wr)) (fun i _ => gs2.length - (intOf i).toNat)
        case atStart => exact ⟨0, by omega, rfl, ⟨fun m hm => by omega⟩, ⟨Below.refl _ _⟩⟩
        case round =>
          obtain ⟨n, hn, rfl, HA, HB⟩ := hrel
          have hszr : w1.heap.size ≤ wr.heap.size := HB.out.size
          have hbr : Below w.heap.size w wr := fin0 hb hsz1 HB.out
          by_cases hlt : n < gs2.length
          · have hd1 : decide ((n : Int) < (gs2.length : Int)) = true := decide_eq_true (by omega)
            obtain ⟨ad, rfl, hcell⟩ := str_at hC HB.out n hlt
            obtain ⟨g, hg⟩ : ∃ g, g = gs2.getD n ⟨#[]⟩ := ⟨_, rfl⟩
            rw [← hg] at hcell
            have hin : bs g ∈ splitL 46 ((bs s1).drop (j + 1)) := by rw [hg]; exact in_split HX.out.2.1 hlt
            have HIN := Lib.hid hin
            have HG := Lib.hid hg
            clear hg hin
            by_cases hg0 : g.size = 0
            · have hE2 := emp_true hg0
              have HG0 := Lib.hid hg0
              clear hg0
              go_wp2_with fail
              refine (locErr _ _ _).mono ?_
              rintro e w' ⟨⟨T, a, rfl⟩, hb⟩
              go_wp2_with fail
              go_ret

              exact ⟨resErr (fun hh => not_pre _ HIN.out (fun k => k.1.1 (bs_nil.2 HG0.out)) _ HX.out.2.2.2 (by have := hh.2.1; rw [← HS1.out] at this; exact this)), fin0 hbr hbr.size hb⟩
            · have hE2 := emp_false hg0
              go_wp2_with fail
              obtain ⟨wo, rfl⟩ : ∃ wo : World, wo = wr := ⟨_, rfl⟩
              go_loopw [15] (fun ev wi => ∃ e : Bool, ev = .bool e ∧ Aside0 (VIter g e wo.heap.size w1.heap.size w1 wi)) (fun _ wi => g.size - wi.iterPos wo.heap.size)
              case atStart => exact ⟨true, rfl, ⟨VIter.start HB.out hszr⟩⟩
              case round =>
                obtain ⟨e, rfl, ⟨pos, hit, HS0, hea, HB4⟩⟩ := hrel
                have HS := Lib.hid HS0
                have HEA := Lib.hid hea
                clear HS0 hea
                by_cases hp : pos < g.size
                · have hnx : ∀ ty, (Instr.next (.pointer (some ⟨wo.heap.size, 0, none⟩)) true ty).run Try.prog wr = _ := fun ty => Lib.run_next_any_at wr wo.heap.size g pos ty hit hp
                  have hB5 : Below w1.heap.size w1 (wr.iterAt wo.heap.size g (pos + (Utf8.decode g pos).2)) := Lib.below_iterAt HB4 hszr g _
                  have hs5 : w1.heap.size ≤ (wr.iterAt wo.heap.size g (pos + (Utf8.decode g pos).2)).heap.size := hB5.size
                  have hb5 : Below w.heap.size w (wr.iterAt wo.heap.size g (pos + (Utf8.decode g pos).2)) := fin0 hb hsz1 hB5
                  have hcs : ((48 ≤ (Utf8.decode g pos).1 ∧ (Utf8.decode g pos).1 ≤ 57) ∨ (97 ≤ (Utf8.decode g pos).1 ∧ (Utf8.decode g pos).1 ≤ 122) ∨ (65 ≤ (Utf8.decode g pos).1 ∧ (Utf8.decode g pos).1 ≤ 90) ∨ (Utf8.decode g pos).1 = 45) ∨
                      ((Utf8.decode g pos).1 < 45 ∨ (45 < (Utf8.decode g pos).1 ∧ (Utf8.decode g pos).1 < 48) ∨ (57 < (Utf8.decode g pos).1 ∧ (Utf8.decode g pos).1 < 65) ∨ (90 < (Utf8.decode g pos).1 ∧ (Utf8.decode g pos).1 < 97) ∨ 122 < (Utf8.decode g pos).1) := by omega
                  rcases hcs with hcs | hcs
                  · have hr : hostR (Utf8.decode g pos).1 := by unfold hostR; omega
                    obtain ⟨h1, h2⟩ := hostK.step hp hr HS.out
                    have hdig : allTo g (pos + (Utf8.decode g pos).2) = (e && decide (digR (Utf8.decode g pos).1)) := by
                      rw [h1, allTo_step hp, ← HEA.out, rune_dig hp hr]
                    have HDIG := Lib.hid hdig
                    have H1 := Lib.hid h1
                    have H2 := Lib.hid h2
                    have HR := Lib.hid hr
                    clear h1 h2 hr hdig
                    rcases hcs with ⟨hlo, hhi⟩ | ⟨hlo, hhi⟩ | ⟨hlo, hhi⟩ | heq
                    · have hd : decide (digR (Utf8.decode g pos).1) = true := decide_eq_true ⟨hlo, hhi⟩
                      have HDD := Lib.hid hd
                      clear hd
                      go_wp2_with fail
                      go_roundw
                      case rel => exact ⟨e, rfl, ⟨_, Lib.iterAt_heap wr wo.heap.size g pos _ hit, H2.out, by rw [HDIG.out, HDD.out, Bool.and_true], hB5⟩⟩
                      case measure =>
                        rw [iterPos_of (Lib.iterAt_heap wr wo.heap.size g pos _ hit), iterPos_of hit, H1.out]
                        omega
                    · have hd : decide (digR (Utf8.decode g pos).1) = false := decide_eq_false (fun k => by unfold digR at k; omega)
                      have HDD := Lib.hid hd
                      clear hd
                      go_wp2_with fail
                      go_roundw
                      case rel => exact ⟨false, rfl, ⟨_, Lib.iterAt_heap wr wo.heap.size g pos _ hit, H2.out, by rw [HDIG.out, HDD.out, Bool.and_false], hB5⟩⟩
                      case measure =>
                        rw [iterPos_of (Lib.iterAt_heap wr wo.heap.size g pos _ hit), iterPos_of hit, H1.out]
                        omega
                    · have hd : decide (digR (Utf8.decode g pos).1) = false := decide_eq_false (fun k => by unfold digR at k; omega)
                      have HDD := Lib.hid hd
                      clear hd
                      go_wp2_with fail
                      go_roundw
                      case rel => exact ⟨false, rfl, ⟨_, Lib.iterAt_heap wr wo.heap.size g pos _ hit, H2.out, by rw [HDIG.out, HDD.out, Bool.and_false], hB5⟩⟩
                      case measure =>
                        rw [iterPos_of (Lib.iterAt_heap wr wo.heap.size g pos _ hit), iterPos_of hit, H1.out]
                        omega
                    · have heb : (((Utf8.decode g pos).1 : Int) == 45) = true := by rw [beq_iff_eq]; omega
                      have hlo : 45 ≤ (Utf8.decode g pos).1 := by omega
                      have hhi : (Utf8.decode g pos).1 ≤ 45 := by omega
                      have hd : decide (digR (Utf8.decode g pos).1) = false := decide_eq_false (fun k => by unfold digR at k; omega)
                      have HDD := Lib.hid hd
                      clear hd heq
                      go_wp2_with fail
                      go_roundw
                      case rel => exact ⟨false, rfl, ⟨_, Lib.iterAt_heap wr wo.heap.size g pos _ hit, H2.out, by rw [HDIG.out, HDD.out, Bool.and_false], hB5⟩⟩
                      case measure =>
                        rw [iterPos_of (Lib.iterAt_heap wr wo.heap.size g pos _ hit), iterPos_of hit, H1.out]
                        omega
                  · have hr : ¬ hostR (Utf8.decode g pos).1 := by unfold hostR; omega
                    have heb : (((Utf8.decode g pos).1 : Int) == 45) = false := by rw [beq_eq_false_iff_ne]; omega
                    have HR := Lib.hid hr
                    clear hr
                    rcases hcs with hlo | ⟨hlo, hhi⟩ | ⟨hlo, hhi⟩ | ⟨hlo, hhi⟩ | hlo
                    all_goals
                      go_wp2_with fail
                      refine (locErr _ _ _).mono ?_
                      rintro e w' ⟨⟨T, a, rfl⟩, hb⟩
                      go_wp2_with fail
                      go_ret
                      exact ⟨resErr (fun hh => not_pre _ HIN.out (fun k => hostK.fail hp HR.out k.1.2) _ HX.out.2.2.2 (by have := hh.2.1; rw [← HS1.out] at this; exact this)), fin1 hb5 hb5.size hb⟩
                · have hnx : ∀ ty, (Instr.next (.pointer (some ⟨wo.heap.size, 0, none⟩)) true ty).run Try.prog wr = _ := fun ty => Lib.run_next_end_at wr wo.heap.size g pos ty hit hp
                  have hall : e = (bs g).all digB := by rw [HEA.out, allTo_end hp]
                  have HALL := Lib.hid hall
                  have hgl := bs_len g
                  have HGL := Lib.hid hgl
                  have hbo : Below w.heap.size w wr := fin0 hb hsz1 HB4
                  clear hall hgl
                  have hok : ¬ (e = true ∧ 1 < g.size ∧ (bs g).head? = some 48) → preId (bs g) := by
                    intro k
                    refine ⟨⟨fun k2 => hg0 (bs_nil.1 k2), HS.out.all hp⟩, fun k2 => k ?_⟩
                    rw [HALL.out]
                    exact ⟨k2.1, by rw [← HGL.out]; exact k2.2.1, k2.2.2⟩
                  have hg00 : 0 < g.size := by omega
                  have hhead := head_bs hg00
                  have HOK := Lib.hid hok
                  have HHEAD := Lib.hid hhead
                  clear hok hhead
                  cases e with
                  | false =>
                    go_wp2_with fail
                    go_roundw
                    case rel => exact ⟨n + 1, by omega, by go_num, ⟨fun m hm => by
                      by_cases e : m = n
                      · subst e; rw [← HG.out]; exact HOK.out (fun k => by cases k.1)
                      · exact HA.out m (by omega)⟩, ⟨HB4⟩⟩
                    case measure => simp [intOf]; omega
                  | true =>
                    by_cases h1 : 1 < g.size
                    · by_cases h48 : (g[0]'hg00).toNat = 48
                      · have hb48 : (((g[0]'hg00).toNat : Int) == 48) = true := by rw [beq_iff_eq]; omega
                        have H48 := Lib.hid h48
                        clear h48
                        go_wp2_with fail
                        refine (locErr _ _ _).mono ?_
                        rintro e w' ⟨⟨T, a, rfl⟩, hb⟩
                        go_wp2_with fail
                        go_ret

                        refine ⟨resErr (fun hh => not_pre _ HIN.out (fun k => k.2 ⟨HALL.out.symm, by rw [HGL.out]; exact h1, ?_⟩) _ HX.out.2.2.2 (by have := hh.2.1; rw [← HS1.out] at this; exact this)), fin0 hbo hbo.size hb⟩
                        rw [HHEAD.out]; congr 1; exact UInt8.toNat_inj.1 H48.out
                      · have hb48 : (((g[0]'hg00).toNat : Int) == 48) = false := by rw [beq_eq_false_iff_ne]; omega
                        go_wp2_with fail
                        go_roundw
                        case rel => exact ⟨n + 1, by omega, by go_num, ⟨fun m hm => by
                          by_cases e : m = n
                          · subst e; rw [← HG.out]; exact HOK.out (fun k => by have := k.2.2; rw [HHEAD.out] at this; exact h48 (by rw [Option.some.inj this]; rfl))
                          · exact HA.out m (by omega)⟩, ⟨HB4⟩⟩
                        case measure => simp [intOf]; omega
                    · go_wp2_with fail
                      go_roundw
                      case rel => exact ⟨n + 1, by omega, by go_num, ⟨fun m hm => by
                        by_cases e : m = n
                        · subst e; rw [← HG.out]; exact HOK.out (fun k => h1 k.2.1)
                        · exact HA.out m (by omega)⟩, ⟨HB4⟩⟩
                      case measure => simp [intOf]; omega
          · have hd1 : decide ((n : Int) < (gs2.length : Int)) = false := decide_eq_false (by omega)
            obtain rfl : n = gs2.length := by omega
            go_wp2_with fail
            go_meet
            refine ⟨s1.extract 0 j, rfl, ⟨HX.out.2.2.1.symm⟩, by rw [ByteArray.size_extract]; omega, ⟨?_⟩, ⟨hbr⟩⟩
            intro r hr
            rw [HX.out.2.2.2] at hr
            obtain rfl := Option.some.inj hr
            rw [all_split HX.out.2.1 preId]
            exact HA.out
    case rest =>
      obtain ⟨s2, rfl, HS2, hs2, HPR, HBW2⟩ := hcut
      obtain ⟨gs, ⟨K, hK⟩, hg3⟩ := Split.zzSplit_ev s2 ⟨#[46]⟩ 46 (by decide) (by omega)
      have hl3 : gs.length = (splitL 46 (bs s2)).length := by rw [← hg3, List.length_map]
      have few3 : gs.length ≤ 4294967296 := by
        have h1 := split_length 46 (bs s2)
        rw [bs_len] at h1
        omega
      have HK := Lib.hid (hK K (Nat.le_refl _))
      have HG3 := Lib.hid hg3
      have HL3 := Lib.hid hl3
      have hsem : semOk (bs s) ↔ gs.length = 3 ∧ ∀ m, m < gs.length → coreId (bs (gs.getD m ⟨#[]⟩)) := by
        unfold semOk coreOk
        rw [← HS1.out, ← HS2.out, all_split hg3 coreId, ← hl3]
        exact ⟨fun h => h.2.2, fun h => ⟨HBU.out, HPR.out, h⟩⟩
      have HSEM := Lib.hid hsem
      have hb2 := HBW2.out
      clear hK hg3 hl3 hsem HC2 lo2 hi2 few2
      go_wp2_with fail
      refine (PFnJUUID.jsonschema_zzSplit.calls K s2 ⟨#[46]⟩ gs _ HK.out).mono ?_
      rintro e w1 ⟨v, rfl, hR, hb⟩
      obtain ⟨A, c, rfl, hlc, hC0⟩ := Kd.R_reads hR
      have hw1 := fin0 hb2 hb2.size hb
      have hsz1 : w.heap.size ≤ w1.heap.size := hw1.size
      clear hR hlc hb
      by_cases h3 : gs.length = 3
      · have h3b : ((gs.length : Int) != 3) = false := by rw [bne_eq_false_iff_eq]; omega
        go_wp2_with fail
        have hcn : ∀ j, (w1.alloc (.cells #[.string ⟨#[109, 97, 106, 111, 114]⟩, .string ⟨#[109, 105, 110, 111, 114]⟩, .string ⟨#[112, 97, 116, 99, 104]⟩] 9)).cell? ⟨w1.heap.size, j, none⟩ = (#[.string ⟨#[109, 97, 106, 111, 114]⟩, .string ⟨#[109, 105, 110, 111, 114]⟩, .string ⟨#[112, 97, 116, 99, 104]⟩] : Array Value)[j]? := cell_new w1 _ _
        have hC := Kd.C_below hC0 ((Below.refl w1.heap.size w1).alloc (Nat.le_refl _) (.cells #[.string ⟨#[109, 97, 106, 111, 114]⟩, .string ⟨#[109, 105, 110, 111, 114]⟩, .string ⟨#[112, 97, 116, 99, 104]⟩] 9))
        have hbn := hw1.alloc hsz1 (.cells #[.string ⟨#[109, 97, 106, 111, 114]⟩, .string ⟨#[109, 105, 110, 111, 114]⟩, .string ⟨#[112, 97, 116, 99, 104]⟩] 9)
        have hszn : w1.heap.size < (w1.alloc (.cells #[.string ⟨#[109, 97, 106, 111, 114]⟩, .string ⟨#[109, 105, 110, 111, 114]⟩, .string ⟨#[112, 97, 116, 99, 104]⟩] 9)).heap.size := by simp
        generalize w1.alloc (.cells #[.string ⟨#[109, 97, 106, 111, 114]⟩, .string ⟨#[109, 105, 110, 111, 114]⟩, .string ⟨#[112, 97, 116, 99, 104]⟩] 9) = wn at *
        have H3 := Lib.hid h3
        clear h3 hC0 h3b
        go_loopw [169] (fun i wr => ∃ n : Nat, n ≤ gs.length ∧ i = .int .i64 n ∧ Aside0 (∀ m, m < n → coreId (bs (gs.getD m ⟨#[]⟩))) ∧ Aside0 (Below wn.heap.size wn wr)) (fun i _ => gs.length - (intOf i).toNat)
        case atStart => exact ⟨0, by omega, rfl, ⟨fun m hm => by omega⟩, ⟨Below.refl _ _⟩⟩
        case round =>
          obtain ⟨n, hn, rfl, HA, HB⟩ := hrel
          have hszr : wn.heap.size ≤ wr.heap.size := HB.out.size
          have hbr : Below w.heap.size w wr := fin0 hbn (by omega) HB.out
          by_cases hlt : n < gs.length
          · have hd1 : decide ((n : Int) < (gs.length : Int)) = true := decide_eq_true (by omega)
            obtain ⟨ad, rfl, hcell⟩ := str_at hC HB.out n hlt
            have hn3 : n < 3 := by rw [← H3.out]; exact hlt
            obtain ⟨nm, hnm⟩ : ∃ nm, wr.cell? ⟨w1.heap.size, n, none⟩ = some (.string nm) := by
              rw [HB.out.cell (p := ⟨w1.heap.size, n, none⟩) hszn, hcn n]
              rcases (by omega : n = 0 ∨ n = 1 ∨ n = 2) with rfl | rfl | rfl <;> exact ⟨_, rfl⟩
            obtain ⟨g, hg⟩ : ∃ g, g = gs.getD n ⟨#[]⟩ := ⟨_, rfl⟩
            rw [← hg] at hcell
            have HG := Lib.hid hg
            clear hg
            have hno : ¬ coreId (bs g) → ¬ semOk (bs s) := by
              intro k1 k2
              rw [HSEM.out] at k2
              have := k2.2 n hlt
              rw [← HG.out] at this
              exact k1 this
            have HNO := Lib.hid hno
            clear hno
            by_cases hg0 : g.size = 0
            · have hE2 := emp_true hg0
              have HG0 := Lib.hid hg0
              clear hg0
              go_wp2_with fail
              refine (locErr _ _ _).mono ?_
              rintro e w' ⟨⟨T, a, rfl⟩, hb⟩
              go_wp2_with fail
              go_ret

              exact ⟨resErr (HNO.out (fun k => k.1 (bs_nil.2 HG0.out))), fin1 hbr hbr.size hb⟩
            · have hE2 := emp_false hg0
              have hg00 : 0 < g.size := by omega
              have hhead := head_bs hg00
              have hgl := bs_len g
              have HGL := Lib.hid hgl
              have HHEAD := Lib.hid hhead
              clear hhead hgl
              by_cases hbad : 1 < g.size ∧ (g[0]'hg00).toNat = 48
              · have h1 := hbad.1
                have hb48 : (((g[0]'hg00).toNat : Int) == 48) = true := by rw [beq_iff_eq]; have := hbad.2; omega
                have HBAD := Lib.hid hbad
                clear hbad
                go_wp2_with fail
                refine (locErr _ _ _).mono ?_
                rintro e w' ⟨⟨T, a, rfl⟩, hb⟩
                go_wp2_with fail
                go_ret

                refine ⟨resErr (HNO.out (fun k => k.2.1 ⟨by rw [HGL.out]; exact h1, ?_⟩)), fin1 hbr hbr.size hb⟩
                rw [HHEAD.out]; congr 1; exact UInt8.toNat_inj.1 HBAD.out.2
              · have hgood : ¬ (1 < (bs g).length ∧ (bs g).head? = some 48) := by
                  rw [HGL.out, HHEAD.out]
                  intro k
                  exact hbad ⟨k.1, by rw [Option.some.inj k.2]; rfl⟩
                have HGOOD := Lib.hid hgood
                clear hgood
                have hcase : (¬ 1 < g.size) ∨ (1 < g.size ∧ (((g[0]'hg00).toNat : Int) == 48) = false) := by
                  by_cases h1 : 1 < g.size
                  · exact .inr ⟨h1, by rw [beq_eq_false_iff_ne]; intro k; exact hbad ⟨h1, by omega⟩⟩
                  · exact .inl h1
                clear hbad
                rcases hcase with h1 | ⟨h1, hb48⟩
                all_goals
                  go_wp2_with fail
                  obtain ⟨wo, rfl⟩ : ∃ wo : World, wo = wr := ⟨_, rfl⟩
                  go_loopw [] (fun wi => Aside0 (Iter digB g wo.heap.size wn.heap.size wn wi)) (fun wi => g.size - wi.iterPos wo.heap.size)
                  case atStart => exact ⟨Iter.start HB.out hszr⟩
                  case round =>
                    obtain ⟨⟨pos, hit, HS0, HB4⟩⟩ := hrel
                    have HS := Lib.hid HS0
                    clear HS0
                    by_cases hp : pos < g.size
                    · have hnx : ∀ ty, (Instr.next (.pointer (some ⟨wo.heap.size, 0, none⟩)) true ty).run Try.prog wr = _ := fun ty => Lib.run_next_any_at wr wo.heap.size g pos ty hit hp
                      have hB5 : Below wn.heap.size wn (wr.iterAt wo.heap.size g (pos + (Utf8.decode g pos).2)) := Lib.below_iterAt HB4 hszr g _
                      have hs5 : wn.heap.size ≤ (wr.iterAt wo.heap.size g (pos + (Utf8.decode g pos).2)).heap.size := hB5.size
                      have hb5 : Below w.heap.size w (wr.iterAt wo.heap.size g (pos + (Utf8.decode g pos).2)) := fin0 hbn (by omega) hB5
                      have hnm5 : (wr.iterAt wo.heap.size g (pos + (Utf8.decode g pos).2)).cell? ⟨w1.heap.size, n, none⟩ = some (.string nm) := by
                        rw [hB5.cell (p := ⟨w1.heap.size, n, none⟩) hszn, ← HB.out.cell (p := ⟨w1.heap.size, n, none⟩) hszn]; exact hnm
                      rcases (by omega : (48 ≤ (Utf8.decode g pos).1 ∧ (Utf8.decode g pos).1 ≤ 57) ∨ (Utf8.decode g pos).1 < 48 ∨ 57 < (Utf8.decode g pos).1) with ⟨hlo, hhi⟩ | hr3
                      · obtain ⟨h1, h2⟩ := digK.step hp ⟨hlo, hhi⟩ HS.out
                        have H1 := Lib.hid h1
                        have H2 := Lib.hid h2
                        clear h1 h2
                        go_wp2_with fail
                        go_roundw
                        case rel => exact ⟨⟨_, Lib.iterAt_heap wr wo.heap.size g pos _ hit, H2.out, hB5⟩⟩
                        case measure =>
                          rw [iterPos_of (Lib.iterAt_heap wr wo.heap.size g pos _ hit), iterPos_of hit, H1.out]
                          omega
                      · have hr : ¬ digR (Utf8.decode g pos).1 := by unfold digR; omega
                        have HR := Lib.hid hr
                        clear hr
                        rcases hr3 with hr3 | hr3
                        all_goals
                          go_wp2_with fail
                          refine (locErr _ _ _).mono ?_
                          rintro e w' ⟨⟨T, a, rfl⟩, hb⟩
                          go_wp2_with fail
                          go_ret
                          exact ⟨resErr (HNO.out (fun k => digK.fail hp HR.out k.2.2)), fin1 hb5 hb5.size hb⟩
                    · have hnx : ∀ ty, (Instr.next (.pointer (some ⟨wo.heap.size, 0, none⟩)) true ty).run Try.prog wr = _ := fun ty => Lib.run_next_end_at wr wo.heap.size g pos ty hit hp
                      go_wp2_with fail
                      go_roundw
                      case rel => exact ⟨n + 1, by omega, by go_num, ⟨fun m hm => by
                        by_cases e : m = n
                        · subst e; rw [← HG.out]; exact ⟨fun k => hg0 (bs_nil.1 k), HGOOD.out, HS.out.all hp⟩
                        · exact HA.out m (by omega)⟩, ⟨HB4⟩⟩
                      case measure => simp [intOf]; omega
          · have hn3 : ¬ n < 3 := by rw [← H3.out]; exact hlt
            have hd13 : decide ((n : Int) < 3) = false := decide_eq_false (by omega)
            have hd1 : decide ((n : Int) < (gs.length : Int)) = false := decide_eq_false (by omega)
            go_wp2_with fail
            go_ret
            obtain rfl : n = gs.length := by omega
            exact ⟨resOk (HSEM.out.2 ⟨H3.out, HA.out⟩), hbr⟩
      · have h3b : ((gs.length : Int) != 3) = true := by rw [bne_iff_ne]; omega
        go_wp2_with fail
        refine (locErr _ _ _).mono ?_
        rintro e w' ⟨⟨T, a, rfl⟩, hb⟩
        go_wp2_with fail
        go_ret

        exact ⟨resErr (fun hh => h3 (HSEM.out.1 hh).1), fin0 hw1 hsz1 hb⟩

theorem isSem (s : ByteArray) (w : World) (hs : s.size ≤ 2147483647) : Calls Try.prog 44 #[.string s] w fun e w' => Says (semOk (bs s)) e ∧ Below w.heap.size w w' := by
  go_enter Try.func44, Try.ntmps44
  go_wp2_with fail
  refine (valSem s _ hs).mono ?_
  rintro e w1 ⟨hr, hb⟩
  rcases hr with ⟨hok, rfl⟩ | ⟨hok, ⟨T, a, rfl⟩⟩
  · go_wp2_with fail
    go_ret
    exact ⟨⟨_, rfl, by simp [hok]⟩, hb⟩
  · go_wp2_with fail
    go_ret
    exact ⟨⟨_, rfl, by simp [hok]⟩, hb⟩

theorem implSem (s : ByteArray) (w : World) (hs : s.size ≤ 2147483647) : Calls Try.prog 28 #[.string s] w fun e w' => Says (semOk (bs s)) e ∧ Below w.heap.size w w' := by
  go_enter Try.func28, Try.ntmps28
  go_wp2_with fail
  refine (isSem s _ hs).mono ?_
  rintro e w1 ⟨⟨b, rfl, hb1⟩, hb⟩
  have HB := Lib.hid hb1
  clear hb1
  go_wp2_with fail
  go_ret
  exact ⟨⟨_, rfl, HB.out⟩, hb⟩
end Go.Proofs.Ytdjmjgdafghdgaa.Fmt
