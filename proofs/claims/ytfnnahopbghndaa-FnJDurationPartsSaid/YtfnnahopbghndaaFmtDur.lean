/- validateDuration, IsDuration, impl.JDuration: what they answer. -/
import Derived.Test.YtfnnahopbghndaaFmtSemBase
import Derived.Test.YtfnnahopbghndaaPFnJDurationPartsx
import Derived.Deep.DeepCutAuto
import Derived.Outline
namespace Go.Proofs.Ytfnnahopbghndaa.Fmt
open Go.RowKit Go.Proofs.YtfnnahopbghndaaW.PrintWords Go.Proofs.YtfnnahopbghndaaW.PrintLast Go.Proofs.YtfnnahopbghndaaW.PrintMore Go.Proofs.Ytfnnahopbghndaa.K
set_option linter.unusedVariables false
set_option linter.unusedSimpArgs false

/-- A row of numbers, each with its unit, the units in the order given. -/
def durPart : Nat → List UInt8 → List UInt8 → Bool
  | 0, _, _ => false
  | k + 1, u, l => if l = [] then true else if digs l = 0 then false else match l.drop (digs l) with
    | [] => false
    | c :: r => if idx1 c u < 0 then false else durPart k (u.drop ((idx1 c u).toNat + 1)) r

theorem durPart_more (k : Nat) : ∀ (u l : List UInt8), l.length < k → durPart (k + 1) u l = durPart k u l := by
  induction k with
  | zero => intro u l h; omega
  | succ k ih =>
    intro u l h
    rw [durPart, durPart]
    by_cases h0 : l = []
    · rw [if_pos h0, if_pos h0]
    rw [if_neg h0, if_neg h0]
    by_cases hd : digs l = 0
    · rw [if_pos hd, if_pos hd]
    rw [if_neg hd, if_neg hd]
    cases hr : l.drop (digs l) with
    | nil => rfl
    | cons c r =>
      simp only
      split
      · rfl
      · apply ih
        have := congrArg List.length hr
        rw [List.length_drop, List.length_cons] at this
        omega
/-- With fuel enough. -/
def durP (u l : List UInt8) : Bool := durPart (l.length + 1) u l
theorem durPart_eq (u l : List UInt8) (k : Nat) (h : l.length < k) : durPart k u l = durP u l := by
  unfold durP
  induction k with
  | zero => omega
  | succ k ih =>
    by_cases e : l.length = k
    · rw [e]
    · rw [durPart_more k u l (by omega), ih (by omega)]

theorem durP_nil (u : List UInt8) : durP u [] = true := rfl
theorem durP_nodig (u l : List UInt8) (h : l ≠ []) (hd : digs l = 0) : durP u l = false := by
  unfold durP; rw [durPart, if_neg h, if_pos hd]
theorem durP_nounit (u l : List UInt8) (h : l ≠ []) (hr : l.drop (digs l) = []) : durP u l = false := by
  unfold durP; rw [durPart, if_neg h, hr]
  split <;> rfl
theorem durP_unit (u l : List UInt8) (c : UInt8) (r : List UInt8) (h : l ≠ []) (hd : digs l ≠ 0) (hr : l.drop (digs l) = c :: r) : durP u l = if idx1 c u < 0 then false else durP (u.drop ((idx1 c u).toNat + 1)) r := by
  have hl : r.length < l.length := by
    have := congrArg List.length hr
    rw [List.length_drop, List.length_cons] at this
    omega
  conv => lhs; unfold durP
  rw [durPart, if_neg h, if_neg hd, hr]
  simp only
  split
  · rfl
  · rw [durPart_eq _ _ _ hl]

/-- The units of a part. -/
def unitsOf (n : Nat) : List UInt8 := if n = 0 then [89, 77, 68] else [72, 77, 83]
def partOk (n : Nat) (l : List UInt8) : Prop := (n ≠ 0 → l ≠ []) ∧ n < 2 ∧ durP (unitsOf n) l = true
def durOk (l : List UInt8) : Prop := l.head? = some 80 ∧ l.drop 1 ≠ [] ∧
  if (l.drop 1).getLast? = some 87 then (l.drop 1).dropLast ≠ [] ∧ ∀ b ∈ (l.drop 1).dropLast, digB b = true
  else ∀ n, n < (splitL 84 (l.drop 1)).length → partOk n ((splitL 84 (l.drop 1)).getD n [])

theorem cutPrefix1 (s c : ByteArray) (x : UInt8) (hc : bs c = [x]) : ∃ r, PFnJDurationParts.strings_CutPrefix.f s c = some (r, decide ((bs s).head? = some x)) ∧ (bs r = if (bs s).head? = some x then (bs s).drop 1 else bs s) ∧ r.size ≤ s.size := by
  have hcs : c.size = 1 := by rw [← bs_len, hc]; rfl
  have hl := bs_len s
  have hp : PFnJDurationParts.stringslite_HasPrefix.f s c = some (decide ((bs s).head? = some x)) := by
    unfold PFnJDurationParts.stringslite_HasPrefix.f
    rw [hcs]
    by_cases h : (s.size : Int) ≥ ((1 : Nat) : Int)
    · rw [if_pos h, if_pos (by omega), if_pos (by omega)]
      congr 1
      rw [Bool.eq_iff_iff, beq_iff_eq, decide_eq_true_eq, toList_inj, hc]
      simp only [Int.toNat_natCast, bs_take]
      cases hb : bs s with
      | nil => rw [hb] at hl; simp at hl; omega
      | cons a l => simp
    · rw [if_neg h]
      congr 1
      have : bs s = [] := by apply List.eq_nil_of_length_eq_zero; omega
      rw [this]; simp
  unfold PFnJDurationParts.strings_CutPrefix.f PFnJDurationParts.stringslite_CutPrefix.f
  rw [hp, hcs]
  simp only [Option.bind_some, decide_eq_true_eq]
  by_cases h : (bs s).head? = some x
  · have h1 : 1 ≤ s.size := by
      rw [← hl]
      cases hb : bs s with
      | nil => rw [hb] at h; simp at h
      | cons a l => simp
    rw [if_pos h, if_pos (by omega), if_pos (by omega), if_pos h]
    refine ⟨s.extract 1 s.size, by simp [h], by rw [bs_drop], by rw [ByteArray.size_extract]; omega⟩
  · rw [if_neg h, if_neg h]
    exact ⟨s, by simp [h], rfl, Nat.le_refl _⟩

theorem cutSuffix1 (s c : ByteArray) (x : UInt8) (hc : bs c = [x]) (hs : s.size ≤ 34359738368) : ∃ r, PFnJDurationParts.strings_CutSuffix.f s c = some (r, decide ((bs s).getLast? = some x)) ∧ (bs r = if (bs s).getLast? = some x then (bs s).dropLast else bs s) ∧ r.size ≤ s.size := by
  have hcs : c.size = 1 := by rw [← bs_len, hc]; rfl
  have hl := bs_len s
  have hp : PFnJDurationParts.stringslite_HasSuffix.f s c = some (decide ((bs s).getLast? = some x)) := by
    unfold PFnJDurationParts.stringslite_HasSuffix.f
    rw [hcs]
    by_cases h : (s.size : Int) ≥ ((1 : Nat) : Int)
    · have e : wrap64 ((s.size : Int) - ((1 : Nat) : Int)) = ((s.size - 1 : Nat) : Int) := by rw [wrap_in (by omega) (by omega)]; omega
      rw [if_pos h, e, if_pos (by omega), if_pos (by omega)]
      congr 1
      rw [Bool.eq_iff_iff, beq_iff_eq, decide_eq_true_eq, toList_inj, hc]
      simp only [Int.toNat_natCast, bs_drop]
      rw [← last_drop _ _ (by omega), hl]
    · rw [if_neg h]
      congr 1
      have : bs s = [] := by apply List.eq_nil_of_length_eq_zero; omega
      rw [this]; simp
  unfold PFnJDurationParts.strings_CutSuffix.f PFnJDurationParts.stringslite_CutSuffix.f
  rw [hp, hcs]
  simp only [Option.bind_some, decide_eq_true_eq]
  by_cases h : (bs s).getLast? = some x
  · have h1 : 1 ≤ s.size := by
      rw [← hl]
      cases hb : bs s with
      | nil => rw [hb] at h; simp at h
      | cons a l => simp
    have e : wrap64 ((s.size : Int) - ((1 : Nat) : Int)) = ((s.size - 1 : Nat) : Int) := by rw [wrap_in (by omega) (by omega)]; omega
    rw [if_pos h, e, if_pos (by omega), if_pos (by omega), if_pos h]
    refine ⟨s.extract 0 (s.size - 1), by simp [h], ?_, by rw [ByteArray.size_extract]; omega⟩
    rw [bs_take, List.dropLast_eq_take, hl]
  · rw [if_neg h, if_neg h]
    exact ⟨s, by simp [h], rfl, Nat.le_refl _⟩

/-- The bytes of a slot that holds a string. -/
def slotLen : Value → Nat
  | .string s => s.size
  | _ => 0

set_option maxHeartbeats 8000000 in
set_option maxRecDepth 100000 in
theorem valDur (s : ByteArray) (w : World) (hs : s.size ≤ 17179869184) :
    Calls Try.prog 24 #[.iface 9 (.string s)] w fun e w' => Res (durOk (bs s)) e ∧ Below w.heap.size w w' := by
  have hta := asStr s
  obtain ⟨s1, hs1, hb1, hl1⟩ := cutPrefix1 s ⟨#[80]⟩ 80 (by decide)
  obtain ⟨s2, hs2, hb2, hl2⟩ := cutSuffix1 s1 ⟨#[87]⟩ 87 (by decide) (by omega)
  have HS1 := Lib.hid hs1
  have HB1 := Lib.hid hb1
  have HS2 := Lib.hid hs2
  have HB2 := Lib.hid hb2
  clear hs1 hb1 hs2 hb2
  have hbr : Below w.heap.size w w := Below.refl _ _
  go_enter Try.func24, Try.ntmps24
  go_wp2_with fail
  refine (PFnJDurationParts.strings_CutPrefix.calls s ⟨#[80]⟩ s1 _ _ HS1.out).mono ?_
  rintro e w0 ⟨rfl, ⟨n0, rfl⟩⟩
  clear hta
  have hbr := pw_below_drewN hbr n0
  generalize w.drewN n0 = w0 at *
  by_cases hP : (bs s).head? = some 80
  case neg =>
    have hdp : decide ((bs s).head? = some 80) = false := decide_eq_false hP
    go_wp2_with fail
    refine (locErr _ _ _).mono ?_
    rintro e w' ⟨⟨T, a, rfl⟩, hb⟩
    go_wp2_with fail
    go_ret
    exact ⟨resErr (fun hh => hP hh.1), fin0 hbr hbr.size hb⟩
  have hdp : decide ((bs s).head? = some 80) = true := decide_eq_true hP
  have hb1 := HB1.out
  rw [if_pos hP] at hb1
  have HP := Lib.hid hP
  have HB1 := Lib.hid hb1
  clear hP hb1
  by_cases h0 : s1.size = 0
  · have hE := emp_true h0
    have H0 := Lib.hid h0
    clear h0
    go_wp2_with fail
    refine (locErr _ _ _).mono ?_
    rintro e w' ⟨⟨T, a, rfl⟩, hb⟩
    go_wp2_with fail
    go_ret
    exact ⟨resErr (fun hh => hh.2.1 (by rw [← HB1.out]; exact bs_nil.2 H0.out)), fin0 hbr hbr.size hb⟩
  have hE := emp_false h0
  have hne : (bs s).drop 1 ≠ [] := by rw [← HB1.out]; exact fun k => h0 (bs_nil.1 k)
  have HNE := Lib.hid hne
  clear hne
  go_wp2_with fail
  refine (PFnJDurationParts.strings_CutSuffix.calls s1 ⟨#[87]⟩ s2 _ _ HS2.out).mono ?_
  rintro e wx ⟨rfl, ⟨n1, rfl⟩⟩
  have hbr := pw_below_drewN hbr n1
  generalize w0.drewN n1 = wa at *
  by_cases hW : (bs s1).getLast? = some 87
  · have hdw : decide ((bs s1).getLast? = some 87) = true := decide_eq_true hW
    have hb2 := HB2.out
    rw [if_pos hW] at hb2
    have hok : durOk (bs s) ↔ bs s2 ≠ [] ∧ ∀ b ∈ bs s2, digB b = true := by
      unfold durOk
      rw [← HB1.out, if_pos hW, ← hb2]
      exact ⟨fun h => h.2.2, fun h => ⟨HP.out, by rw [HB1.out]; exact HNE.out, h⟩⟩
    have HOK := Lib.hid hok
    clear hok hb2 hW
    by_cases h20 : s2.size = 0
    · have hE2 := emp_true h20
      have H20 := Lib.hid h20
      clear h20
      go_wp2_with fail
      refine (locErr _ _ _).mono ?_
      rintro e w' ⟨⟨T, a, rfl⟩, hb⟩
      go_wp2_with fail
      go_ret
      exact ⟨resErr (fun hh => (HOK.out.1 hh).1 (bs_nil.2 H20.out)), fin0 hbr hbr.size hb⟩
    · have hE2 := emp_false h20
      go_wp2_with fail
      have hsa : w.heap.size ≤ wa.heap.size := hbr.size
      go_loopw [] (fun wi => Aside0 (Iter digB s2 wa.heap.size w.heap.size w wi)) (fun wi => s2.size - wi.iterPos wa.heap.size)
      case atStart => exact ⟨Iter.start hbr hsa⟩
      case round =>
        obtain ⟨⟨pos, hit, HS0, HB4⟩⟩ := hrel
        have HS := Lib.hid HS0
        clear HS0
        by_cases hp : pos < s2.size
        · have hnx : ∀ ty, (Instr.next (.pointer (some ⟨wa.heap.size, 0, none⟩)) true ty).run Try.prog wr = _ := fun ty => Lib.run_next_any_at wr wa.heap.size s2 pos ty hit hp
          have hB5 : Below w.heap.size w (wr.iterAt wa.heap.size s2 (pos + (Utf8.decode s2 pos).2)) := Lib.below_iterAt HB4 hsa s2 _
          rcases (by omega : (48 ≤ (Utf8.decode s2 pos).1 ∧ (Utf8.decode s2 pos).1 ≤ 57) ∨ (Utf8.decode s2 pos).1 < 48 ∨ 57 < (Utf8.decode s2 pos).1) with ⟨hlo, hhi⟩ | hr3
          · obtain ⟨h1, h2⟩ := digK.step hp ⟨hlo, hhi⟩ HS.out
            have H1 := Lib.hid h1
            have H2 := Lib.hid h2
            clear h1 h2
            go_wp2_with fail
            go_roundw
            case rel => exact ⟨⟨_, Lib.iterAt_heap wr wa.heap.size s2 pos _ hit, H2.out, hB5⟩⟩
            case measure =>
              rw [iterPos_of (Lib.iterAt_heap wr wa.heap.size s2 pos _ hit), iterPos_of hit, H1.out]
              omega
          · have hr : ¬ digR (Utf8.decode s2 pos).1 := by unfold digR; omega
            have HR := Lib.hid hr
            clear hr
            rcases hr3 with hr3 | hr3
            all_goals
              go_wp2_with fail
              refine (locErr _ _ _).mono ?_
              rintro e w' ⟨⟨T, a, rfl⟩, hb⟩
              go_wp2_with fail
              go_ret
              exact ⟨resErr (fun k => digK.fail hp HR.out (HOK.out.1 k).2), fin0 hB5 hB5.size hb⟩
        · have hnx : ∀ ty, (Instr.next (.pointer (some ⟨wa.heap.size, 0, none⟩)) true ty).run Try.prog wr = _ := fun ty => Lib.run_next_end_at wr wa.heap.size s2 pos ty hit hp
          go_wp2_with fail
          go_ret
          exact ⟨resOk (HOK.out.2 ⟨fun k => h20 (bs_nil.1 k), HS.out.all hp⟩), HB4⟩
  have hdw : decide ((bs s1).getLast? = some 87) = false := decide_eq_false hW
  obtain ⟨gs, ⟨K, hK⟩, hg3⟩ := Split.zzSplit_ev s1 ⟨#[84]⟩ 84 (by decide) (by omega)
  have hl3 : gs.length = (splitL 84 (bs s1)).length := by rw [← hg3, List.length_map]
  have few : gs.length ≤ 34359738368 := by
    have h1 := split_length 84 (bs s1)
    rw [bs_len] at h1
    omega
  have hok : durOk (bs s) ↔ ∀ n, n < gs.length → partOk n (bs (gs.getD n ⟨#[]⟩)) := by
    unfold durOk
    rw [← HB1.out, if_neg hW, ← hl3]
    constructor
    · intro h n hn; rw [← getD_bs hg3]; exact h.2.2 n hn
    · intro h
      refine ⟨HP.out, by rw [HB1.out]; exact HNE.out, ?_⟩
      intro n hn; rw [getD_bs hg3]; exact h n hn
  have HOK := Lib.hid hok
  have HK := Lib.hid (hK K (Nat.le_refl _))
  have HG3 := Lib.hid hg3
  have gsmall : ∀ i, i < gs.length → (gs.getD i ⟨#[]⟩).size ≤ 17179869184 := by
    intro i hi
    have : bs (gs.getD i ⟨#[]⟩) ∈ splitL 84 (bs s1) := by
      rw [← getD_bs hg3]
      exact mem_getD.2 ⟨i, by omega, rfl⟩
    have h1 := split_le 84 (bs s1) _ this
    rw [bs_len, bs_len] at h1
    omega
  have GSM := Lib.hid gsmall
  clear hok hK hg3 hl3 hW gsmall
  go_wp2_with fail
  refine (PFnJDurationParts.jsonschema_zzSplit.calls K s1 ⟨#[84]⟩ gs _ HK.out).mono ?_
  rintro e w1 ⟨v, rfl, hR, hb⟩
  obtain ⟨A, c, rfl, hlc, hC⟩ := Kd.R_reads hR
  have hcells := cell_kept hb
  have hszu : wa.heap.size < w1.heap.size := by have := hb.size; simp at this; omega
  have hw1 := fin1 hbr hbr.size hb
  have hsz1 : w.heap.size ≤ w1.heap.size := hw1.size
  clear hR hlc hb
  go_wp2_with fail
  go_loopw [61] (fun i wr => ∃ n : Nat, n ≤ gs.length ∧ i = .int .i64 n ∧ Aside0 (∀ m, m < n → partOk m (bs (gs.getD m ⟨#[]⟩))) ∧ Aside0 (Below w1.heap.size w1 wr)) (fun i _ => gs.length - (intOf i).toNat)
  case atStart => exact ⟨0, by omega, rfl, ⟨fun m hm => by omega⟩, ⟨Below.refl _ _⟩⟩
  case round =>
    obtain ⟨n, hn, rfl, HA, HB⟩ := hrel
    have hszr : w1.heap.size ≤ wr.heap.size := HB.out.size
    have hbr1 : Below w.heap.size w wr := fin0 hw1 hsz1 HB.out
    by_cases hlt : n < gs.length
    case neg =>
      have hd1 : decide ((n : Int) < (gs.length : Int)) = false := decide_eq_false (by omega)
      go_wp2_with fail
      go_ret
      obtain rfl : n = gs.length := by omega
      exact ⟨resOk (HOK.out.2 HA.out), hbr1⟩
    have hd1 : decide ((n : Int) < (gs.length : Int)) = true := decide_eq_true (by omega)
    obtain ⟨ad, rfl, hcell⟩ := str_at hC HB.out n hlt
    obtain ⟨g, hg⟩ : ∃ g, g = gs.getD n ⟨#[]⟩ := ⟨_, rfl⟩
    rw [← hg] at hcell
    have hgsz : g.size ≤ 17179869184 := by rw [hg]; exact GSM.out n hlt
    have hno : ¬ partOk n (bs g) → ¬ durOk (bs s) := by
      intro k1 k2
      rw [HOK.out] at k2
      have := k2 n hlt
      rw [← hg] at this
      exact k1 this
    have HNO := Lib.hid hno
    have HG := Lib.hid hg
    clear hno hg
    have hn1 : decide ((n : Int) ≥ 2) = true ∨ n < 2 := by
      by_cases h : n < 2
      · exact .inr h
      · exact .inl (decide_eq_true (by omega))
    by_cases hz : n ≠ 0 ∧ g.size = 0
    · have hE2 := emp_true hz.2
      have hnz : ((n : Int) != 0) = true := by rw [bne_iff_ne]; have := hz.1; omega
      have HZ := Lib.hid hz
      clear hz hn1
      go_wp2_with fail
      refine (locErr _ _ _).mono ?_
      rintro e w' ⟨⟨T, a, rfl⟩, hb⟩
      go_wp2_with fail
      go_ret

      exact ⟨resErr (HNO.out (fun k => k.1 HZ.out.1 (bs_nil.2 HZ.out.2))), fin0 hbr1 hbr1.size hb⟩
    have hpass : ((n : Int) != 0) = false ∨ (((n : Int) != 0) = true ∧ g.toList.isEmpty = false) := by
      by_cases h : n = 0
      · exact .inl (by rw [bne_eq_false_iff_eq]; omega)
      · exact .inr ⟨by rw [bne_iff_ne]; omega, emp_false (fun k => hz ⟨h, k⟩)⟩
    have hne2 : n ≠ 0 → bs g ≠ [] := fun h k => hz ⟨h, bs_nil.1 k⟩
    have HNE2 := Lib.hid hne2
    clear hz hne2
    by_cases hn2 : n < 2
    case neg =>
      have hge : 2 ≤ n := by omega
      clear hn1
      rcases hpass with hp1 | ⟨hp1, hp2⟩
      all_goals
        go_wp2_with fail
        refine (locErr _ _ _).mono ?_
        rintro e w' ⟨⟨T, a, rfl⟩, hb⟩
        go_wp2_with fail
        go_ret

        exact ⟨resErr (HNO.out (fun k => hn2 k.2.1)), fin0 hbr1 hbr1.size hb⟩
    clear hn1
    have hcu : ∀ wz, Below w1.heap.size w1 wz → wz.cell? ⟨wa.heap.size, n, none⟩ = some (.string ⟨(unitsOf n).toArray⟩) := by
      intro wz hz
      rw [hz.cell (p := ⟨wa.heap.size, n, none⟩) hszu, hcells n]
      rcases (by omega : n = 0 ∨ n = 1) with rfl | rfl <;> rfl
    have hcur := hcu wr HB.out
    have HCU := Lib.hid hcu
    clear hcu
    obtain ⟨un, hun⟩ : ∃ un : ByteArray, un = ⟨(unitsOf n).toArray⟩ := ⟨_, rfl⟩
    rw [← hun] at hcur
    have hub : bs un = unitsOf n := by rw [hun, bs_mk]
    have hus : un.size ≤ 3 := by rw [← bs_len, hub]; unfold unitsOf; split <;> decide
    have HUN := Lib.hid hun
    have HUB := Lib.hid hub
    clear hun hub
    have hge2 : decide (2 ≤ (n : Int)) = false := decide_eq_false (by omega)
    rcases hpass with hp1 | ⟨hp1, hp2⟩
    all_goals
      go_wp2_with fail
      obtain ⟨wq, rfl⟩ : ∃ wq : World, wq = wr := ⟨_, rfl⟩
      go_loopw [11, 12] (fun sv uv wi => ∃ s' u' : ByteArray, sv = .string s' ∧ uv = .string u' ∧ Aside0 (durP (bs un) (bs g) = durP (bs u') (bs s')) ∧ s'.size ≤ 17179869184 ∧ u'.size ≤ 3 ∧ Aside0 (Below w1.heap.size w1 wi)) (fun sv _ _ => slotLen sv)
      case atStart => exact ⟨g, un, rfl, rfl, ⟨rfl⟩, hgsz, hus, HB⟩
      case round =>
        obtain ⟨s', u', rfl, rfl, HD0, hs', hu', HB6⟩ := hrel
        have hsz6 : w1.heap.size ≤ wr.heap.size := HB6.out.size
        have hbr6 : Below w.heap.size w wr := fin0 hw1 hsz1 HB6.out
        have hbad : durP (bs u') (bs s') = false → ¬ durOk (bs s) := by
          intro k
          refine HNO.out (fun k2 => ?_)
          have := k2.2.2
          rw [← HUB.out, HD0.out, k] at this
          cases this
        have HBAD := Lib.hid hbad
        clear hbad
        by_cases h0' : s'.size = 0
        · have hE3 := emp_true h0'
          have H0' := Lib.hid h0'
          clear h0'
          go_wp2_with fail
          go_roundw
          case rel => exact ⟨n + 1, by omega, by go_num, ⟨fun m hm => by
            by_cases e : m = n
            · subst e; rw [← HG.out]
              exact ⟨HNE2.out, hn2, by rw [← HUB.out, HD0.out, bs_nil.2 H0'.out]; exact durP_nil _⟩
            · exact HA.out m (by omega)⟩, HB6⟩
          case measure => simp [intOf]; omega
        · have hE3 := emp_false h0'
          have hne3 : bs s' ≠ [] := fun k => h0' (bs_nil.1 k)
          obtain ⟨d, hd⟩ : ∃ d, digs (bs s') = d := ⟨_, rfl⟩
          have hl' := bs_len s'
          have hdl : d ≤ s'.size := by rw [← hd, ← hl']; exact digs_le _
          have HD := Lib.hid hd
          have HL' := Lib.hid hl'
          have HNE3 := Lib.hid hne3
          clear hd hl' hne3
          go_upto_block 6 with fail
          go_cut [13] (fun v wc => v = .int .i64 d ∧ Aside0 (Below w1.heap.size w1 wc))
          case first =>
            obtain ⟨wo, rfl⟩ : ∃ wo : World, wo = wr := ⟨_, rfl⟩
            go_wp2_with fail
            go_loopw [13] (fun nv wi => ∃ m : Nat, nv = .int .i64 m ∧ m ≤ s'.size ∧ wi.heap[wo.heap.size]? = some (.stringIter s' m) ∧ Aside0 (Sofar digB s' m) ∧ Aside0 (Below w1.heap.size w1 wi)) (fun _ wi => s'.size - wi.iterPos wo.heap.size)
            case atStart => exact ⟨0, rfl, by omega, World.iter_heap wo s' 0, ⟨Sofar.zero _ _⟩, ⟨HB6.out.alloc hsz6 _⟩⟩
            case round =>
              obtain ⟨m, rfl, hml, hit, HS, HB7⟩ := hrel
              by_cases hp : m < s'.size
              · have hnx : ∀ ty, (Instr.next (.pointer (some ⟨wo.heap.size, 0, none⟩)) true ty).run Try.prog wr = _ := fun ty => Lib.run_next_any_at wr wo.heap.size s' m ty hit hp
                have hB5 : Below w1.heap.size w1 (wr.iterAt wo.heap.size s' (m + (Utf8.decode s' m).2)) := Lib.below_iterAt HB7.out hsz6 s' _
                by_cases hr : digR (Utf8.decode s' m).1
                · obtain ⟨h1, h2⟩ := digK.step hp hr HS.out
                  have hr2 : 48 ≤ (Utf8.decode s' m).1 ∧ (Utf8.decode s' m).1 ≤ 57 := hr
                  have H1 := Lib.hid h1
                  have H2 := Lib.hid h2
                  clear h1 h2 hr
                  go_wp2_with fail
                  go_roundw
                  case rel =>
                    have := Lib.iterAt_heap wr wo.heap.size s' m (m + (Utf8.decode s' m).2) hit
                    have h2 := H2.out
                    rw [H1.out] at this h2
                    exact ⟨m + 1, by go_num, by omega, by rw [H1.out]; exact this, ⟨h2⟩, ⟨hB5⟩⟩
                  case measure =>
                    rw [iterPos_of (Lib.iterAt_heap wr wo.heap.size s' m _ hit), iterPos_of hit, H1.out]
                    omega
                · obtain rfl : d = m := by rw [← HD.out]; exact digs_stop HS.out hml (.inr ⟨hp, dig_stop hp hr⟩)
                  have hr2 : ¬ (48 ≤ (Utf8.decode s' d).1 ∧ (Utf8.decode s' d).1 ≤ 57) := hr
                  have hr3 : (Utf8.decode s' d).1 < 48 ∨ 57 < (Utf8.decode s' d).1 := by omega
                  clear hr2
                  rcases hr3 with hr3 | hr3
                  all_goals
                    go_wp2_with fail
                    go_meet
                    exact ⟨rfl, ⟨hB5⟩⟩
              · obtain rfl : d = m := by rw [← HD.out]; exact digs_stop HS.out hml (.inl (by omega))
                have hnx : ∀ ty, (Instr.next (.pointer (some ⟨wo.heap.size, 0, none⟩)) true ty).run Try.prog wr = _ := fun ty => Lib.run_next_end_at wr wo.heap.size s' d ty hit hp
                go_wp2_with fail
                go_meet
                exact ⟨rfl, HB7⟩
          case rest =>
            obtain ⟨rfl, HBC⟩ := hcut
            have hbc : Below w.heap.size w wc := fin0 hw1 hsz1 HBC.out
            by_cases hd0 : d = 0
            · have hz : ((d : Int) == 0) = true := by rw [beq_iff_eq]; omega
              have HD00 := Lib.hid hd0
              clear hd0
              go_wp2_with fail
              refine (locErr _ _ _).mono ?_
              rintro e w' ⟨⟨T, a, rfl⟩, hb⟩
              go_wp2_with fail
              go_ret

              exact ⟨resErr (HBAD.out (durP_nodig _ _ HNE3.out (HD.out.trans HD00.out))), fin0 hbc hbc.size hb⟩
            have hz : ((d : Int) == 0) = false := by rw [beq_eq_false_iff_ne]; omega
            have hdrop : bs (s'.extract d s'.size) = (bs s').drop d := bs_drop _ _
            have hesz : (s'.extract d s'.size).size = s'.size - d := by rw [ByteArray.size_extract]; omega
            by_cases hde : d = s'.size
            · have hE4 : (s'.extract d s'.size).toList.isEmpty = true := emp_true (by rw [hesz]; omega)
              have HDE := Lib.hid hde
              clear hde hdrop hesz
              go_wp2_with fail
              refine (locErr _ _ _).mono ?_
              rintro e w' ⟨⟨T, a, rfl⟩, hb⟩
              go_wp2_with fail
              go_ret

              exact ⟨resErr (HBAD.out (durP_nounit _ _ HNE3.out (by rw [HD.out, List.drop_of_length_le (by rw [HL'.out, HDE.out]; exact Nat.le_refl _)]))), fin0 hbc hbc.size hb⟩
            have hE4 : (s'.extract d s'.size).toList.isEmpty = false := emp_false (by rw [hesz]; omega)
            have hpos4 : 0 < (s'.extract d s'.size).size := by rw [hesz]; omega
            obtain ⟨x, hx⟩ : ∃ x, (s'.extract d s'.size)[0]'hpos4 = x := ⟨_, rfl⟩
            have hcons : (bs s').drop (digs (bs s')) = x :: bs ((s'.extract d s'.size).extract 1 (s'.extract d s'.size).size) := by
              rw [HD.out, ← hdrop, bs_drop (s'.extract d s'.size) 1]
              have hp' : 0 < (bs (s'.extract d s'.size)).length := by rw [bs_len]; exact hpos4
              conv => lhs; rw [← List.drop_zero (l := bs (s'.extract d s'.size)), List.drop_eq_getElem_cons hp']
              rw [bs_at _ 0 hpos4 hp', hx]
            have HDD0 : digs (bs s') ≠ 0 := by rw [HD.out]; exact hd0
            have hunit := durP_unit (bs u') (bs s') x _ HNE3.out HDD0 hcons
            obtain ⟨i, hi⟩ : ∃ i, idx1 x (bs u') = i := ⟨_, rfl⟩
            have hilo := idx1_lo x (bs u')
            have hihi := idx1_hi x (bs u')
            rw [hi] at hunit hilo hihi
            rw [bs_len] at hihi
            have HX := Lib.hid hx
            have HI := Lib.hid hi
            have HUNIT := Lib.hid hunit
            have hesz2 : d + (s'.extract d s'.size).size ≤ s'.size := by rw [hesz]; omega
            clear hdrop hcons HDD0 hunit hi hx hesz
            go_wp2_with fail
            refine (idxB u' _ x i _ ?hx HI.out).mono ?_
            case hx =>
              have := HX.out
              simp only [this]
              simp
            rintro e wy ⟨rfl, rfl⟩
            by_cases hneg : i < 0
            · have hbi : (i == -1) = true := by rw [beq_iff_eq]; omega
              have hcur2 := HCU.out wc HBC.out
              rw [← HUN.out] at hcur2
              obtain ⟨i2, hi2⟩ : ∃ i, idx1 x (bs un) = i := ⟨_, rfl⟩
              have HI2 := Lib.hid hi2
              have hf : durP (bs u') (bs s') = false := by rw [HUNIT.out, if_pos hneg]
              have HF := Lib.hid hf
              clear hi2 hf
              go_wp2_with fail
              refine (idxB un _ x i2 _ ?hx HI2.out).mono ?_
              case hx =>
                have := HX.out
                simp only [this]
                simp
              rintro e wy ⟨rfl, rfl⟩
              by_cases hneg2 : i2 = -1
              · have hbi2 : (i2 != -1) = false := by rw [bne_eq_false_iff_eq]; exact hneg2
                have HN2 := Lib.hid hneg2
                clear hneg2
                go_wp2_with fail
                refine (locErr _ _ _).mono ?_
                rintro e w' ⟨⟨T, a, rfl⟩, hb⟩
                go_wp2_with fail
                go_ret

                exact ⟨resErr (HBAD.out HF.out), fin1 hbc hbc.size hb⟩
              · have hbi2 : (i2 != -1) = true := by rw [bne_iff_ne]; exact hneg2
                go_wp2_with fail
                refine (locErr _ _ _).mono ?_
                rintro e w' ⟨⟨T, a, rfl⟩, hb⟩
                go_wp2_with fail
                go_ret

                exact ⟨resErr (HBAD.out HF.out), fin1 hbc hbc.size hb⟩
            · have hbi : (i == -1) = false := by rw [beq_eq_false_iff_ne]; omega
              obtain ⟨j, rfl⟩ := Int.eq_ofNat_of_zero_le (by omega : 0 ≤ i)
              have hju : j < u'.size := by omega
              clear hilo hihi
              go_wp2_with fail
              go_roundw
              case rel =>
                refine ⟨_, _, rfl, rfl, ⟨?_⟩, ?_, ?_, HBC⟩
                · rw [HD0.out, HUNIT.out, if_neg (by omega)]
                  have e1 : bs (u'.extract (j + 1) u'.size) = (bs u').drop (j + 1) := bs_drop _ _
                  have e2 : (s'.extract d s'.size).size = s'.size - d := by rw [ByteArray.size_extract]; omega
                  rw [e1]
                  simp only [Int.toNat_natCast, e2]
                · rw [ByteArray.size_extract]; omega
                · rw [ByteArray.size_extract]; omega
              case measure =>
                simp only [slotLen, ByteArray.size_extract]
                omega

theorem isDur (s : ByteArray) (w : World) (hs : s.size ≤ 17179869184) : Calls Try.prog 18 #[.string s] w fun e w' => Says (durOk (bs s)) e ∧ Below w.heap.size w w' := by
  go_enter Try.func18, Try.ntmps18
  go_wp2_with fail
  refine (valDur s _ hs).mono ?_
  rintro e w1 ⟨hr, hb⟩
  rcases hr with ⟨hok, rfl⟩ | ⟨hok, ⟨T, a, rfl⟩⟩
  · go_wp2_with fail
    go_ret
    exact ⟨⟨_, rfl, by simp [hok]⟩, hb⟩
  · go_wp2_with fail
    go_ret
    exact ⟨⟨_, rfl, by simp [hok]⟩, hb⟩

theorem implDur (s : ByteArray) (w : World) (hs : s.size ≤ 17179869184) : Calls Try.prog 8 #[.string s] w fun e w' => Says (durOk (bs s)) e ∧ Below w.heap.size w w' := by
  go_enter Try.func8, Try.ntmps8
  go_wp2_with fail
  refine (isDur s _ hs).mono ?_
  rintro e w1 ⟨⟨b, rfl, hb1⟩, hb⟩
  have HB := Lib.hid hb1
  clear hb1
  go_wp2_with fail
  go_ret
  exact ⟨⟨_, rfl, HB.out⟩, hb⟩
end Go.Proofs.Ytfnnahopbghndaa.Fmt
