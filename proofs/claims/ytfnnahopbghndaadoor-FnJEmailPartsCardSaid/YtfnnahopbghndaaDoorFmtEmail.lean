/- validateEmail, IsEmail, impl.JEmail: what they answer to a text without quotation marks and square brackets. -/
import Derived.Test.YtfnnahopbghndaaDoorFmtHost
import Derived.Test.YtfnnahopbghndaaDoorFmtRune
import Derived.Test.YtfnnahopbghndaaDoorFmtSemBase
import Derived.Test.YtfnnahopbghndaaDoorPzzContainsx1
import Derived.Test.YtfnnahopbghndaaDoorShelf
import Derived.Deep.QuietTactic
import Derived.BigQuiet
import Derived.IntWalk
import Derived.Outline
namespace Go.Proofs.YtfnnahopbghndaaDoor.Fmt
open Go.RowKit Go.Proofs.YtfnnahopbghndaaDoorW.PrintWords Go.Proofs.YtfnnahopbghndaaDoorW.PrintLast Go.Proofs.YtfnnahopbghndaaDoorW.PrintMore Go.Proofs.YtfnnahopbghndaaDoor.K
set_option linter.unusedVariables false
set_option linter.unusedSimpArgs false

/-- Bytes of an atom that are no letters and digits, and the dot. -/
def setL : List UInt8 := [46, 33, 35, 36, 37, 38, 39, 42, 43, 45, 47, 61, 63, 94, 95, 96, 123, 124, 125, 126]
def setS : ByteArray := ⟨#[46, 33, 35, 36, 37, 38, 39, 42, 43, 45, 47, 61, 63, 94, 95, 96, 123, 124, 125, 126]⟩
theorem setS_bs : bs setS = setL := rfl
def emB (b : UInt8) : Bool := (97 ≤ b && b ≤ 122) || (65 ≤ b && b ≤ 90) || (48 ≤ b && b ≤ 57) || setL.contains b
def emR (r : Nat) : Prop := (97 ≤ r ∧ r ≤ 122) ∨ (65 ≤ r ∧ r ≤ 90) ∨ (48 ≤ r ∧ r ≤ 57) ∨ inSet setL r
theorem emK : Kind emB emR where
  iff b := by
    unfold emB emR inSet
    simp only [Bool.or_eq_true, Bool.and_eq_true, decide_eq_true_eq, UInt8.le_iff_toNat_le, List.contains_iff_mem, UInt8.toNat_inj]
    simp only [UInt8.toNat_ofNat, exists_eq_right]
    rw [or_assoc, or_assoc]
  low r h := by
    unfold emR inSet
    rintro (h1 | h1 | h1 | ⟨x, hx, rfl⟩)
    · omega
    · omega
    · omega
    · have : ∀ y ∈ setL, y.toNat < 128 := by decide
      have := this x hx
      omega

def DD (l : List UInt8) : Prop := ∃ i : Nat, l[i]? = some 46 ∧ l[i + 1]? = some 46
def localOk (l : List UInt8) : Prop := l.length ≤ 64 ∧ l.head? ≠ some 46 ∧ l.getLast? ≠ some 46 ∧ ¬ DD l ∧ ∀ b ∈ l, emB b = true
/-- The last at sign of a text stands at a place. -/
def LastAt (l : List UInt8) (i : Nat) : Prop := l[i]? = some 64 ∧ 64 ∉ l.drop (i + 1)
def emailOk (l : List UInt8) : Prop := l.length ≤ 254 ∧ ∃ i, LastAt l i ∧ localOk (l.take i) ∧ hostOk (l.drop (i + 1))
theorem lastAt_one {l : List UInt8} {i j : Nat} (hi : LastAt l i) (hj : LastAt l j) : i = j := by
  obtain ⟨h1, h2⟩ := hi
  obtain ⟨h3, h4⟩ := hj
  rcases Nat.lt_trichotomy i j with h | h | h
  · exact absurd (List.mem_of_getElem? (by rw [List.getElem?_drop, show i + 1 + (j - (i + 1)) = j by omega]; exact h3)) h2
  · exact h
  · exact absurd (List.mem_of_getElem? (by rw [List.getElem?_drop, show j + 1 + (i - (j + 1)) = i by omega]; exact h1)) h4

theorem lastS (s : ByteArray) : (Lib.lastIndexByte s 64 = -1 ∧ 64 ∉ bs s) ∨ ∃ i : Nat, Lib.lastIndexByte s 64 = i ∧ i < s.size ∧ LastAt (bs s) i := by
  have hl := bs_len s
  have hat : ∀ j, (h : j < (bs s).length) → (((s.data[j]!).toNat : Int) = 64 ↔ (bs s)[j] = 64) := by
    intro j h
    have : s.data[j]! = (bs s)[j] := by
      have h' : j < s.data.size := by rw [bs, Array.length_toList] at h; exact h
      rw [getElem!_pos s.data j h']
      simp [bs]
    rw [this]
    exact eq_toNat _ 64
  rcases Lib.lastIndexByte_spec s 64 with ⟨h1, h2⟩ | ⟨i, h0, h1, h2, h3⟩
  · refine .inl ⟨h1, fun hm => ?_⟩
    obtain ⟨j, hj, e⟩ := List.getElem_of_mem hm
    exact h2 j (by omega) ((hat j hj).2 e)
  · refine .inr ⟨i, h1, h0, ?_, fun hm => ?_⟩
    · rw [List.getElem?_eq_getElem (by omega)]
      congr 1
      exact (hat i (by omega)).1 h2
    · obtain ⟨j, hj, e⟩ := List.getElem_of_mem hm
      rw [List.length_drop] at hj
      rw [List.getElem_drop] at e
      exact h3 (i + 1 + j) (by omega) (by omega) ((hat (i + 1 + j) (by omega)).2 e)

theorem take2 (l : List UInt8) (i : Nat) (h : i + 1 < l.length) : (l.drop i).take 2 = [l[i]'(by omega), l[i + 1]] := by
  rw [List.drop_eq_getElem_cons (by omega : i < l.length), List.drop_eq_getElem_cons h]; rfl
open Go.Proofs.YtfnnahopbghndaaDoor.PzzContains in
theorem ddLoop (s : ByteArray) (hs : s.size ≤ 2147483647) (d : Nat) : ∀ i : Nat, i ≤ s.size → s.size - i = d →
    ∃ n : Int, Ev (fun k => jsonschema_zzIndex.l0 k s ⟨#[46, 46]⟩ i) n ∧ (n ≥ 0 ↔ ∃ j : Nat, i ≤ j ∧ (bs s)[j]? = some 46 ∧ (bs s)[j + 1]? = some 46) := by
  have hl := bs_len s
  have h2 : (⟨#[46, 46]⟩ : ByteArray).size = 2 := rfl
  have hb2 : bs (⟨#[46, 46]⟩ : ByteArray) = [46, 46] := rfl
  induction d with
  | zero =>
    intro i hi hd
    have e2 : wrap64 ((i : Int) + ((2 : Nat) : Int)) = ((i + 2 : Nat) : Int) := by rw [wrap_in (by omega) (by omega)]; omega
    refine ⟨-1, ev_succ 0 fun k _ => ?_, ?_⟩
    · simp only [jsonschema_zzIndex.l0, h2, e2]; rw [if_neg (by omega)]
    · constructor
      · intro h; omega
      · rintro ⟨j, hj, h, _⟩
        have := (List.getElem?_eq_some_iff.1 h).1
        omega
  | succ d ih =>
    intro i hi hd
    have e2 : wrap64 ((i : Int) + ((2 : Nat) : Int)) = ((i + 2 : Nat) : Int) := by rw [wrap_in (by omega) (by omega)]; omega
    have e1 : wrap64 ((i : Int) + 1) = ((i + 1 : Nat) : Int) := by rw [wrap_in (by omega) (by omega)]; omega
    obtain ⟨n, ⟨K, hK⟩, hn⟩ := ih (i + 1) (by omega) (by omega)
    by_cases hend : i + 2 ≤ s.size
    · have hx : (s.extract i (i + 2)).toList = (⟨#[46, 46]⟩ : ByteArray).toList ↔ (bs s)[i]? = some 46 ∧ (bs s)[i + 1]? = some 46 := by
        rw [toList_inj, bs_extract, hb2, List.drop_take, show i + 2 - i = 2 by omega, take2 (bs s) i (by omega)]
        simp only [List.getElem?_eq_getElem (by omega : i < (bs s).length), List.getElem?_eq_getElem (by omega : i + 1 < (bs s).length), Option.some.injEq, List.cons.injEq, and_true]
      by_cases hq : (s.extract i (i + 2)).toList = (⟨#[46, 46]⟩ : ByteArray).toList
      · refine ⟨i, ev_succ 0 fun k _ => ?_, ?_⟩
        · simp only [jsonschema_zzIndex.l0, h2, e2, Int.toNat_natCast]
          rw [if_pos (by omega), if_pos (by omega), if_pos (by omega), if_pos hq]
        · exact ⟨fun _ => ⟨i, Nat.le_refl _, hx.1 hq⟩, fun _ => by omega⟩
      · refine ⟨n, ev_succ K fun k hk => ?_, ?_⟩
        · simp only [jsonschema_zzIndex.l0, h2, e2, e1, Int.toNat_natCast]
          rw [if_pos (by omega), if_pos (by omega), if_pos (by omega), if_neg hq]
          exact hK k hk
        · rw [hn]
          constructor
          · rintro ⟨j, hj, h⟩; exact ⟨j, by omega, h⟩
          · rintro ⟨j, hj, h⟩
            refine ⟨j, ?_, h⟩
            rcases Nat.eq_or_lt_of_le hj with e | e
            · subst e; exact absurd (hx.2 h) hq
            · omega
    · refine ⟨-1, ev_succ 0 fun k _ => ?_, ?_⟩
      · simp only [jsonschema_zzIndex.l0, h2, e2]; rw [if_neg (by omega)]
      · constructor
        · intro h; omega
        · rintro ⟨j, hj, _, h⟩
          have := (List.getElem?_eq_some_iff.1 h).1
          omega
open Go.Proofs.YtfnnahopbghndaaDoor.PzzContains in
theorem ddS (s : ByteArray) (hs : s.size ≤ 2147483647) : ∃ b, Ev (fun k => jsonschema_zzContains.f k s ⟨#[46, 46]⟩) b ∧ (b = true ↔ DD (bs s)) := by
  obtain ⟨n, ⟨K, hK⟩, hn⟩ := ddLoop s hs s.size 0 (by omega) (by omega)
  refine ⟨decide (n ≥ 0), ⟨K, fun k hk => ?_⟩, ?_⟩
  · show jsonschema_zzContains.f k s ⟨#[46, 46]⟩ = _
    unfold jsonschema_zzContains.f
    rw [show jsonschema_zzIndex.f k s ⟨#[46, 46]⟩ = some n from hK k hk]
    rfl
  · rw [decide_eq_true_eq, hn]
    unfold DD
    simp

theorem emR_gap {r : Nat} (hcs : r < 48 ∨ (57 < r ∧ r < 65) ∨ (90 < r ∧ r < 97) ∨ 122 < r) : emR r ↔ inSet setL r := by
  unfold emR
  constructor
  · rintro (h | h | h | h)
    · omega
    · omega
    · omega
    · exact h
  · intro h; exact .inr (.inr (.inr h))
theorem blk_lt2 {w : World} {k : Nat} {o : Obj} (h : w.heap[k]? = some o) : k < w.heap.size := (Array.getElem?_eq_some_iff.1 h).1
set_option maxHeartbeats 8000000 in
set_option maxRecDepth 100000 in
theorem valEmail (s : ByteArray) (w : World) (hs : s.size ≤ 2147483647) (hq34 : 34 ∉ bs s) (hq91 : 91 ∉ bs s) :
    Calls Tryd.prog 41 #[.iface 9 (.string s)] w fun e w' => Res (emailOk (bs s)) e ∧ Below w.heap.size w w' := by
  have hta := asStr s
  have hl := bs_len s
  have HL := Lib.hid hl
  have H34 := Lib.hid hq34
  have H91 := Lib.hid hq91
  clear hl hq34 hq91
  by_cases h254 : s.size ≤ 254
  case neg =>
    have hd : decide (254 < (s.size : Int)) = true := decide_eq_true (by omega)
    go_enter Tryd.func41, Tryd.ntmps41
    go_wp2_with fail
    refine (locErr _ _ _).mono ?_
    rintro e w' ⟨⟨T, a, rfl⟩, hb⟩
    go_wp2_with fail
    go_ret
    exact ⟨resErr (fun hh => h254 (by rw [← HL.out]; exact hh.1)), hb⟩
  rcases lastS s with ⟨hi, hno⟩ | ⟨i, hi, hlt, hat⟩
  case inl =>
    have C := Tryd.strings_LastIndexByte s 64 (by omega) w
    rw [hi] at C
    have HNO := Lib.hid hno
    clear hno hi
    go_enter Tryd.func41, Tryd.ntmps41
    go_wp2_with fail
    with_reducible refine C.mono ?_
    rintro e w1 ⟨rfl, rfl⟩
    clear C
    go_wp2_with fail
    refine (locErr _ _ _).mono ?_
    rintro e w' ⟨⟨T, a, rfl⟩, hb⟩
    go_wp2_with fail
    go_ret
    exact ⟨resErr (fun hh => by obtain ⟨_, i, hi, _⟩ := hh; exact HNO.out (List.mem_of_getElem? hi.1)), hb⟩
  have C := Tryd.strings_LastIndexByte s 64 (by omega) w
  rw [hi] at C
  have HAT := Lib.hid hat
  clear hat hi
  go_enter Tryd.func41, Tryd.ntmps41
  go_wp2_with fail
  with_reducible refine C.mono ?_
  rintro e w1 ⟨rfl, rfl⟩
  clear C
  go_wp2_with fail
  have i0 : (0 : Int) ≤ (i : Int) := by omega
  have i1 : (i : Int) < (s.size : Int) := by omega
  have i2 : (i : Int) ≤ (s.size : Int) := by omega
  have i3 : (0 : Int) ≤ (i : Int) + 1 := by omega
  have i4 : (i : Int) + 1 ≤ (s.size : Int) := by omega
  have i5 : ((i : Int) + 1).toNat = i + 1 := by omega
  have i6 : IntKind.i64.wrap ((i : Int) + 1) = (i : Int) + 1 := IntWalk.i64_in _ (by omega)
  go_quiet (fail)
  clear i0 i1 i2 i3 i4 i5 i6
  generalize hlo : s.extract 0 i = lo at *
  generalize hdm : s.extract (i + 1) s.size = dm at *
  have hblo : bs lo = (bs s).take i := by rw [← hlo, bs_take]
  have hbdm : bs dm = (bs s).drop (i + 1) := by rw [← hdm, bs_drop]
  have hslo : lo.size = i := by rw [← bs_len, hblo, List.length_take, HL.out]; omega
  have hsdm : dm.size ≤ 254 := by rw [← bs_len, hbdm, List.length_drop, HL.out]; omega
  have hl254 : lo.size ≤ 254 := by omega
  have hno : ¬ (localOk (bs lo) ∧ hostOk (bs dm)) → ¬ emailOk (bs s) := by
    rintro k ⟨_, j, hj, h1, h2⟩
    obtain rfl := lastAt_one HAT.out hj
    rw [← hblo] at h1
    rw [← hbdm] at h2
    exact k ⟨h1, h2⟩
  have hyes : localOk (bs lo) ∧ hostOk (bs dm) → emailOk (bs s) := by
    rintro ⟨h1, h2⟩
    exact ⟨by rw [HL.out]; exact h254, i, HAT.out, by rw [← hblo]; exact h1, by rw [← hbdm]; exact h2⟩
  have h34 : (bs lo).head? ≠ some 34 := fun e => H34.out (List.mem_of_mem_take (by rw [← hblo]; exact List.mem_of_mem_head? e))
  have h91 : (bs dm).head? ≠ some 91 := fun e => H91.out (List.mem_of_mem_drop (by rw [← hbdm]; exact List.mem_of_mem_head? e))
  have HNO := Lib.hid hno
  have HYES := Lib.hid hyes
  have E34 := Lib.hid h34
  have E91 := Lib.hid h91
  have hll := bs_len lo
  have HLL := Lib.hid hll
  clear hno hyes h34 h91 hblo hbdm hslo hlo hdm H34 H91 HAT hlt hta hll
  by_cases h64 : lo.size ≤ 64
  case neg =>
    have hd : decide (64 < (lo.size : Int)) = true := decide_eq_true (by omega)
    go_wp2_with fail
    refine (locErr _ _ _).mono ?_
    rintro e w' ⟨⟨T, a, rfl⟩, hb⟩
    go_wp2_with fail
    go_ret
    exact ⟨resErr (HNO.out (fun hh => h64 (by rw [← HLL.out]; exact hh.1.1))), fin0 (pw_below_drewN (Below.refl _ w1) nq) (Nat.le_refl _) hb⟩
  have hd64 : decide (64 < (lo.size : Int)) = false := decide_eq_false (by omega)
  by_cases h1 : 1 < lo.size
  case' pos =>
    have hdp : decide ((bs lo).head? = some 34) = false := decide_eq_false E34.out
    go_wp2_with fail
    refine (PvalidateHostname.strings_HasPrefix.calls lo ⟨#[34]⟩ _ _ (hasPrefix1 lo ⟨#[34]⟩ 34 (by decide))).mono ?_
    rintro e w2 ⟨rfl, ⟨n2, rfl⟩⟩
    rw [hdp, World.drewN_drewN]
    clear hdp
    have hbr := pw_below_drewN (Below.refl w1.heap.size w1) (nq + n2)
    generalize nq + n2 = N at *
  case' neg =>
    have hbr := pw_below_drewN (Below.refl w1.heap.size w1) nq
    generalize nq = N at *
  all_goals
    go_wp2_with fail
    clear h1 hd64
    refine (PvalidateHostname.strings_HasPrefix.calls lo ⟨#[46]⟩ _ _ (hasPrefix1 lo ⟨#[46]⟩ 46 (by decide))).mono ?_
    rintro e wx ⟨rfl, ⟨n3, rfl⟩⟩
    have hbr := pw_below_drewN hbr n3
    rw [World.drewN_drewN]
    rw [World.drewN_drewN] at hbr
    by_cases hp : (bs lo).head? = some 46
    case pos =>
      have hdp : decide ((bs lo).head? = some 46) = true := decide_eq_true hp
      go_wp2_with fail
      refine (locErr _ _ _).mono ?_
      rintro e w' ⟨⟨T, a, rfl⟩, hb⟩
      go_wp2_with fail
      go_ret
      exact ⟨resErr (HNO.out (fun hh => hh.1.2.1 hp)), fin0 hbr (Nat.le_refl _) hb⟩
    have hdp : decide ((bs lo).head? = some 46) = false := decide_eq_false hp
    have HP1 := Lib.hid hp
    clear hp
    go_wp2_with fail
    refine (PvalidateHostname.strings_HasSuffix.calls lo ⟨#[46]⟩ _ _ (by unfold PvalidateHostname.strings_HasSuffix.f; rw [hasSuffix1 lo ⟨#[46]⟩ 46 (by decide) (by omega)]; rfl)).mono ?_
    rintro e wx ⟨rfl, ⟨n4, rfl⟩⟩
    have hbr := pw_below_drewN hbr n4
    rw [World.drewN_drewN]
    rw [World.drewN_drewN] at hbr
    clear hdp
    by_cases hp : (bs lo).getLast? = some 46
    case pos =>
      have hdp : decide ((bs lo).getLast? = some 46) = true := decide_eq_true hp
      go_wp2_with fail
      refine (locErr _ _ _).mono ?_
      rintro e w' ⟨⟨T, a, rfl⟩, hb⟩
      go_wp2_with fail
      go_ret
      exact ⟨resErr (HNO.out (fun hh => hh.1.2.2.1 hp)), fin0 hbr (Nat.le_refl _) hb⟩
    have hdp : decide ((bs lo).getLast? = some 46) = false := decide_eq_false hp
    have HP2 := Lib.hid hp
    clear hp
    obtain ⟨dd, ⟨KD, hKD⟩, hdd⟩ := ddS lo (by omega)
    have HDD := Lib.hid hdd
    go_wp2_with fail
    refine (PzzContains.jsonschema_zzContains.calls KD lo ⟨#[46, 46]⟩ dd _ (hKD KD (Nat.le_refl _))).mono ?_
    rintro e wx ⟨rfl, ⟨n5, rfl⟩⟩
    have hbr := pw_below_drewN hbr n5
    rw [World.drewN_drewN]
    rw [World.drewN_drewN] at hbr
    clear hdp hKD hdd
    cases dd with
    | true =>
      go_wp2_with fail
      refine (locErr _ _ _).mono ?_
      rintro e w' ⟨⟨T, a, rfl⟩, hb⟩
      go_wp2_with fail
      go_ret
      exact ⟨resErr (HNO.out (fun hh => hh.1.2.2.2.1 (HDD.out.1 (by simp)))), fin0 hbr (Nat.le_refl _) hb⟩
    | false =>
    have hnd : ¬ DD (bs lo) := fun k => by have := HDD.out.2 k; cases this
    have HND := Lib.hid hnd
    clear hnd HDD
    generalize w1.drewN (N + n3 + n4 + n5) = wa at *
    have hsa : w1.heap.size ≤ wa.heap.size := hbr.size
    go_wp2_with fail
    go_loopw [] (fun wi => Aside0 (Iter emB lo wa.heap.size w1.heap.size w1 wi)) (fun wi => lo.size - wi.iterPos wa.heap.size)
    case atStart => exact ⟨Iter.start hbr hsa⟩
    case round =>
      obtain ⟨⟨pos, hit, HS0, HB4⟩⟩ := hrel
      have HS := Lib.hid HS0
      clear HS0
      by_cases hp : pos < lo.size
      · have hnx : ∀ ty, (Instr.next (.pointer (some ⟨wa.heap.size, 0, none⟩)) true ty).run Tryd.prog wr = _ := fun ty => Lib.run_next_any_at wr wa.heap.size lo pos ty hit hp
        have hB5 : Below w1.heap.size w1 (wr.iterAt wa.heap.size lo (pos + (Utf8.decode lo pos).2)) := Lib.below_iterAt HB4 hsa lo _
        have hs5 : w1.heap.size ≤ (wr.iterAt wa.heap.size lo (pos + (Utf8.decode lo pos).2)).heap.size := hB5.size
        have hkeep : emR (Utf8.decode lo pos).1 → (Utf8.decode lo pos).2 = 1 ∧ Sofar emB lo (pos + (Utf8.decode lo pos).2) := fun h => emK.step hp h HS.out
        have hbad : ¬ emR (Utf8.decode lo pos).1 → ¬ emailOk (bs s) := fun h => HNO.out (fun hh => emK.fail hp h hh.1.2.2.2.2)
        have HIT := Lib.hid (Lib.iterAt_heap wr wa.heap.size lo pos (pos + (Utf8.decode lo pos).2) hit)
        have HPO := Lib.hid (iterPos_of hit)
        have HPN := Lib.hid (iterPos_of (Lib.iterAt_heap wr wa.heap.size lo pos (pos + (Utf8.decode lo pos).2) hit))
        have HKE := Lib.hid hkeep
        have HBD := Lib.hid hbad
        clear hkeep hbad
        have hcs : ((97 ≤ (Utf8.decode lo pos).1 ∧ (Utf8.decode lo pos).1 ≤ 122) ∨ (65 ≤ (Utf8.decode lo pos).1 ∧ (Utf8.decode lo pos).1 ≤ 90) ∨ (48 ≤ (Utf8.decode lo pos).1 ∧ (Utf8.decode lo pos).1 ≤ 57)) ∨
            ((Utf8.decode lo pos).1 < 48 ∨ (57 < (Utf8.decode lo pos).1 ∧ (Utf8.decode lo pos).1 < 65) ∨ (90 < (Utf8.decode lo pos).1 ∧ (Utf8.decode lo pos).1 < 97) ∨ 122 < (Utf8.decode lo pos).1) := by omega
        rcases hcs with hcs | hcs
        · have HEM := Lib.hid (show emR (Utf8.decode lo pos).1 by unfold emR; rcases hcs with h | h | h <;> simp [h])
          rcases hcs with ⟨c1, c2⟩ | ⟨c1, c2⟩ | ⟨c1, c2⟩
          all_goals
            go_wp2_with fail
            go_roundw
            case rel => exact ⟨⟨_, HIT.out, (HKE.out HEM.out).2, hB5⟩⟩
            case measure =>
              rw [HPN.out, HPO.out, (HKE.out HEM.out).1]
              omega
        · have HNL := Lib.hid (emR_gap hcs)
          rcases hcs with c1 | ⟨c1, c2⟩ | ⟨c1, c2⟩ | c1
          all_goals
            go_wp2_with fail
            refine (conRune setS (by decide) (by decide) (Utf8.decode lo pos).1 _).mono ?_
            rintro e w6 ⟨⟨b, rfl, hb6⟩, hbb⟩
            rw [setS_bs, ← HNL.out] at hb6
            have hB6 := hB5.trans (hbb.mono hs5)
            have HIT6 := Lib.hid ((hbb.block wa.heap.size (by have := blk_lt2 HIT.out; exact this)).trans HIT.out)
            have hs6 := hB6.size
            cases b with
            | true =>
              have hem := hb6.1 (by simp)
              have HEM := Lib.hid hem
              clear hb6 hem hbb
              go_wp2_with fail
              go_roundw
              case rel => exact ⟨⟨_, HIT6.out, (HKE.out HEM.out).2, hB6⟩⟩
              case measure =>
                rw [iterPos_of HIT6.out, HPO.out, (HKE.out HEM.out).1]
                omega
            | false =>
              have hem : ¬ emR (Utf8.decode lo pos).1 := fun k => by have := hb6.2 k; cases this
              have HEM := Lib.hid hem
              clear hb6 hem hbb
              go_wp2_with fail
              refine (locErr _ _ _).mono ?_
              rintro e w' ⟨⟨T, a, rfl⟩, hb⟩
              go_wp2_with fail
              go_ret
              exact ⟨resErr (HBD.out HEM.out), fin1 hB6 hs6 hb⟩
      · have hnx : ∀ ty, (Instr.next (.pointer (some ⟨wa.heap.size, 0, none⟩)) true ty).run Tryd.prog wr = _ := fun ty => Lib.run_next_end_at wr wa.heap.size lo pos ty hit hp
        have hloc : localOk (bs lo) := ⟨by rw [HLL.out]; exact h64, HP1.out, HP2.out, HND.out, HS.out.all hp⟩
        have HLOC := Lib.hid hloc
        clear hloc
        have hsr : w1.heap.size ≤ wr.heap.size := HB4.size
        have hdp : decide ((bs dm).head? = some 91) = false := decide_eq_false E91.out
        go_wp2_with fail
        refine (PvalidateHostname.strings_HasPrefix.calls dm ⟨#[91]⟩ _ _ (hasPrefix1 dm ⟨#[91]⟩ 91 (by decide))).mono ?_
        rintro e wx ⟨rfl, ⟨n6, rfl⟩⟩
        rw [hdp]
        clear hdp
        have hb7 := pw_below_drewN HB4 n6
        have hs7 := hb7.size
        go_wp2_with fail
        refine (valHost dm _ (by omega)).mono ?_
        rintro e w8 ⟨hres, hb8⟩
        have hb9 := fin0 hb7 hs7 hb8
        have hs9 := hb9.size
        rcases hres with ⟨hok, rfl⟩ | ⟨hok, ⟨T, a, rfl⟩⟩
        · have HOK := Lib.hid hok
          clear hok
          go_wp2_with fail
          go_ret
          exact ⟨resOk (HYES.out ⟨HLOC.out, HOK.out⟩), hb9⟩
        · have HOK := Lib.hid hok
          clear hok
          go_wp2_with fail
          refine (locErr _ _ _).mono ?_
          rintro e w' ⟨⟨T, a, rfl⟩, hb⟩
          go_wp2_with fail
          go_ret
          exact ⟨resErr (HNO.out (fun hh => HOK.out hh.2)), fin1 hb9 hs9 hb⟩
end Go.Proofs.YtfnnahopbghndaaDoor.Fmt
