/- unescape, Unescape, impl.JUnescape: what they answer. -/
import Derived.Test.YtdjmjgdafghdgaaFmtSemBase
import Derived.Test.YtdjmjgdafghdgaaBuild
import Derived.Deep.DeepCutAuto
import Derived.Outline
namespace Go.Proofs.Ytdjmjgdafghdgaa.Fmt
open Go.RowKit Go.Proofs.YtdjmjgdafghdgaaW.PrintWords Go.Proofs.YtdjmjgdafghdgaaW.PrintLast Go.Proofs.YtdjmjgdafghdgaaW.PrintMore Go.Proofs.Ytdjmjgdafghdgaa.K
set_option linter.unusedVariables false
set_option linter.unusedSimpArgs false

/-- The token that stands so, if there is one. -/
def unesc : List UInt8 → Option (List UInt8)
  | [] => some []
  | b :: l => if b = 126 then match l with
      | [] => none
      | c :: r => if c = 48 then (unesc r).map (126 :: ·) else if c = 49 then (unesc r).map (47 :: ·) else none
    else (unesc l).map (b :: ·)

theorem unesc_free {p : List UInt8} (l : List UInt8) (h : (126 : UInt8) ∉ p) : unesc (p ++ l) = (unesc l).map (p ++ ·) := by
  induction p with
  | nil => rw [List.nil_append]; cases unesc l <;> rfl
  | cons a p ih =>
    rw [List.cons_append, unesc.eq_def]
    simp only
    rw [if_neg (by intro k; exact h (by rw [k]; exact List.mem_cons_self)), ih (fun k => h (List.mem_cons_of_mem _ k))]
    cases unesc l <;> rfl
theorem unesc_all {p : List UInt8} (h : (126 : UInt8) ∉ p) : unesc p = some p := by
  have := unesc_free [] h
  rw [List.append_nil] at this
  rw [this]
  simp [unesc]
theorem unesc_end : unesc [126] = none := rfl
theorem unesc_0 (r : List UInt8) : unesc (126 :: 48 :: r) = (unesc r).map (126 :: ·) := rfl
theorem unesc_1 (r : List UInt8) : unesc (126 :: 49 :: r) = (unesc r).map (47 :: ·) := by
  rw [unesc.eq_def]; rfl
theorem unesc_bad (c : UInt8) (r : List UInt8) (h0 : c ≠ 48) (h1 : c ≠ 49) : unesc (126 :: c :: r) = none := by
  rw [unesc.eq_def]
  simp only
  rw [if_pos trivial, if_neg h0, if_neg h1]

/-- A slot's text's length. -/
def tokLen : Value → Nat
  | .string s => s.size
  | _ => 0
/-- What unescape answers. -/
def Unesc (l : List UInt8) (e : Ending) : Prop := (∃ t : ByteArray, unesc l = some (bs t) ∧ e = .returned (.tuple #[.string t, .bool true])) ∨ (unesc l = none ∧ e = .returned (.tuple #[.string ⟨#[]⟩, .bool false]))

theorem bytes_more (o : List UInt8) (g : ByteArray) : Lib.byteCells o ++ Lib.strCells g = Lib.byteCells (o ++ bs g) := by
  rw [Lib.strCells_eq, Lib.byteCells_append, bs_data]
theorem bytes_one (o : List UInt8) (x : UInt8) (c : Int) (h : (x.toNat : Int) = c) : Lib.byteCells o ++ [Value.int .u8 c] = Lib.byteCells (o ++ [x]) := by
  rw [Lib.byteCells_append, ← h]; rfl

set_option maxHeartbeats 4000000 in
theorem unescW (s : ByteArray) (w : World) (hs : s.size ≤ 17179869184) : Calls Try.prog 56 #[.string s] w fun e w' => Unesc (bs s) e ∧ Below w.heap.size w w' := by
  have hbr : Below w.heap.size w w := Below.refl _ _
  obtain ⟨i0, hi0⟩ : ∃ i, idx1 126 (bs s) = i := ⟨_, rfl⟩
  have HI := Lib.hid hi0
  go_enter Try.func56, Try.ntmps56
  go_wp2_with fail
  refine (idxB s _ 126 i0 _ (by decide) HI.out).mono ?_
  rintro e wy ⟨rfl, rfl⟩
  have hlo := idx1_lo 126 (bs s)
  rw [hi0] at hlo
  by_cases hneg : i0 < 0
  · have hbi : (i0 == -1) = true := by rw [beq_iff_eq]; omega
    have hno : (126 : UInt8) ∉ bs s := by rw [← idx1_neg, hi0]; exact hneg
    have HNO := Lib.hid hno
    clear hno hi0 hlo hneg
    go_wp2_with fail
    go_ret2
    exact ⟨.inl ⟨s, unesc_all HNO.out, rfl⟩, hbr⟩
  have hbi : (i0 == -1) = false := by rw [beq_eq_false_iff_ne]; omega
  have hge : 0 ≤ i0 := by omega
  clear hi0 hlo hneg
  go_wp2_with fail
  have hbld := Lib.fresh_isBuilder 42 5 w
  go_loopw [0, 4] (fun tv iv wi => ∃ (t : ByteArray) (i : Int) (o : List UInt8), tv = .string t ∧ iv = .int .i64 i ∧ 0 ≤ i ∧ Aside0 (idx1 126 (bs t) = i) ∧ Aside0 (unesc (bs s) = (unesc (bs t)).map (o ++ ·)) ∧ o.length + t.size ≤ s.size ∧ Aside0 (Lib.IsBuilder 42 5 w.heap.size w.heap.size (Lib.byteCells o) wi) ∧ Aside0 (Below w.heap.size w wi)) (fun tv _ _ => tokLen tv)
  case atStart => exact ⟨s, i0, [], rfl, rfl, hge, ⟨HI.out⟩, ⟨by cases unesc (bs s) <;> rfl⟩, by simp, ⟨hbld⟩, ⟨hbr.alloc (Nat.le_refl _) _⟩⟩
  case round =>
    obtain ⟨t, i, o, rfl, rfl, hi, HT, HU, hot, HBd, HB⟩ := hrel
    obtain ⟨j, rfl⟩ := Int.eq_ofNat_of_zero_le hi
    have hhi := idx1_hi 126 (bs t)
    rw [HT.out, bs_len] at hhi
    have hjt : j < t.size := by omega
    obtain ⟨hcut0, hfree⟩ := idx1_pos (c := 126) (l := bs t) (by rw [HT.out]; omega)
    rw [HT.out] at hcut0 hfree
    simp only [Int.toNat_natCast] at hcut0 hfree
    have hwsz : w.heap.size ≤ wr.heap.size := HB.out.size
    have hsz1 : (t.extract 0 j).size = j := by rw [ByteArray.size_extract]; omega
    have hU2 : unesc (bs s) = (unesc (126 :: (bs t).drop (j + 1))).map ((o ++ bs (t.extract 0 j)) ++ ·) := by
      rw [HU.out, bs_take]
      conv => lhs; rw [hcut0, unesc_free _ hfree]
      cases unesc (126 :: (bs t).drop (j + 1)) with
      | none => rfl
      | some a => simp
    have hE1 : bs (t.extract (j + 1) t.size) = (bs t).drop (j + 1) := bs_drop _ _
    rw [← hE1] at hU2
    have HU2 := Lib.hid hU2
    clear hU2 hhi hcut0 hfree hE1
    go_wp2_with fail
    refine (Bld.writeString w.heap.size w.heap.size (Lib.byteCells o) _ _ HBd.out (by rw [Lib.byteCells_length, hsz1]; omega) hwsz).mono ?_
    rintro e w1 ⟨rfl, hbd1, hb1⟩
    rw [bytes_more] at hbd1
    have HBd1 := Lib.hid hbd1
    have hbx : Below w.heap.size w w1 := HB.out.trans hb1
    clear hbd1 hb1
    have hsz2 : (t.extract (j + 1) t.size).size = t.size - (j + 1) := by rw [ByteArray.size_extract]; omega
    generalize hg : t.extract (j + 1) t.size = t1 at *
    by_cases h0 : t1.size = 0
    · have hE := emp_true h0
      have hno : unesc (bs s) = none := by rw [HU2.out, bs_nil.2 h0]; rfl
      have HNO := Lib.hid hno
      clear hno h0 hsz2
      go_wp2_with fail
      go_ret2
      exact ⟨.inr ⟨HNO.out, rfl⟩, hbx⟩
    have hE := emp_false h0
    have hpos : 0 < t1.size := by omega
    obtain ⟨x, hx⟩ : ∃ x, t1[0]'hpos = x := ⟨_, rfl⟩
    have hbt : bs t1 = x :: bs (t1.extract 1 t1.size) := by
      rw [bs_drop]
      have hp' : 0 < (bs t1).length := by rw [bs_len]; exact hpos
      conv => lhs; rw [← List.drop_zero (l := bs t1), List.drop_eq_getElem_cons hp']
      rw [bs_at t1 0 hpos hp', hx]
    have hsz3 : (t1.extract 1 t1.size).size = t1.size - 1 := by rw [ByteArray.size_extract]; omega
    generalize hg2 : t1.extract 1 t1.size = t2 at *
    have HBT := Lib.hid hbt
    clear hbt
    by_cases hx4 : ¬ x = 48 ∧ ¬ x = 49
    · have hno : unesc (bs s) = none := by rw [HU2.out, HBT.out, unesc_bad _ _ hx4.1 hx4.2]; rfl
      have HNO := Lib.hid hno
      have t1f : (((t1[0]'hpos).toNat : Int) == 48) = false := by
        rw [hx, beq_eq_false_iff_ne]
        intro k
        exact hx4.1 (UInt8.toNat_inj.1 (by simpa using (by omega : x.toNat = 48)))
      have t2f : (((t1[0]'hpos).toNat : Int) == 49) = false := by
        rw [hx, beq_eq_false_iff_ne]
        intro k
        exact hx4.2 (UInt8.toNat_inj.1 (by simpa using (by omega : x.toNat = 49)))
      clear hno hx hx4
      go_wp2_with fail
      go_ret2
      exact ⟨.inr ⟨HNO.out, rfl⟩, hbx⟩
    have hcase : ∃ c : UInt8, ((x = 48 ∧ c = 126) ∨ (x = 49 ∧ c = 47)) := by
      by_cases k : x = 48
      · exact ⟨126, .inl ⟨k, rfl⟩⟩
      · by_cases k2 : x = 49
        · exact ⟨47, .inr ⟨k2, rfl⟩⟩
        · exact absurd ⟨k, k2⟩ hx4
    obtain ⟨c, hc⟩ := hcase
    have hU3 : unesc (bs s) = (unesc (bs t2)).map ((o ++ bs (t.extract 0 j) ++ [c]) ++ ·) := by
      rw [HU2.out, HBT.out]
      rcases hc with ⟨rfl, rfl⟩ | ⟨rfl, rfl⟩
      · rw [unesc_0]; cases unesc (bs t2) <;> simp
      · rw [unesc_1]; cases unesc (bs t2) <;> simp
    have HU3 := Lib.hid hU3
    clear hU3 hx4
    have hol : (Lib.byteCells (o ++ bs (t.extract 0 j))).length + 1 ≤ 140737488355328 := by
      rw [Lib.byteCells_length, List.length_append, bs_len, hsz1]; omega
    have hol2 : (o ++ bs (t.extract 0 j) ++ [c]).length + t2.size ≤ s.size := by
      rw [List.length_append, List.length_append, bs_len, hsz1, List.length_singleton]; omega
    obtain ⟨i2, hi2⟩ : ∃ i, idx1 126 (bs t2) = i := ⟨_, rfl⟩
    have hlo2 := idx1_lo 126 (bs t2)
    rw [hi2] at hlo2
    have HI2 := Lib.hid hi2
    have HOL := Lib.hid hol
    clear hi2 hol
    have hw1sz := hbx.size
    rcases hc with ⟨hx4, hc⟩ | ⟨hx4, hc⟩
    all_goals
      have tv : ((t1[0]'hpos).toNat : Int) = x.toNat := by rw [hx]
      rw [hx4] at tv
      have HTV := Lib.hid tv
      have hxx := hx4
      clear tv
      first
        | have tb : (((t1[0]'hpos).toNat : Int) == 48) = true := by rw [HTV.out]; rfl
        | have tb : (((t1[0]'hpos).toNat : Int) == 48) = false ∧ (((t1[0]'hpos).toNat : Int) == 49) = true := by rw [HTV.out]; exact ⟨rfl, rfl⟩
      try obtain ⟨tb, tb2⟩ := tb
      clear hx hx4 hxx
      go_wp2_with fail
      refine (Bld.writeByte w.heap.size w.heap.size _ _ _ (.inr HBd1.out) HOL.out hw1sz).mono ?_
      rintro e w2 ⟨rfl, hbd2, hb2⟩
      rw [bytes_one _ c _ (by rw [hc]; rfl)] at hbd2
      have HBd2 := Lib.hid hbd2
      have hby : Below w.heap.size w w2 := hbx.trans hb2
      clear hbd2 hb2
      go_wp2_with fail
      rw [show t1.extract 1 (t.size - (j + 1)) = t2 from by rw [← hsz2]; exact hg2]
      refine (idxB t2 _ 126 i2 _ (by decide) HI2.out).mono ?_
      rintro e wy ⟨rfl, rfl⟩
      by_cases hneg : i2 < 0
      · have hbi : (i2 == -1) = true := by rw [beq_iff_eq]; omega
        have hno : (126 : UInt8) ∉ bs t2 := by rw [← idx1_neg, HI2.out]; exact hneg
        have HNO := Lib.hid hno
        have hfit : (Lib.byteCells (o ++ bs (t.extract 0 j) ++ [c])).length + t2.size ≤ 140737488355328 := by
          rw [Lib.byteCells_length]; omega
        clear hno hlo2 hneg
        go_wp2_with fail
        refine (Bld.writeString w.heap.size w.heap.size _ _ _ (.inr HBd2.out) hfit hby.size).mono ?_
        rintro e w3 ⟨rfl, hbd3, hb3⟩
        rw [bytes_more] at hbd3
        have HBd3 := Lib.hid hbd3
        have hbz : Below w.heap.size w w3 := hby.trans hb3
        clear hbd3 hb3
        go_wp2_with fail
        refine (Try.Builder_String_any w.heap.size w.heap.size _ _ (.inr HBd3.out) hbz.size).mono ?_
        rintro e w4 ⟨rfl, hb4⟩
        go_wp2_with fail
        go_ret2
        refine ⟨.inl ⟨_, ?_, rfl⟩, hbz.trans hb4⟩
        rw [HU3.out, unesc_all HNO.out]
        simp [bs, hc]
      · have hbi : (i2 == -1) = false := by rw [beq_eq_false_iff_ne]; omega
        go_wp2_with fail
        go_roundw
        case rel => exact ⟨t2, i2, _, rfl, rfl, by omega, ⟨HI2.out⟩, ⟨HU3.out⟩, hol2, ⟨.inr HBd2.out⟩, ⟨hby⟩⟩
        case measure => simp only [tokLen]; omega

theorem isUnesc (s : ByteArray) (w : World) (hs : s.size ≤ 17179869184) : Calls Try.prog 37 #[.string s] w fun e w' => Unesc (bs s) e ∧ Below w.heap.size w w' := by
  go_enter Try.func37, Try.ntmps37
  go_wp2_with fail
  refine (unescW s _ hs).mono ?_
  rintro e w1 ⟨hr, hb⟩
  rcases hr with ⟨t, hu, rfl⟩ | ⟨hu, rfl⟩
  · go_wp2_with fail
    go_ret2
    exact ⟨.inl ⟨t, hu, rfl⟩, hb⟩
  · go_wp2_with fail
    go_ret2
    exact ⟨.inr ⟨hu, rfl⟩, hb⟩

theorem implUnesc (s : ByteArray) (w : World) (hs : s.size ≤ 17179869184) : Calls Try.prog 17 #[.string s] w fun e w' => Unesc (bs s) e ∧ Below w.heap.size w w' := by
  go_enter Try.func17, Try.ntmps17
  go_wp2_with fail
  refine (isUnesc s _ hs).mono ?_
  rintro e w1 ⟨hr, hb⟩
  rcases hr with ⟨t, hu, rfl⟩ | ⟨hu, rfl⟩
  · go_wp2_with fail
    go_ret2
    exact ⟨.inl ⟨t, hu, rfl⟩, hb⟩
  · go_wp2_with fail
    go_ret2
    exact ⟨.inr ⟨hu, rfl⟩, hb⟩
end Go.Proofs.Ytdjmjgdafghdgaa.Fmt
