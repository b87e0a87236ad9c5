/- ast.quoteString: the walk. -/
import Derived.Test.YtamajbaojbghcaaQt0
import Derived.Deep.CutBlock
import Derived.Deep.DeepCutAuto
namespace Go.Proofs.Ytamajbaojbghcaa.Qt
open Go.RowKit Go.Proofs.YtamajbaojbghcaaW.PrintWords Go.Proofs.YtamajbaojbghcaaW.PrintLast Go.Proofs.YtamajbaojbghcaaW.PrintMore Go.Proofs.Ytamajbaojbghcaa.PB Go.Proofs.Ytamajbaojbghcaa.K
set_option linter.unusedVariables false
set_option linter.unusedSimpArgs false
/-- The builder holds a text; what is left makes the rest. -/
structure Qs (w wi : World) (s : ByteArray) (i : Nat) (l : List UInt8) : Prop where
  b : Lib.IsBuilder 169 5 w.heap.size w.heap.size (Lib.byteCells l) wi
  below : Below w.heap.size w wi
  eq : 34 :: qB (bs s) = l ++ qB ((bs s).drop i)
  len : l.length ≤ 6 * i + 1
theorem Qs.bytes {w wi w' : World} {s : ByteArray} {i j : Nat} {l : List UInt8} (h : Qs w wi s i l) (m : List UInt8) (hb : Lib.BuilderAt 169 5 w.heap.size w.heap.size (.pointer (some ⟨w.heap.size, 0, none⟩)) (Lib.byteCells l ++ Lib.byteCells m) w') (hbl : Below w.heap.size wi w') (hq : qB ((bs s).drop i) = m ++ qB ((bs s).drop j)) (hl : m.length ≤ 6 * (j - i)) (hij : i ≤ j) : Qs w w' s j (l ++ m) := by
  refine ⟨?_, h.below.trans hbl, ?_, ?_⟩
  · rw [Lib.byteCells_append]; exact .inr hb
  · rw [h.eq, hq, List.append_assoc]
  · have := h.len; rw [List.length_append]; omega
theorem byteCells_one (n : Nat) (h : n < 256) : Lib.byteCells [UInt8.ofNat n] = [Value.int .u8 n] := by
  simp [Lib.byteCells, Nat.mod_eq_of_lt h]
theorem qB_194 (d : UInt8) (u : List UInt8) (h : 128 ≤ d.toNat ∧ d.toNat ≤ 159) : qB (194 :: d :: u) = qU d.toNat ++ qB u := by
  rw [qB.eq_def]; dsimp only
  rw [if_neg (by decide), if_neg (by decide), if_neg (by decide), if_neg (by decide), if_neg (by decide), if_neg (by decide), if_neg (by decide), if_pos rfl, if_pos h]
theorem qB_194n (d : UInt8) (u : List UInt8) (h : ¬ (128 ≤ d.toNat ∧ d.toNat ≤ 159)) : qB (194 :: d :: u) = [194] ++ qB (d :: u) := by
  rw [qB.eq_def]; dsimp only
  rw [if_neg (by decide), if_neg (by decide), if_neg (by decide), if_neg (by decide), if_neg (by decide), if_neg (by decide), if_neg (by decide), if_pos rfl, if_neg h]; rfl
theorem qB_194e : qB [194] = [194] ++ qB [] := by
  rw [qB.eq_def]; dsimp only
  rw [if_neg (by decide), if_neg (by decide), if_neg (by decide), if_neg (by decide), if_neg (by decide), if_neg (by decide), if_neg (by decide), if_pos rfl, qB_nil]; rfl
theorem qB_uni (c : UInt8) (t : List UInt8) (h : c.toNat < 32 ∨ c.toNat = 127) (h2 : c.toNat ≠ 8 ∧ c.toNat ≠ 12 ∧ c.toNat ≠ 10 ∧ c.toNat ≠ 13 ∧ c.toNat ≠ 9) : qB (c :: t) = qU c.toNat ++ qB t := by
  have k : ∀ d : UInt8, c.toNat ≠ d.toNat → c ≠ d := fun d hd e => hd (by rw [e])
  rw [qB.eq_def]; dsimp only
  rw [if_neg (k 34 (by show c.toNat ≠ 34; omega)), if_neg (k 92 (by show c.toNat ≠ 92; omega)), if_neg (k 8 (by show c.toNat ≠ 8; omega)), if_neg (k 12 (by show c.toNat ≠ 12; omega)), if_neg (k 10 (by show c.toNat ≠ 10; omega)), if_neg (k 13 (by show c.toNat ≠ 13; omega)), if_neg (k 9 (by show c.toNat ≠ 9; omega)), if_neg (k 194 (by show c.toNat ≠ 194; omega)), if_pos]
  rcases h with h | h
  · exact .inl h
  · exact .inr (UInt8.toNat_inj.1 h)
theorem qB_dflt (c : UInt8) (t : List UInt8) (h : ¬ c.toNat < 32 ∧ c.toNat ≠ 34 ∧ c.toNat ≠ 92 ∧ c.toNat ≠ 127 ∧ c.toNat ≠ 194) : qB (c :: t) = [c] ++ qB t := by
  rw [qB_plain (by simp [may]; omega)]; rfl
theorem drop_at (s : ByteArray) (i : Nat) (hlt : i < s.size) (n : Nat) (hn : (s[i]'hlt).toNat = n) : (bs s).drop i = UInt8.ofNat n :: (bs s).drop (i + 1) := by
  have hl := bs_len s
  rw [List.drop_eq_getElem_cons (by omega : i < (bs s).length), Bt.bs_at s i hlt (by omega), ← hn]
  simp
theorem qB_34 (t : List UInt8) : qB (34 :: t) = [92, 34] ++ qB t := by rw [qB.eq_def]; simp
theorem qB_92 (t : List UInt8) : qB (92 :: t) = [92, 92] ++ qB t := by rw [qB.eq_def]; simp
theorem qB_8 (t : List UInt8) : qB (8 :: t) = [92, 98] ++ qB t := by rw [qB.eq_def]; simp
theorem qB_12 (t : List UInt8) : qB (12 :: t) = [92, 102] ++ qB t := by rw [qB.eq_def]; simp
theorem qB_10 (t : List UInt8) : qB (10 :: t) = [92, 110] ++ qB t := by rw [qB.eq_def]; simp
theorem qB_13 (t : List UInt8) : qB (13 :: t) = [92, 114] ++ qB t := by rw [qB.eq_def]; simp
theorem qB_9 (t : List UInt8) : qB (9 :: t) = [92, 116] ++ qB t := by rw [qB.eq_def]; simp
set_option maxHeartbeats 8000000 in
set_option maxRecDepth 100000 in
theorem quoteW (s : ByteArray) (w : World) (hs : s.size ≤ 2147483647) : Calls Try.prog 78 #[.string s] w fun e w' => e = .returned (.string ⟨(34 :: (qB (bs s) ++ [34])).toArray⟩) ∧ Below w.heap.size w w' := by
  have hl := bs_len s
  obtain ⟨V, hV⟩ : ∃ V, 34 :: (qB (bs s) ++ [34]) = V := ⟨_, rfl⟩
  rw [hV]
  have HV := Lib.hid hV
  clear hV
  go_enter Try.func78, Try.ntmps78
  go_upto_block 0 with fail
  go_cut [3] (fun iv wc => ∃ i : Nat, iv = .int .i64 i ∧ i ≤ s.size ∧ Aside0 (∀ j, (h : j < (bs s).length) → j < i → may ((bs s)[j]).toNat = false) ∧ Aside0 (wc = w))
  case first =>
    go_wp2_with fail
    go_loopw [3] (fun iv wi => ∃ i : Nat, iv = .int .i64 i ∧ i ≤ s.size ∧ Hid (∀ j, (h : j < (bs s).length) → j < i → may ((bs s)[j]).toNat = false) ∧ Hid (wi = w)) (fun iv _ => s.size - (intOf iv).toNat)
    case atStart => exact ⟨0, rfl, by omega, Lib.hid (fun j h hj => by omega), Lib.hid rfl⟩
    case round =>
      obtain ⟨i, rfl, hil, HI, HW⟩ := hrel
      by_cases hlt : i < s.size
      · have hd1 : decide ((i : Int) < (s.size : Int)) = true := decide_eq_true (by omega)
        have hi0 : (0 : Int) ≤ (i : Int) := Int.natCast_nonneg _
        have hi1 : (i : Int) < (s.size : Int) := by omega
        obtain ⟨n, hn⟩ : ∃ n, (s[i]'hlt).toNat = n := ⟨_, rfl⟩
        have HM := Lib.hid (mayW n)
        have hnb : ((bs s)[i]'(by omega)).toNat = n := by rw [Bt.bs_at s i hlt (by omega)]; exact hn
        cases hm : may n with
        | true =>
          rw [hm] at HM
          clear hnb hm
          go_wp2_with fail
          refine (HM.out _).mono ?_
          rintro e w1 ⟨rfl, rfl⟩
          go_wp2_with fail
          go_meet
          exact ⟨i, rfl, hil, ⟨HI.out⟩, ⟨HW.out⟩⟩
        | false =>
          rw [hm] at HM
          have HI2 := Lib.hid (show ∀ j, (h : j < (bs s).length) → j < i + 1 → may ((bs s)[j]).toNat = false by
            intro j h hj
            by_cases e : j = i
            · subst e; rw [hnb]; exact hm
            · exact HI.out j h (by omega))
          clear hnb hm
          go_wp2_with fail
          refine (HM.out _).mono ?_
          rintro e w1 ⟨rfl, rfl⟩
          go_wp2_with fail
          go_roundw
          case rel => exact ⟨i + 1, by go_num, by omega, HI2, HW⟩
          case measure => first | (simp [intOf]; done) | (simp [intOf]; omega)
      · obtain rfl : i = s.size := by omega
        have hd1 : decide ((s.size : Int) < (s.size : Int)) = false := by simp
        clear hlt
        go_wp2_with fail
        go_meet
        exact ⟨s.size, rfl, hil, ⟨HI.out⟩, ⟨HW.out⟩⟩
  case rest =>
    obtain ⟨i, rfl, hil, hI, hW⟩ := hcut
    obtain rfl := hW.out
    have HT := Lib.hid (qB_take i (bs s) hI.out)
    clear hI hW
    by_cases he : i = s.size
    · subst he
      have hd1 : ((s.size : Int) == (s.size : Int)) = true := beq_self_eq_true _
      have hs1 : (9223372036854775807 < 1 + s.size) = False := eq_false (by omega)
      have hs2 : (9223372036854775807 < 1 + s.size + 1) = False := eq_false (by omega)
      have HR := Lib.hid (show ((⟨#[34]⟩ : ByteArray) ++ s) ++ ⟨#[34]⟩ = ⟨V.toArray⟩ by
        rw [← HV.out, HT.out, List.take_of_length_le (by omega), List.drop_of_length_le (by omega), qB_nil]
        apply bs_ext
        simp only [bs_append, bs_mk, List.append_nil]
        show [34] ++ bs s ++ [34] = _
        simp)
      go_wp2_with fail
      go_ret
      exact ⟨by rw [← HR.out]; rfl, Below.refl _ _⟩
    · have hd1 : ((i : Int) == (s.size : Int)) = false := by simp; omega
      have hi1 : (i : Int) ≤ (s.size : Int) := by omega
      have hi0 : (0 : Int) ≤ (i : Int) := Int.natCast_nonneg _
      clear he
      go_wp2_with fail
      have HG := Lib.hid (Try.Builder_Grow_fresh wc.heap.size wc.heap.size (s.size + s.size / 8 + 2) (wc.alloc (.cells #[.pointer none, .slice none 0 0] 169)) (Nat.le_refl _) (heap_alloc_new wc _) (by rw [World.size_alloc]; omega) (by omega))
      have hcast : ((s.size + s.size / 8 + 2 : Nat) : Int) = (s.size : Int) + (s.size : Int) / 8 + 2 := by omega
      rw [hcast] at HG
      refine HG.out.mono ?_
      rintro e w1 ⟨rfl, hB1, hbl1⟩
      have HB1 := Lib.hid hB1
      have HL1 := Lib.hid (((Below.refl wc.heap.size wc).alloc (Nat.le_refl _) (.cells #[.pointer none, .slice none 0 0] 169)).trans hbl1)
      clear hB1 hbl1 HG hcast
      go_wp2_with fail
      refine (Bld.writeByte wc.heap.size wc.heap.size [] 34 w1 (.inr HB1.out) (by simp) HL1.out.size).mono ?_
      rintro e w2 ⟨rfl, hB2, hbl2⟩
      have HB2 := Lib.hid hB2
      have HL2 := Lib.hid (HL1.out.trans hbl2)
      clear hB2 hbl2 HB1 HL1
      go_wp2_with fail
      have hxs : (s.extract 0 i).size = i := by rw [ByteArray.size_extract]; omega
      refine (Bld.writeString wc.heap.size wc.heap.size _ (s.extract 0 i) w2 (.inr HB2.out) (by rw [hxs]; simp; omega) HL2.out.size).mono ?_
      rintro e w3 ⟨rfl, hB3, hbl3⟩
      have hsc : Lib.strCells (s.extract 0 i) = Lib.byteCells ((bs s).take i) := by
        rw [← strCells_bytes]
        congr 1
        apply bs_ext
        rw [bs_take]; exact (bs_mk _).symm
      rw [hsc] at hB3
      have HQ := Lib.hid (show Qs wc w3 s i (34 :: (bs s).take i) from ⟨.inr hB3, HL2.out.trans hbl3, by rw [HT.out]; rfl, by simp; omega⟩)
      clear hB3 hbl3 HB2 HL2 hsc hxs HT hd1 hi0 hi1
      go_wp2_with fail
      go_loopw [3] (fun iv wi => ∃ i : Nat, ∃ l : List UInt8, iv = .int .i64 i ∧ i ≤ s.size ∧ Hid (Qs wc wi s i l)) (fun iv _ => s.size - (intOf iv).toNat)
      case atStart => exact ⟨i, _, rfl, hil, HQ⟩
      case round =>
        obtain ⟨i, l, rfl, hil, HI⟩ := hrel
        clear HQ
        have hll := HI.out.len
        have hwz := HI.out.below.size
        by_cases hlt : i < s.size
        · have hd1 : decide ((i : Int) < (s.size : Int)) = true := decide_eq_true (by omega)
          have hi0 : (0 : Int) ≤ (i : Int) := Int.natCast_nonneg _
          have hi1 : (i : Int) < (s.size : Int) := by omega
          obtain ⟨n, hn⟩ : ∃ n, (s[i]'hlt).toNat = n := ⟨_, rfl⟩
          have hn256 : n < 256 := by rw [← hn]; exact UInt8.toNat_lt _
          have HD := Lib.hid (drop_at s i hlt n hn)
          by_cases h34 : n = 34
          · subst h34
            have HQB := Lib.hid (show qB ((bs s).drop i) = [92, 34] ++ qB ((bs s).drop (i + 1)) by rw [HD.out]; exact qB_34 _)
            go_wp2_with fail
            refine (Bld.writeString wc.heap.size wc.heap.size _ ⟨#[92, 34]⟩ wr HI.out.b (by rw [Lib.byteCells_length]; show l.length + 2 ≤ _; omega) hwz).mono ?_
            rintro e w4 ⟨rfl, hB4, hbl4⟩
            rw [show Lib.strCells ⟨#[92, 34]⟩ = Lib.byteCells [92, 34] from strCells_bytes [92, 34]] at hB4
            have HN := Lib.hid (HI.out.bytes (j := i + 1) [92, 34] hB4 hbl4 HQB.out (by simp only [List.length_cons, List.length_nil]; omega) (by omega))
            clear hB4 hbl4
            go_wp2_with fail
            go_roundw
            case rel => exact ⟨i + 1, _, by go_num, by omega, HN⟩
            case measure => first | (simp [intOf]; done) | (simp [intOf]; omega)
          have q34 : ((n : Int) == 34) = false := by simp; omega
          by_cases h92 : n = 92
          · subst h92
            have HQB := Lib.hid (show qB ((bs s).drop i) = [92, 92] ++ qB ((bs s).drop (i + 1)) by rw [HD.out]; exact qB_92 _)
            go_wp2_with fail
            refine (Bld.writeString wc.heap.size wc.heap.size _ ⟨#[92, 92]⟩ wr HI.out.b (by rw [Lib.byteCells_length]; show l.length + 2 ≤ _; omega) hwz).mono ?_
            rintro e w4 ⟨rfl, hB4, hbl4⟩
            rw [show Lib.strCells ⟨#[92, 92]⟩ = Lib.byteCells [92, 92] from strCells_bytes [92, 92]] at hB4
            have HN := Lib.hid (HI.out.bytes (j := i + 1) [92, 92] hB4 hbl4 HQB.out (by simp only [List.length_cons, List.length_nil]; omega) (by omega))
            clear hB4 hbl4
            go_wp2_with fail
            go_roundw
            case rel => exact ⟨i + 1, _, by go_num, by omega, HN⟩
            case measure => first | (simp [intOf]; done) | (simp [intOf]; omega)
          have q92 : ((n : Int) == 92) = false := by simp; omega
          by_cases h8 : n = 8
          · subst h8
            have HQB := Lib.hid (show qB ((bs s).drop i) = [92, 98] ++ qB ((bs s).drop (i + 1)) by rw [HD.out]; exact qB_8 _)
            go_wp2_with fail
            refine (Bld.writeString wc.heap.size wc.heap.size _ ⟨#[92, 98]⟩ wr HI.out.b (by rw [Lib.byteCells_length]; show l.length + 2 ≤ _; omega) hwz).mono ?_
            rintro e w4 ⟨rfl, hB4, hbl4⟩
            rw [show Lib.strCells ⟨#[92, 98]⟩ = Lib.byteCells [92, 98] from strCells_bytes [92, 98]] at hB4
            have HN := Lib.hid (HI.out.bytes (j := i + 1) [92, 98] hB4 hbl4 HQB.out (by simp only [List.length_cons, List.length_nil]; omega) (by omega))
            clear hB4 hbl4
            go_wp2_with fail
            go_roundw
            case rel => exact ⟨i + 1, _, by go_num, by omega, HN⟩
            case measure => first | (simp [intOf]; done) | (simp [intOf]; omega)
          have q8 : ((n : Int) == 8) = false := by simp; omega
          by_cases h12 : n = 12
          · subst h12
            have HQB := Lib.hid (show qB ((bs s).drop i) = [92, 102] ++ qB ((bs s).drop (i + 1)) by rw [HD.out]; exact qB_12 _)
            go_wp2_with fail
            refine (Bld.writeString wc.heap.size wc.heap.size _ ⟨#[92, 102]⟩ wr HI.out.b (by rw [Lib.byteCells_length]; show l.length + 2 ≤ _; omega) hwz).mono ?_
            rintro e w4 ⟨rfl, hB4, hbl4⟩
            rw [show Lib.strCells ⟨#[92, 102]⟩ = Lib.byteCells [92, 102] from strCells_bytes [92, 102]] at hB4
            have HN := Lib.hid (HI.out.bytes (j := i + 1) [92, 102] hB4 hbl4 HQB.out (by simp only [List.length_cons, List.length_nil]; omega) (by omega))
            clear hB4 hbl4
            go_wp2_with fail
            go_roundw
            case rel => exact ⟨i + 1, _, by go_num, by omega, HN⟩
            case measure => first | (simp [intOf]; done) | (simp [intOf]; omega)
          have q12 : ((n : Int) == 12) = false := by simp; omega
          by_cases h10 : n = 10
          · subst h10
            have HQB := Lib.hid (show qB ((bs s).drop i) = [92, 110] ++ qB ((bs s).drop (i + 1)) by rw [HD.out]; exact qB_10 _)
            go_wp2_with fail
            refine (Bld.writeString wc.heap.size wc.heap.size _ ⟨#[92, 110]⟩ wr HI.out.b (by rw [Lib.byteCells_length]; show l.length + 2 ≤ _; omega) hwz).mono ?_
            rintro e w4 ⟨rfl, hB4, hbl4⟩
            rw [show Lib.strCells ⟨#[92, 110]⟩ = Lib.byteCells [92, 110] from strCells_bytes [92, 110]] at hB4
            have HN := Lib.hid (HI.out.bytes (j := i + 1) [92, 110] hB4 hbl4 HQB.out (by simp only [List.length_cons, List.length_nil]; omega) (by omega))
            clear hB4 hbl4
            go_wp2_with fail
            go_roundw
            case rel => exact ⟨i + 1, _, by go_num, by omega, HN⟩
            case measure => first | (simp [intOf]; done) | (simp [intOf]; omega)
          have q10 : ((n : Int) == 10) = false := by simp; omega
          by_cases h13 : n = 13
          · subst h13
            have HQB := Lib.hid (show qB ((bs s).drop i) = [92, 114] ++ qB ((bs s).drop (i + 1)) by rw [HD.out]; exact qB_13 _)
            go_wp2_with fail
            refine (Bld.writeString wc.heap.size wc.heap.size _ ⟨#[92, 114]⟩ wr HI.out.b (by rw [Lib.byteCells_length]; show l.length + 2 ≤ _; omega) hwz).mono ?_
            rintro e w4 ⟨rfl, hB4, hbl4⟩
            rw [show Lib.strCells ⟨#[92, 114]⟩ = Lib.byteCells [92, 114] from strCells_bytes [92, 114]] at hB4
            have HN := Lib.hid (HI.out.bytes (j := i + 1) [92, 114] hB4 hbl4 HQB.out (by simp only [List.length_cons, List.length_nil]; omega) (by omega))
            clear hB4 hbl4
            go_wp2_with fail
            go_roundw
            case rel => exact ⟨i + 1, _, by go_num, by omega, HN⟩
            case measure => first | (simp [intOf]; done) | (simp [intOf]; omega)
          have q13 : ((n : Int) == 13) = false := by simp; omega
          by_cases h9 : n = 9
          · subst h9
            have HQB := Lib.hid (show qB ((bs s).drop i) = [92, 116] ++ qB ((bs s).drop (i + 1)) by rw [HD.out]; exact qB_9 _)
            go_wp2_with fail
            refine (Bld.writeString wc.heap.size wc.heap.size _ ⟨#[92, 116]⟩ wr HI.out.b (by rw [Lib.byteCells_length]; show l.length + 2 ≤ _; omega) hwz).mono ?_
            rintro e w4 ⟨rfl, hB4, hbl4⟩
            rw [show Lib.strCells ⟨#[92, 116]⟩ = Lib.byteCells [92, 116] from strCells_bytes [92, 116]] at hB4
            have HN := Lib.hid (HI.out.bytes (j := i + 1) [92, 116] hB4 hbl4 HQB.out (by simp only [List.length_cons, List.length_nil]; omega) (by omega))
            clear hB4 hbl4
            go_wp2_with fail
            go_roundw
            case rel => exact ⟨i + 1, _, by go_num, by omega, HN⟩
            case measure => first | (simp [intOf]; done) | (simp [intOf]; omega)
          have q9 : ((n : Int) == 9) = false := by simp; omega
          by_cases h194 : n = 194
          · subst h194
            by_cases h1 : i + 1 < s.size
            · have hg1 : (i : Int) + 1 < (s.size : Int) := by omega
              have hg2 : decide ((i : Int) + 1 < (s.size : Int)) = true := decide_eq_true hg1
              have hg3 : (0 : Int) ≤ (i : Int) + 1 := by omega
              obtain ⟨m, hm⟩ : ∃ m, (s[i + 1]'h1).toNat = m := ⟨_, rfl⟩
              have hm256 : m < 256 := by rw [← hm]; exact UInt8.toNat_lt _
              have HD2 := Lib.hid (drop_at s (i + 1) h1 m hm)
              have hmt : (UInt8.ofNat m).toNat = m := by simp; omega
              by_cases ha : 128 ≤ m
              · have p1 : decide ((m : Int) ≥ 128) = true := decide_eq_true (by omega)
                have p1' : decide ((128 : Int) ≤ (m : Int)) = true := decide_eq_true (by omega)
                by_cases hb : m ≤ 159
                · have p2 : decide ((m : Int) ≤ 159) = true := decide_eq_true (by omega)
                  have HQB := Lib.hid (show qB ((bs s).drop i) = qU m ++ qB ((bs s).drop (i + 2)) by
                    rw [HD.out, HD2.out]
                    have := qB_194 (UInt8.ofNat m) ((bs s).drop (i + 2)) (by rw [hmt]; omega)
                    rw [hmt] at this
                    exact this)
                  clear hmt
                  go_wp2_with fail
                  refine (uniW wc.heap.size wc.heap.size l m wr HI.out.b (by omega) hwz hm256).mono ?_
                  rintro e w4 ⟨rfl, hB4, hbl4⟩
                  have HN := Lib.hid (show Qs wc w4 s (i + 2) (l ++ qU m) from ⟨hB4, HI.out.below.trans hbl4, by rw [HI.out.eq, HQB.out, List.append_assoc], by rw [List.length_append]; show l.length + 6 ≤ _; omega⟩)
                  clear hB4 hbl4
                  go_wp2_with fail
                  go_roundw
                  case rel => exact ⟨i + 2, _, by go_num, by omega, HN⟩
                  case measure => first | (simp [intOf]; done) | (simp [intOf]; omega)
                · have p2 : decide ((m : Int) ≤ 159) = false := decide_eq_false (by omega)
                  have HQB := Lib.hid (show qB ((bs s).drop i) = [UInt8.ofNat 194] ++ qB ((bs s).drop (i + 1)) by
                    rw [HD.out, HD2.out]
                    exact qB_194n _ _ (by rw [hmt]; omega))
                  clear hmt
                  go_wp2_with fail
                  refine (Bld.writeByte wc.heap.size wc.heap.size _ (194 : Int) wr HI.out.b (by rw [Lib.byteCells_length]; omega) hwz).mono ?_
                  rintro e w4 ⟨rfl, hB4, hbl4⟩
                  rw [show ([Value.int .u8 194] : List Value) = Lib.byteCells [UInt8.ofNat 194] from rfl] at hB4
                  have HN := Lib.hid (HI.out.bytes (j := i + 1) [UInt8.ofNat 194] hB4 hbl4 HQB.out (by simp only [List.length_cons, List.length_nil]; omega) (by omega))
                  clear hB4 hbl4
                  go_wp2_with fail
                  go_roundw
                  case rel => exact ⟨i + 1, _, by go_num, by omega, HN⟩
                  case measure => first | (simp [intOf]; done) | (simp [intOf]; omega)
              · have p1 : decide ((m : Int) ≥ 128) = false := decide_eq_false (by omega)
                have p1' : decide ((128 : Int) ≤ (m : Int)) = false := decide_eq_false (by omega)
                have HQB := Lib.hid (show qB ((bs s).drop i) = [UInt8.ofNat 194] ++ qB ((bs s).drop (i + 1)) by
                  rw [HD.out, HD2.out]
                  exact qB_194n _ _ (by rw [hmt]; omega))
                clear hmt
                go_wp2_with fail
                refine (Bld.writeByte wc.heap.size wc.heap.size _ (194 : Int) wr HI.out.b (by rw [Lib.byteCells_length]; omega) hwz).mono ?_
                rintro e w4 ⟨rfl, hB4, hbl4⟩
                rw [show ([Value.int .u8 194] : List Value) = Lib.byteCells [UInt8.ofNat 194] from rfl] at hB4
                have HN := Lib.hid (HI.out.bytes (j := i + 1) [UInt8.ofNat 194] hB4 hbl4 HQB.out (by simp only [List.length_cons, List.length_nil]; omega) (by omega))
                clear hB4 hbl4
                go_wp2_with fail
                go_roundw
                case rel => exact ⟨i + 1, _, by go_num, by omega, HN⟩
                case measure => first | (simp [intOf]; done) | (simp [intOf]; omega)
            · have hg1 : ¬ (i : Int) + 1 < (s.size : Int) := by omega
              have hg2 : decide ((i : Int) + 1 < (s.size : Int)) = false := decide_eq_false hg1
              have HQB := Lib.hid (show qB ((bs s).drop i) = [UInt8.ofNat 194] ++ qB ((bs s).drop (i + 1)) by
                rw [HD.out, List.drop_of_length_le (by omega : (bs s).length ≤ i + 1)]
                exact qB_194e)
              go_wp2_with fail
              refine (Bld.writeByte wc.heap.size wc.heap.size _ (194 : Int) wr HI.out.b (by rw [Lib.byteCells_length]; omega) hwz).mono ?_
              rintro e w4 ⟨rfl, hB4, hbl4⟩
              rw [show ([Value.int .u8 194] : List Value) = Lib.byteCells [UInt8.ofNat 194] from rfl] at hB4
              have HN := Lib.hid (HI.out.bytes (j := i + 1) [UInt8.ofNat 194] hB4 hbl4 HQB.out (by simp only [List.length_cons, List.length_nil]; omega) (by omega))
              clear hB4 hbl4
              go_wp2_with fail
              go_roundw
              case rel => exact ⟨i + 1, _, by go_num, by omega, HN⟩
              case measure => first | (simp [intOf]; done) | (simp [intOf]; omega)
          have q194 : ((n : Int) == 194) = false := by simp; omega
          have hnt : (UInt8.ofNat n).toNat = n := by simp; omega
          by_cases hlo : n < 32
          · have p1 : decide ((n : Int) < 32) = true := decide_eq_true (by omega)
            have HQB := Lib.hid (show qB ((bs s).drop i) = qU n ++ qB ((bs s).drop (i + 1)) by
              rw [HD.out]
              have := qB_uni (UInt8.ofNat n) ((bs s).drop (i + 1)) (by rw [hnt]; omega) (by rw [hnt]; omega)
              rw [hnt] at this
              exact this)
            clear hnt h34 h92 h8 h12 h10 h13 h9 h194
            go_wp2_with fail
            refine (uniW wc.heap.size wc.heap.size l n wr HI.out.b (by omega) hwz hn256).mono ?_
            rintro e w4 ⟨rfl, hB4, hbl4⟩
            have HN := Lib.hid (show Qs wc w4 s (i + 1) (l ++ qU n) from ⟨hB4, HI.out.below.trans hbl4, by rw [HI.out.eq, HQB.out, List.append_assoc], by rw [List.length_append]; show l.length + 6 ≤ _; omega⟩)
            clear hB4 hbl4
            go_wp2_with fail
            go_roundw
            case rel => exact ⟨i + 1, _, by go_num, by omega, HN⟩
            case measure => first | (simp [intOf]; done) | (simp [intOf]; omega)
          · have p1 : decide ((n : Int) < 32) = false := decide_eq_false (by omega)
            by_cases h127 : n = 127
            · subst h127
              have HQB := Lib.hid (show qB ((bs s).drop i) = qU 127 ++ qB ((bs s).drop (i + 1)) by
                rw [HD.out]
                exact qB_uni (UInt8.ofNat 127) _ (.inr rfl) (by decide))
              clear hnt h34 h92 h8 h12 h10 h13 h9 h194
              go_wp2_with fail
              refine (uniW wc.heap.size wc.heap.size l 127 wr HI.out.b (by omega) hwz (by decide)).mono ?_
              rintro e w4 ⟨rfl, hB4, hbl4⟩
              have HN := Lib.hid (show Qs wc w4 s (i + 1) (l ++ qU 127) from ⟨hB4, HI.out.below.trans hbl4, by rw [HI.out.eq, HQB.out, List.append_assoc], by rw [List.length_append]; show l.length + 6 ≤ _; omega⟩)
              clear hB4 hbl4
              go_wp2_with fail
              go_roundw
              case rel => exact ⟨i + 1, _, by go_num, by omega, HN⟩
              case measure => first | (simp [intOf]; done) | (simp [intOf]; omega)
            · have q127 : ((n : Int) == 127) = false := by simp; omega
              have HQB := Lib.hid (show qB ((bs s).drop i) = [UInt8.ofNat n] ++ qB ((bs s).drop (i + 1)) by
                rw [HD.out]
                exact qB_dflt _ _ (by rw [hnt]; omega))
              clear hnt h34 h92 h8 h12 h10 h13 h9 h194 h127
              go_wp2_with fail
              refine (Bld.writeByte wc.heap.size wc.heap.size _ (n : Int) wr HI.out.b (by rw [Lib.byteCells_length]; omega) hwz).mono ?_
              rintro e w4 ⟨rfl, hB4, hbl4⟩
              rw [← byteCells_one n hn256] at hB4
              have HN := Lib.hid (HI.out.bytes (j := i + 1) [UInt8.ofNat n] hB4 hbl4 HQB.out (by simp only [List.length_cons, List.length_nil]; omega) (by omega))
              clear hB4 hbl4
              go_wp2_with fail
              go_roundw
              case rel => exact ⟨i + 1, _, by go_num, by omega, HN⟩
              case measure => first | (simp [intOf]; done) | (simp [intOf]; omega)
        · obtain rfl : i = s.size := by omega
          have hd1 : decide ((i : Int) < (i : Int)) = false := by simp
          have HE := Lib.hid (show 34 :: qB (bs s) = l by
            rw [HI.out.eq, List.drop_of_length_le (by omega), qB_nil, List.append_nil])
          clear hlt
          go_wp2_with fail
          refine (Bld.writeByte wc.heap.size wc.heap.size _ 34 wr HI.out.b (by rw [Lib.byteCells_length]; omega) hwz).mono ?_
          rintro e w4 ⟨rfl, hB4, hbl4⟩
          rw [show ([Value.int .u8 34] : List Value) = Lib.byteCells [34] from rfl, ← Lib.byteCells_append] at hB4
          have HB4 := Lib.hid hB4
          have HL4 := Lib.hid (HI.out.below.trans hbl4)
          clear hB4 hbl4
          go_wp2_with fail
          refine (Try.Builder_String_any wc.heap.size wc.heap.size (l ++ [34]) w4 (.inr HB4.out) HL4.out.size).mono ?_
          rintro e w5 ⟨rfl, hbl5⟩
          have HL5 := Lib.hid (HL4.out.trans hbl5)
          have HVE := Lib.hid (show V = l ++ [34] by rw [← HV.out, ← HE.out]; rfl)
          clear hbl5
          go_wp2_with fail
          go_ret
          exact ⟨by rw [HVE.out]; rfl, HL5.out⟩
end Go.Proofs.Ytamajbaojbghcaa.Qt
