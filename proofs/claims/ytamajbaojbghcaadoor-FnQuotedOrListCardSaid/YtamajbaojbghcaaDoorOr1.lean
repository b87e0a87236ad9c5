/- core.OrList: the walk over bytes.Buffer. -/
import Derived.Test.YtamajbaojbghcaaDoorOr0
import Derived.Lib.BufferWrite
namespace Go.Proofs.YtamajbaojbghcaaDoor.Or
open Go.RowKit Go.Proofs.YtamajbaojbghcaaDoorW.PrintWords Go.Proofs.YtamajbaojbghcaaDoorW.PrintLast Go.Proofs.YtamajbaojbghcaaDoorW.PrintMore Go.Proofs.YtamajbaojbghcaaDoor.PO Go.Proofs.YtamajbaojbghcaaDoor.K
set_option linter.unusedVariables false
set_option linter.unusedSimpArgs false
theorem lt_of_cell {w : World} {a : Addr} {v : Value} (h : w.cell? a = some v) : a.block < w.heap.size := by
  rcases Nat.lt_or_ge a.block w.heap.size with h' | h'
  · exact h'
  · simp [World.cell?, Array.getElem?_eq_none h'] at h
/-- The call's own buffer holds a text. -/
structure Bf (w wi : World) (s : ByteArray) : Prop where
  buf : Lib.IsBuffer 30 5 w.heap.size w.heap.size (Lib.byteCells s.data.toList) wi
  below : Below w.heap.size w wi
theorem Bf.write {w wi : World} {s : ByteArray} (h : Bf w wi s) (t : ByteArray) (hs : s.size + t.size ≤ 140737488355328) : Calls Tryd.prog 12 #[.pointer (some ⟨w.heap.size, 0, none⟩), .string t] wi fun e w' => e = .returned (.tuple #[.int .i64 t.size, .nilIface]) ∧ Bf w w' (s ++ t) := by
  refine (Tryd.Buffer_WriteString w.heap.size w.heap.size (Lib.byteCells s.data.toList) t wi h.buf h.below.size (Lib.byteCells_one _) (by rw [Lib.byteCells_length]; exact hs)).mono ?_
  rintro e w' ⟨rfl, hb, hbl⟩
  refine ⟨rfl, ?_, h.below.trans hbl⟩
  rw [← Lib.byteCells_append] at hb
  have e : (s ++ t).data.toList = s.data.toList ++ t.data.toList := by simp
  rw [e]
  exact hb
theorem Bf.text {w wi : World} {s : ByteArray} (h : Bf w wi s) : Calls Tryd.prog 13 #[.pointer (some ⟨w.heap.size, 0, none⟩)] wi fun e w' => e = .returned (.string s) ∧ Below w.heap.size w w' := by
  refine (Tryd.Buffer_String w.heap.size w.heap.size s.data.toList wi h.buf).mono ?_
  rintro e w' ⟨rfl, n, rfl⟩
  exact ⟨rfl, pw_below_drewN h.below n⟩
theorem Bf.start (w : World) : Bf w (w.alloc (.cells #[.slice none 0 0, .int .i64 0, .int .i8 0] 30)) ⟨#[]⟩ := ⟨Lib.fresh_isBuffer _ _ w, (Below.refl _ _).alloc (Nat.le_refl _) _⟩
theorem strAt {w : World} {A : Option Addr} {l : List ByteArray} (h : Kd.string.C w A l.length l) (i : Nat) (hi : i < l.length) : ∃ ad, A = some ad ∧ w.cell? (ad.add i) = some (.string (it l i)) := by
  obtain ⟨ad, rfl, hc⟩ := h.2.2 (by omega)
  obtain ⟨c, _, hk, hcell⟩ := hc i _ (List.getElem?_eq_getElem hi)
  obtain rfl : c = [.string l[i]] := hk
  refine ⟨ad, rfl, ?_⟩
  have := hcell 0 _ rfl
  rw [it_get hi]
  simpa [Kd.string, Kd.scalar] using this
set_option maxHeartbeats 4000000 in
set_option maxRecDepth 100000 in
theorem coreOr (l : List ByteArray) (A : Option Addr) (c : Nat) (w : World) (hC : Kd.string.C w A l.length l) (hc : l.length ≤ c) (h5 : l.length ≤ 5) (hs : ∀ s ∈ l, s.size ≤ 2147483649) : Calls Tryd.prog 10 #[.slice A l.length c] w fun e w' => e = .returned (.string (orS l l.length)) ∧ Below w.heap.size w w' := by
  have HC := Lib.hid hC
  have HS := Lib.hid hs
  have hB := Lib.hid (Bf.start w)
  have hd5 : decide ((l.length : Int) > 5) = false := by simp; omega
  have hd5' : decide ((5 : Int) < (l.length : Int)) = false := by simp; omega
  clear hC hs
  by_cases h2 : l.length = 2
  · obtain ⟨ad, rfl, n0⟩ := strAt HC.out 0 (by omega)
    obtain ⟨ad', e', n1⟩ := strAt HC.out 1 (by omega)
    cases e'
    rw [show ad.add 0 = ad from rfl] at n0
    have z0 := it_size HS.out 0 (by omega)
    have z1 := it_size HS.out 1 (by omega)
    have eo : orS l l.length = (it l 0 ++ ⟨#[32, 111, 114, 32]⟩) ++ it l 1 := by
      rw [h2]
      simp only [orS, h2, if_true]
      rw [show ((⟨#[]⟩ : ByteArray) ++ it l 0) = it l 0 from by apply ByteArray.ext; apply Array.toList_inj.1; simp, if_neg (by decide)]
    have e0 : ((⟨#[]⟩ : ByteArray) ++ it l 0) = it l 0 := by apply ByteArray.ext; apply Array.toList_inj.1; simp
    rw [eo, h2]
    obtain ⟨s0, hs0⟩ : ∃ s, it l 0 = s := ⟨_, rfl⟩
    obtain ⟨s1, hs1⟩ : ∃ s, it l 1 = s := ⟨_, rfl⟩
    rw [hs0] at n0 z0 e0 ⊢
    rw [hs1] at n1 z1 ⊢
    have N0 := Lib.hid n0
    have N1 := Lib.hid n1
    have E0 := Lib.hid e0
    have hl4 : (⟨#[32, 111, 114, 32]⟩ : ByteArray).size = 4 := rfl
    have HL4 := Lib.hid hl4
    rw [h2] at hc
    clear hd5 hd5' eo e0 hs0 hs1 n0 n1 hl4 h2 HC
    have k0 := (hB.out.below.cell (lt_of_cell N0.out)).trans N0.out
    go_enter Tryd.func10, Tryd.ntmps10
    go_wp2_with fail
    refine (hB.out.write s0 (by show 0 + s0.size ≤ _; omega)).mono ?_
    rintro e w1 ⟨rfl, h1⟩
    rw [E0.out] at h1
    have H1 := Lib.hid h1
    clear h1 k0
    go_wp2_with fail
    refine (H1.out.write ⟨#[32, 111, 114, 32]⟩ (by rw [HL4.out]; omega)).mono ?_
    rintro e w2 ⟨rfl, h2⟩
    have H2 := Lib.hid h2
    have k1 : w2.cell? ⟨ad.block, ad.off + 1, none⟩ = some (.string s1) := (h2.below.cell (lt_of_cell N1.out)).trans N1.out
    clear h2
    go_wp2_with fail
    refine (H2.out.write s1 (by rw [ByteArray.size_append, HL4.out]; omega)).mono ?_
    rintro e w3 ⟨rfl, h3⟩
    have H3 := Lib.hid h3
    clear h3 k1
    go_wp2_with fail
    refine H3.out.text.mono ?_
    rintro e w4 ⟨rfl, h4⟩
    go_wp2_with fail
    go_ret
    exact ⟨rfl, h4⟩
  · have hd2 : ((l.length : Int) == 2) = false := by simp; omega
    have HN2 := Lib.hid h2
    clear h2
    go_enter Tryd.func10, Tryd.ntmps10
    go_wp2_with fail
    go_loopw [26] (fun iv wi => ∃ i : Nat, iv = .int .i64 i ∧ i ≤ l.length ∧ Hid (Bf w wi (orS l i))) (fun iv _ => l.length - (intOf iv).toNat)
    case atStart => exact ⟨0, rfl, by omega, hB⟩
    case round =>
      obtain ⟨i, rfl, hil, HI⟩ := hrel
      clear hd5 hd5' hd2
      by_cases hlt : i < l.length
      · have hd1 : decide ((i : Int) < (l.length : Int)) = true := decide_eq_true (by omega)
        obtain ⟨ad, rfl, n0⟩ := strAt HC.out i hlt
        have zi := it_size HS.out i hlt
        have zo := orS_size HS.out i hil
        have z3 : i * (2147483649 + 5) ≤ 5 * (2147483649 + 5) := Nat.mul_le_mul_right _ (by omega)
        obtain ⟨s, hs⟩ : ∃ s, it l i = s := ⟨_, rfl⟩
        rw [hs] at n0 zi
        have k0 := (HI.out.below.cell (lt_of_cell n0)).trans n0
        have hi0 : (0 : Int) ≤ (i : Int) := Int.natCast_nonneg _
        have hi1 : (i : Int) < (l.length : Int) := by omega
        have hw1 : wrap64 ((l.length : Int) - 1) = (l.length : Int) - 1 := wrap_in (by omega) (by omega)
        have hnext : orS l (i + 1) = if i = 0 then orS l i ++ s else if i + 1 = l.length then (orS l i ++ ⟨#[44, 32, 111, 114, 32]⟩) ++ s else (orS l i ++ ⟨#[44, 32]⟩) ++ s := by rw [orS, if_neg HN2.out, hs]
        have HNX := Lib.hid hnext
        obtain ⟨so, hso⟩ : ∃ s, orS l i = s := ⟨_, rfl⟩
        rw [hso] at HI zo HNX
        have hZO : so.size ≤ 10737418270 := Nat.le_trans zo (Nat.le_trans z3 (by decide))
        clear hnext hs hso n0 zo z3
        by_cases h0 : i = 0
        · have hz : ((i : Int) == 0) = true := by simp; omega
          rw [if_pos h0] at HNX
          have H0 := Lib.hid h0
          clear h0
          go_wp2_with fail
          refine (HI.out.write s (by omega)).mono ?_
          rintro e w1 ⟨rfl, h1⟩
          rw [← HNX.out] at h1
          have H1 := Lib.hid h1
          clear h1
          go_wp2_with fail
          go_roundw
          case rel => exact ⟨i + 1, by go_num, by omega, H1⟩
          case measure => first | (simp [intOf]; done) | (simp [intOf]; omega)
        · have hz : ((i : Int) == 0) = false := by simp; omega
          rw [if_neg h0] at HNX
          have H0 := Lib.hid h0
          clear h0
          by_cases hl : i + 1 = l.length
          · have hy : ((i : Int) == (l.length : Int) - 1) = true := by simp; omega
            rw [if_pos hl] at HNX
            have HLL := Lib.hid hl
            clear hl
            go_wp2_with fail
            refine (HI.out.write ⟨#[44, 32, 111, 114, 32]⟩ (by show so.size + 5 ≤ _; omega)).mono ?_
            rintro e w1 ⟨rfl, h1⟩
            have H1 := Lib.hid h1
            clear h1
            go_wp2_with fail
            refine (H1.out.write s (by rw [ByteArray.size_append]; show so.size + 5 + s.size ≤ _; omega)).mono ?_
            rintro e w2 ⟨rfl, h2⟩
            rw [← HNX.out] at h2
            have H2 := Lib.hid h2
            clear h2
            go_wp2_with fail
            go_roundw
            case rel => exact ⟨i + 1, by go_num, by omega, H2⟩
            case measure => first | (simp [intOf]; done) | (simp [intOf]; omega)
          · have hy : ((i : Int) == (l.length : Int) - 1) = false := by simp; omega
            rw [if_neg hl] at HNX
            have HLL := Lib.hid hl
            clear hl
            go_wp2_with fail
            refine (HI.out.write ⟨#[44, 32]⟩ (by show so.size + 2 ≤ _; omega)).mono ?_
            rintro e w1 ⟨rfl, h1⟩
            have H1 := Lib.hid h1
            clear h1
            go_wp2_with fail
            refine (H1.out.write s (by rw [ByteArray.size_append]; show so.size + 2 + s.size ≤ _; omega)).mono ?_
            rintro e w2 ⟨rfl, h2⟩
            rw [← HNX.out] at h2
            have H2 := Lib.hid h2
            clear h2
            go_wp2_with fail
            go_roundw
            case rel => exact ⟨i + 1, by go_num, by omega, H2⟩
            case measure => first | (simp [intOf]; done) | (simp [intOf]; omega)
      · obtain rfl : i = l.length := by omega
        have hd1 : decide ((l.length : Int) < (l.length : Int)) = false := by simp
        clear hlt
        go_wp2_with fail
        refine HI.out.text.mono ?_
        rintro e w1 ⟨rfl, h1⟩
        go_wp2_with fail
        go_ret
        exact ⟨rfl, h1⟩
end Go.Proofs.YtamajbaojbghcaaDoor.Or
