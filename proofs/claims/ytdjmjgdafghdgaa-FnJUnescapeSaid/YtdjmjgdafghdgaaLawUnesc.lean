/- FnJUnescape: for every text of at most 2^31-1 bytes impl.JUnescape and spec.JUnescape answer the same. -/
import Derived.Test.YtdjmjgdafghdgaaFmtUnesc
import Derived.Test.YtdjmjgdafghdgaaPFnJUnescapex1
namespace Go.Proofs.Ytdjmjgdafghdgaa.LUnesc
open Go.RowKit Go.Proofs.Ytdjmjgdafghdgaa.PFnJUnescape Go.Proofs.YtdjmjgdafghdgaaW.PrintWords Go.Proofs.YtdjmjgdafghdgaaW.PrintLast Go.Proofs.YtdjmjgdafghdgaaW.PrintMore Go.Proofs.Ytdjmjgdafghdgaa.K Go.Proofs.Ytdjmjgdafghdgaa.Fmt
set_option linter.unusedVariables false
set_option linter.unusedSimpArgs false

/-- What the rest makes of what is out already. -/
def outOf (o : ByteArray) : Option (List UInt8) → ByteArray × Bool
  | some l => (⟨(bs o ++ l).toArray⟩, true)
  | none => (⟨#[]⟩, false)
theorem out_more (o g : ByteArray) (r : Option (List UInt8)) : outOf (o ++ g) r = outOf o (r.map (bs g ++ ·)) := by
  cases r with
  | none => rfl
  | some l => simp only [outOf, Option.map_some, bs_append, List.append_assoc]

theorem unescS (s : ByteArray) (hs : s.size ≤ 2147483647) (d : Nat) : ∀ (i : Nat) (o : ByteArray), i ≤ s.size → s.size - i ≤ d → o.size ≤ i →
    Ev (fun k => spec_JUnescape.l0 k s o i) (outOf o (unesc ((bs s).drop i))) := by
  have hl := bs_len s
  induction d with
  | zero =>
    intro i o hi hd ho
    refine ev_succ 0 fun k _ => ?_
    simp only [spec_JUnescape.l0]
    rw [if_neg (by omega), List.drop_of_length_le (by omega)]
    simp [unesc, outOf, bs]
  | succ d ih =>
    intro i o hi hd ho
    by_cases he : i = s.size
    · refine ev_succ 0 fun k _ => ?_
      simp only [spec_JUnescape.l0]
      rw [if_neg (by omega), List.drop_of_length_le (by omega)]
      simp [unesc, outOf, bs]
    have hlt : i < (bs s).length := by omega
    have ew : wrap64 ((i : Int) + 1) = ((i + 1 : Nat) : Int) := by rw [wrap_in (by omega) (by omega)]; omega
    have hbt := bt_nat s i hlt
    have hcons := List.drop_eq_getElem_cons hlt
    by_cases hx : (bs s)[i] = 126
    · have hq : bt s i = 126 := by rw [hbt, hx]; rfl
      rw [hx] at hcons
      have HQ := Lib.hid hq
      clear hq hx hbt
      by_cases he2 : i + 1 = s.size
      · rw [List.drop_of_length_le (i := i + 1) (by omega)] at hcons
        rw [hcons]
        clear hcons
        refine ev_succ 1 fun k hk => ?_
        obtain ⟨k, rfl⟩ : ∃ m, k = m + 1 := ⟨k - 1, by omega⟩
        simp only [spec_JUnescape.l0, ew]
        rw [if_pos (by omega), if_pos (by omega), if_pos HQ.out, if_pos (by omega)]
        simp only [spec_JUnescape.j1, if_true]
        rfl
      have hlt2 : i + 1 < (bs s).length := by omega
      have c1 : i + 2 ≤ s.size := by omega
      have c2 : s.size - (i + 2) ≤ d := by omega
      have c3 : ∀ x : UInt8, (o ++ (⟨#[x]⟩ : ByteArray)).size ≤ i + 2 := fun x => by
        have : (⟨#[x]⟩ : ByteArray).size = 1 := rfl
        rw [ByteArray.size_append, this]; omega
      have ew2 : wrap64 (((i + 1 : Nat) : Int) + 1) = ((i + 2 : Nat) : Int) := by rw [wrap_in (by omega) (by omega)]; omega
      obtain ⟨y, hy⟩ : ∃ y, (bs s)[i + 1]'hlt2 = y := ⟨_, rfl⟩
      have hbt2 : bt s ((i + 1 : Nat) : Int) = (y.toNat : Int) := by rw [← hy]; exact bt_nat s (i + 1) hlt2
      have hcons2 : (bs s).drop (i + 1) = y :: (bs s).drop (i + 2) := by rw [← hy]; exact List.drop_eq_getElem_cons hlt2
      rw [hcons, hcons2]
      have HBT := Lib.hid hbt2
      have EW := Lib.hid ew
      have EW2 := Lib.hid ew2
      clear hbt2 hcons hcons2 hy
      have hi1 : 0 ≤ ((i + 1 : Nat) : Int) := by omega
      have hi2 : ((i + 1 : Nat) : Int) < s.size := by omega
      have hi3 : ¬ ((i + 1 : Nat) : Int) = s.size := by omega
      have hi4 : (0 : Int) ≤ i := by omega
      have hi5 : (i : Int) < s.size := by omega
      have hi6 : o.size + 1 ≤ 9223372036854775807 := by omega
      by_cases h0 : y = 48
      · have hq2 : bt s ((i + 1 : Nat) : Int) = 48 := by rw [HBT.out, h0]; rfl
        obtain ⟨K, hK⟩ := ih (i + 2) (o ++ ⟨#[126]⟩) c1 c2 (c3 _)
        simp only at hK
        refine ev_succ (K + 1) fun k hk => ?_
        obtain ⟨k, rfl⟩ : ∃ m, k = m + 1 := ⟨k - 1, by clear hq2 h0; omega⟩
        have hk2 : K ≤ k := Nat.le_of_succ_le_succ hk
        simp only [spec_JUnescape.l0, ew]
        rw [if_pos hi5, if_pos hi4, if_pos HQ.out, if_neg hi3, if_pos hi1, if_pos hi2, if_pos hq2]
        simp only [spec_JUnescape.j1, ew, ew2, Bool.false_eq_true, if_false]
        rw [if_pos hi1, if_pos hi2, if_pos hq2, if_pos hi6, hK k hk2, out_more, h0, unesc_0]
        rfl
      · have n0 : ¬ bt s ((i + 1 : Nat) : Int) = 48 := by rw [HBT.out]; exact fun e => h0 ((eq_toNat _ 48).1 e)
        by_cases h1 : y = 49
        · have hne : (bt s ((i + 1 : Nat) : Int) != 49) = false := by rw [HBT.out, h1]; rfl
          obtain ⟨K, hK⟩ := ih (i + 2) (o ++ ⟨#[47]⟩) c1 c2 (c3 _)
          simp only at hK
          refine ev_succ (K + 1) fun k hk => ?_
          obtain ⟨k, rfl⟩ : ∃ m, k = m + 1 := ⟨k - 1, by clear hne h0 n0; omega⟩
          have hk2 : K ≤ k := Nat.le_of_succ_le_succ hk
          simp only [spec_JUnescape.l0, ew]
          rw [if_pos hi5, if_pos hi4, if_pos HQ.out, if_neg hi3, if_pos hi1, if_pos hi2, if_neg n0, hne]
          simp only [spec_JUnescape.j1, ew, ew2, Bool.false_eq_true, if_false]
          rw [if_pos hi1, if_pos hi2, if_neg n0, if_pos hi6, hK k hk2, out_more, h1, unesc_1]
          rfl
        · have hne : (bt s ((i + 1 : Nat) : Int) != 49) = true := by rw [bne_iff_ne, HBT.out]; exact fun e => h1 ((eq_toNat _ 49).1 e)
          refine ev_succ 1 fun k hk => ?_
          obtain ⟨k, rfl⟩ : ∃ m, k = m + 1 := ⟨k - 1, by clear hne h0 n0; omega⟩
          simp only [spec_JUnescape.l0, ew]
          rw [if_pos hi5, if_pos hi4, if_pos HQ.out, if_neg hi3, if_pos hi1, if_pos hi2, if_neg n0, hne]
          simp only [spec_JUnescape.j1, if_true]
          rw [unesc_bad _ _ h0 h1]
          rfl
    · have hq : ¬ bt s i = 126 := by rw [hbt]; exact fun e => hx ((eq_toNat _ 126).1 e)
      have hex : bs (s.extract i (i + 1)) = [(bs s)[i]] := by
        rw [bs_extract, List.drop_take, show i + 1 - i = 1 from by omega, hcons]
        rfl
      have hsz : (s.extract i (i + 1)).size = 1 := by rw [← bs_len, hex]; rfl
      obtain ⟨K, hK⟩ := ih (i + 1) (o ++ s.extract i (i + 1)) (by omega) (by omega) (by rw [ByteArray.size_append, hsz]; omega)
      simp only at hK
      refine ev_succ K fun k hk => ?_
      simp only [spec_JUnescape.l0, ew, Int.toNat_natCast]
      rw [if_pos (by omega), if_pos (by omega), if_neg hq, if_pos (by omega), if_pos (by omega), if_pos (by rw [hsz]; omega), hK k hk, out_more, hex]
      have := unesc_free (p := [(bs s)[i]]) ((bs s).drop (i + 1)) (by simpa using fun e => hx e.symm)
      rw [List.singleton_append, ← hcons] at this
      rw [this]

set_option maxHeartbeats 1000000 in
theorem walk (s : ByteArray) (w : World) (_hs : s.size ≤ 140737488351232) :
    Calls Try.prog 4 #[.string s] w fun e w' => e = .returned (.bool true) ∧ Below w.heap.size w w' := by
  by_cases hbig : s.size ≤ 2147483647
  · obtain ⟨K, hK⟩ := unescS s hbig s.size 0 ⟨#[]⟩ (Nat.zero_le _) (by omega) (Nat.le_refl _)
    have hk : spec_JUnescape.f K s = some (outOf ⟨#[]⟩ (unesc (bs s))) := by
      have := hK K (Nat.le_refl _)
      rwa [List.drop_zero] at this
    have HK := Lib.hid hk
    clear hK hk
    go_enter Try.func4, Try.ntmps4
    go_wp2_with fail
    refine (implUnesc s _ (by omega)).mono ?_
    rintro e w1 ⟨hr, hb⟩
    rcases hr with ⟨t, hu, rfl⟩ | ⟨hu, rfl⟩
    · have hk : spec_JUnescape.f K s = some (t, true) := by
        rw [HK.out, hu]
        simp only [outOf]
        show some ((⟨(bs t).toArray⟩ : ByteArray), true) = some (t, true)
        rw [show (⟨(bs t).toArray⟩ : ByteArray) = t from bs_ext (by rw [bs_mk])]
      have HK2 := Lib.hid hk
      clear hu hk
      go_wp2_with fail
      refine (spec_JUnescape.calls K s t true _ HK2.out).mono ?_
      rintro e w2 ⟨rfl, ⟨n3, rfl⟩⟩
      have hself : (t.toList == t.toList) = true := by simp
      go_wp2_with fail
      go_ret
      exact ⟨by simp, pw_below_drewN hb n3⟩
    · have hk : spec_JUnescape.f K s = some (⟨#[]⟩, false) := by rw [HK.out, hu]; rfl
      have HK2 := Lib.hid hk
      clear hu hk
      go_wp2_with fail
      refine (spec_JUnescape.calls K s _ false _ HK2.out).mono ?_
      rintro e w2 ⟨rfl, ⟨n3, rfl⟩⟩
      go_wp2_with fail
      go_ret
      exact ⟨by simp, pw_below_drewN hb n3⟩
  · go_enter Try.func4, Try.ntmps4
    go_wp2_with fail
    go_ret
    exact ⟨rfl, Below.refl _ _⟩
end Go.Proofs.Ytdjmjgdafghdgaa.LUnesc
