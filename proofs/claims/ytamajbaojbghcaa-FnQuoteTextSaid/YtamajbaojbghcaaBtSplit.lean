/- zzIndex and zzSplit at a separator of one byte, as lists of bytes. -/
import Derived.Test.YtamajbaojbghcaaPBx1
import Derived.Test.YtamajbaojbghcaaK
namespace Go.Proofs.Ytamajbaojbghcaa.Split
open Go.RowKit Go.Proofs.Ytamajbaojbghcaa.PB Go.Proofs.YtamajbaojbghcaaW.PrintWords Go.Proofs.YtamajbaojbghcaaW.PrintLast Go.Proofs.Ytamajbaojbghcaa.K
set_option linter.unusedVariables false
set_option linter.unusedSimpArgs false

theorem zzIndex_from (s c : ByteArray) (x : UInt8) (hc : bs c = [x]) (hs : s.size ≤ 140737488351232) (d : Nat) :
    ∀ (i k : Nat), i ≤ s.size → s.size - i = d → d < k →
    lexer_zzIndex.l0 k s c i = some (if idx1 x ((bs s).drop i) < 0 then -1 else idx1 x ((bs s).drop i) + i) := by
  have hcs : c.size = 1 := by rw [← bs_len, hc]; rfl
  have hl := bs_len s
  induction d with
  | zero =>
    intro i k hi hd hk
    obtain ⟨k, rfl⟩ : ∃ m, k = m + 1 := ⟨k - 1, by omega⟩
    have e : i = s.size := by omega
    simp only [lexer_zzIndex.l0, hcs]
    rw [wrap_in (by omega) (by omega), if_neg (by omega)]
    rw [List.drop_of_length_le (by omega)]
    simp [idx1]
  | succ d ih =>
    intro i k hi hd hk
    obtain ⟨k, rfl⟩ : ∃ m, k = m + 1 := ⟨k - 1, by omega⟩
    have hlt : i < (bs s).length := by omega
    simp only [lexer_zzIndex.l0, hcs]
    have ew : wrap64 ((i : Int) + ((1 : Nat) : Int)) = ((i + 1 : Nat) : Int) := by rw [wrap_in (by omega) (by omega)]; omega
    have ew' : wrap64 ((i : Int) + 1) = ((i + 1 : Nat) : Int) := by rw [wrap_in (by omega) (by omega)]; omega
    rw [ew, ew', if_pos (by omega), if_pos (by omega), if_pos (by omega)]
    simp only [Int.toNat_natCast]
    rw [List.drop_eq_getElem_cons hlt]
    by_cases hx : (bs s)[i] = x
    · rw [if_pos ((extract_one s c i x hc hlt).2 hx)]
      simp [idx1, hx]
    · rw [if_neg (fun h => hx ((extract_one s c i x hc hlt).1 h))]
      rw [ih (i + 1) k (by omega) (by omega) (by omega)]
      simp only [idx1, if_neg hx]
      congr 1
      split
      · simp
      · rw [if_neg (by have := idx1_lo x ((bs s).drop (i + 1)); omega)]; omega

theorem zzIndex_one (s c : ByteArray) (x : UInt8) (hc : bs c = [x]) (hs : s.size ≤ 140737488351232) :
    Ev (fun k => lexer_zzIndex.f k s c) (idx1 x (bs s)) := by
  refine ⟨s.size + 1, fun k hk => ?_⟩
  have := zzIndex_from s c x hc hs s.size 0 k (by omega) (by omega) (by omega)
  show lexer_zzIndex.l0 k s c ((0 : Nat) : Int) = _
  rw [this]
  simp only [List.drop_zero]
  congr 1
  split
  · have := idx1_lo x (bs s); omega
  · simp

theorem zzSplit_from (c : ByteArray) (x : UInt8) (hc : bs c = [x]) (m : Nat) :
    ∀ (s : ByteArray) (out : List ByteArray), s.size = m → s.size ≤ 1099511627776 → out.length + s.size < 8796093022208 →
    ∃ r : List ByteArray, Ev (fun k => lexer_zzSplit.l0 k s c out) r ∧ r.map bs = out.map bs ++ splitL x (bs s) := by
  have hcs : c.size = 1 := by rw [← bs_len, hc]; rfl
  induction m using Nat.strongRecOn with
  | ind m ih =>
    intro s out hm hs hl
    have hev := zzIndex_one s c x hc (by omega)
    have hlen := bs_len s
    by_cases hneg : idx1 x (bs s) < 0
    · refine ⟨out ++ [s], ?_, ?_⟩
      · obtain ⟨K, hK⟩ := hev
        refine ev_succ K fun k hk => ?_
        simp only [lexer_zzSplit.l0, hK k hk, Option.bind_some]
        rw [if_pos hneg, if_pos (by omega)]
      · rw [List.map_append, splitL_none (idx1_neg.1 hneg)]; rfl
    · have hge : 0 ≤ idx1 x (bs s) := by omega
      have hhi := idx1_hi x (bs s)
      have hsp := idx1_pos hge
      generalize hi : idx1 x (bs s) = i at hev hneg hge hhi hsp
      obtain ⟨j, rfl⟩ := Int.eq_ofNat_of_zero_le hge
      simp only [Int.toNat_natCast] at hsp hhi hev hneg hge
      have hj : j < s.size := by omega
      have e1 : wrap64 ((j : Int) + ((1 : Nat) : Int)) = ((j + 1 : Nat) : Int) := by rw [wrap_in (by omega) (by omega)]; omega
      have hsz : (s.extract (j + 1) s.size).size = s.size - (j + 1) := by rw [ByteArray.size_extract]; omega
      obtain ⟨r, hr, hr2⟩ := ih (s.extract (j + 1) s.size).size (by omega) (s.extract (j + 1) s.size) (out ++ [s.extract 0 j]) rfl (by omega)
        (by simp only [List.length_append, List.length_cons, List.length_nil, hsz]; omega)
      refine ⟨r, ?_, ?_⟩
      · obtain ⟨K, hK⟩ := hev
        obtain ⟨K', hK'⟩ := hr
        refine ev_succ (max K K') fun k hk => ?_
        simp only [lexer_zzSplit.l0, hK k (by omega), hcs, e1, Int.toNat_natCast, Option.bind_some]
        rw [if_neg hneg, if_pos hge, if_pos (by omega), if_pos (by omega), if_pos (by omega), if_pos (by omega)]
        exact hK' k (by omega)
      · rw [hr2, bs_drop]
        conv => rhs; rw [hsp.1, splitL_some hsp.2]
        simp [bs_take]

theorem zzSplit_ev (s c : ByteArray) (x : UInt8) (hc : bs c = [x]) (hs : s.size ≤ 1099511627776) :
    ∃ r : List ByteArray, Ev (fun k => lexer_zzSplit.f k s c) r ∧ r.map bs = splitL x (bs s) := by
  obtain ⟨r, h1, h2⟩ := zzSplit_from c x hc s.size s [] rfl hs (by simp only [List.length_nil]; omega)
  exact ⟨r, h1, by simpa using h2⟩
end Go.Proofs.Ytamajbaojbghcaa.Split
