/- FnJEscape: for every token of at most 2^31-1 bytes impl.JEscape and spec.JEscape answer the same text. -/
import Derived.Test.YtdjmjgdafghdgaaPFnJEscapex1
import Derived.Test.YtdjmjgdafghdgaaK
namespace Go.Proofs.Ytdjmjgdafghdgaa.Pure
open Go.RowKit Go.Proofs.Ytdjmjgdafghdgaa.PFnJEscape Go.Proofs.YtdjmjgdafghdgaaW.PrintWords Go.Proofs.YtdjmjgdafghdgaaW.PrintLast Go.Proofs.Ytdjmjgdafghdgaa.K
set_option linter.unusedVariables false
set_option linter.unusedSimpArgs false

theorem zzIndex_from (s c : ByteArray) (x : UInt8) (hc : bs c = [x]) (hs : s.size ≤ 140737488351232) (d : Nat) :
    ∀ (i k : Nat), i ≤ s.size → s.size - i = d → d < k →
    jsonschema_zzIndex.l0 k s c i = some (if idx1 x ((bs s).drop i) < 0 then -1 else idx1 x ((bs s).drop i) + i) := by
  have hcs : c.size = 1 := by rw [← bs_len, hc]; rfl
  have hl := bs_len s
  induction d with
  | zero =>
    intro i k hi hd hk
    obtain ⟨k, rfl⟩ : ∃ m, k = m + 1 := ⟨k - 1, by omega⟩
    have e : i = s.size := by omega
    simp only [jsonschema_zzIndex.l0, hcs]
    rw [wrap_in (by omega) (by omega), if_neg (by omega)]
    rw [List.drop_of_length_le (by omega)]
    simp [idx1]
  | succ d ih =>
    intro i k hi hd hk
    obtain ⟨k, rfl⟩ : ∃ m, k = m + 1 := ⟨k - 1, by omega⟩
    have hlt : i < (bs s).length := by omega
    simp only [jsonschema_zzIndex.l0, hcs]
    have ew : wrap64 ((i : Int) + ((1 : Nat) : Int)) = ((i + 1 : Nat) : Int) := by rw [wrap_in (by omega) (by omega)]; omega
    have ew' : wrap64 ((i : Int) + 1) = ((i + 1 : Nat) : Int) := by rw [wrap_in (by omega) (by omega)]; omega
    rw [ew, ew', if_pos (by omega), if_pos (by omega), if_pos (by omega)]
    simp only [Int.toNat_natCast]
    rw [List.drop_eq_getElem_cons hlt]
    by_cases hx : (bs s)[i] = x
    · rw [if_pos ((extract_one s c i x hc hlt).2 hx)]
      simp [idx1, hx]
    · rw [if_neg (fun h => hx ((extract_one s c i x hc hlt).1 h))]
      rw [ih (i + 1) k (by omega) (by omega) (by omega)]
      simp only [idx1, if_neg hx]
      congr 1
      split
      · simp
      · rw [if_neg (by have := idx1_lo x ((bs s).drop (i + 1)); omega)]; omega

theorem zzIndex_one (s c : ByteArray) (x : UInt8) (hc : bs c = [x]) (hs : s.size ≤ 140737488351232) :
    Ev (fun k => jsonschema_zzIndex.f k s c) (idx1 x (bs s)) := by
  refine ⟨s.size + 1, fun k hk => ?_⟩
  have := zzIndex_from s c x hc hs s.size 0 k (by omega) (by omega) (by omega)
  show jsonschema_zzIndex.l0 k s c ((0 : Nat) : Int) = _
  rw [this]
  simp only [List.drop_zero]
  congr 1
  split
  · have := idx1_lo x (bs s); omega
  · simp

/-- Each byte x becomes the bytes r. -/
def repl (x : UInt8) (r : List UInt8) (l : List UInt8) : List UInt8 := l.flatMap fun b => if b = x then r else [b]

theorem repl_free (x : UInt8) (r l : List UInt8) (h : x ∉ l) : repl x r l = l := by
  induction l with
  | nil => rfl
  | cons a l ih =>
    simp only [List.mem_cons, not_or] at h
    have := ih h.2
    simp only [repl, List.flatMap_cons] at this ⊢
    rw [if_neg (fun e => h.1 e.symm), this]; rfl

theorem repl_length (x : UInt8) (r l : List UInt8) (h : r.length = 2) : (repl x r l).length ≤ 2 * l.length := by
  induction l with
  | nil => simp [repl]
  | cons a l ih =>
    simp only [repl, List.flatMap_cons, List.length_append, List.length_cons] at ih ⊢
    split <;> simp_all <;> omega

theorem zzReplace_ev (o n : ByteArray) (x : UInt8) (ho : bs o = [x]) (hn : n.size = 2) (m : Nat) :
    ∀ (s : ByteArray) (out : List Int), s.size = m → s.size ≤ 4294967296 → out.length + 2 * s.size < 140737488355328 →
    ∃ r : ByteArray, Ev (fun k => jsonschema_zzReplaceAll.l0 k s o n out) r ∧ bs r = (out.map fun n => UInt8.ofNat n.toNat) ++ repl x (bs n) (bs s) := by
  have hos : o.size = 1 := by rw [← bs_len, ho]; rfl
  have hnl : (bs n).length = 2 := by rw [bs_len, hn]
  induction m using Nat.strongRecOn with
  | ind m ih =>
    intro s out hm hs hl
    have hev := zzIndex_one s o x ho (by omega)
    have hlen := bs_len s
    by_cases hneg : idx1 x (bs s) < 0
    · refine ⟨strOfNums (out ++ bytesOf s), ?_, ?_⟩
      · obtain ⟨K, hK⟩ := hev
        refine ev_succ K fun k hk => ?_
        simp only [jsonschema_zzReplaceAll.l0, hK k hk, Option.bind_some]
        rw [if_pos hneg, if_pos (by omega)]
      · rw [bs_strOfNums, List.map_append, bytesOf_bs, ofNums_map, repl_free _ _ _ (idx1_neg.1 hneg)]
    · have hge : 0 ≤ idx1 x (bs s) := by omega
      have hhi := idx1_hi x (bs s)
      have hsp := idx1_pos hge
      generalize hi : idx1 x (bs s) = i at hev hneg hge hhi hsp
      obtain ⟨j, rfl⟩ := Int.eq_ofNat_of_zero_le hge
      simp only [Int.toNat_natCast] at hsp hhi hev hneg hge
      have hj : j < s.size := by omega
      have e1 : wrap64 ((j : Int) + ((1 : Nat) : Int)) = ((j + 1 : Nat) : Int) := by rw [wrap_in (by omega) (by omega)]; omega
      have hsz : (s.extract (j + 1) s.size).size = s.size - (j + 1) := by rw [ByteArray.size_extract]; omega
      have hsz0 : (s.extract 0 j).size = j := by rw [ByteArray.size_extract]; omega
      have hb0 : (bytesOf (s.extract 0 j)).length = j := by rw [bytesOf_length, hsz0]
      have hbn : (bytesOf n).length = 2 := by rw [bytesOf_length, hn]
      obtain ⟨r, hr, hr2⟩ := ih (s.extract (j + 1) s.size).size (by omega) (s.extract (j + 1) s.size) (out ++ bytesOf (s.extract 0 j) ++ bytesOf n) rfl (by omega)
        (by simp only [List.length_append, hb0, hbn, hsz]; omega)
      refine ⟨r, ?_, ?_⟩
      · obtain ⟨K, hK⟩ := hev
        obtain ⟨K', hK'⟩ := hr
        refine ev_succ (max K K') fun k hk => ?_
        simp only [jsonschema_zzReplaceAll.l0, hK k (by omega), hos, hn, e1, Int.toNat_natCast, Option.bind_some]
        rw [if_neg hneg, if_pos hge, if_pos (by omega), if_pos (by rw [hsz0]; omega), if_pos (by rw [List.length_append, hb0]; omega), if_pos (by omega), if_pos (by omega)]
        exact hK' k (by omega)
      · rw [hr2, bs_drop]
        simp only [List.map_append, bytesOf_bs, ofNums_map, bs_take]
        conv => rhs; rw [hsp.1]
        simp only [repl, List.flatMap_append, List.flatMap_cons, if_pos]
        have := repl_free x (bs n) _ hsp.2
        simp only [repl] at this
        rw [this]
        simp

def esc (b : UInt8) : List UInt8 := if b = 126 then [126, 48] else if b = 47 then [126, 49] else [b]

theorem esc_length (l : List UInt8) : (l.flatMap esc).length ≤ 2 * l.length := by
  induction l with
  | nil => simp
  | cons a l ih =>
    have h : (esc a).length ≤ 2 := by
      unfold esc
      split <;> (try split) <;> simp
    simp only [List.flatMap_cons, List.length_append, List.length_cons]
    omega

theorem repl_esc (l : List UInt8) : repl 47 [126, 49] (repl 126 [126, 48] l) = l.flatMap esc := by
  induction l with
  | nil => rfl
  | cons a l ih =>
    simp only [repl, List.flatMap_cons, List.flatMap_append] at ih ⊢
    rw [ih]
    congr 1
    unfold esc
    by_cases h : a = 126
    · subst h; decide
    · simp [h]

theorem specEsc (s : ByteArray) (hs : s.size ≤ 4294967296) (d : Nat) :
    ∀ (i k : Nat) (out : ByteArray), i ≤ s.size → s.size - i = d → d < k → out.size ≤ 2 * i →
    ∃ r, spec_JEscape.l0 k s out i = some r ∧ bs r = bs out ++ ((bs s).drop i).flatMap esc := by
  have hl := bs_len s
  induction d with
  | zero =>
    intro i k out hi hd hk ho
    obtain ⟨k, rfl⟩ : ∃ m, k = m + 1 := ⟨k - 1, by omega⟩
    refine ⟨out, ?_, ?_⟩
    · simp only [spec_JEscape.l0]; rw [if_neg (by omega)]
    · rw [List.drop_of_length_le (by omega)]; simp
  | succ d ih =>
    intro i k out hi hd hk ho
    obtain ⟨k, rfl⟩ : ∃ m, k = m + 1 := ⟨k - 1, by omega⟩
    have hlt : i < (bs s).length := by omega
    have ew' : wrap64 ((i : Int) + 1) = ((i + 1 : Nat) : Int) := by rw [wrap_in (by omega) (by omega)]; omega
    have hb := bt_nat s i hlt
    have key : ∀ t : ByteArray, t.size ≤ 2 → bs t = esc (bs s)[i] → ∃ r, spec_JEscape.l0 k s (out ++ t) ((i + 1 : Nat) : Int) = some r ∧ bs r = bs out ++ ((bs s).drop i).flatMap esc := by
      intro t ht hbt
      obtain ⟨r, h1, h2⟩ := ih (i + 1) k (out ++ t) (by omega) (by omega) (by omega) (by rw [ByteArray.size_append]; omega)
      refine ⟨r, h1, ?_⟩
      rw [h2, bs_append, hbt, List.drop_eq_getElem_cons hlt, List.flatMap_cons, List.append_assoc]
    simp only [spec_JEscape.l0, ew', hb]
    rw [if_pos (by omega), if_pos (by omega)]
    by_cases h1 : (bs s)[i] = 126
    · rw [h1, if_pos (by decide), if_pos (by omega)]
      exact key _ (by decide) (by rw [h1]; decide)
    · have h1' : ¬ (((bs s)[i].toNat : Int) = 126) := fun e => h1 (UInt8.toNat_inj.1 (by simpa using Int.ofNat.inj e))
      rw [if_neg h1']
      by_cases h2 : (bs s)[i] = 47
      · rw [h2, if_pos (by decide), if_pos (by omega)]
        exact key _ (by decide) (by rw [h2]; decide)
      · have h2' : ¬ (((bs s)[i].toNat : Int) = 47) := fun e => h2 (UInt8.toNat_inj.1 (by simpa using Int.ofNat.inj e))
        have hsz : (s.extract i (i + 1)).size = 1 := by rw [ByteArray.size_extract]; omega
        rw [if_neg h2', if_pos (by omega), if_pos (by omega)]
        simp only [Int.toNat_natCast]
        rw [if_pos (by rw [hsz]; omega)]
        refine key _ (by rw [hsz]; decide) ?_
        rw [bs_extract, List.drop_take, List.drop_eq_getElem_cons hlt, show i + 1 - i = 1 from by omega]
        unfold esc
        rw [if_neg h1, if_neg h2]
        rfl

/-- impl.JEscape comes to its text. -/
theorem implEsc (s : ByteArray) (hs : s.size ≤ 2147483647) : ∃ r : ByteArray, Ev (fun k => impl_JEscape.f k s) r ∧ bs r = (bs s).flatMap esc := by
  obtain ⟨r1, h1, e1⟩ := zzReplace_ev ⟨#[126]⟩ ⟨#[126, 48]⟩ 126 (by decide) (by decide) s.size s [] rfl (by omega) (by simp only [List.length_nil]; omega)
  have q1 : bs r1 = repl 126 [126, 48] (bs s) := by rw [e1]; rfl
  have l1 : r1.size ≤ 4294967296 := by
    rw [← bs_len, q1]
    have := repl_length 126 [126, 48] (bs s) rfl
    rw [bs_len] at this
    omega
  obtain ⟨r2, h2, e2⟩ := zzReplace_ev ⟨#[47]⟩ ⟨#[126, 49]⟩ 47 (by decide) (by decide) r1.size r1 [] rfl l1 (by simp only [List.length_nil]; omega)
  refine ⟨r2, ?_, ?_⟩
  · unfold impl_JEscape.f jsonschema_Escape.f jsonschema_escape.f jsonschema_zzReplaceAll.f
    refine Ev.bind (Ev.bind (Ev.bind h1 (Ev.bind h2 (Ev.now r2))) (Ev.now r2)) (Ev.now r2)
  · have : bs r2 = repl 47 [126, 49] (bs r1) := by rw [e2]; rfl
    rw [this, q1, repl_esc]

theorem FnJEscape : laws_FnJEscape.Pure := by
  intro s hs
  unfold laws_FnJEscape.f
  by_cases hbig : (s.size : Int) > 2147483647
  · exact ⟨0, by rw [if_pos hbig]⟩
  · obtain ⟨r, h1, e1⟩ := implEsc s (by omega)
    obtain ⟨q, h2, e2⟩ := specEsc s (by omega) s.size 0 (s.size + 1) ⟨#[]⟩ (by omega) (by omega) (by omega) (by decide)
    have h2' : Ev (fun k => spec_JEscape.f k s) q := Ev.of (spec_JEscape.mono s) (k := s.size + 1) h2
    have hq : r.toList = q.toList := by rw [toList_inj, e1, e2]; rfl
    obtain ⟨K, hK⟩ := h1
    obtain ⟨K', hK'⟩ := h2'
    refine ⟨max K K', ?_⟩
    rw [if_neg hbig]
    simp only [hK (max K K') (by omega), hK' (max K K') (by omega), Option.bind_some]
    simp [hq]

end Go.Proofs.Ytdjmjgdafghdgaa.Pure
