/- Quoted strings, plain: the characters of a quoted text. -/
import Derived.Test.YtamajbaojbghcaaLx0
import Derived.Test.YtamajbaojbghcaaQt1
import Derived.Laws.IdiomStrings
import Derived.Laws.Cover4
namespace Go.Proofs.Ytamajbaojbghcaa.Qt
open Go.RowKit Go.Lib Go.Proofs.YtamajbaojbghcaaW.PrintWords Go.Proofs.YtamajbaojbghcaaW.PrintLast Go.Proofs.YtamajbaojbghcaaW.PrintMore Go.Proofs.Ytamajbaojbghcaa.PB Go.Proofs.Ytamajbaojbghcaa.K Go.Proofs.Ytamajbaojbghcaa.Lx
set_option linter.unusedVariables false
set_option linter.unusedSimpArgs false
/-- What '[]rune(s)' holds. -/
theorem runesFrom_eq (s : ByteArray) : ∀ (bound i : Nat) (acc : Array Value), i ≤ s.size → s.size - i ≤ bound → Conv.runesFrom s bound i acc = acc ++ ((chs ((bs s).drop i)).map fun c => Value.int .i32 c.r).toArray := by
  have hl := bs_len s
  intro bound
  induction bound with
  | zero =>
    intro i acc hi hb
    rw [List.drop_of_length_le (by omega), chs_nil]
    simp [Conv.runesFrom]
  | succ bound ih =>
    intro i acc hi hb
    unfold Conv.runesFrom
    by_cases hlt : i < s.size
    · rw [if_pos hlt]
      have hd : decodeL ((bs s).drop i) = Utf8.decode s i := decodeL_drop s i
      have hp := dec_pos ((bs s).drop i)
      have hne : (bs s).drop i ≠ [] := by
        intro h0; have := congrArg List.length h0; rw [List.length_drop] at this; simp at this; omega
      have hle := dec_le _ hne
      rw [List.length_drop] at hle
      have hc : chs ((bs s).drop i) = ⟨(decodeL ((bs s).drop i)).1, ((bs s).drop i).take (decodeL ((bs s).drop i)).2⟩ :: chs (((bs s).drop i).drop (decodeL ((bs s).drop i)).2) := by
        rw [List.drop_eq_getElem_cons (by omega : i < (bs s).length), chs_cons]
      rw [hd] at hp hle hc
      simp only
      rw [ih _ _ (by omega) (by omega), hc, List.drop_drop]
      simp
    · rw [if_neg hlt, List.drop_of_length_le (by omega), chs_nil]; simp
/-- The bytes of a character by its number. -/
def enc (r : Nat) : List UInt8 := (Utf8.encode r).data.toList
/-- A character of the first plane. -/
def val (r : Nat) : Prop := r < 55296 ∨ (57344 ≤ r ∧ r ≤ 65535)
set_option maxRecDepth 100000 in
theorem enc1 {r : Nat} (h : r < 128) : enc r = [UInt8.ofNat r] := by
  unfold enc Utf8.encode
  have hv : Utf8.valid (r : Int) = true := by simp [Utf8.valid]; omega
  simp only [hv, if_true, Int.toNat_natCast]
  rw [if_pos h]
set_option maxRecDepth 100000 in
theorem enc2 {r : Nat} (h : 128 ≤ r) (h2 : r < 2048) : enc r = [UInt8.ofNat (192 + r / 64), UInt8.ofNat (128 + r % 64)] := by
  unfold enc Utf8.encode
  have hv : Utf8.valid (r : Int) = true := by simp [Utf8.valid]; omega
  simp only [hv, if_true, Int.toNat_natCast]
  rw [if_neg (by omega), if_pos h2]
set_option maxRecDepth 100000 in
theorem enc3 {r : Nat} (h : 2048 ≤ r) (hv : val r) : enc r = [UInt8.ofNat (224 + r / 4096), UInt8.ofNat (128 + r / 64 % 64), UInt8.ofNat (128 + r % 64)] := by
  unfold enc Utf8.encode
  have hv : Utf8.valid (r : Int) = true := by unfold val at hv; simp [Utf8.valid]; omega
  have hlt : r < 65536 := by unfold val at *; omega
  simp only [hv, if_true, Int.toNat_natCast]
  rw [if_neg (by omega), if_neg (by omega), if_pos hlt]
theorem toNat_of {n : Nat} (h : n < 256) : (UInt8.ofNat n).toNat = n := by simp; omega
theorem of_eq {a : UInt8} {n : Nat} (h : a.toNat = n) : UInt8.ofNat n = a := by rw [← h]; simp
set_option maxRecDepth 100000 in
/-- To decode what was encoded. -/
theorem dec_enc (r : Nat) (l : List UInt8) (h : val r) : decodeL (enc r ++ l) = (r, (enc r).length) ∧ enc r ≠ [] := by
  by_cases h1 : r < 128
  · rw [enc1 h1]
    refine ⟨?_, by simp⟩
    rw [List.singleton_append, dec_ascii _ _ (by rw [toNat_of (by omega)]; exact h1), toNat_of (by omega)]; rfl
  · by_cases h2 : r < 2048
    · rw [enc2 (by omega) h2]
      refine ⟨?_, by simp⟩
      rw [decodeL_N]
      simp only [List.cons_append, List.nil_append, List.getD_cons_zero, List.getD_cons_succ, List.length_cons, List.length_nil]
      rw [toNat_of (by omega), toNat_of (by omega)]
      unfold decodeN
      rw [if_neg (by omega), if_pos (by omega), if_pos (by omega)]
      apply Prod.ext <;> simp only <;> omega
    · rw [enc3 (by omega) h]
      refine ⟨?_, by simp⟩
      rw [decodeL_N]
      simp only [List.cons_append, List.nil_append, List.getD_cons_zero, List.getD_cons_succ, List.length_cons, List.length_nil]
      have hlt : r < 65536 := by unfold val at h; omega
      rw [toNat_of (by omega), toNat_of (by omega), toNat_of (by omega)]
      unfold decodeN
      unfold val at h
      rw [if_neg (by omega), if_neg (by omega), if_pos (by omega), if_pos (by omega)]
      apply Prod.ext <;> simp only <;> omega
theorem chs_enc (r : Nat) (l : List UInt8) (h : val r) : chs (enc r ++ l) = ⟨r, enc r⟩ :: chs l := by
  obtain ⟨h1, h2⟩ := dec_enc r l h
  obtain ⟨a, t, ht⟩ : ∃ a t, enc r = a :: t := by
    cases he : enc r with
    | nil => exact absurd he h2
    | cons a t => exact ⟨a, t, rfl⟩
  have : enc r ++ l = a :: (t ++ l) := by rw [ht]; rfl
  rw [this, chs_cons, ← this, h1]
  simp
/-- The bytes of characters by their numbers. -/
def encs : List Nat → List UInt8
  | [] => []
  | r :: R => enc r ++ encs R
theorem encs_app (a b : List Nat) : encs (a ++ b) = encs a ++ encs b := by
  induction a with
  | nil => rfl
  | cons r a ih => simp [encs, ih]
theorem chs_encs (R : List Nat) (h : ∀ r ∈ R, val r) : (chs (encs R)).map Ch.r = R := by
  induction R with
  | nil => rfl
  | cons r R ih =>
    rw [encs, chs_enc r _ (h r (by simp)), List.map_cons, ih (fun x hx => h x (by simp [hx]))]
theorem two_of (t : List UInt8) (h : 1 < t.length) : ∃ b d u, t = b :: d :: u := by
  cases t with
  | nil => simp at h
  | cons b t =>
    cases t with
    | nil => simp at h
    | cons d u => exact ⟨b, d, u, rfl⟩
theorem decN_val (n b0 b1 b2 b3 : Nat) (h : decodeN n b0 b1 b2 b3 = (b0 % 16 * 4096 + b1 % 64 * 64 + b2 % 64, 3)) (c1 : b0 / 16 = 14) (c2 : 2 < n) (c3 : b1 / 64 = 2) (c4 : b2 / 64 = 2) : b0 % 16 * 4096 + b1 % 64 * 64 + b2 % 64 < 55296 ∨ 57344 ≤ b0 % 16 * 4096 + b1 % 64 * 64 + b2 % 64 := by
  unfold decodeN at h
  rw [if_neg (by omega), if_neg (by omega), if_pos ⟨c1, ⟨by omega, c3⟩, c2, c4⟩] at h
  split at h
  · rename_i hh
    exact hh.2.imp id (fun x => x.1)
  · injection h with _ h2
    cases h2
set_option maxRecDepth 100000 in
/-- Decoded, and no replacement: what stands there is its encoding. -/
theorem enc_dec (l : List UInt8) (hne : l ≠ []) (h1 : (decodeL l).1 ≠ 65533) (h2 : (decodeL l).1 ≤ 65535) : l.take (decodeL l).2 = enc (decodeL l).1 ∧ val (decodeL l).1 := by
  obtain ⟨a, t, rfl⟩ : ∃ a t, l = a :: t := by
    cases l with
    | nil => exact absurd rfl hne
    | cons a t => exact ⟨a, t, rfl⟩
  rw [decodeL_N] at h1 h2 ⊢
  have la : a.toNat < 256 := a.toNat_lt
  rcases decodeN_cases (a :: t).length ((a :: t).getD 0 0).toNat ((a :: t).getD 1 0).toNat ((a :: t).getD 2 0).toNat ((a :: t).getD 3 0).toNat with ⟨c, e⟩ | ⟨c1, c2, c3, cv, e⟩ | ⟨c1, c2, c3, c4, cv, e⟩ | ⟨c, e⟩ | e
  · rw [e]
    simp only [List.getD_cons_zero] at c ⊢
    refine ⟨?_, .inl (by omega)⟩
    rw [enc1 c, of_eq rfl]; rfl
  · rw [e]
    obtain ⟨b, u, rfl⟩ : ∃ b u, t = b :: u := by
      cases t with
      | nil => simp at c2
      | cons b u => exact ⟨b, u, rfl⟩
    have lb : b.toNat < 256 := b.toNat_lt
    simp only [List.getD_cons_zero, List.getD_cons_succ] at c1 c3 cv ⊢
    refine ⟨?_, .inl (by omega)⟩
    rw [enc2 cv (by omega), of_eq (show a.toNat = _ by omega), of_eq (show b.toNat = _ by omega)]; rfl
  · rw [e] at h1 h2 ⊢
    obtain ⟨b, d, u, rfl⟩ := two_of t (by have h3 : 2 < t.length + 1 := c2; omega)
    have lb : b.toNat < 256 := b.toNat_lt
    have ld : d.toNat < 256 := d.toNat_lt
    have hv0 := decN_val _ _ _ _ _ e c1 c2 c3 c4
    simp only [List.getD_cons_zero, List.getD_cons_succ] at c1 c3 c4 cv hv0 h2 ⊢
    have hv : val (a.toNat % 16 * 4096 + b.toNat % 64 * 64 + d.toNat % 64) := by
      rcases hv0 with h | h
      · exact .inl h
      · exact .inr ⟨h, h2⟩
    refine ⟨?_, hv⟩
    rw [enc3 cv hv, of_eq (show a.toNat = _ by omega), of_eq (show b.toNat = _ by omega), of_eq (show d.toNat = _ by omega)]; rfl
  · omega
  · rw [e] at h1; exact absurd rfl h1
/-- A text that Plain lets in is the encoding of characters of the first plane. -/
theorem plain_encs (s : ByteArray) : ∀ (f pos : Nat), pos ≤ s.size → s.size < pos + f → Bt.plainF s f pos = true → (bs s).drop pos = encs ((chs ((bs s).drop pos)).map Ch.r) ∧ ∀ r ∈ (chs ((bs s).drop pos)).map Ch.r, val r := by
  have hl := bs_len s
  intro f
  induction f with
  | zero => intro pos h1 h2; omega
  | succ f ih =>
    intro pos h1 h2 hp
    by_cases hlt : pos < s.size
    · rw [Bt.plainF, if_pos hlt] at hp
      have hd : decodeL ((bs s).drop pos) = Utf8.decode s pos := decodeL_drop s pos
      have hpw := dec_pos ((bs s).drop pos)
      have hne : (bs s).drop pos ≠ [] := by
        intro h0; have := congrArg List.length h0; rw [List.length_drop] at this; simp at this; omega
      have hle := dec_le _ hne
      rw [List.length_drop] at hle
      have hc : chs ((bs s).drop pos) = ⟨(decodeL ((bs s).drop pos)).1, ((bs s).drop pos).take (decodeL ((bs s).drop pos)).2⟩ :: chs (((bs s).drop pos).drop (decodeL ((bs s).drop pos)).2) := by
        rw [List.drop_eq_getElem_cons (by omega : pos < (bs s).length), chs_cons]
      rw [← hd] at hp
      by_cases hbad : (decodeL ((bs s).drop pos)).1 = 65533 ∨ 65535 < (decodeL ((bs s).drop pos)).1
      · rw [if_pos hbad] at hp; cases hp
      · rw [if_neg hbad] at hp
        obtain ⟨e1, e2⟩ := enc_dec _ hne (by omega) (by omega)
        obtain ⟨i1, i2⟩ := ih _ (by omega) (by omega) hp
        rw [hc]
        rw [List.drop_drop]
        refine ⟨?_, ?_⟩
        · rw [List.map_cons, encs, ← i1, ← e1, ← List.drop_drop, List.take_append_drop]
        · intro r hr
          rw [List.map_cons, List.mem_cons] at hr
          rcases hr with rfl | hr
          · exact e2
          · exact i2 r hr
    · rw [List.drop_of_length_le (by omega)]
      exact ⟨rfl, fun r hr => by simp [chs_nil] at hr⟩
end Go.Proofs.Ytamajbaojbghcaa.Qt
