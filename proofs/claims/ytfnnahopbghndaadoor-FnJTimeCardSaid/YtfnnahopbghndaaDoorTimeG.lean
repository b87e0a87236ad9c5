/- Times without a sign but that of an offset, whose second is not 60: what the code takes is the grammar. -/
import Derived.Test.YtfnnahopbghndaaDoorFmtTime2
import Derived.Test.YtfnnahopbghndaaDoorDec
namespace Go.Proofs.YtfnnahopbghndaaDoor.Fmt
open Go.RowKit Go.Proofs.YtfnnahopbghndaaDoorW.PrintWords Go.Proofs.YtfnnahopbghndaaDoorW.PrintLast Go.Proofs.YtfnnahopbghndaaDoorW.PrintMore Go.Proofs.YtfnnahopbghndaaDoor.K
set_option linter.unusedVariables false
set_option linter.unusedSimpArgs false

def sgn (x : UInt8) : Bool := x == 43 || x == 45
def clkOk (l : List UInt8) : Prop := l.length = 5 ∧ l[2]? = some 58 ∧ (∀ x ∈ l.take 2, digB x = true) ∧ (∀ x ∈ l.drop 3, digB x = true) ∧ decF 0 (l.take 2) < 24 ∧ decF 0 (l.drop 3) < 60
def zoneS (r : List UInt8) : Prop := r = [90] ∨ r = [122] ∨ (r.length = 6 ∧ (r.head? = some 43 ∨ r.head? = some 45) ∧ clkOk (r.drop 1))
def specOk (l : List UInt8) : Prop := 9 ≤ l.length ∧ l[5]? = some 58 ∧ (∀ x ∈ (l.take 8).drop 6, digB x = true) ∧ clkOk (l.take 5) ∧ decF 0 ((l.take 8).drop 6) < 60 ∧ ∃ r, fracOf (l.drop 8) r ∧ zoneS r

theorem numTok_nil : numTok [] = none := by simp [numTok, Lib.atoiAll]
theorem numTok_iff (g : List UInt8) (n : Nat) (hl : g.length ≤ 2) (hs : ∀ x ∈ g.head?, sgn x = false) : numTok g = some n ↔ g ≠ [] ∧ (∀ x ∈ g, digB x = true) ∧ n = decF 0 g := by
  have s43 : g.head? ≠ some 43 := fun e => by have := hs 43 e; simp [sgn] at this
  have s45 : g.head? ≠ some 45 := fun e => by have := hs 45 e; simp [sgn] at this
  constructor
  · intro h
    unfold numTok at h
    split at h
    · rename_i v hv
      obtain ⟨h1, h2, h3⟩ := of_atoi g v hv s43 s45
      split at h
      · refine ⟨h1, h2, ?_⟩
        injection h with h
        omega
      · cases h
    · cases h
  · rintro ⟨h1, h2, rfl⟩
    have h4 := decF_hi g h2 0
    have h5 : 10 ^ g.length ≤ 10 ^ 2 := Nat.pow_le_pow_right (by omega) hl
    have := numTok_some (atoi_digs g h1 h2 (by omega)) (by omega)
    rw [this]; simp
theorem numTok_col (l : List UInt8) : numTok (58 :: l) = none := by
  unfold numTok
  split
  · rename_i v hv
    obtain ⟨_, h2, _⟩ := of_atoi _ v hv (by simp) (by simp)
    have := h2 58 (by simp)
    simp [digB] at this
  · rfl
theorem dig_col {x : UInt8} (h : digB x = true) : x ≠ 58 := by
  rintro rfl; simp [digB] at h
theorem toks2' (a b c d : UInt8) (ha : a ≠ 58) (hb : b ≠ 58) : SplitN.toks 58 2 [a, b, 58, c, d] = [[a, b], [c, d]] := by
  simp [SplitN.toks, idx1, ha, hb]
theorem two_iff (a b c d : UInt8) (h m : Nat) (ha : sgn a = false) (hc : sgn c = false) :
    nums_ (SplitN.toks 58 2 [a, b, 58, c, d]) [h, m] ↔ (digB a = true ∧ digB b = true) ∧ (digB c = true ∧ digB d = true) ∧ h = decF 0 [a, b] ∧ m = decF 0 [c, d] := by
  by_cases ea : a = 58
  · subst ea
    unfold nums_
    simp [SplitN.toks, idx1, numTok_nil, digB]
  · by_cases eb : b = 58
    · subst eb
      unfold nums_
      simp [SplitN.toks, idx1, ea, numTok_col, digB]
    · rw [toks2' a b c d ea eb]
      unfold nums_
      simp only [List.map_cons, List.map_nil, List.cons.injEq, and_true]
      rw [numTok_iff [a, b] h (by simp) (by simpa using ha), numTok_iff [c, d] m (by simp) (by simpa using hc)]
      simp
      constructor
      · rintro ⟨⟨⟨h1, h2⟩, h3⟩, ⟨h4, h5⟩, h6⟩; exact ⟨⟨h1, h2⟩, ⟨h4, h5⟩, h3, h6⟩
      · rintro ⟨⟨h1, h2⟩, ⟨h4, h5⟩, h3, h6⟩; exact ⟨⟨⟨h1, h2⟩, h3⟩, ⟨h4, h5⟩, h6⟩
theorem toks3c (a b c d e f : UInt8) (ha : a ≠ 58) (hb : b ≠ 58) : SplitN.toks 58 3 [a, b, 58, c, d, 58, e, f] = [a, b] :: SplitN.toks 58 2 [c, d, 58, e, f] := by
  simp [SplitN.toks, idx1, ha, hb]
theorem three_iff (a b c d e f : UInt8) (h m s : Nat) (ha : sgn a = false) (hc : sgn c = false) (he : sgn e = false) :
    nums_ (SplitN.toks 58 3 [a, b, 58, c, d, 58, e, f]) [h, m, s] ↔ (digB a = true ∧ digB b = true ∧ h = decF 0 [a, b]) ∧ (digB c = true ∧ digB d = true) ∧ (digB e = true ∧ digB f = true) ∧ m = decF 0 [c, d] ∧ s = decF 0 [e, f] := by
  by_cases ea : a = 58
  · subst ea
    unfold nums_
    simp [SplitN.toks, idx1, numTok_nil, digB]
  · by_cases eb : b = 58
    · subst eb
      unfold nums_
      simp [SplitN.toks, idx1, ea, numTok_nil, digB]
    · rw [toks3c a b c d e f ea eb]
      have h2 := two_iff c d e f m s hc he
      unfold nums_ at h2 ⊢
      rw [List.map_cons, List.map_cons, List.cons.injEq, h2, numTok_iff [a, b] h (by simp) (by simpa using ha)]
      simp [and_assoc]
theorem clk_iff (a b c d e : UInt8) : clkOk [a, b, c, d, e] ↔ c = 58 ∧ (digB a = true ∧ digB b = true) ∧ (digB d = true ∧ digB e = true) ∧ decF 0 [a, b] < 24 ∧ decF 0 [d, e] < 60 := by
  unfold clkOk
  simp
theorem zone_iff (h m : Nat) (r : List UInt8) (hs : r.countP sgn ≤ 1) : (∃ h' m', zoneOf h m r h' m') ↔ zoneS r := by
  constructor
  · rintro ⟨h', m', ⟨hz, _, _⟩ | ⟨_, _, h6, h3, zh, zm, hn, z1, z2, hh⟩⟩
    · rcases hz with hz | hz
      · exact .inr (.inl hz)
      · exact .inl hz
    · right; right
      have hd : r.head? = some 43 ∨ r.head? = some 45 := by
        rcases hh with ⟨k, _⟩ | ⟨k, _⟩
        · exact .inl k
        · exact .inr k
      refine ⟨h6, hd, ?_⟩
      match r, h6 with
      | [x, a, b, c, d, e], _ =>
        have hx : sgn x = true := by
          rcases hd with k | k <;> (simp at k; subst k; rfl)
        rw [List.countP_cons_of_pos hx] at hs
        have h0 : List.countP sgn [a, b, c, d, e] = 0 := by omega
        rw [List.countP_eq_zero] at h0
        simp at h0 h3
        subst h3
        have hn' := (two_iff a b d e zh zm (by simp [h0]) (by simp [h0])).1 hn
        show clkOk [a, b, 58, d, e]
        rw [clk_iff]
        obtain ⟨k1, k2, rfl, rfl⟩ := hn'
        exact ⟨rfl, k1, k2, by omega, by omega⟩
  · rintro (rfl | rfl | ⟨h6, hd, hc⟩)
    · exact ⟨_, _, .inl ⟨.inr rfl, rfl, rfl⟩⟩
    · exact ⟨_, _, .inl ⟨.inl rfl, rfl, rfl⟩⟩
    · match r, h6 with
      | [x, a, b, c, d, e], _ =>
        have hx : sgn x = true := by
          rcases hd with k | k <;> (simp at k; subst k; rfl)
        rw [List.countP_cons_of_pos hx] at hs
        have h0 : List.countP sgn [a, b, c, d, e] = 0 := by omega
        rw [List.countP_eq_zero] at h0
        simp at h0
        have hc' : clkOk [a, b, c, d, e] := hc
        rw [clk_iff] at hc'
        obtain ⟨rfl, k1, k2, k3, k4⟩ := hc'
        have hn' := (two_iff a b d e _ _ (by simp [h0]) (by simp [h0])).2 ⟨k1, k2, rfl, rfl⟩
        rcases hd with k | k
        · exact ⟨_, _, .inr ⟨by simp, by simp, rfl, rfl, _, _, hn', by omega, by omega, .inl ⟨k, rfl, rfl⟩⟩⟩
        · exact ⟨_, _, .inr ⟨by simp, by simp, rfl, rfl, _, _, hn', by omega, by omega, .inr ⟨k, rfl, rfl⟩⟩⟩
theorem sixty (e f : UInt8) (he : digB e = true) (hf : digB f = true) (h : decF 0 [e, f] = 60) : e = 54 ∧ f = 48 := by
  have h1 := (digB_iff e).1 he
  have h2 := (digB_iff f).1 hf
  simp only [decF, List.foldl_cons, List.foldl_nil] at h
  exact ⟨UInt8.toNat_inj.1 (by show e.toNat = 54; omega), UInt8.toNat_inj.1 (by show f.toNat = 48; omega)⟩
theorem frac_sub {t r : List UInt8} (h : fracOf t r) : List.Sublist r t := by
  rcases h with ⟨_, rfl⟩ | ⟨_, _, rfl⟩
  · exact List.Sublist.refl _
  · exact (List.drop_sublist _ _).trans (List.drop_sublist _ _)
theorem time_iff (l : List UInt8) (h8 : ∀ x ∈ l.take 8, sgn x = false) (h1 : l.countP sgn ≤ 1) (h60 : ¬ (l[6]? = some 54 ∧ l[7]? = some 48)) : timeOk l ↔ specOk l := by
  have hz : ∀ h m r, fracOf (l.drop 8) r → ((∃ h' m', zoneOf h m r h' m') ↔ zoneS r) := by
    intro h m r hf
    refine zone_iff h m r ?_
    have := ((frac_sub hf).trans (List.drop_sublist 8 l)).countP_le (p := sgn)
    omega
  by_cases h9 : 9 ≤ l.length
  · match l, h9 with
    | a :: b :: c :: d :: e :: f :: g :: i :: t, h9 =>
      have e1 : (a :: b :: c :: d :: e :: f :: g :: i :: t).take 8 = [a, b, c, d, e, f, g, i] := rfl
      have e2 : (a :: b :: c :: d :: e :: f :: g :: i :: t).take 5 = [a, b, c, d, e] := rfl
      have e3 : ([a, b, c, d, e, f, g, i] : List UInt8).drop 6 = [g, i] := rfl
      have e5 : (a :: b :: c :: d :: e :: f :: g :: i :: t)[2]? = some c := rfl
      have e6 : (a :: b :: c :: d :: e :: f :: g :: i :: t)[5]? = some f := rfl
      have e7 : (a :: b :: c :: d :: e :: f :: g :: i :: t)[6]? = some g := rfl
      have e8 : (a :: b :: c :: d :: e :: f :: g :: i :: t)[7]? = some i := rfl
      rw [e1] at h8
      rw [e7, e8, Option.some.injEq, Option.some.injEq] at h60
      simp only [List.mem_cons, List.not_mem_nil, or_false, forall_eq_or_imp, forall_eq] at h8
      obtain ⟨sa, sb, sc, sd, se, sf, sg, si⟩ := h8
      unfold timeOk specOk
      rw [e1, e2, e3, e5, e6, clk_iff]
      constructor
      · rintro ⟨_, k2, k5, h, m, sec, hn, z1, z2, z3, r, hf, h', m', hzo, _⟩
        obtain rfl := Option.some.inj k2
        obtain rfl := Option.some.inj k5
        obtain ⟨⟨q1, q2, rfl⟩, q3, ⟨q4, q5⟩, rfl, rfl⟩ := (three_iff a b d e g i h m sec sa sd sg).1 hn
        have hne : decF 0 [g, i] ≠ 60 := fun k => h60 (sixty g i q4 q5 k)
        refine ⟨h9, rfl, by simp [q4, q5], ⟨rfl, ⟨q1, q2⟩, q3, by omega, by omega⟩, by omega, r, hf, (hz _ _ r hf).1 ⟨_, _, hzo⟩⟩
      · rintro ⟨_, k5, kd, ⟨rfl, q1, q3, q4, q5⟩, hsec, r, hf, hzs⟩
        obtain rfl := Option.some.inj k5
        simp only [List.mem_cons, List.not_mem_nil, or_false, forall_eq_or_imp, forall_eq] at kd
        obtain ⟨h', m', hzo⟩ := (hz (decF 0 [a, b]) (decF 0 [d, e]) r hf).2 hzs
        exact ⟨h9, rfl, rfl, _, _, _, (three_iff a b d e g i _ _ _ sa sd sg).2 ⟨⟨q1.1, q1.2, rfl⟩, q3, kd, rfl, rfl⟩, by omega, by omega, by omega, r, hf, h', m', hzo, fun k => by omega⟩
  · constructor
    · rintro ⟨k, _⟩; exact absurd k h9
    · rintro ⟨k, _⟩; exact absurd k h9
end Go.Proofs.YtfnnahopbghndaaDoor.Fmt
