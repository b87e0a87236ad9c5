/- Quoted strings, plain: what is written between the quotes, by characters. -/
import Derived.Test.YtamajbaojbghcaaQt2
namespace Go.Proofs.Ytamajbaojbghcaa.Qt
open Go.RowKit Go.Lib Go.Proofs.YtamajbaojbghcaaW.PrintWords Go.Proofs.YtamajbaojbghcaaW.PrintLast Go.Proofs.YtamajbaojbghcaaW.PrintMore Go.Proofs.Ytamajbaojbghcaa.PB Go.Proofs.Ytamajbaojbghcaa.K Go.Proofs.Ytamajbaojbghcaa.Lx
set_option linter.unusedVariables false
set_option linter.unusedSimpArgs false
/-- A digit to the base 16, by its number. -/
def hn (d : Nat) : Nat := if d < 10 then 48 + d else 55 + d
/-- What is written for a character. -/
def qR (r : Nat) : List Nat :=
  if r = 34 then [92, 34] else if r = 92 then [92, 92] else if r = 8 then [92, 98] else if r = 12 then [92, 102] else if r = 10 then [92, 110]
  else if r = 13 then [92, 114] else if r = 9 then [92, 116]
  else if r < 32 ∨ (127 ≤ r ∧ r ≤ 159) then [92, 117, 48, 48, hn (r / 16), hn (r % 16)] else [r]
theorem hx_hn (d : Nat) (h : d < 16) : hx d = UInt8.ofNat (hn d) ∧ hn d < 128 := by
  have : ∀ d : Fin 16, hx d.1 = UInt8.ofNat (hn d.1) ∧ hn d.1 < 128 := by decide
  exact this ⟨d, h⟩
theorem encs_ascii : ∀ (l : List Nat), (∀ r ∈ l, r < 128) → encs l = l.map UInt8.ofNat := by
  intro l
  induction l with
  | nil => intro _; rfl
  | cons r l ih =>
    intro h
    rw [encs, enc1 (h r (by simp)), ih (fun x hx => h x (by simp [hx]))]; rfl
theorem qU_enc (r : Nat) (h : r < 160) : qU r = encs [92, 117, 48, 48, hn (r / 16), hn (r % 16)] := by
  have a1 := hx_hn (r / 16) (by omega)
  have a2 := hx_hn (r % 16) (by omega)
  rw [encs_ascii _ (by
    intro x hx
    simp only [List.mem_cons, List.not_mem_nil, or_false] at hx
    rcases hx with rfl | rfl | rfl | rfl | rfl | rfl
    · decide
    · decide
    · decide
    · decide
    · exact a1.2
    · exact a2.2)]
  unfold qU
  rw [a1.1, a2.1]; rfl
theorem val_lo {r : Nat} (h : r < 128) : val r := .inl (by omega)
theorem qR_val (r : Nat) (h : val r) : ∀ x ∈ qR r, val x := by
  intro x hx
  unfold qR at hx
  have a1 := fun h : r < 160 => hx_hn (r / 16) (by omega)
  have a2 := hx_hn (r % 16) (by omega)
  split at hx
  · simp at hx; rcases hx with rfl | rfl <;> exact val_lo (by decide)
  split at hx
  · simp at hx; rcases hx with rfl | rfl <;> exact val_lo (by decide)
  split at hx
  · simp at hx; rcases hx with rfl | rfl <;> exact val_lo (by decide)
  split at hx
  · simp at hx; rcases hx with rfl | rfl <;> exact val_lo (by decide)
  split at hx
  · simp at hx; rcases hx with rfl | rfl <;> exact val_lo (by decide)
  split at hx
  · simp at hx; rcases hx with rfl | rfl <;> exact val_lo (by decide)
  split at hx
  · simp at hx; rcases hx with rfl | rfl <;> exact val_lo (by decide)
  split at hx
  · rename_i hh
    simp only [List.mem_cons, List.not_mem_nil, or_false] at hx
    rcases hx with rfl | rfl | rfl | rfl | rfl | rfl
    · exact val_lo (by decide)
    · exact val_lo (by decide)
    · exact val_lo (by decide)
    · exact val_lo (by decide)
    · exact val_lo (a1 (by omega)).2
    · exact val_lo a2.2
  · simp at hx; subst hx; exact h
theorem qB_enc (r : Nat) (l : List UInt8) (h : val r) : qB (enc r ++ l) = encs (qR r) ++ qB l := by
  by_cases h1 : r < 128
  · rw [enc1 h1, List.singleton_append]
    have hn : (UInt8.ofNat r).toNat = r := toNat_of (by omega)
    by_cases c1 : r = 34
    · subst c1; exact qB_34 l
    by_cases c2 : r = 92
    · subst c2; exact qB_92 l
    by_cases c3 : r = 8
    · subst c3; exact qB_8 l
    by_cases c4 : r = 12
    · subst c4; exact qB_12 l
    by_cases c5 : r = 10
    · subst c5; exact qB_10 l
    by_cases c6 : r = 13
    · subst c6; exact qB_13 l
    by_cases c7 : r = 9
    · subst c7; exact qB_9 l
    unfold qR
    rw [if_neg c1, if_neg c2, if_neg c3, if_neg c4, if_neg c5, if_neg c6, if_neg c7]
    by_cases c8 : r < 32 ∨ r = 127
    · rw [if_pos (by omega), ← qU_enc r (by omega)]
      have := qB_uni (UInt8.ofNat r) l (by rw [hn]; exact c8) (by rw [hn]; omega)
      rw [hn] at this
      exact this
    · rw [if_neg (by omega)]
      rw [qB_dflt _ _ (by rw [hn]; omega)]
      show _ = (enc r ++ []) ++ _
      rw [enc1 h1]; rfl
  · have nq : ¬ r = 34 ∧ ¬ r = 92 ∧ ¬ r = 8 ∧ ¬ r = 12 ∧ ¬ r = 10 ∧ ¬ r = 13 ∧ ¬ r = 9 := by omega
    have hself : ∀ x, encs [x] = enc x := fun x => by simp [encs]
    unfold qR
    rw [if_neg nq.1, if_neg nq.2.1, if_neg nq.2.2.1, if_neg nq.2.2.2.1, if_neg nq.2.2.2.2.1, if_neg nq.2.2.2.2.2.1, if_neg nq.2.2.2.2.2.2]
    have pl : ∀ (n : Nat) (t : List UInt8), 128 ≤ n → n < 256 → n ≠ 194 → qB (UInt8.ofNat n :: t) = UInt8.ofNat n :: qB t := by
      intro n t a b c
      exact qB_plain (by rw [toNat_of b]; simp [may]; omega)
    by_cases h2 : r < 2048
    · rw [enc2 (by omega) h2]
      simp only [List.cons_append, List.nil_append]
      have hn2 : (UInt8.ofNat (128 + r % 64)).toNat = 128 + r % 64 := toNat_of (by omega)
      by_cases h3 : r / 64 = 2
      · have e1 : 192 + r / 64 = 194 := by omega
        rw [e1]
        by_cases h4 : r ≤ 159
        · rw [if_pos (by omega), ← qU_enc r (by omega)]
          have e2 : 128 + r % 64 = r := by omega
          have := qB_194 (UInt8.ofNat (128 + r % 64)) l (by rw [hn2]; omega)
          rw [hn2] at this
          rw [e2] at this ⊢
          exact this
        · rw [if_neg (by omega), hself, enc2 (by omega) h2, e1]
          have := qB_194n (UInt8.ofNat (128 + r % 64)) l (by rw [hn2]; omega)
          rw [pl _ _ (by omega) (by omega) (by omega)] at this
          exact this
      · rw [if_neg (by omega), hself, enc2 (by omega) h2, pl _ _ (by omega) (by omega) (by omega), pl _ _ (by omega) (by omega) (by omega)]; rfl
    · have hlt : r < 65536 := by unfold val at h; omega
      rw [if_neg (by omega), hself, enc3 (by omega) h]
      simp only [List.cons_append, List.nil_append]
      rw [pl _ _ (by omega) (by omega) (by omega), pl _ _ (by omega) (by omega) (by omega), pl _ _ (by omega) (by omega) (by omega)]
/-- What is written for characters. -/
def qRs : List Nat → List Nat
  | [] => []
  | r :: R => qR r ++ qRs R
theorem qB_encs : ∀ (R : List Nat), (∀ r ∈ R, val r) → qB (encs R) = encs (qRs R) := by
  intro R
  induction R with
  | nil => intro _; exact qB_nil
  | cons r R ih =>
    intro h
    rw [encs, qB_enc r _ (h r (by simp)), ih (fun x hx => h x (by simp [hx])), qRs, encs_app]
theorem qRs_val : ∀ (R : List Nat), (∀ r ∈ R, val r) → ∀ x ∈ qRs R, val x := by
  intro R
  induction R with
  | nil => intro _ x hx; simp [qRs] at hx
  | cons r R ih =>
    intro h x hx
    rw [qRs, List.mem_append] at hx
    rcases hx with hx | hx
    · exact qR_val r (h r (by simp)) x hx
    · exact ih (fun x hx => h x (by simp [hx])) x hx
/-- The characters of a text. -/
def rs (s : ByteArray) : List Nat := (chs (bs s)).map Ch.r
theorem plain_rs (s : ByteArray) (hp : Bt.plainB s = true) : bs s = encs (rs s) ∧ ∀ r ∈ rs s, val r := by
  unfold Bt.plainB at hp
  split at hp
  · cases hp
  · have := plain_encs s (s.size + 1) 0 (by omega) (by omega) hp
    rw [List.drop_zero] at this
    exact this
/-- The characters of a quoted text. -/
theorem quote_rs (s : ByteArray) (hp : Bt.plainB s = true) : rs ⟨(34 :: (qB (bs s) ++ [34])).toArray⟩ = 34 :: (qRs (rs s) ++ [34]) := by
  obtain ⟨h1, h2⟩ := plain_rs s hp
  have e : 34 :: (qB (bs s) ++ [34]) = encs (34 :: (qRs (rs s) ++ [34])) := by
    rw [h1, qB_encs _ h2]
    show _ = enc 34 ++ encs (qRs (rs s) ++ [34])
    rw [encs_app]
    rfl
  unfold rs
  rw [bs_mk, e]
  apply chs_encs
  intro r hr
  rw [List.mem_cons, List.mem_append] at hr
  rcases hr with rfl | hr | hr
  · exact val_lo (by decide)
  · exact qRs_val _ h2 r hr
  · simp at hr; subst hr; exact val_lo (by decide)
set_option maxRecDepth 100000 in
theorem bs_enc (r : Nat) : bs (Utf8.encode (r : Int)) = enc r := by unfold enc bs; rfl
/-- Characters written as a text. -/
theorem runesBytes_encs : ∀ (R : List Nat) (acc : ByteArray), bs ((R.map fun r : Nat => (r : Int)).foldl (fun r n => r ++ Utf8.encode n) acc) = bs acc ++ encs R := by
  intro R
  induction R with
  | nil => intro acc; simp [encs]
  | cons r R ih =>
    intro acc
    rw [List.map_cons, List.foldl_cons, ih, bs_append, List.append_assoc, encs, bs_enc]
theorem runesBytes_rs (s : ByteArray) (hp : Bt.plainB s = true) : runesBytes ((rs s).map fun r : Nat => (r : Int)) = s := by
  apply bs_ext
  unfold runesBytes
  rw [runesBytes_encs, ← (plain_rs s hp).1]; rfl
theorem runesFrom_rs (s : ByteArray) : Conv.runesFrom s s.size 0 #[] = (((rs s).map fun r : Nat => (r : Int)).map fun z => Value.int .i32 z).toArray := by
  rw [runesFrom_eq s s.size 0 #[] (by omega) (by omega), List.drop_zero]
  unfold rs
  simp [List.map_map]
end Go.Proofs.Ytamajbaojbghcaa.Qt
