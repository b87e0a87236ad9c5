/- Quoted strings: mayNeedEscape, writeUnicodeEscape; the bytes of a quoted text. -/
import Derived.Test.YtamajbaojbghcaaBt1
import Derived.Test.YtamajbaojbghcaaBuild
namespace Go.Proofs.Ytamajbaojbghcaa.Qt
open Go.RowKit Go.Proofs.YtamajbaojbghcaaW.PrintWords Go.Proofs.YtamajbaojbghcaaW.PrintLast Go.Proofs.YtamajbaojbghcaaW.PrintMore Go.Proofs.Ytamajbaojbghcaa.PB Go.Proofs.Ytamajbaojbghcaa.K
set_option linter.unusedVariables false
set_option linter.unusedSimpArgs false
/-- A byte at which escaping may begin. -/
def may (n : Nat) : Bool := n < 32 || n == 34 || n == 92 || n == 127 || n == 194
set_option maxHeartbeats 2000000 in
theorem mayW (n : Nat) (w : World) : Calls Try.prog 102 #[.int .u8 n] w fun e w' => e = .returned (.bool (may n)) ∧ w' = w := by
  by_cases h1 : n < 32
  · have e : may n = true := by simp [may, h1]
    have q1 : decide ((n : Int) < 32) = true := decide_eq_true (by omega)
    rw [e]
    go_enter Try.func102, Try.ntmps102
    go_wp2_with fail
    go_ret
    exact ⟨rfl, rfl⟩
  · have q1 : decide ((n : Int) < 32) = false := decide_eq_false (by omega)
    by_cases h2 : n = 34
    · subst h2
      go_enter Try.func102, Try.ntmps102
      go_wp2_with fail
      go_ret
      exact ⟨rfl, rfl⟩
    · have q2 : ((n : Int) == 34) = false := by simp; omega
      by_cases h3 : n = 92
      · subst h3
        go_enter Try.func102, Try.ntmps102
        go_wp2_with fail
        go_ret
        exact ⟨rfl, rfl⟩
      · have q3 : ((n : Int) == 92) = false := by simp; omega
        by_cases h4 : n = 127
        · subst h4
          go_enter Try.func102, Try.ntmps102
          go_wp2_with fail
          go_ret
          exact ⟨rfl, rfl⟩
        · have q4 : ((n : Int) == 127) = false := by simp; omega
          have e : may n = ((n : Int) == 194) := by
            have : ((n : Int) == 194) = (n == 194) := by
              by_cases h : n = 194
              · subst h; rfl
              · rw [beq_eq_false_iff_ne.2 h, beq_eq_false_iff_ne.2 (by omega : ¬ (n : Int) = 194)]
            rw [this]; simp [may, h1, h2, h3, h4]
          rw [e]
          clear e h1 h2 h3 h4
          go_enter Try.func102, Try.ntmps102
          go_wp2_with fail
          go_ret
          exact ⟨rfl, rfl⟩
/-- A digit to the base 16. -/
def hx (d : Nat) : UInt8 := (⟨#[48, 49, 50, 51, 52, 53, 54, 55, 56, 57, 65, 66, 67, 68, 69, 70]⟩ : ByteArray).get! d
/-- An escape by number. -/
def qU (n : Nat) : List UInt8 := [92, 117, 48, 48, hx (n / 16), hx (n % 16)]
theorem get_eq (s : ByteArray) (i : Nat) (h : i < s.size) : s.get! i = s[i]'h := by
  cases s with
  | mk d => show d[i]! = d[i]'h; rw [getElem!_pos d i h]
theorem strCells_bytes (l : List UInt8) : Lib.strCells ⟨l.toArray⟩ = Lib.byteCells l := by
  simp [Lib.strCells, Lib.byteCells]
set_option maxHeartbeats 2000000 in
theorem uniW (B b : Nat) (l : List UInt8) (n : Nat) (w : World) (h : Lib.IsBuilder 169 5 B b (Lib.byteCells l) w) (hlen : l.length + 6 ≤ 140737488355328) (hBw : B ≤ w.heap.size) (hn : n < 256) :
    Calls Try.prog 106 #[.pointer (some ⟨b, 0, none⟩), .int .u8 n] w fun e w' => e = .returned (.tuple #[]) ∧ (Lib.IsBuilder 169 5 B b (Lib.byteCells (l ++ qU n)) w' ∧ Below B w w') := by
  have HN := Lib.hid hn
  go_enter Try.func106, Try.ntmps106
  go_wp2_with fail
  refine (Bld.writeString B b (Lib.byteCells l) ⟨#[92, 117, 48, 48]⟩ w h (by rw [Lib.byteCells_length]; show l.length + 4 ≤ _; omega) hBw).mono ?_
  rintro e w1 ⟨rfl, h1, hb1⟩
  have H1 := Lib.hid h1
  have HB1 := Lib.hid hb1
  clear h1 hb1
  go_wp2_with fail
  have e1 : Lib.byteCells l ++ Lib.strCells ⟨#[92, 117, 48, 48]⟩ = Lib.byteCells (l ++ [92, 117, 48, 48]) := by
    rw [Lib.byteCells_append, ← strCells_bytes [92, 117, 48, 48]]
  have H1' := H1.out
  rw [e1] at H1'
  have hw1 : B ≤ w1.heap.size := Nat.le_trans hBw HB1.out.size
  refine (Bld.writeByte B b (Lib.byteCells (l ++ [92, 117, 48, 48])) _ w1 (.inr H1') (by rw [Lib.byteCells_length, List.length_append]; show l.length + 4 + 1 ≤ _; omega) hw1).mono ?_
  rintro e w2 ⟨rfl, h2, hb2⟩
  have H2 := Lib.hid h2
  have HB2 := Lib.hid (HB1.out.trans hb2)
  clear h2 hb2 H1' H1 e1
  go_wp2_with fail
  have hx1 : Lib.byteCells (l ++ [92, 117, 48, 48]) ++ [Value.int .u8 (((⟨#[48, 49, 50, 51, 52, 53, 54, 55, 56, 57, 65, 66, 67, 68, 69, 70]⟩ : ByteArray)[n / 16]'(by show n / 16 < 16; omega)).toNat : Int)] = Lib.byteCells (l ++ [92, 117, 48, 48, hx (n / 16)]) := by
    have : l ++ [92, 117, 48, 48, hx (n / 16)] = (l ++ [92, 117, 48, 48]) ++ [hx (n / 16)] := by simp
    rw [this, Lib.byteCells_append (l ++ [92, 117, 48, 48])]
    congr 1
    unfold hx
    rw [get_eq _ _ (by show n / 16 < 16; omega)]
    rfl
  have H2' := H2.out
  rw [hx1] at H2'
  have hw2 : B ≤ w2.heap.size := Nat.le_trans hBw HB2.out.size
  refine (Bld.writeByte B b (Lib.byteCells (l ++ [92, 117, 48, 48, hx (n / 16)])) _ w2 (.inr H2') (by rw [Lib.byteCells_length, List.length_append]; show l.length + 5 + 1 ≤ _; omega) hw2).mono ?_
  rintro e w3 ⟨rfl, h3, hb3⟩
  have HB3 := Lib.hid (HB2.out.trans hb3)
  have hx2 : Lib.byteCells (l ++ [92, 117, 48, 48, hx (n / 16)]) ++ [Value.int .u8 (((⟨#[48, 49, 50, 51, 52, 53, 54, 55, 56, 57, 65, 66, 67, 68, 69, 70]⟩ : ByteArray)[n % 16]'(by show n % 16 < 16; omega)).toNat : Int)] = Lib.byteCells (l ++ qU n) := by
    have : l ++ qU n = (l ++ [92, 117, 48, 48, hx (n / 16)]) ++ [hx (n % 16)] := by simp [qU]
    rw [this, Lib.byteCells_append (l ++ [92, 117, 48, 48, hx (n / 16)])]
    congr 1
    unfold hx
    rw [get_eq _ (n % 16) (by show n % 16 < 16; omega)]
    rfl
  rw [hx2] at h3
  have H3 := Lib.hid h3
  clear h3 hb3 hx1 hx2 H2' H2
  go_wp2_with fail
  (try simp only [Exit.inBlock, Exit.then]); first | refine bodyPost_ret (results_none rfl _ _ _) rfl ?_ | refine bodyPost_end (results_none rfl _ _ _) rfl ?_
  exact ⟨rfl, .inr H3.out, HB3.out⟩
/-- The bytes between the quotes. -/
def qB : List UInt8 → List UInt8
  | [] => []
  | c :: t =>
    if c = 34 then 92 :: 34 :: qB t
    else if c = 92 then 92 :: 92 :: qB t
    else if c = 8 then 92 :: 98 :: qB t
    else if c = 12 then 92 :: 102 :: qB t
    else if c = 10 then 92 :: 110 :: qB t
    else if c = 13 then 92 :: 114 :: qB t
    else if c = 9 then 92 :: 116 :: qB t
    else if c = 194 then
      (match t with
       | [] => [194]
       | d :: u => if 128 ≤ d.toNat ∧ d.toNat ≤ 159 then qU d.toNat ++ qB u else 194 :: qB (d :: u))
    else if c.toNat < 32 ∨ c = 127 then qU c.toNat ++ qB t
    else c :: qB t
theorem qB_nil : qB [] = [] := by rw [qB]
theorem qB_plain {c : UInt8} {t : List UInt8} (h : may c.toNat = false) : qB (c :: t) = c :: qB t := by
  have h' : ¬ c.toNat < 32 ∧ c.toNat ≠ 34 ∧ c.toNat ≠ 92 ∧ c.toNat ≠ 127 ∧ c.toNat ≠ 194 := by
    simp [may] at h; omega
  have k : ∀ d : UInt8, d.toNat < 32 ∨ d = 34 ∨ d = 92 ∨ d = 127 ∨ d = 194 → c ≠ d := by
    rintro d hd rfl
    rcases hd with hd | rfl | rfl | rfl | rfl
    · omega
    · exact h'.2.1 rfl
    · exact h'.2.2.1 rfl
    · exact h'.2.2.2.1 rfl
    · exact h'.2.2.2.2 rfl
  rw [qB.eq_def]
  dsimp only
  rw [if_neg (k 34 (by simp)), if_neg (k 92 (by simp)), if_neg (k 8 (by decide)), if_neg (k 12 (by decide)), if_neg (k 10 (by decide)), if_neg (k 13 (by decide)), if_neg (k 9 (by decide)), if_neg (k 194 (by simp)), if_neg (fun h => h.elim (fun a => by omega) (fun a => k 127 (by simp) a))]
theorem qB_take : ∀ (i : Nat) (l : List UInt8), (∀ j, (h : j < l.length) → j < i → may (l[j]).toNat = false) → qB l = l.take i ++ qB (l.drop i) := by
  intro i
  induction i with
  | zero => intro l _; simp
  | succ i ih =>
    intro l h
    cases l with
    | nil => simp [qB_nil]
    | cons c t =>
      rw [qB_plain (c := c) (t := t) (h 0 (by simp) (by omega)), List.take_succ_cons, List.drop_succ_cons, ih t (fun j hj hi => by have := h (j + 1) (by simpa using hj) (by omega); simpa using this)]
      rfl
end Go.Proofs.Ytamajbaojbghcaa.Qt
