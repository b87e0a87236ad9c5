/- zzContainsRune in a constant of bytes below 128. -/
import Derived.Test.YtfnnahopbghndaaDoorFmt0
import Derived.Outline
namespace Go.Proofs.YtfnnahopbghndaaDoor.Fmt
open Go.RowKit Go.Proofs.YtfnnahopbghndaaDoorW.PrintWords Go.Proofs.YtfnnahopbghndaaDoorW.PrintLast Go.Proofs.YtfnnahopbghndaaDoorW.PrintMore Go.Proofs.YtfnnahopbghndaaDoor.K
set_option linter.unusedVariables false
set_option linter.unusedSimpArgs false

def inSet (l : List UInt8) (r : Nat) : Prop := ∃ x ∈ l, x.toNat = r
theorem inSet_drop {c : ByteArray} {n : Nat} (hn : n < c.size) (r : Nat) : inSet ((bs c).drop n) r ↔ (c[n]'hn).toNat = r ∨ inSet ((bs c).drop (n + 1)) r := by
  have hl := bs_len c
  unfold inSet
  rw [List.drop_eq_getElem_cons (by omega : n < (bs c).length), bs_at c n hn (by omega)]
  simp only [List.mem_cons, exists_eq_or_imp]

set_option maxHeartbeats 2000000 in
theorem idxRune (c : ByteArray) (hc : ∀ b ∈ bs c, b.toNat < 128) (hcs : c.size ≤ 1000) (r : Nat) (w : World) :
    Calls Tryd.prog 68 #[.string c, .int .i32 r] w fun e w' => (∃ n : Int, e = .returned (.int .i64 n) ∧ (0 ≤ n ↔ inSet (bs c) r)) ∧ Below w.heap.size w w' := by
  have HC := Lib.hid hc
  clear hc
  have hlow : ¬ r < 128 → ¬ inSet (bs c) r := by
    rintro h ⟨x, hx, rfl⟩
    exact h (HC.out x hx)
  have HLOW := Lib.hid hlow
  clear hlow
  rcases (by omega : (55296 ≤ r ∧ r ≤ 57343) ∨ 1114111 < r ∨ r = 65533 ∨ r < 55296 ∨ (57343 < r ∧ r < 65533) ∨ (65533 < r ∧ r ≤ 1114111)) with ⟨h1, h2⟩ | h1 | h1 | h1 | ⟨h1, h2⟩ | ⟨h1, h2⟩
  · have q0 : ((r : Int) != 65533) = true := by rw [bne_iff_ne]; omega
    have q1 : decide ((r : Int) < 0) = false := decide_eq_false (by omega)
    have q2 : decide (1114111 < (r : Int)) = false := decide_eq_false (by omega)
    have q3 : decide (55296 ≤ (r : Int)) = true := decide_eq_true (by omega)
    have q4 : decide ((r : Int) ≤ 57343) = true := decide_eq_true (by omega)
    go_enter Tryd.func68, Tryd.ntmps68
    go_wp2_with fail
    go_ret
    refine ⟨⟨_, rfl, ?_⟩, Below.refl _ _⟩
    constructor
    · intro h; omega
    · intro h; exact absurd h (HLOW.out (by omega))
  · have q0 : ((r : Int) != 65533) = true := by rw [bne_iff_ne]; omega
    have q1 : decide ((r : Int) < 0) = false := decide_eq_false (by omega)
    have q2 : decide (1114111 < (r : Int)) = true := decide_eq_true (by omega)
    have q3 : decide (55296 ≤ (r : Int)) = true := decide_eq_true (by omega)
    have q4 : decide ((r : Int) ≤ 57343) = false := decide_eq_false (by omega)
    go_enter Tryd.func68, Tryd.ntmps68
    go_wp2_with fail
    go_ret
    refine ⟨⟨_, rfl, ?_⟩, Below.refl _ _⟩
    constructor
    · intro h; omega
    · intro h; exact absurd h (HLOW.out (by omega))
  · have q0 : ((r : Int) != 65533) = false := by rw [bne_eq_false_iff_eq]; omega
    have q1 : decide ((r : Int) < 0) = false := decide_eq_false (by omega)
    have q2 : decide (1114111 < (r : Int)) = false := decide_eq_false (by omega)
    have q3 : decide (55296 ≤ (r : Int)) = true := decide_eq_true (by omega)
    have q4 : decide ((r : Int) ≤ 57343) = false := decide_eq_false (by omega)
    clear h1
    go_enter Tryd.func68, Tryd.ntmps68
    go_wp2_with fail
    go_loopw [] (fun wi => Aside0 (∃ pos : Nat, wi.heap[w.heap.size]? = some (.stringIter c pos) ∧ pos ≤ c.size ∧ (inSet (bs c) r ↔ inSet ((bs c).drop pos) r) ∧ Below w.heap.size w wi)) (fun wi => c.size - wi.iterPos w.heap.size)
    case atStart => exact ⟨⟨0, World.iter_heap w c 0, Nat.zero_le _, by rw [List.drop_zero], (Below.refl _ _).alloc (Nat.le_refl _) _⟩⟩
    case round =>
      obtain ⟨⟨pos, hit, hps, hin, hb⟩⟩ := hrel
      have HIN := Lib.hid hin
      clear hin
      by_cases hp : pos < c.size
      · have hasc : (c[pos]'hp).toNat < 128 := by
          have hl := bs_len c
          have := HC.out _ (List.getElem_mem (by omega : pos < (bs c).length))
          rwa [bs_at c pos hp (by omega)] at this
        have hnx : ∀ ty, (Instr.next (.pointer (some ⟨w.heap.size, 0, none⟩)) true ty).run Tryd.prog wr = _ := fun ty => Lib.run_next_ascii_at wr w.heap.size c pos ty hit hp hasc
        have hB5 : Below w.heap.size w (wr.iterAt w.heap.size c (pos + 1)) := Lib.below_iterAt hb (Nat.le_refl _) c _
        have HD := Lib.hid (inSet_drop hp r)
        by_cases he : (c[pos]'hp).toNat = r
        · have h5 : (((c[pos]'hp).toNat : Int) == (r : Int)) = true := by rw [beq_iff_eq]; omega
          have HE := Lib.hid he
          clear he
          go_wp2_with fail
          go_ret
          refine ⟨⟨_, rfl, ?_⟩, hB5⟩
          rw [HIN.out, HD.out]
          exact ⟨fun _ => .inl HE.out, fun _ => by omega⟩
        · have h5 : (((c[pos]'hp).toNat : Int) == (r : Int)) = false := by rw [beq_eq_false_iff_ne]; omega
          have HE := Lib.hid he
          clear he
          go_wp2_with fail
          go_roundw
          case rel =>
            refine ⟨⟨pos + 1, Lib.iterAt_heap wr w.heap.size c pos _ hit, by omega, ?_, hB5⟩⟩
            rw [HIN.out, HD.out]
            exact ⟨fun k => k.resolve_left HE.out, .inr⟩
          case measure =>
            rw [iterPos_of (Lib.iterAt_heap wr w.heap.size c pos _ hit), iterPos_of hit]
            omega
      · have hnx : ∀ ty, (Instr.next (.pointer (some ⟨w.heap.size, 0, none⟩)) true ty).run Tryd.prog wr = _ := fun ty => Lib.run_next_end_at wr w.heap.size c pos ty hit hp
        go_wp2_with fail
        go_ret
        refine ⟨⟨_, rfl, ?_⟩, hb⟩
        rw [HIN.out, List.drop_of_length_le (by rw [bs_len]; omega)]
        constructor
        · intro h; omega
        · rintro ⟨x, hx, _⟩; simp at hx
  · have q0 : ((r : Int) != 65533) = true := by rw [bne_iff_ne]; omega
    have q1 : decide ((r : Int) < 0) = false := decide_eq_false (by omega)
    have q2 : decide (1114111 < (r : Int)) = false := decide_eq_false (by omega)
    have q3 : decide (55296 ≤ (r : Int)) = false := decide_eq_false (by omega)
    have q4 : decide ((r : Int) ≤ 57343) = true := decide_eq_true (by omega)
    go_enter Tryd.func68, Tryd.ntmps68
    go_wp2_with fail
    go_loopw [] (fun wi => Aside0 (∃ pos : Nat, wi.heap[w.heap.size]? = some (.stringIter c pos) ∧ pos ≤ c.size ∧ (inSet (bs c) r ↔ inSet ((bs c).drop pos) r) ∧ Below w.heap.size w wi)) (fun wi => c.size - wi.iterPos w.heap.size)
    case atStart => exact ⟨⟨0, World.iter_heap w c 0, Nat.zero_le _, by rw [List.drop_zero], (Below.refl _ _).alloc (Nat.le_refl _) _⟩⟩
    case round =>
      obtain ⟨⟨pos, hit, hps, hin, hb⟩⟩ := hrel
      have HIN := Lib.hid hin
      clear hin
      by_cases hp : pos < c.size
      · have hasc : (c[pos]'hp).toNat < 128 := by
          have hl := bs_len c
          have := HC.out _ (List.getElem_mem (by omega : pos < (bs c).length))
          rwa [bs_at c pos hp (by omega)] at this
        have hnx : ∀ ty, (Instr.next (.pointer (some ⟨w.heap.size, 0, none⟩)) true ty).run Tryd.prog wr = _ := fun ty => Lib.run_next_ascii_at wr w.heap.size c pos ty hit hp hasc
        have hB5 : Below w.heap.size w (wr.iterAt w.heap.size c (pos + 1)) := Lib.below_iterAt hb (Nat.le_refl _) c _
        have HD := Lib.hid (inSet_drop hp r)
        by_cases he : (c[pos]'hp).toNat = r
        · have h5 : (((c[pos]'hp).toNat : Int) == (r : Int)) = true := by rw [beq_iff_eq]; omega
          have HE := Lib.hid he
          clear he
          go_wp2_with fail
          go_ret
          refine ⟨⟨_, rfl, ?_⟩, hB5⟩
          rw [HIN.out, HD.out]
          exact ⟨fun _ => .inl HE.out, fun _ => by omega⟩
        · have h5 : (((c[pos]'hp).toNat : Int) == (r : Int)) = false := by rw [beq_eq_false_iff_ne]; omega
          have HE := Lib.hid he
          clear he
          go_wp2_with fail
          go_roundw
          case rel =>
            refine ⟨⟨pos + 1, Lib.iterAt_heap wr w.heap.size c pos _ hit, by omega, ?_, hB5⟩⟩
            rw [HIN.out, HD.out]
            exact ⟨fun k => k.resolve_left HE.out, .inr⟩
          case measure =>
            rw [iterPos_of (Lib.iterAt_heap wr w.heap.size c pos _ hit), iterPos_of hit]
            omega
      · have hnx : ∀ ty, (Instr.next (.pointer (some ⟨w.heap.size, 0, none⟩)) true ty).run Tryd.prog wr = _ := fun ty => Lib.run_next_end_at wr w.heap.size c pos ty hit hp
        go_wp2_with fail
        go_ret
        refine ⟨⟨_, rfl, ?_⟩, hb⟩
        rw [HIN.out, List.drop_of_length_le (by rw [bs_len]; omega)]
        constructor
        · intro h; omega
        · rintro ⟨x, hx, _⟩; simp at hx
  · have q0 : ((r : Int) != 65533) = true := by rw [bne_iff_ne]; omega
    have q1 : decide ((r : Int) < 0) = false := decide_eq_false (by omega)
    have q2 : decide (1114111 < (r : Int)) = false := decide_eq_false (by omega)
    have q3 : decide (55296 ≤ (r : Int)) = true := decide_eq_true (by omega)
    have q4 : decide ((r : Int) ≤ 57343) = false := decide_eq_false (by omega)
    go_enter Tryd.func68, Tryd.ntmps68
    go_wp2_with fail
    go_loopw [] (fun wi => Aside0 (∃ pos : Nat, wi.heap[w.heap.size]? = some (.stringIter c pos) ∧ pos ≤ c.size ∧ (inSet (bs c) r ↔ inSet ((bs c).drop pos) r) ∧ Below w.heap.size w wi)) (fun wi => c.size - wi.iterPos w.heap.size)
    case atStart => exact ⟨⟨0, World.iter_heap w c 0, Nat.zero_le _, by rw [List.drop_zero], (Below.refl _ _).alloc (Nat.le_refl _) _⟩⟩
    case round =>
      obtain ⟨⟨pos, hit, hps, hin, hb⟩⟩ := hrel
      have HIN := Lib.hid hin
      clear hin
      by_cases hp : pos < c.size
      · have hasc : (c[pos]'hp).toNat < 128 := by
          have hl := bs_len c
          have := HC.out _ (List.getElem_mem (by omega : pos < (bs c).length))
          rwa [bs_at c pos hp (by omega)] at this
        have hnx : ∀ ty, (Instr.next (.pointer (some ⟨w.heap.size, 0, none⟩)) true ty).run Tryd.prog wr = _ := fun ty => Lib.run_next_ascii_at wr w.heap.size c pos ty hit hp hasc
        have hB5 : Below w.heap.size w (wr.iterAt w.heap.size c (pos + 1)) := Lib.below_iterAt hb (Nat.le_refl _) c _
        have HD := Lib.hid (inSet_drop hp r)
        by_cases he : (c[pos]'hp).toNat = r
        · have h5 : (((c[pos]'hp).toNat : Int) == (r : Int)) = true := by rw [beq_iff_eq]; omega
          have HE := Lib.hid he
          clear he
          go_wp2_with fail
          go_ret
          refine ⟨⟨_, rfl, ?_⟩, hB5⟩
          rw [HIN.out, HD.out]
          exact ⟨fun _ => .inl HE.out, fun _ => by omega⟩
        · have h5 : (((c[pos]'hp).toNat : Int) == (r : Int)) = false := by rw [beq_eq_false_iff_ne]; omega
          have HE := Lib.hid he
          clear he
          go_wp2_with fail
          go_roundw
          case rel =>
            refine ⟨⟨pos + 1, Lib.iterAt_heap wr w.heap.size c pos _ hit, by omega, ?_, hB5⟩⟩
            rw [HIN.out, HD.out]
            exact ⟨fun k => k.resolve_left HE.out, .inr⟩
          case measure =>
            rw [iterPos_of (Lib.iterAt_heap wr w.heap.size c pos _ hit), iterPos_of hit]
            omega
      · have hnx : ∀ ty, (Instr.next (.pointer (some ⟨w.heap.size, 0, none⟩)) true ty).run Tryd.prog wr = _ := fun ty => Lib.run_next_end_at wr w.heap.size c pos ty hit hp
        go_wp2_with fail
        go_ret
        refine ⟨⟨_, rfl, ?_⟩, hb⟩
        rw [HIN.out, List.drop_of_length_le (by rw [bs_len]; omega)]
        constructor
        · intro h; omega
        · rintro ⟨x, hx, _⟩; simp at hx
  · have q0 : ((r : Int) != 65533) = true := by rw [bne_iff_ne]; omega
    have q1 : decide ((r : Int) < 0) = false := decide_eq_false (by omega)
    have q2 : decide (1114111 < (r : Int)) = false := decide_eq_false (by omega)
    have q3 : decide (55296 ≤ (r : Int)) = true := decide_eq_true (by omega)
    have q4 : decide ((r : Int) ≤ 57343) = false := decide_eq_false (by omega)
    go_enter Tryd.func68, Tryd.ntmps68
    go_wp2_with fail
    go_loopw [] (fun wi => Aside0 (∃ pos : Nat, wi.heap[w.heap.size]? = some (.stringIter c pos) ∧ pos ≤ c.size ∧ (inSet (bs c) r ↔ inSet ((bs c).drop pos) r) ∧ Below w.heap.size w wi)) (fun wi => c.size - wi.iterPos w.heap.size)
    case atStart => exact ⟨⟨0, World.iter_heap w c 0, Nat.zero_le _, by rw [List.drop_zero], (Below.refl _ _).alloc (Nat.le_refl _) _⟩⟩
    case round =>
      obtain ⟨⟨pos, hit, hps, hin, hb⟩⟩ := hrel
      have HIN := Lib.hid hin
      clear hin
      by_cases hp : pos < c.size
      · have hasc : (c[pos]'hp).toNat < 128 := by
          have hl := bs_len c
          have := HC.out _ (List.getElem_mem (by omega : pos < (bs c).length))
          rwa [bs_at c pos hp (by omega)] at this
        have hnx : ∀ ty, (Instr.next (.pointer (some ⟨w.heap.size, 0, none⟩)) true ty).run Tryd.prog wr = _ := fun ty => Lib.run_next_ascii_at wr w.heap.size c pos ty hit hp hasc
        have hB5 : Below w.heap.size w (wr.iterAt w.heap.size c (pos + 1)) := Lib.below_iterAt hb (Nat.le_refl _) c _
        have HD := Lib.hid (inSet_drop hp r)
        by_cases he : (c[pos]'hp).toNat = r
        · have h5 : (((c[pos]'hp).toNat : Int) == (r : Int)) = true := by rw [beq_iff_eq]; omega
          have HE := Lib.hid he
          clear he
          go_wp2_with fail
          go_ret
          refine ⟨⟨_, rfl, ?_⟩, hB5⟩
          rw [HIN.out, HD.out]
          exact ⟨fun _ => .inl HE.out, fun _ => by omega⟩
        · have h5 : (((c[pos]'hp).toNat : Int) == (r : Int)) = false := by rw [beq_eq_false_iff_ne]; omega
          have HE := Lib.hid he
          clear he
          go_wp2_with fail
          go_roundw
          case rel =>
            refine ⟨⟨pos + 1, Lib.iterAt_heap wr w.heap.size c pos _ hit, by omega, ?_, hB5⟩⟩
            rw [HIN.out, HD.out]
            exact ⟨fun k => k.resolve_left HE.out, .inr⟩
          case measure =>
            rw [iterPos_of (Lib.iterAt_heap wr w.heap.size c pos _ hit), iterPos_of hit]
            omega
      · have hnx : ∀ ty, (Instr.next (.pointer (some ⟨w.heap.size, 0, none⟩)) true ty).run Tryd.prog wr = _ := fun ty => Lib.run_next_end_at wr w.heap.size c pos ty hit hp
        go_wp2_with fail
        go_ret
        refine ⟨⟨_, rfl, ?_⟩, hb⟩
        rw [HIN.out, List.drop_of_length_le (by rw [bs_len]; omega)]
        constructor
        · intro h; omega
        · rintro ⟨x, hx, _⟩; simp at hx

theorem conRune (c : ByteArray) (hc : ∀ b ∈ bs c, b.toNat < 128) (hcs : c.size ≤ 1000) (r : Nat) (w : World) :
    Calls Tryd.prog 56 #[.string c, .int .i32 r] w fun e w' => Says (inSet (bs c) r) e ∧ Below w.heap.size w w' := by
  go_enter Tryd.func56, Tryd.ntmps56
  go_wp2_with fail
  refine (idxRune c hc hcs r _).mono ?_
  rintro e w1 ⟨⟨n, rfl, hn⟩, hb⟩
  have HN := Lib.hid hn
  clear hn
  go_wp2_with fail
  go_ret
  exact ⟨⟨_, rfl, by rw [decide_eq_true_eq]; exact HN.out⟩, hb⟩
end Go.Proofs.YtfnnahopbghndaaDoor.Fmt
