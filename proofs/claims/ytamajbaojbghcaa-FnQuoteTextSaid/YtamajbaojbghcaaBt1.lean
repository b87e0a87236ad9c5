/- lexer.leadingWhitespace, spec.Plain: the walks. -/
import Derived.Test.YtamajbaojbghcaaBt0
import Derived.Lib.OthersKept
import Derived.Lib.Hide
import Derived.WalkSpells
import Derived.WalkLawsBesides
namespace Go.Proofs.Ytamajbaojbghcaa.Bt
open Go.RowKit Go.Proofs.YtamajbaojbghcaaW.PrintWords Go.Proofs.YtamajbaojbghcaaW.PrintLast Go.Proofs.YtamajbaojbghcaaW.PrintMore Go.Proofs.Ytamajbaojbghcaa.PB Go.Proofs.Ytamajbaojbghcaa.K
set_option linter.unusedVariables false
set_option linter.unusedSimpArgs false
theorem bs_at (g : ByteArray) (pos : Nat) (h : pos < g.size) (h' : pos < (bs g).length) : (bs g)[pos]'h' = g[pos]'h := by
  simp [bs, Array.getElem_toList]
  rfl
/-- A rune is a blank just if the byte is; then it is one byte. -/
theorem rune_ws (g : ByteArray) (pos : Nat) (h : pos < g.size) (h' : pos < (bs g).length) : (ws ((bs g)[pos]'h') = true ↔ (Utf8.decode g pos).1 = 32 ∨ (Utf8.decode g pos).1 = 9) ∧ (ws ((bs g)[pos]'h') = true → (Utf8.decode g pos).2 = 1) ∧ 1 ≤ (Utf8.decode g pos).2 := by
  rw [bs_at g pos h h']
  by_cases ha : (g[pos]'h).toNat < 128
  · have e := decode_ascii g pos h ha
    rw [e]
    exact ⟨by rw [ws_iff]; omega, fun _ => rfl, Nat.le_refl _⟩
  · have e := decode_high g pos h (by omega)
    have hn : ¬ ws (g[pos]'h) = true := fun hw => by have := (ws_iff _).1 hw; omega
    exact ⟨⟨fun hw => absurd hw hn, fun hw => by have := e.1; omega⟩, fun hw => absurd hw hn, e.2⟩
/-- In the midst of a range: the iterator stands at pos; all ahead of it are blanks. -/
structure Ran (w wi : World) (s : ByteArray) (pos : Nat) : Prop where
  it : wi.heap[w.heap.size]? = some (.stringIter s pos)
  below : Below w.heap.size w wi
  le : pos ≤ s.size
  seen : ld (bs s) = pos + ld ((bs s).drop pos)
theorem Ran.start (w : World) (s : ByteArray) : Ran w (w.iter s 0) s 0 := ⟨World.iter_heap w s 0, (Below.refl _ _).alloc (Nat.le_refl _) _, Nat.zero_le _, by simp⟩
theorem Ran.step {w wi : World} {s : ByteArray} {pos : Nat} (h : Ran w wi s pos) (hp : pos < s.size) (hb : ws ((bs s)[pos]'(by rw [bs_len]; exact hp)) = true) : Ran w (wi.iterAt w.heap.size s (pos + 1)) s (pos + 1) := by
  have hlt : pos < (bs s).length := by rw [bs_len]; exact hp
  refine ⟨Lib.iterAt_heap wi w.heap.size s pos (pos + 1) h.it, Lib.below_iterAt h.below (Nat.le_refl _) s _, hp, ?_⟩
  rw [h.seen, List.drop_eq_getElem_cons hlt, ld_cons, if_pos hb]
  omega
/-- What leadingWhitespace says. -/
def lw (l : List UInt8) : Int := if ld l = l.length then 2147483647 else (ld l : Int)
set_option maxHeartbeats 4000000 in
set_option maxRecDepth 100000 in
theorem leadW (s : ByteArray) (w : World) (hsz : s.size ≤ 1099511627776) : Calls Try.prog 97 #[.string s] w fun e w' => e = .returned (.int .i64 (lw (bs s))) ∧ Below w.heap.size w w' := by
  obtain ⟨R, hR⟩ : ∃ R, lw (bs s) = R := ⟨_, rfl⟩
  rw [hR]
  have HR := Lib.hid hR
  have H0 := Lib.hid (Ran.start w s)
  clear hR
  go_enter Try.func97, Try.ntmps97
  go_wp2_with fail
  go_loopw [] (fun wi => ∃ pos, Hid (Ran w wi s pos)) (fun wi => s.size - wi.iterPos w.heap.size)
  case atStart => exact ⟨0, H0⟩
  case round =>
    obtain ⟨pos, HS⟩ := hrel
    have hit := HS.out.it
    by_cases hp : pos < s.size
    · have hlt : pos < (bs s).length := by rw [bs_len]; exact hp
      have hnx : ∀ ty, (Instr.next (.pointer (some ⟨w.heap.size, 0, none⟩)) true ty).run Try.prog wr = _ := fun ty => Lib.run_next_any_at wr w.heap.size s pos ty hit hp
      obtain ⟨hws, hw1, _⟩ := rune_ws s pos hp hlt
      obtain ⟨r, hr⟩ : ∃ r, (Utf8.decode s pos).1 = r := ⟨_, rfl⟩
      obtain ⟨m, hm⟩ : ∃ m, (Utf8.decode s pos).2 = m := ⟨_, rfl⟩
      simp only [hr, hm] at hnx hws hw1
      have HPO := Lib.hid (iterPos_of hit)
      by_cases hb : ws ((bs s)[pos]) = true
      · have hm1 : m = 1 := hw1 hb
        subst hm1
        have HN := Lib.hid (HS.out.step hp hb)
        have HPN := Lib.hid (iterPos_of (HS.out.step hp hb).it)
        have hrr := hws.1 hb
        clear hws hw1 hr hm hb
        rcases hrr with rfl | rfl
        all_goals
          go_wp2_with fail
          go_roundw
          case rel => exact ⟨_, HN⟩
          case measure => rw [HPN.out, HPO.out]; omega
      · have q1 : ¬ ((r : Int) = 32) := fun e => hb (hws.2 (.inl (by omega)))
        have q2 : ¬ ((r : Int) = 9) := fun e => hb (hws.2 (.inr (by omega)))
        have n1 : ((r : Int) != 32) = true := by simpa using q1
        have n2 : ((r : Int) != 9) = true := by simpa using q2
        have n3 : ((r : Int) = 32) = False := eq_false q1
        have n4 : ((r : Int) = 9) = False := eq_false q2
        clear q1 q2
        have hseen : ld (bs s) = pos := by
          rw [HS.out.seen, List.drop_eq_getElem_cons hlt, ld_cons, if_neg hb]; rfl
        have HV := Lib.hid (show R = (pos : Int) by
          rw [← HR.out]; unfold lw; rw [hseen, bs_len, if_neg (by omega)])
        have hb5 := Lib.below_iterAt HS.out.below (Nat.le_refl w.heap.size) s (pos + m)
        clear hws hw1 hr hm hb hseen
        go_wp2_with fail
        go_ret
        exact ⟨by rw [HV.out]; rfl, hb5⟩
    · have hnx : ∀ ty, (Instr.next (.pointer (some ⟨w.heap.size, 0, none⟩)) true ty).run Try.prog wr = _ := fun ty => Lib.run_next_end_at wr w.heap.size s pos ty hit hp
      have hseen : ld (bs s) = (bs s).length := by
        rw [HS.out.seen, List.drop_of_length_le (by rw [bs_len]; omega), bs_len]
        have := HS.out.le
        simp [ld]
        omega
      have HV := Lib.hid (show R = 2147483647 by rw [← HR.out]; unfold lw; rw [if_pos hseen])
      have hb5 := HS.out.below
      clear hseen
      go_wp2_with fail
      go_ret
      exact ⟨by rw [HV.out]; rfl, hb5⟩
/-- What Plain says of a text from a place on. -/
def plainF (s : ByteArray) : Nat → Nat → Bool
  | 0, _ => true
  | f + 1, pos => if pos < s.size then (if (Utf8.decode s pos).1 = 65533 ∨ 65535 < (Utf8.decode s pos).1 then false else plainF s f (pos + (Utf8.decode s pos).2)) else true
def plainB (s : ByteArray) : Bool := if 1048576 < s.size then false else plainF s (s.size + 1) 0
structure Pla (w wi : World) (s : ByteArray) (B : Bool) (pos f : Nat) : Prop where
  it : wi.heap[w.heap.size]? = some (.stringIter s pos)
  below : Below w.heap.size w wi
  fuel : s.size < pos + f
  val : plainF s f pos = B
set_option maxHeartbeats 4000000 in
set_option maxRecDepth 100000 in
theorem plainW (s : ByteArray) (w : World) : Calls Try.prog 19 #[.string s] w fun e w' => e = .returned (.bool (plainB s)) ∧ Below w.heap.size w w' := by
  by_cases hbig : 1048576 < s.size
  · have hd : decide ((s.size : Int) > 1048576) = true := by simp; omega
    have hd' : decide ((1048576 : Int) < (s.size : Int)) = true := by simp; omega
    have hB : plainB s = false := by unfold plainB; rw [if_pos hbig]
    rw [hB]
    clear hB hbig
    go_enter Try.func19, Try.ntmps19
    go_wp2_with fail
    go_ret
    exact ⟨rfl, Below.refl _ _⟩
  · have hd : decide ((s.size : Int) > 1048576) = false := by simp; omega
    have hd' : decide ((1048576 : Int) < (s.size : Int)) = false := by simp; omega
    obtain ⟨B, hB⟩ : ∃ B, plainB s = B := ⟨_, rfl⟩
    rw [hB]
    unfold plainB at hB
    rw [if_neg hbig] at hB
    have H0 := Lib.hid (show Pla w (w.iter s 0) s B 0 (s.size + 1) from ⟨World.iter_heap w s 0, (Below.refl _ _).alloc (Nat.le_refl _) _, by omega, hB⟩)
    clear hB hbig
    go_enter Try.func19, Try.ntmps19
    go_wp2_with fail
    go_loopw [] (fun wi => ∃ pos f, Hid (Pla w wi s B pos f)) (fun wi => s.size - wi.iterPos w.heap.size)
    case atStart => exact ⟨0, _, H0⟩
    case round =>
      obtain ⟨pos, f, HS⟩ := hrel
      have hit := HS.out.it
      by_cases hp : pos < s.size
      · have hlt : pos < (bs s).length := by rw [bs_len]; exact hp
        have hnx : ∀ ty, (Instr.next (.pointer (some ⟨w.heap.size, 0, none⟩)) true ty).run Try.prog wr = _ := fun ty => Lib.run_next_any_at wr w.heap.size s pos ty hit hp
        have hm1 := (rune_ws s pos hp hlt).2.2
        have hfu := HS.out.fuel
        have hv := HS.out.val
        obtain ⟨f', rfl⟩ | hf0 : (∃ f', f = f' + 1) ∨ f = 0 := by
          cases f with
          | zero => exact .inr rfl
          | succ f' => exact .inl ⟨f', rfl⟩
        · rw [plainF, if_pos hp] at hv
          obtain ⟨r, hr⟩ : ∃ r, (Utf8.decode s pos).1 = r := ⟨_, rfl⟩
          obtain ⟨m, hm⟩ : ∃ m, (Utf8.decode s pos).2 = m := ⟨_, rfl⟩
          simp only [hr, hm] at hnx hm1 hv
          have HPO := Lib.hid (iterPos_of hit)
          have hb5 := Lib.below_iterAt HS.out.below (Nat.le_refl w.heap.size) s (pos + m)
          have HIT := Lib.hid (Lib.iterAt_heap wr w.heap.size s pos (pos + m) hit)
          have HPN := Lib.hid (iterPos_of HIT.out)
          by_cases h1 : r = 65533
          · subst h1
            rw [if_pos (.inl rfl)] at hv
            have HV := Lib.hid hv
            clear hr hm hv hlt
            go_wp2_with fail
            go_ret
            exact ⟨by rw [← HV.out]; rfl, hb5⟩
          · have n1 : ((r : Int) == 65533) = false := by simp; omega
            have n1' : ((r : Int) = 65533) = False := eq_false (by omega)
            by_cases h2 : 65535 < r
            · rw [if_pos (.inr h2)] at hv
              have n2 : decide ((65535 : Int) < (r : Int)) = true := decide_eq_true (by omega)
              have n2' : decide ((r : Int) > 65535) = true := decide_eq_true (by omega)
              have HV := Lib.hid hv
              clear hr hm hv hlt h1 h2
              go_wp2_with fail
              go_ret
              exact ⟨by rw [← HV.out]; rfl, hb5⟩
            · rw [if_neg (by omega)] at hv
              have n2 : decide ((65535 : Int) < (r : Int)) = false := decide_eq_false (by omega)
              have n2' : decide ((r : Int) > 65535) = false := decide_eq_false (by omega)
              have HN := Lib.hid (show Pla w (wr.iterAt w.heap.size s (pos + m)) s B (pos + m) f' from ⟨HIT.out, hb5, by omega, hv⟩)
              clear hr hm hv hlt h1 h2
              go_wp2_with fail
              go_roundw
              case rel => exact ⟨_, _, HN⟩
              case measure => rw [HPN.out, HPO.out]; omega
        · omega
      · have hnx : ∀ ty, (Instr.next (.pointer (some ⟨w.heap.size, 0, none⟩)) true ty).run Try.prog wr = _ := fun ty => Lib.run_next_end_at wr w.heap.size s pos ty hit hp
        have hv : B = true := by
          rw [← HS.out.val]
          cases f with
          | zero => rfl
          | succ f' => rw [plainF, if_neg hp]
        have HV := Lib.hid hv
        have hb5 := HS.out.below
        clear hv
        go_wp2_with fail
        go_ret
        exact ⟨by rw [HV.out]; rfl, hb5⟩
end Go.Proofs.Ytamajbaojbghcaa.Bt
