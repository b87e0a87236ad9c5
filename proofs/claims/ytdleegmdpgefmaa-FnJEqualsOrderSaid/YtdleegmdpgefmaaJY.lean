/- jsonschema.equals: arrays and objects; whether any two values are equal. -/
import Derived.Test.YtdleegmdpgefmaaJX
namespace Go.Proofs.Ytdleegmdpgefmaa.J
open Go.RowKit Go.Proofs.YtdleegmdpgefmaaW.PrintWords Go.Proofs.YtdleegmdpgefmaaW.PrintLast Go.Proofs.YtdleegmdpgefmaaW.PrintMore Go.Proofs.Ytdleegmdpgefmaa.PJ Go.Proofs.Ytdleegmdpgefmaa.K Go.Maps
set_option linter.unusedVariables false
set_option linter.unusedSimpArgs false
attribute [local go_sem] eql_nil as_yes_b as_yes_i as_yes_s as_yes_a as_yes_m as_no_0 as_nil_0 as_no_1 as_nil_1 as_no_2 as_nil_2 as_no_3 as_nil_3 as_no_4 as_nil_4 as_no_5 as_nil_5 as_no_6 as_nil_6 as_no_7 as_nil_7 as_no_8 as_nil_8 as_no_9 as_nil_9 as_no_10 as_nil_10 as_no_11 as_nil_11 as_no_12 as_nil_12 as_no_13 as_nil_13 as_no_14 as_nil_14 as_no_15 as_nil_15 neq_err eql_nn

/-- What equals tells of values at most so deep. -/
def EqI (n : Nat) : Prop := ∀ (u1 u2 : Value) (e1 e2 : D0) (m : Nat) (ok1 ok2 : Nat → Prop) (w : World), Rep n ok1 w u1 e1 → NoNum e1 → Rep m ok2 w u2 e2 → Calls Try.prog 21 #[u1, u2] w (EqP e1 e2 w)
theorem EqI.at_ {n : Nat} (h : EqI n) {u1 u2 : Value} {e1 e2 : D0} {m : Nat} {ok1 ok2 : Nat → Prop} {w : World} (h1 : Rep n ok1 w u1 e1) (h2 : NoNum e1) (h3 : Rep m ok2 w u2 e2) {b : Bool} (hb : eqB e1 e2 = b) : Calls Try.prog 21 #[u1, u2] w fun e w' => e = .returned (.tuple #[.bool b, .nilIface]) ∧ Below w.heap.size w w' := by
  subst hb
  exact h u1 u2 e1 e2 m ok1 ok2 w h1 h2 h3
/-- The call on two values, in every world behind one. -/
def CallIn (wr : World) (u1 u2 : Value) (b : Bool) : Prop := ∀ W : World, Below wr.heap.size wr W → Calls Try.prog 21 #[u1, u2] W fun e w' => e = .returned (.tuple #[.bool b, .nilIface]) ∧ Below W.heap.size W w'
theorem CallIn.at_ {wr : World} {u1 u2 : Value} {b : Bool} (h : CallIn wr u1 u2 b) {W : World} (hb : Below wr.heap.size wr W) : Calls Try.prog 21 #[u1, u2] W fun e w' => e = .returned (.tuple #[.bool b, .nilIface]) ∧ Below W.heap.size W w' := h W hb
theorem RowAt.get {R : Value → D0 → Prop} {ok : Nat → Prop} {w : World} {A : Option Addr} {l : List D0} (h : RowAt R ok w A l) (i : Nat) (hi : i < l.length) : ∃ ad u, A = some ad ∧ w.cell? (ad.add i) = some u ∧ R u l[i] := by
  obtain ⟨ad, rfl, _, hx⟩ := h (by omega)
  obtain ⟨u, h1, h2⟩ := hx i _ (List.getElem?_eq_getElem hi)
  exact ⟨ad, u, rfl, h1, h2⟩
set_option maxHeartbeats 8000000 in
set_option maxRecDepth 100000 in
theorem eq_slices (n : Nat) (hI : EqI n) (m : Nat) (ok1 ok2 : Nat → Prop) (w : World) (A1 A2 : Option Addr) (c1 c2 : Nat) (l1 l2 : List D0) (hc1 : l1.length ≤ c1) (hl1 : l1.length ≤ 140737488351232) (h1 : RowAt (Rep n ok1 w) ok1 w A1 l1) (hn : ∀ e ∈ l1, NoNum e) (hc2 : l2.length ≤ c2) (h2 : RowAt (Rep m ok2 w) ok2 w A2 l2) (hlen : l2.length = l1.length) :
    Calls Try.prog 21 #[.iface 42 (.slice A1 l1.length c1), .iface 42 (.slice A2 l1.length c2)] w (EqP (.slice l1 []) (.slice l2 []) w) := by
  have HI := Lib.hid hI
  have H1 := Lib.hid h1
  have H2 := Lib.hid h2
  have HN := Lib.hid hn
  have HLEN := Lib.hid hlen
  have hne0 : ((l1.length : Int) != (l1.length : Int)) = false := by simp
  clear hI h1 h2 hn hlen
  go_enter Try.func21, Try.ntmps21
  go_wp2_with fail
  go_loopw [99] (fun iv wi => ∃ i : Nat, iv = .int .i64 i ∧ i ≤ l1.length ∧ Hid (Below w.heap.size w wi ∧ ∀ j, j < i → l1[j]? = l2[j]?)) (fun iv _ => l1.length - (intOf iv).toNat)
  case atStart => exact ⟨0, rfl, by omega, Lib.hid ⟨Below.refl _ _, fun j h => by omega⟩⟩
  case round =>
    obtain ⟨i, rfl, hil, HS⟩ := hrel
    by_cases hlt : i < l1.length
    · have hd1 : decide ((i : Int) < (l1.length : Int)) = true := decide_eq_true (by omega)
      obtain ⟨a1, u1, rfl, p1, r1⟩ := H1.out.get i hlt
      obtain ⟨a2, u2, rfl, p2, r2⟩ := H2.out.get i (by rw [HLEN.out]; exact hlt)
      have q1 : wr.cell? (a1.add i) = some u1 := by rw [HS.out.1.cell (lt_of_cell p1)]; exact p1
      have q2 : wr.cell? (a2.add i) = some u2 := by rw [HS.out.1.cell (lt_of_cell p2)]; exact p2
      have hws := HS.out.1.size
      have lt1 : a1.block < wr.heap.size := by have := lt_of_cell q1; rwa [block_add] at this
      have lt2 : a2.block < wr.heap.size := by have := lt_of_cell q2; rwa [block_add] at this
      have hbw : Below w.heap.size w wr := HS.out.1
      have hk1 : ∀ {W : World}, Below wr.heap.size wr W → Rep n ok1 W u1 l1[i] := fun hb => r1.kept (hbw.trans (hb.mono hws))
      have hk2 : ∀ {W : World}, Below wr.heap.size wr W → Rep m ok2 W u2 (l2[i]'(by rw [HLEN.out]; exact hlt)) := fun hb => r2.kept (hbw.trans (hb.mono hws))
      obtain ⟨b, hb⟩ : ∃ b, eqB l1[i] (l2[i]'(by rw [HLEN.out]; exact hlt)) = b := ⟨_, rfl⟩
      have HEQ := Lib.hid hb
      have hcall : ∀ {W : World}, Below wr.heap.size wr W → Calls Try.prog 21 #[u1, u2] W fun e w' => e = .returned (.tuple #[.bool b, .nilIface]) ∧ Below W.heap.size W w' := fun hb => HI.out.at_ (hk1 hb) (HN.out _ (List.getElem_mem _)) (hk2 hb) HEQ.out
      have HC := Lib.hid (show CallIn wr u1 u2 b from fun W hb => hcall hb)
      have hi0 : (0 : Int) ≤ (i : Int) := Int.natCast_nonneg _
      have hi1 : (i : Int) < (l1.length : Int) := by omega
      have B1 := Lib.hid (block_add a1 i)
      have B2 := Lib.hid (block_add a2 i)
      clear p1 p2 r1 r2 hk1 hk2 hcall hb hbw
      cases b
      all_goals
        go_wp2_with fail
        go_region_held3 (fun w' => w'.cell? (a1.add i) = some u1 ∧ w'.cell? (a2.add i) = some u2)
          (first
            | go_keep
            | (go_split_ands; exact ⟨(hbn.cell (by rw [B1.out]; exact lt1)).trans q1, (hbn.cell (by rw [B2.out]; exact lt2)).trans q2⟩))
          ((go_at_call 21; refine (HC.out.at_ (by first | exact Below.refl _ _ | exact (Below.refl _ _).drew | exact pw_below_drewN (Below.refl _ _) _)).mono ?_; rintro e w1 ⟨rfl, hbl⟩; have hbn : Below wr.heap.size wr w1 := (by first | exact hbl | exact (Below.refl _ _).drew.trans hbl | exact (pw_below_drewN (Below.refl _ _) _).trans hbl)))
        have HB := Lib.hid hbn
        clear hbl hbn
        go_wp2_with fail
      · go_ret2
        refine eq_no (fun e => ?_) (HS.out.1.trans (HB.out.mono hws))
        injection e with e _
        have := eqB_false.1 HEQ.out
        subst e
        exact this rfl
      · go_roundw
        case rel => exact ⟨i + 1, by go_num, by omega, Lib.hid ⟨HS.out.1.trans (HB.out.mono hws), fun j h => by
          by_cases e : j = i
          · rw [e, List.getElem?_eq_getElem hlt, List.getElem?_eq_getElem (by rw [HLEN.out]; exact hlt), eqB_true.1 HEQ.out]
          · exact HS.out.2 j (by omega)⟩⟩
        case measure => simp [intOf]; omega
    · obtain rfl : i = l1.length := by omega
      have hd1 : decide ((l1.length : Int) < (l1.length : Int)) = false := by simp
      clear hlt
      go_wp2_with fail
      go_ret2
      refine eq_yes ?_ HS.out.1
      have : l1 = l2 := by
        apply List.ext_getElem?
        intro j
        by_cases hj : j < l1.length
        · exact HS.out.2 j hj
        · rw [List.getElem?_eq_none (by omega), List.getElem?_eq_none (by rw [HLEN.out]; omega)]
      rw [this]
/-- The keys of a map of texts are texts. -/
theorem keyOfS_inv {key : Value} {kl : Lit} (h : keyOf Try.prog 9 key = some kl) : ∃ s : ByteArray, key = .string s := by
  have hk := Try.underlying9
  cases key <;> simp [keyOf, hk, mapKey] at h
  exact ⟨_, rfl⟩
theorem sub_len {α : Type} [DecidableEq α] : ∀ {l1 l2 : List α}, l1.Nodup → (∀ p ∈ l1, p ∈ l2) → ∀ x ∈ l2, x ∉ l1 → l1.length < l2.length
  | [], l2, _, _, x, hx, _ => List.length_pos_of_mem hx
  | a :: r, l2, hn, hs, x, hx, hnx => by
    obtain ⟨h1, h2⟩ := List.nodup_cons.1 hn
    have ha : a ∈ l2 := hs a (by simp)
    have hxa : x ≠ a := fun e => hnx (by simp [e])
    have ih := sub_len (l2 := l2.erase a) h2 (fun p hp => (List.mem_erase_of_ne (fun e => h1 (by rw [← e]; exact hp))).2 (hs p (by simp [hp]))) x ((List.mem_erase_of_ne hxa).2 hx) (fun h => hnx (by simp [h]))
    rw [List.length_erase_of_mem ha] at ih
    have := List.length_pos_of_mem ha
    simp only [List.length_cons]; omega
/-- Two maps as wide as each other: one within the other is the other. -/
theorem same_maps {d1 d2 : D0} (c1 : CanonS d1) (c2 : CanonS d2) (hs : Maps.size d1 = Maps.size d2) (h : ∀ k, Maps.has d1 k = true → Maps.has d2 k = true ∧ d1.atKey k .nil = d2.atKey k .nil) : d1 = d2 := by
  obtain ⟨es1, rfl, p1, s1⟩ := c1
  obtain ⟨es2, rfl, p2, s2⟩ := c2
  have k1 : ∀ p ∈ es1, WideAt.IsKeyLit p.1 := fun p hp => by obtain ⟨s, e⟩ := s1 p hp; rw [e]; trivial
  have k2 : ∀ p ∈ es2, WideAt.IsKeyLit p.1 := fun p hp => by obtain ⟨s, e⟩ := s2 p hp; rw [e]; trivial
  have a1 := apart_of_rising p1
  have a2 := apart_of_rising p2
  have hsub : ∀ p ∈ es1, p ∈ es2 := fun p hp => by
    have h1 : Maps.has (.map es1) p.1 = true := List.any_eq_true.2 ⟨p, hp, WideAt.sameKey_self (k1 p hp)⟩
    obtain ⟨h2, h3⟩ := h _ h1
    obtain ⟨q, hq, hqs⟩ := List.any_eq_true.1 h2
    have e1 : q.1 = p.1 := WideAt.sameKey_eq hqs
    have e2 : (DataW.map es1).atKey p.1 .nil = p.2 := WideAt.atKey_mem .nil (k1 p hp) a1 hp
    have e3 : (DataW.map es2).atKey p.1 .nil = q.2 := WideAt.atKey_mem .nil (k1 p hp) a2 (by rw [← e1]; exact hq)
    have : q = p := Prod.ext e1 (by rw [← e3, ← h3, e2])
    exact this ▸ hq
  have nd1 : es1.Nodup := a1.imp fun {a b} hab e => hab (by rw [e])
  have hs' : es1.length = es2.length := hs
  rw [eq_of_mem_rising p1 p2 fun p => ⟨hsub p, fun hp => by
    classical
    apply Classical.byContradiction
    intro hnp
    have := sub_len nd1 hsub p hp hnp
    omega⟩]
end Go.Proofs.Ytdleegmdpgefmaa.J
