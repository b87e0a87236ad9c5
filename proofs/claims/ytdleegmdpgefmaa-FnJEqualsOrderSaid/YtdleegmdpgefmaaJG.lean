/- spec.JIsDecimal: it answers (the last walks). -/
import Derived.Test.YtdleegmdpgefmaaJE
import Derived.Lib.Builder
namespace Go.Proofs.Ytdleegmdpgefmaa.J
open Go.RowKit Go.Proofs.YtdleegmdpgefmaaW.PrintWords Go.Proofs.YtdleegmdpgefmaaW.PrintLast Go.Proofs.YtdleegmdpgefmaaW.PrintMore Go.Proofs.Ytdleegmdpgefmaa.PJ Go.Proofs.Ytdleegmdpgefmaa.K
set_option linter.unusedVariables false
set_option linter.unusedSimpArgs false

/-- What jDecimalOf answers. -/
def DecOf (b : Bool) (w : World) (e : Ending) (w' : World) : Prop := ∃ (m : Bool) (d : ByteArray) (x : Int), e = .returned (.tuple #[.agg #[.bool m, .string d, .int .i64 x], .bool b]) ∧ Below w.heap.size w w'
theorem decOf_mk {w w' : World} (m : Bool) (d : ByteArray) (x : Int) (b : Bool) (h : Below w.heap.size w w') : DecOf b w (.returned (.tuple #[.agg #[.bool m, .string d, .int .i64 x], .bool b])) w' := ⟨m, d, x, rfl, h⟩
theorem ext_size (s : ByteArray) (a b : Nat) (hb : b ≤ s.size) : (s.extract a b).size = b - a := by simp [ByteArray.size_extract]; omega
theorem plain_nil (w : World) : Calls Try.prog 34 #[.string ByteArray.empty] w fun e w' => e = .returned (.bool false) ∧ Drawn0 w w' := spec_jPlain.calls 1 ByteArray.empty false w (by rfl)
theorem below3 {w W : World} (h : Below w.heap.size w W) (a b c : Value) : Below w.heap.size w (((W.setCell ⟨w.heap.size, 0, none⟩ a).setCell ⟨w.heap.size, 1, none⟩ b).setCell ⟨w.heap.size, 2, none⟩ c) := ((h.setCell (p := ⟨w.heap.size, 0, none⟩) (Nat.le_refl _) a).setCell (p := ⟨w.heap.size, 1, none⟩) (Nat.le_refl _) b).setCell (p := ⟨w.heap.size, 2, none⟩) (Nat.le_refl _) c
def RunC (s : ByteArray) (i : Int) (r : Nat) : Prop := ∀ w, Calls Try.prog 33 #[.string s, .int .i64 i] w fun e w' => e = .returned (.int .i64 r) ∧ Drawn0 w w'
def PlainC (s : ByteArray) (b : Bool) : Prop := ∀ w, Calls Try.prog 34 #[.string s] w fun e w' => e = .returned (.bool b) ∧ Drawn0 w w'
theorem RunC.at_ {s : ByteArray} {i : Int} {r : Nat} (h : RunC s i r) (w : World) : Calls Try.prog 33 #[.string s, .int .i64 i] w fun e w' => e = .returned (.int .i64 r) ∧ Drawn0 w w' := h w
theorem PlainC.at_ {s : ByteArray} {b : Bool} (h : PlainC s b) (w : World) : Calls Try.prog 34 #[.string s] w fun e w' => e = .returned (.bool b) ∧ Drawn0 w w' := h w
theorem deccell {w w5 : World} {n : Nat} (hb5 : Below ((w.alloc (.cells #[.bool false, .string ⟨#[]⟩, .int .i64 0] 70)).drewN n).heap.size ((w.alloc (.cells #[.bool false, .string ⟨#[]⟩, .int .i64 0] 70)).drewN n) w5) :
    w5.cell? ⟨w.heap.size, 0, none⟩ = some (.bool false) ∧ w5.cell? ⟨w.heap.size, 1, none⟩ = some (.string ⟨#[]⟩) ∧ w5.cell? ⟨w.heap.size, 2, none⟩ = some (.int .i64 0) ∧ w5.frozen? ⟨w.heap.size, 0, none⟩ = false ∧ w5.frozen? ⟨w.heap.size, 1, none⟩ = false ∧ w5.frozen? ⟨w.heap.size, 2, none⟩ = false ∧ w.heap.size < w5.heap.size ∧ Below w.heap.size w w5 := by
  have hh : w5.heap[w.heap.size]? = some (.cells #[.bool false, .string ⟨#[]⟩, .int .i64 0] 70 (0, 0)) := (hb5.block w.heap.size (by simp)).trans (heap_alloc_new w _)
  refine ⟨?_, ?_, ?_, ?_, ?_, ?_, ?_, ?_⟩
  · rw [Lib.cell_of_heap hh]; rfl
  · rw [Lib.cell_of_heap hh]; rfl
  · rw [Lib.cell_of_heap hh]; rfl
  · simp [World.frozen?, hh]
  · simp [World.frozen?, hh]
  · simp [World.frozen?, hh]
  · have := hb5.size; simp at this; omega
  · exact (pw_below_drewN ((Below.refl _ _).alloc (Nat.le_refl _) _) _).trans (hb5.mono (by simp))
set_option maxHeartbeats 1000000 in
set_option maxRecDepth 100000 in
theorem dec_pf0 (s : ByteArray) (hs : s.size ≤ 140737488351232) (h40 : s.size ≤ 40) (h0 : 0 < s.size) (h1' : (s.toList == ([] : List UInt8)) = false) (h2' : (s.toList != ([] : List UInt8)) = true) (h3' : s.toList.isEmpty = false) (hp : (((s[0]'h0).toNat : Int) == 45) = false) (r : Nat) (hr1 : 0 ≤ r) (h2 : r ≤ s.size) (C1 : RunC s 0 r) (t : ByteArray) (ht : s.extract 0 r = t) (C2 : PlainC t false) (w : World) : Calls Try.prog 31 #[.string s] w (DecOf false w) := by
  have hi0 : (0 : Int) < (s.size : Int) := by omega
  have h40i : decide ((40 : Int) < (s.size : Int)) = false := decide_eq_false (by omega)
  have h40n : decide (40 < s.size) = false := decide_eq_false (by omega)
  have hr0 : (0 : Int) ≤ (r : Int) := by omega
  have hr2 : (r : Int) ≤ (s.size : Int) := by omega
  have HC1 := Lib.hid C1
  have HC2 := Lib.hid C2
  clear C1 C2
  go_enter Try.func31, Try.ntmps31
  go_wp2_with fail
  refine (HC1.out.at_ _).mono ?_
  rintro e w1 ⟨rfl, ⟨n1, rfl⟩⟩
  go_wp2_with fail
  refine (HC2.out.at_ _).mono ?_
  rintro e w2 ⟨rfl, ⟨n2, rfl⟩⟩
  go_wp2_with fail
  exact bodyPost_ret (v := .tuple #[.agg #[.bool false, .string ⟨#[]⟩, .int .i64 0], .bool false]) (by simp [results, Try.results31, go_sem]) rfl (decOf_mk _ _ _ _ (below3 (pw_below_drewN ((Below.refl _ _).alloc (Nat.le_refl _) _) _) _ _ _))
set_option maxHeartbeats 1000000 in
set_option maxRecDepth 100000 in
theorem dec_rend0 (s : ByteArray) (hs : s.size ≤ 140737488351232) (h40 : s.size ≤ 40) (h0 : 0 < s.size) (h1' : (s.toList == ([] : List UInt8)) = false) (h2' : (s.toList != ([] : List UInt8)) = true) (h3' : s.toList.isEmpty = false) (hp : (((s[0]'h0).toNat : Int) == 45) = false) (r : Nat) (hr1 : 0 ≤ r) (h2 : r ≤ s.size) (C1 : RunC s 0 r) (t : ByteArray) (ht : s.extract 0 r = t) (C2 : PlainC t true) (hrs : ¬ r < s.size) (is : Bool) (CE : ExpC (s.extract r s.size) is) (w : World) : Calls Try.prog 31 #[.string s] w (DecOf is w) := by
  have hi0 : (0 : Int) < (s.size : Int) := by omega
  have h40i : decide ((40 : Int) < (s.size : Int)) = false := decide_eq_false (by omega)
  have h40n : decide (40 < s.size) = false := decide_eq_false (by omega)
  have hr0 : (0 : Int) ≤ (r : Int) := by omega
  have hr2 : (r : Int) ≤ (s.size : Int) := by omega
  have hrs2 : decide ((r : Int) < (s.size : Int)) = false := decide_eq_false (by omega)
  have HRS := Lib.hid hrs
  clear hrs
  obtain ⟨z, hz⟩ : ∃ z, s.extract r s.size = z := ⟨_, rfl⟩
  rw [hz] at CE
  have HCE := Lib.hid CE
  clear CE
  have hdgs : t.size ≤ s.size := by rw [← ht, ext_size s _ _ h2]; omega
  have HDS := Lib.hid (show t.size ≤ 140737488351232 by omega)
  have HC1 := Lib.hid C1
  have HC2 := Lib.hid C2
  clear C1 C2
  go_enter Try.func31, Try.ntmps31
  go_wp2_with fail
  refine (HC1.out.at_ _).mono ?_
  rintro e w1 ⟨rfl, ⟨n1, rfl⟩⟩
  go_wp2_with fail
  refine (HC2.out.at_ _).mono ?_
  rintro e w2 ⟨rfl, ⟨n2, rfl⟩⟩
  go_wp2_with fail
  refine (HCE.out.at_ _).mono ?_
  rintro e w4 ⟨n, rfl, ⟨n4, rfl⟩⟩
  cases is
  · go_wp2_with fail
    exact bodyPost_ret (v := .tuple #[.agg #[.bool false, .string ⟨#[]⟩, .int .i64 0], .bool false]) (by simp [results, Try.results31, go_sem]) rfl (decOf_mk _ _ _ _ (below3 (pw_below_drewN ((Below.refl _ _).alloc (Nat.le_refl _) _) _) _ _ _))
  · go_wp2_with fail
    with_reducible refine (lean _ _ _ HDS.out _).mono ?_
    rintro e w5 ⟨m', d', x', rfl, hb5⟩
    obtain ⟨c0, c1, c2, f0, f1, f2, hz5, hb⟩ := deccell hb5
    have HB := Lib.hid hb
    clear hb5 hb
    go_wp2_with fail
    exact bodyPost_ret (v := .tuple #[.agg #[.bool m', .string d', .int .i64 x'], .bool true]) (by simp [results, Try.results31, go_sem, hz5, c0, c1, c2]) rfl (decOf_mk _ _ _ _ (below3 HB.out _ _ _))
set_option maxHeartbeats 1000000 in
set_option maxRecDepth 100000 in
theorem dec_qf0 (s : ByteArray) (hs : s.size ≤ 140737488351232) (h40 : s.size ≤ 40) (h0 : 0 < s.size) (h1' : (s.toList == ([] : List UInt8)) = false) (h2' : (s.toList != ([] : List UInt8)) = true) (h3' : s.toList.isEmpty = false) (hp : (((s[0]'h0).toNat : Int) == 45) = false) (r : Nat) (hr1 : 0 ≤ r) (h2 : r ≤ s.size) (C1 : RunC s 0 r) (t : ByteArray) (ht : s.extract 0 r = t) (C2 : PlainC t true) (hrs : r < s.size) (hq : (((s[r]'hrs).toNat : Int) == 46) = false) (is : Bool) (CE : ExpC (s.extract r s.size) is) (w : World) : Calls Try.prog 31 #[.string s] w (DecOf is w) := by
  have hi0 : (0 : Int) < (s.size : Int) := by omega
  have h40i : decide ((40 : Int) < (s.size : Int)) = false := decide_eq_false (by omega)
  have h40n : decide (40 < s.size) = false := decide_eq_false (by omega)
  have hr0 : (0 : Int) ≤ (r : Int) := by omega
  have hr2 : (r : Int) ≤ (s.size : Int) := by omega
  have hrs2 : decide ((r : Int) < (s.size : Int)) = true := decide_eq_true (by omega)
  have hrs4 : (r : Int) < (s.size : Int) := by omega
  obtain ⟨z, hz⟩ : ∃ z, s.extract r s.size = z := ⟨_, rfl⟩
  rw [hz] at CE
  have HCE := Lib.hid CE
  clear CE
  have hdgs : t.size ≤ s.size := by rw [← ht, ext_size s _ _ h2]; omega
  have HDS := Lib.hid (show t.size ≤ 140737488351232 by omega)
  have HC1 := Lib.hid C1
  have HC2 := Lib.hid C2
  clear C1 C2
  go_enter Try.func31, Try.ntmps31
  go_wp2_with fail
  refine (HC1.out.at_ _).mono ?_
  rintro e w1 ⟨rfl, ⟨n1, rfl⟩⟩
  go_wp2_with fail
  refine (HC2.out.at_ _).mono ?_
  rintro e w2 ⟨rfl, ⟨n2, rfl⟩⟩
  go_wp2_with fail
  refine (HCE.out.at_ _).mono ?_
  rintro e w4 ⟨n, rfl, ⟨n4, rfl⟩⟩
  cases is
  · go_wp2_with fail
    exact bodyPost_ret (v := .tuple #[.agg #[.bool false, .string ⟨#[]⟩, .int .i64 0], .bool false]) (by simp [results, Try.results31, go_sem]) rfl (decOf_mk _ _ _ _ (below3 (pw_below_drewN ((Below.refl _ _).alloc (Nat.le_refl _) _) _) _ _ _))
  · go_wp2_with fail
    with_reducible refine (lean _ _ _ HDS.out _).mono ?_
    rintro e w5 ⟨m', d', x', rfl, hb5⟩
    obtain ⟨c0, c1, c2, f0, f1, f2, hz5, hb⟩ := deccell hb5
    have HB := Lib.hid hb
    clear hb5 hb
    go_wp2_with fail
    exact bodyPost_ret (v := .tuple #[.agg #[.bool m', .string d', .int .i64 x'], .bool true]) (by simp [results, Try.results31, go_sem, hz5, c0, c1, c2]) rfl (decOf_mk _ _ _ _ (below3 HB.out _ _ _))
set_option maxHeartbeats 1000000 in
set_option maxRecDepth 100000 in
theorem dec_r2e0 (s : ByteArray) (hs : s.size ≤ 140737488351232) (h40 : s.size ≤ 40) (h0 : 0 < s.size) (h1' : (s.toList == ([] : List UInt8)) = false) (h2' : (s.toList != ([] : List UInt8)) = true) (h3' : s.toList.isEmpty = false) (hp : (((s[0]'h0).toNat : Int) == 45) = false) (r : Nat) (hr1 : 0 ≤ r) (h2 : r ≤ s.size) (C1 : RunC s 0 r) (t : ByteArray) (ht : s.extract 0 r = t) (C2 : PlainC t true) (hrs : r < s.size) (hq : (((s[r]'hrs).toNat : Int) == 46) = true) (C3 : RunC s ((r : Int) + 1) (r + 1)) (w : World) : Calls Try.prog 31 #[.string s] w (DecOf false w) := by
  have hi0 : (0 : Int) < (s.size : Int) := by omega
  have h40i : decide ((40 : Int) < (s.size : Int)) = false := decide_eq_false (by omega)
  have h40n : decide (40 < s.size) = false := decide_eq_false (by omega)
  have hr0 : (0 : Int) ≤ (r : Int) := by omega
  have hr2 : (r : Int) ≤ (s.size : Int) := by omega
  have hrs2 : decide ((r : Int) < (s.size : Int)) = true := decide_eq_true (by omega)
  have hrs4 : (r : Int) < (s.size : Int) := by omega
  have HC1 := Lib.hid C1
  have HC2 := Lib.hid C2
  have HC3 := Lib.hid C3
  clear C1 C2 C3
  go_enter Try.func31, Try.ntmps31
  go_wp2_with fail
  refine (HC1.out.at_ _).mono ?_
  rintro e w1 ⟨rfl, ⟨n1, rfl⟩⟩
  go_wp2_with fail
  refine (HC2.out.at_ _).mono ?_
  rintro e w2 ⟨rfl, ⟨n2, rfl⟩⟩
  go_wp2_with fail
  refine (HC3.out.at_ _).mono ?_
  rintro e w3 ⟨rfl, ⟨n3, rfl⟩⟩
  go_wp2_with fail
  exact bodyPost_ret (v := .tuple #[.agg #[.bool false, .string ⟨#[]⟩, .int .i64 0], .bool false]) (by simp [results, Try.results31, go_sem]) rfl (decOf_mk _ _ _ _ (below3 (pw_below_drewN ((Below.refl _ _).alloc (Nat.le_refl _) _) _) _ _ _))
set_option maxHeartbeats 1000000 in
set_option maxRecDepth 100000 in
theorem dec_r2g0 (s : ByteArray) (hs : s.size ≤ 140737488351232) (h40 : s.size ≤ 40) (h0 : 0 < s.size) (h1' : (s.toList == ([] : List UInt8)) = false) (h2' : (s.toList != ([] : List UInt8)) = true) (h3' : s.toList.isEmpty = false) (hp : (((s[0]'h0).toNat : Int) == 45) = false) (r : Nat) (hr1 : 0 ≤ r) (h2 : r ≤ s.size) (C1 : RunC s 0 r) (t : ByteArray) (ht : s.extract 0 r = t) (C2 : PlainC t true) (hrs : r < s.size) (hq : (((s[r]'hrs).toNat : Int) == 46) = true) (r2 : Nat) (k1 : r + 1 < r2) (k2 : r2 ≤ s.size) (C3 : RunC s ((r : Int) + 1) r2) (is : Bool) (CE : ExpC (s.extract r2 s.size) is) (w : World) : Calls Try.prog 31 #[.string s] w (DecOf is w) := by
  have hi0 : (0 : Int) < (s.size : Int) := by omega
  have h40i : decide ((40 : Int) < (s.size : Int)) = false := decide_eq_false (by omega)
  have h40n : decide (40 < s.size) = false := decide_eq_false (by omega)
  have hr0 : (0 : Int) ≤ (r : Int) := by omega
  have hr2 : (r : Int) ≤ (s.size : Int) := by omega
  have hrs2 : decide ((r : Int) < (s.size : Int)) = true := decide_eq_true (by omega)
  have hrs4 : (r : Int) < (s.size : Int) := by omega
  obtain ⟨z, hz⟩ : ∃ z, s.extract r2 s.size = z := ⟨_, rfl⟩
  rw [hz] at CE
  have HCE := Lib.hid CE
  clear CE
  have hdgs : t.size ≤ s.size := by rw [← ht, ext_size s _ _ h2]; omega
  obtain ⟨fr, hfr⟩ : ∃ fr, s.extract (r + 1) r2 = fr := ⟨_, rfl⟩
  have hfr2 : fr.size ≤ s.size := by rw [← hfr, ext_size s _ _ k2]; omega
  have hfrs : (t ++ fr).size ≤ 140737488351232 := by rw [ByteArray.size_append]; omega
  have HDS := Lib.hid hfrs
  clear hfrs
  have hmx : ¬ 9223372036854775807 < t.size + fr.size := by omega
  have hne : ((r2 : Int) == (r : Int) + 1) = false := by rw [beq_eq_false_iff_ne]; omega
  have hgt : decide ((r : Int) < (r2 : Int)) = true := decide_eq_true (by omega)
  have hgt2 : decide (r < r2) = true := decide_eq_true (by omega)
  have kr0 : (r : Int) + 1 ≤ (r2 : Int) := by omega
  have kr1 : (r2 : Int) ≤ (s.size : Int) := by omega
  have HC1 := Lib.hid C1
  have HC2 := Lib.hid C2
  have HC3 := Lib.hid C3
  clear C1 C2 C3
  go_enter Try.func31, Try.ntmps31
  go_wp2_with fail
  refine (HC1.out.at_ _).mono ?_
  rintro e w1 ⟨rfl, ⟨n1, rfl⟩⟩
  go_wp2_with fail
  refine (HC2.out.at_ _).mono ?_
  rintro e w2 ⟨rfl, ⟨n2, rfl⟩⟩
  go_wp2_with fail
  refine (HC3.out.at_ _).mono ?_
  rintro e w3 ⟨rfl, ⟨n3, rfl⟩⟩
  go_wp2_with fail
  refine (HCE.out.at_ _).mono ?_
  rintro e w4 ⟨n, rfl, ⟨n4, rfl⟩⟩
  cases is
  · go_wp2_with fail
    exact bodyPost_ret (v := .tuple #[.agg #[.bool false, .string ⟨#[]⟩, .int .i64 0], .bool false]) (by simp [results, Try.results31, go_sem]) rfl (decOf_mk _ _ _ _ (below3 (pw_below_drewN ((Below.refl _ _).alloc (Nat.le_refl _) _) _) _ _ _))
  · go_wp2_with fail
    with_reducible refine (lean _ _ _ HDS.out _).mono ?_
    rintro e w5 ⟨m', d', x', rfl, hb5⟩
    obtain ⟨c0, c1, c2, f0, f1, f2, hz5, hb⟩ := deccell hb5
    have HB := Lib.hid hb
    clear hb5 hb
    go_wp2_with fail
    exact bodyPost_ret (v := .tuple #[.agg #[.bool m', .string d', .int .i64 x'], .bool true]) (by simp [results, Try.results31, go_sem, hz5, c0, c1, c2]) rfl (decOf_mk _ _ _ _ (below3 HB.out _ _ _))
set_option maxHeartbeats 1000000 in
set_option maxRecDepth 100000 in
theorem dec_pf1 (s : ByteArray) (hs : s.size ≤ 140737488351232) (h40 : s.size ≤ 40) (h0 : 0 < s.size) (h1' : (s.toList == ([] : List UInt8)) = false) (h2' : (s.toList != ([] : List UInt8)) = true) (h3' : s.toList.isEmpty = false) (hp : (((s[0]'h0).toNat : Int) == 45) = true) (r : Nat) (hr1 : 1 ≤ r) (h2 : r ≤ s.size) (C1 : RunC s 1 r) (t : ByteArray) (ht : s.extract 1 r = t) (C2 : PlainC t false) (w : World) : Calls Try.prog 31 #[.string s] w (DecOf false w) := by
  have hi0 : (0 : Int) < (s.size : Int) := by omega
  have h40i : decide ((40 : Int) < (s.size : Int)) = false := decide_eq_false (by omega)
  have h40n : decide (40 < s.size) = false := decide_eq_false (by omega)
  have hr0 : (0 : Int) ≤ (r : Int) := by omega
  have hr2 : (r : Int) ≤ (s.size : Int) := by omega
  have hr3 : (1 : Int) ≤ (r : Int) := by omega
  have HC1 := Lib.hid C1
  have HC2 := Lib.hid C2
  clear C1 C2
  go_enter Try.func31, Try.ntmps31
  go_wp2_with fail
  refine (HC1.out.at_ _).mono ?_
  rintro e w1 ⟨rfl, ⟨n1, rfl⟩⟩
  go_wp2_with fail
  refine (HC2.out.at_ _).mono ?_
  rintro e w2 ⟨rfl, ⟨n2, rfl⟩⟩
  go_wp2_with fail
  exact bodyPost_ret (v := .tuple #[.agg #[.bool false, .string ⟨#[]⟩, .int .i64 0], .bool false]) (by simp [results, Try.results31, go_sem]) rfl (decOf_mk _ _ _ _ (below3 (pw_below_drewN ((Below.refl _ _).alloc (Nat.le_refl _) _) _) _ _ _))
set_option maxHeartbeats 1000000 in
set_option maxRecDepth 100000 in
theorem dec_rend1 (s : ByteArray) (hs : s.size ≤ 140737488351232) (h40 : s.size ≤ 40) (h0 : 0 < s.size) (h1' : (s.toList == ([] : List UInt8)) = false) (h2' : (s.toList != ([] : List UInt8)) = true) (h3' : s.toList.isEmpty = false) (hp : (((s[0]'h0).toNat : Int) == 45) = true) (r : Nat) (hr1 : 1 ≤ r) (h2 : r ≤ s.size) (C1 : RunC s 1 r) (t : ByteArray) (ht : s.extract 1 r = t) (C2 : PlainC t true) (hrs : ¬ r < s.size) (is : Bool) (CE : ExpC (s.extract r s.size) is) (w : World) : Calls Try.prog 31 #[.string s] w (DecOf is w) := by
  have hi0 : (0 : Int) < (s.size : Int) := by omega
  have h40i : decide ((40 : Int) < (s.size : Int)) = false := decide_eq_false (by omega)
  have h40n : decide (40 < s.size) = false := decide_eq_false (by omega)
  have hr0 : (0 : Int) ≤ (r : Int) := by omega
  have hr2 : (r : Int) ≤ (s.size : Int) := by omega
  have hr3 : (1 : Int) ≤ (r : Int) := by omega
  have hrs2 : decide ((r : Int) < (s.size : Int)) = false := decide_eq_false (by omega)
  have HRS := Lib.hid hrs
  clear hrs
  obtain ⟨z, hz⟩ : ∃ z, s.extract r s.size = z := ⟨_, rfl⟩
  rw [hz] at CE
  have HCE := Lib.hid CE
  clear CE
  have hdgs : t.size ≤ s.size := by rw [← ht, ext_size s _ _ h2]; omega
  have HDS := Lib.hid (show t.size ≤ 140737488351232 by omega)
  have HC1 := Lib.hid C1
  have HC2 := Lib.hid C2
  clear C1 C2
  go_enter Try.func31, Try.ntmps31
  go_wp2_with fail
  refine (HC1.out.at_ _).mono ?_
  rintro e w1 ⟨rfl, ⟨n1, rfl⟩⟩
  go_wp2_with fail
  refine (HC2.out.at_ _).mono ?_
  rintro e w2 ⟨rfl, ⟨n2, rfl⟩⟩
  go_wp2_with fail
  refine (HCE.out.at_ _).mono ?_
  rintro e w4 ⟨n, rfl, ⟨n4, rfl⟩⟩
  cases is
  · go_wp2_with fail
    exact bodyPost_ret (v := .tuple #[.agg #[.bool false, .string ⟨#[]⟩, .int .i64 0], .bool false]) (by simp [results, Try.results31, go_sem]) rfl (decOf_mk _ _ _ _ (below3 (pw_below_drewN ((Below.refl _ _).alloc (Nat.le_refl _) _) _) _ _ _))
  · go_wp2_with fail
    with_reducible refine (lean _ _ _ HDS.out _).mono ?_
    rintro e w5 ⟨m', d', x', rfl, hb5⟩
    obtain ⟨c0, c1, c2, f0, f1, f2, hz5, hb⟩ := deccell hb5
    have HB := Lib.hid hb
    clear hb5 hb
    go_wp2_with fail
    exact bodyPost_ret (v := .tuple #[.agg #[.bool m', .string d', .int .i64 x'], .bool true]) (by simp [results, Try.results31, go_sem, hz5, c0, c1, c2]) rfl (decOf_mk _ _ _ _ (below3 HB.out _ _ _))
set_option maxHeartbeats 1000000 in
set_option maxRecDepth 100000 in
theorem dec_qf1 (s : ByteArray) (hs : s.size ≤ 140737488351232) (h40 : s.size ≤ 40) (h0 : 0 < s.size) (h1' : (s.toList == ([] : List UInt8)) = false) (h2' : (s.toList != ([] : List UInt8)) = true) (h3' : s.toList.isEmpty = false) (hp : (((s[0]'h0).toNat : Int) == 45) = true) (r : Nat) (hr1 : 1 ≤ r) (h2 : r ≤ s.size) (C1 : RunC s 1 r) (t : ByteArray) (ht : s.extract 1 r = t) (C2 : PlainC t true) (hrs : r < s.size) (hq : (((s[r]'hrs).toNat : Int) == 46) = false) (is : Bool) (CE : ExpC (s.extract r s.size) is) (w : World) : Calls Try.prog 31 #[.string s] w (DecOf is w) := by
  have hi0 : (0 : Int) < (s.size : Int) := by omega
  have h40i : decide ((40 : Int) < (s.size : Int)) = false := decide_eq_false (by omega)
  have h40n : decide (40 < s.size) = false := decide_eq_false (by omega)
  have hr0 : (0 : Int) ≤ (r : Int) := by omega
  have hr2 : (r : Int) ≤ (s.size : Int) := by omega
  have hr3 : (1 : Int) ≤ (r : Int) := by omega
  have hrs2 : decide ((r : Int) < (s.size : Int)) = true := decide_eq_true (by omega)
  have hrs4 : (r : Int) < (s.size : Int) := by omega
  obtain ⟨z, hz⟩ : ∃ z, s.extract r s.size = z := ⟨_, rfl⟩
  rw [hz] at CE
  have HCE := Lib.hid CE
  clear CE
  have hdgs : t.size ≤ s.size := by rw [← ht, ext_size s _ _ h2]; omega
  have HDS := Lib.hid (show t.size ≤ 140737488351232 by omega)
  have HC1 := Lib.hid C1
  have HC2 := Lib.hid C2
  clear C1 C2
  go_enter Try.func31, Try.ntmps31
  go_wp2_with fail
  refine (HC1.out.at_ _).mono ?_
  rintro e w1 ⟨rfl, ⟨n1, rfl⟩⟩
  go_wp2_with fail
  refine (HC2.out.at_ _).mono ?_
  rintro e w2 ⟨rfl, ⟨n2, rfl⟩⟩
  go_wp2_with fail
  refine (HCE.out.at_ _).mono ?_
  rintro e w4 ⟨n, rfl, ⟨n4, rfl⟩⟩
  cases is
  · go_wp2_with fail
    exact bodyPost_ret (v := .tuple #[.agg #[.bool false, .string ⟨#[]⟩, .int .i64 0], .bool false]) (by simp [results, Try.results31, go_sem]) rfl (decOf_mk _ _ _ _ (below3 (pw_below_drewN ((Below.refl _ _).alloc (Nat.le_refl _) _) _) _ _ _))
  · go_wp2_with fail
    with_reducible refine (lean _ _ _ HDS.out _).mono ?_
    rintro e w5 ⟨m', d', x', rfl, hb5⟩
    obtain ⟨c0, c1, c2, f0, f1, f2, hz5, hb⟩ := deccell hb5
    have HB := Lib.hid hb
    clear hb5 hb
    go_wp2_with fail
    exact bodyPost_ret (v := .tuple #[.agg #[.bool m', .string d', .int .i64 x'], .bool true]) (by simp [results, Try.results31, go_sem, hz5, c0, c1, c2]) rfl (decOf_mk _ _ _ _ (below3 HB.out _ _ _))
set_option maxHeartbeats 1000000 in
set_option maxRecDepth 100000 in
theorem dec_r2e1 (s : ByteArray) (hs : s.size ≤ 140737488351232) (h40 : s.size ≤ 40) (h0 : 0 < s.size) (h1' : (s.toList == ([] : List UInt8)) = false) (h2' : (s.toList != ([] : List UInt8)) = true) (h3' : s.toList.isEmpty = false) (hp : (((s[0]'h0).toNat : Int) == 45) = true) (r : Nat) (hr1 : 1 ≤ r) (h2 : r ≤ s.size) (C1 : RunC s 1 r) (t : ByteArray) (ht : s.extract 1 r = t) (C2 : PlainC t true) (hrs : r < s.size) (hq : (((s[r]'hrs).toNat : Int) == 46) = true) (C3 : RunC s ((r : Int) + 1) (r + 1)) (w : World) : Calls Try.prog 31 #[.string s] w (DecOf false w) := by
  have hi0 : (0 : Int) < (s.size : Int) := by omega
  have h40i : decide ((40 : Int) < (s.size : Int)) = false := decide_eq_false (by omega)
  have h40n : decide (40 < s.size) = false := decide_eq_false (by omega)
  have hr0 : (0 : Int) ≤ (r : Int) := by omega
  have hr2 : (r : Int) ≤ (s.size : Int) := by omega
  have hr3 : (1 : Int) ≤ (r : Int) := by omega
  have hrs2 : decide ((r : Int) < (s.size : Int)) = true := decide_eq_true (by omega)
  have hrs4 : (r : Int) < (s.size : Int) := by omega
  have HC1 := Lib.hid C1
  have HC2 := Lib.hid C2
  have HC3 := Lib.hid C3
  clear C1 C2 C3
  go_enter Try.func31, Try.ntmps31
  go_wp2_with fail
  refine (HC1.out.at_ _).mono ?_
  rintro e w1 ⟨rfl, ⟨n1, rfl⟩⟩
  go_wp2_with fail
  refine (HC2.out.at_ _).mono ?_
  rintro e w2 ⟨rfl, ⟨n2, rfl⟩⟩
  go_wp2_with fail
  refine (HC3.out.at_ _).mono ?_
  rintro e w3 ⟨rfl, ⟨n3, rfl⟩⟩
  go_wp2_with fail
  exact bodyPost_ret (v := .tuple #[.agg #[.bool false, .string ⟨#[]⟩, .int .i64 0], .bool false]) (by simp [results, Try.results31, go_sem]) rfl (decOf_mk _ _ _ _ (below3 (pw_below_drewN ((Below.refl _ _).alloc (Nat.le_refl _) _) _) _ _ _))
set_option maxHeartbeats 1000000 in
set_option maxRecDepth 100000 in
theorem dec_r2g1 (s : ByteArray) (hs : s.size ≤ 140737488351232) (h40 : s.size ≤ 40) (h0 : 0 < s.size) (h1' : (s.toList == ([] : List UInt8)) = false) (h2' : (s.toList != ([] : List UInt8)) = true) (h3' : s.toList.isEmpty = false) (hp : (((s[0]'h0).toNat : Int) == 45) = true) (r : Nat) (hr1 : 1 ≤ r) (h2 : r ≤ s.size) (C1 : RunC s 1 r) (t : ByteArray) (ht : s.extract 1 r = t) (C2 : PlainC t true) (hrs : r < s.size) (hq : (((s[r]'hrs).toNat : Int) == 46) = true) (r2 : Nat) (k1 : r + 1 < r2) (k2 : r2 ≤ s.size) (C3 : RunC s ((r : Int) + 1) r2) (is : Bool) (CE : ExpC (s.extract r2 s.size) is) (w : World) : Calls Try.prog 31 #[.string s] w (DecOf is w) := by
  have hi0 : (0 : Int) < (s.size : Int) := by omega
  have h40i : decide ((40 : Int) < (s.size : Int)) = false := decide_eq_false (by omega)
  have h40n : decide (40 < s.size) = false := decide_eq_false (by omega)
  have hr0 : (0 : Int) ≤ (r : Int) := by omega
  have hr2 : (r : Int) ≤ (s.size : Int) := by omega
  have hr3 : (1 : Int) ≤ (r : Int) := by omega
  have hrs2 : decide ((r : Int) < (s.size : Int)) = true := decide_eq_true (by omega)
  have hrs4 : (r : Int) < (s.size : Int) := by omega
  obtain ⟨z, hz⟩ : ∃ z, s.extract r2 s.size = z := ⟨_, rfl⟩
  rw [hz] at CE
  have HCE := Lib.hid CE
  clear CE
  have hdgs : t.size ≤ s.size := by rw [← ht, ext_size s _ _ h2]; omega
  obtain ⟨fr, hfr⟩ : ∃ fr, s.extract (r + 1) r2 = fr := ⟨_, rfl⟩
  have hfr2 : fr.size ≤ s.size := by rw [← hfr, ext_size s _ _ k2]; omega
  have hfrs : (t ++ fr).size ≤ 140737488351232 := by rw [ByteArray.size_append]; omega
  have HDS := Lib.hid hfrs
  clear hfrs
  have hmx : ¬ 9223372036854775807 < t.size + fr.size := by omega
  have hne : ((r2 : Int) == (r : Int) + 1) = false := by rw [beq_eq_false_iff_ne]; omega
  have hgt : decide ((r : Int) < (r2 : Int)) = true := decide_eq_true (by omega)
  have hgt2 : decide (r < r2) = true := decide_eq_true (by omega)
  have kr0 : (r : Int) + 1 ≤ (r2 : Int) := by omega
  have kr1 : (r2 : Int) ≤ (s.size : Int) := by omega
  have HC1 := Lib.hid C1
  have HC2 := Lib.hid C2
  have HC3 := Lib.hid C3
  clear C1 C2 C3
  go_enter Try.func31, Try.ntmps31
  go_wp2_with fail
  refine (HC1.out.at_ _).mono ?_
  rintro e w1 ⟨rfl, ⟨n1, rfl⟩⟩
  go_wp2_with fail
  refine (HC2.out.at_ _).mono ?_
  rintro e w2 ⟨rfl, ⟨n2, rfl⟩⟩
  go_wp2_with fail
  refine (HC3.out.at_ _).mono ?_
  rintro e w3 ⟨rfl, ⟨n3, rfl⟩⟩
  go_wp2_with fail
  refine (HCE.out.at_ _).mono ?_
  rintro e w4 ⟨n, rfl, ⟨n4, rfl⟩⟩
  cases is
  · go_wp2_with fail
    exact bodyPost_ret (v := .tuple #[.agg #[.bool false, .string ⟨#[]⟩, .int .i64 0], .bool false]) (by simp [results, Try.results31, go_sem]) rfl (decOf_mk _ _ _ _ (below3 (pw_below_drewN ((Below.refl _ _).alloc (Nat.le_refl _) _) _) _ _ _))
  · go_wp2_with fail
    with_reducible refine (lean _ _ _ HDS.out _).mono ?_
    rintro e w5 ⟨m', d', x', rfl, hb5⟩
    obtain ⟨c0, c1, c2, f0, f1, f2, hz5, hb⟩ := deccell hb5
    have HB := Lib.hid hb
    clear hb5 hb
    go_wp2_with fail
    exact bodyPost_ret (v := .tuple #[.agg #[.bool m', .string d', .int .i64 x'], .bool true]) (by simp [results, Try.results31, go_sem, hz5, c0, c1, c2]) rfl (decOf_mk _ _ _ _ (below3 HB.out _ _ _))
set_option maxHeartbeats 1000000 in
set_option maxRecDepth 100000 in
theorem decimalOf (s : ByteArray) (hs : s.size ≤ 140737488351232) : ∃ b, ∀ w, Calls Try.prog 31 #[.string s] w (DecOf b w) := by
  by_cases h40 : s.size ≤ 40
  · rcases str_cases s with rfl | ⟨h0, h1, h2', h3⟩
    · obtain ⟨r, h1, h2, C⟩ := run_calls ⟨#[]⟩ hs 0 (by simp)
      have h2' : r ≤ 0 := h2
      obtain rfl : r = 0 := by omega
      have HC := Lib.hid (show RunC ⟨#[]⟩ 0 0 from C)
      clear C
      refine ⟨false, fun w => ?_⟩
      go_enter Try.func31, Try.ntmps31
      go_wp2_with fail
      refine (HC.out.at_ _).mono ?_
      rintro e w1 ⟨rfl, ⟨n1, rfl⟩⟩
      go_wp2_with fail
      refine (plain_nil _).mono ?_
      rintro e w2 ⟨rfl, ⟨n2, rfl⟩⟩
      go_wp2_with fail
      exact bodyPost_ret (v := .tuple #[.agg #[.bool false, .string ⟨#[]⟩, .int .i64 0], .bool false]) (by simp [results, Try.results31, go_sem]) rfl (decOf_mk _ _ _ _ (below3 (pw_below_drewN ((Below.refl _ _).alloc (Nat.le_refl _) _) _) _ _ _))
    · obtain ⟨p, hp⟩ : ∃ b, (((s[0]'h0).toNat : Int) == 45) = b := ⟨_, rfl⟩
      cases p
      · obtain ⟨r, hr1, h2, C1⟩ := run_calls s hs 0 (by omega)
        obtain ⟨b, C2⟩ := plain_calls (s.extract 0 r) (by rw [ext_size s _ _ h2]; omega)
        cases b
        · exact ⟨false, fun w => dec_pf0 s hs h40 h0 h1 h2' h3 hp r hr1 h2 C1 _ rfl C2 w⟩
        · by_cases hrs : r < s.size
          · obtain ⟨q, hq⟩ : ∃ b, (((s[r]'hrs).toNat : Int) == 46) = b := ⟨_, rfl⟩
            cases q
            · exact (fun ⟨is, CE⟩ => ⟨is, fun w => dec_qf0 s hs h40 h0 h1 h2' h3 hp r hr1 h2 C1 _ rfl C2 hrs hq is CE w⟩) (exponent (s.extract r s.size) (by rw [ext_size s _ _ (Nat.le_refl _)]; omega))
            · obtain ⟨r2, k1, k2, C3⟩ := run_calls s hs (r + 1) (by omega)
              by_cases h22 : r2 = r + 1
              · subst h22
                exact ⟨false, fun w => dec_r2e0 s hs h40 h0 h1 h2' h3 hp r hr1 h2 C1 _ rfl C2 hrs hq C3 w⟩
              · exact (fun ⟨is, CE⟩ => ⟨is, fun w => dec_r2g0 s hs h40 h0 h1 h2' h3 hp r hr1 h2 C1 _ rfl C2 hrs hq r2 (by omega) k2 C3 is CE w⟩) (exponent (s.extract r2 s.size) (by rw [ext_size s _ _ (Nat.le_refl _)]; omega))
          · exact (fun ⟨is, CE⟩ => ⟨is, fun w => dec_rend0 s hs h40 h0 h1 h2' h3 hp r hr1 h2 C1 _ rfl C2 hrs is CE w⟩) (exponent (s.extract r s.size) (by rw [ext_size s _ _ (Nat.le_refl _)]; omega))
      · obtain ⟨r, hr1, h2, C1⟩ := run_calls s hs 1 (by omega)
        obtain ⟨b, C2⟩ := plain_calls (s.extract 1 r) (by rw [ext_size s _ _ h2]; omega)
        cases b
        · exact ⟨false, fun w => dec_pf1 s hs h40 h0 h1 h2' h3 hp r hr1 h2 C1 _ rfl C2 w⟩
        · by_cases hrs : r < s.size
          · obtain ⟨q, hq⟩ : ∃ b, (((s[r]'hrs).toNat : Int) == 46) = b := ⟨_, rfl⟩
            cases q
            · exact (fun ⟨is, CE⟩ => ⟨is, fun w => dec_qf1 s hs h40 h0 h1 h2' h3 hp r hr1 h2 C1 _ rfl C2 hrs hq is CE w⟩) (exponent (s.extract r s.size) (by rw [ext_size s _ _ (Nat.le_refl _)]; omega))
            · obtain ⟨r2, k1, k2, C3⟩ := run_calls s hs (r + 1) (by omega)
              by_cases h22 : r2 = r + 1
              · subst h22
                exact ⟨false, fun w => dec_r2e1 s hs h40 h0 h1 h2' h3 hp r hr1 h2 C1 _ rfl C2 hrs hq C3 w⟩
              · exact (fun ⟨is, CE⟩ => ⟨is, fun w => dec_r2g1 s hs h40 h0 h1 h2' h3 hp r hr1 h2 C1 _ rfl C2 hrs hq r2 (by omega) k2 C3 is CE w⟩) (exponent (s.extract r2 s.size) (by rw [ext_size s _ _ (Nat.le_refl _)]; omega))
          · exact (fun ⟨is, CE⟩ => ⟨is, fun w => dec_rend1 s hs h40 h0 h1 h2' h3 hp r hr1 h2 C1 _ rfl C2 hrs is CE w⟩) (exponent (s.extract r s.size) (by rw [ext_size s _ _ (Nat.le_refl _)]; omega))
  · have h40' : 40 < s.size := by omega
    refine ⟨false, fun w => ?_⟩
    go_enter Try.func31, Try.ntmps31
    go_wp2_with fail
    exact bodyPost_ret (v := .tuple #[.agg #[.bool false, .string ⟨#[]⟩, .int .i64 0], .bool false]) (by simp [results, Try.results31, go_sem]) rfl (decOf_mk _ _ _ _ ((Below.refl _ _).alloc (Nat.le_refl _) _))
def DecC (s : ByteArray) (b : Bool) : Prop := ∀ w, Calls Try.prog 31 #[.string s] w (DecOf b w)
theorem DecC.at_ {s : ByteArray} {b : Bool} (h : DecC s b) (w : World) : Calls Try.prog 31 #[.string s] w fun e w' => ∃ (m : Bool) (d : ByteArray) (x : Int), e = .returned (.tuple #[.agg #[.bool m, .string d, .int .i64 x], .bool b]) ∧ Below w.heap.size w w' := h w
def IsDecC (s : ByteArray) (b : Bool) : Prop := ∀ w, Calls Try.prog 27 #[.string s] w fun e w' => e = .returned (.bool b) ∧ Below w.heap.size w w'
theorem IsDecC.at_ {s : ByteArray} {b : Bool} (h : IsDecC s b) (w : World) : Calls Try.prog 27 #[.string s] w fun e w' => e = .returned (.bool b) ∧ Below w.heap.size w w' := h w
set_option maxHeartbeats 1000000 in
theorem isDecimal (s : ByteArray) (hs : s.size ≤ 140737488351232) : ∃ b, IsDecC s b := by
  obtain ⟨b, C⟩ := decimalOf s hs
  have HC := Lib.hid (show DecC s b from C)
  clear C
  refine ⟨b, fun w => ?_⟩
  go_enter Try.func27, Try.ntmps27
  go_wp2_with fail
  refine (HC.out.at_ _).mono ?_
  rintro e w1 ⟨m, d, x, rfl, hb⟩
  have HB := Lib.hid (hb.alloc hb.size (.cells #[.bool m, .string d, .int .i64 x] 70))
  clear hb
  go_wp2_with fail
  go_ret
  exact ⟨rfl, HB.out⟩
end Go.Proofs.Ytdleegmdpgefmaa.J
