/- FnJIPv4: for every text of at most 2^31-1 bytes without a plus, a minus and padded numbers impl.JIPv4 and spec.JIPv4 answer the same. -/
import Derived.Test.YtfnnahopbghndaaDoorFmtIP4
import Derived.Test.YtfnnahopbghndaaDoorSpecIP4JIPv4
import Derived.Test.YtfnnahopbghndaaDoorSpecHas
import Derived.Test.YtfnnahopbghndaaDoorPJPaddedx
namespace Go.Proofs.YtfnnahopbghndaaDoor.LIP4
open Go.RowKit Go.Proofs.YtfnnahopbghndaaDoorW.PrintWords Go.Proofs.YtfnnahopbghndaaDoorW.PrintLast Go.Proofs.YtfnnahopbghndaaDoor.K Go.Proofs.YtfnnahopbghndaaDoor.Fmt
set_option linter.unusedVariables false
set_option linter.unusedSimpArgs false

theorem bool_of_iff {b c : Bool} {p q : Prop} (h1 : b = true ↔ p) (h2 : c = true ↔ q) (h : p ↔ q) : b = c := by
  rw [Bool.eq_iff_iff, h1, h2, h]

/-- The code's groups are the grammar's, where no sign is. -/
theorem oct_iff (g : List UInt8) (h43 : 43 ∉ g) (h45 : 45 ∉ g) : octOk g ↔ octetOk g := by
  have s43 : g.head? ≠ some 43 := fun e => h43 (List.mem_of_mem_head? e)
  have s45 : g.head? ≠ some 45 := fun e => h45 (List.mem_of_mem_head? e)
  unfold octOk octetOk
  constructor
  · rintro ⟨h1, v, hv, hv0, hv1⟩
    obtain ⟨hne, hd, rfl⟩ := of_atoi g v hv s43 s45
    have h1' : g.length = 1 ∨ g.head? ≠ some 48 := by
      by_cases e : g.head? = some 48
      · left
        have : 0 < g.length := by
          rcases Nat.eq_zero_or_pos g.length with h | h
          · exact absurd (List.length_eq_zero_iff.1 h) hne
          · exact h
        by_cases hl : 1 < g.length
        · exact absurd ⟨hl, e⟩ h1
        · omega
      · exact .inr e
    refine ⟨?_, hne, hd, by omega, h1'⟩
    rcases h1' with h | h
    · omega
    · cases g with
      | nil => simp
      | cons c r =>
        have hc := (digB_iff c).1 (hd c (by simp))
        have hc48 : c.toNat ≠ 48 := fun e => h (by rw [List.head?_cons]; congr 1; exact UInt8.toNat_inj.1 e)
        have hge := decF_ge r (10 * 0 + (c.toNat - 48))
        rw [← decF_cons] at hge
        rcases Nat.lt_or_ge r.length 3 with h3 | h3
        · simp; omega
        · have hp : 10 ^ 3 ≤ 10 ^ r.length := Nat.pow_le_pow_right (by omega) h3
          have hm : 1 * 10 ^ r.length ≤ (10 * 0 + (c.toNat - 48)) * 10 ^ r.length := Nat.mul_le_mul_right _ (by omega)
          generalize 10 ^ r.length = p at *
          generalize (10 * 0 + (c.toNat - 48)) * p = q at *
          omega
  · rintro ⟨h3, hne, hd, hv, h1⟩
    refine ⟨fun k => ?_, _, atoi_digs g hne hd (by omega), by omega, by omega⟩
    rcases h1 with h | h
    · omega
    · exact h k.2
theorem split_sub {c : UInt8} {l g : List UInt8} (hg : g ∈ splitL c l) : ∀ x ∈ g, x ∈ l := by
  induction l generalizing g with
  | nil => simp [splitL] at hg; subst hg; simp
  | cons a l ih =>
    simp only [splitL] at hg
    split at hg
    · rcases List.mem_cons.1 hg with rfl | hg
      · simp
      · intro x hx; exact List.mem_cons_of_mem _ (ih hg x hx)
    · split at hg
      · rename_i h; exact absurd h (splitL_ne c l)
      · rename_i g0 gs h
        rcases List.mem_cons.1 hg with rfl | hg
        · intro x hx
          rcases List.mem_cons.1 hx with rfl | hx
          · simp
          · exact List.mem_cons_of_mem _ (ih (by rw [h]; simp) x hx)
        · intro x hx; exact List.mem_cons_of_mem _ (ih (by rw [h]; simp [hg]) x hx)

open Go.Proofs.YtfnnahopbghndaaDoor.PJPadded in
theorem padLoop (s : ByteArray) (hs : s.size ≤ 2147483647) (d : Nat) : ∀ i : Nat, i ≤ s.size → s.size - i = d → ∃ b, Ev (fun k => spec_JPadded.l0 k s i) b := by
  have hl := bs_len s
  induction d with
  | zero =>
    intro i hi hd
    have ew' : wrap64 ((i : Int) + 1) = ((i + 1 : Nat) : Int) := by rw [wrap_in (by omega) (by omega)]; omega
    refine ⟨false, ev_succ 0 fun k _ => ?_⟩
    simp only [spec_JPadded.l0, ew']
    rw [if_neg (by omega)]
  | succ d ih =>
    intro i hi hd
    have hlt : i < (bs s).length := by omega
    have ew' : wrap64 ((i : Int) + 1) = ((i + 1 : Nat) : Int) := by rw [wrap_in (by omega) (by omega)]; omega
    have em : wrap64 ((i : Int) - 1) = (i : Int) - 1 := wrap_in (by omega) (by omega)
    obtain ⟨b, ⟨K, hK⟩⟩ := ih (i + 1) (by omega) (by omega)
    by_cases hend : ((i + 1 : Nat) : Int) < (s.size : Int)
    · have hdig : ∃ q, spec_jDigit.f (bt s ((i + 1 : Nat) : Int)) = some q := by
        unfold spec_jDigit.f; split <;> exact ⟨_, rfl⟩
      obtain ⟨q, hq⟩ := hdig
      by_cases h48 : bt s (i : Int) = 48
      · by_cases hqt : q = true
        · by_cases h0 : (i : Int) = 0
          · refine ⟨true, ev_succ 0 fun k hk => ?_⟩
            simp only [spec_JPadded.l0, ew', em, hq, Option.bind_some]
            rw [if_pos hend, if_pos (by omega), if_pos (by omega), if_pos h48, if_pos (by omega), if_pos hqt, if_pos h0]
          · by_cases h46 : bt s ((i : Int) - 1) = 46
            · refine ⟨true, ev_succ 0 fun k hk => ?_⟩
              simp only [spec_JPadded.l0, ew', em, hq, Option.bind_some]
              rw [if_pos hend, if_pos (by omega), if_pos (by omega), if_pos h48, if_pos (by omega), if_pos hqt, if_neg h0, if_pos (by omega), if_pos (by omega), if_pos h46]
            · refine ⟨b, ev_succ K fun k hk => ?_⟩
              simp only [spec_JPadded.l0, ew', em, hq, Option.bind_some]
              rw [if_pos hend, if_pos (by omega), if_pos (by omega), if_pos h48, if_pos (by omega), if_pos hqt, if_neg h0, if_pos (by omega), if_pos (by omega), if_neg h46]
              exact hK k hk
        · refine ⟨b, ev_succ K fun k hk => ?_⟩
          simp only [spec_JPadded.l0, ew', em, hq, Option.bind_some]
          rw [if_pos hend, if_pos (by omega), if_pos (by omega), if_pos h48, if_pos (by omega), if_neg hqt]
          exact hK k hk
      · refine ⟨b, ev_succ K fun k hk => ?_⟩
        simp only [spec_JPadded.l0, ew', em]
        rw [if_pos hend, if_pos (by omega), if_pos (by omega), if_neg h48]
        exact hK k hk
    · refine ⟨false, ev_succ 0 fun k _ => ?_⟩
      simp only [spec_JPadded.l0, ew']
      rw [if_neg hend]
open Go.Proofs.YtfnnahopbghndaaDoor.PJPadded in
theorem padS (s : ByteArray) (hs : s.size ≤ 2147483647) : ∃ b, Ev (fun k => spec_JPadded.f k s) b := padLoop s hs s.size 0 (by omega) (by omega)

set_option maxHeartbeats 1000000 in
theorem walk (s : ByteArray) (w : World) (_hs : s.size ≤ 140737488351232) (hL : laidMetH Tryd.prog Rows.fnJIPv4Row.laid w) :
    Calls Tryd.prog 3 #[.string s] w fun e w' => e = .returned (.bool true) ∧ Below w.heap.size w w' := by
  have HKp : Hid (Kept w) := Lib.hid (Errs.of_laid hL)
  clear hL
  by_cases hbig : s.size ≤ 2147483647
  · obtain ⟨o, ⟨K0, hK0⟩⟩ := padS s hbig
    obtain ⟨p, ⟨K1, hK1⟩, hp⟩ := SHas.hasS s 43 (by omega)
    obtain ⟨q, ⟨K2, hK2⟩, hq⟩ := SHas.hasS s 45 (by omega)
    obtain ⟨c, ⟨K3, hK3⟩, hc⟩ := SIP4JIPv4.ipS s hbig
    have HK0 := Lib.hid (hK0 K0 (Nat.le_refl _))
    have HK1 := Lib.hid (hK1 K1 (Nat.le_refl _))
    have HK2 := Lib.hid (hK2 K2 (Nat.le_refl _))
    have HK3 := Lib.hid (hK3 K3 (Nat.le_refl _))
    have HP := Lib.hid hp
    have HQ := Lib.hid hq
    have HC := Lib.hid hc
    clear hK0 hK1 hK2 hK3 hp hq hc
    go_enter Tryd.func3, Tryd.ntmps3
    go_wp2_with fail
    refine (PJPadded.spec_JPadded.calls K0 s o _ HK0.out).mono ?_
    rintro e w1 ⟨rfl, ⟨n1, rfl⟩⟩
    have hb1 := pw_below_drewN (Below.refl w.heap.size w) n1
    cases o with
    | true =>
      go_wp2_with fail
      go_ret
      exact ⟨rfl, hb1⟩
    | false =>
      go_wp2_with fail
      refine (PJHas.spec_JHas.calls K1 s 43 p _ HK1.out).mono ?_
      rintro e w2 ⟨rfl, ⟨n2, rfl⟩⟩
      have hb2 := pw_below_drewN (Below.refl w.heap.size w) (n1 + n2)
      cases p with
      | true =>
        go_wp2_with fail
        go_ret
        exact ⟨rfl, hb2⟩
      | false =>
        go_wp2_with fail
        refine (PJHas.spec_JHas.calls K2 s 45 q _ HK2.out).mono ?_
        rintro e w3 ⟨rfl, ⟨n3, rfl⟩⟩
        have hb3 := pw_below_drewN (Below.refl w.heap.size w) (n1 + n2 + n3)
        cases q with
        | true =>
          go_wp2_with fail
          go_ret
          exact ⟨rfl, hb3⟩
        | false =>
          go_wp2_with fail
          refine (implIP4 s _ hbig (HKp.out.below hb3)).mono ?_
          rintro e w4 ⟨⟨b, rfl, hb1'⟩, hb4⟩
          have HB := Lib.hid hb1'
          have hb5 := hb3.trans (hb4.mono hb3.size)
          clear hb1' hb4
          go_wp2_with fail
          refine (PJIPv4.spec_JIPv4.calls K3 s c _ HK3.out).mono ?_
          rintro e w5 ⟨rfl, ⟨n5, rfl⟩⟩
          go_wp2_with fail
          go_ret
          have hbc : b = c := by
            refine bool_of_iff HB.out HC.out ?_
            unfold ip4Ok
            have h43 : 43 ∉ bs s := fun k => by have := HP.out.2 k; cases this
            have h45 : 45 ∉ bs s := fun k => by have := HQ.out.2 k; cases this
            constructor
            · rintro ⟨h1, h2⟩
              exact ⟨h1, fun g hg => (oct_iff g (fun k => h43 (split_sub hg _ k)) (fun k => h45 (split_sub hg _ k))).1 (h2 g hg)⟩
            · rintro ⟨h1, h2⟩
              exact ⟨h1, fun g hg => (oct_iff g (fun k => h43 (split_sub hg _ k)) (fun k => h45 (split_sub hg _ k))).2 (h2 g hg)⟩
          subst hbc
          exact ⟨by simp, pw_below_drewN hb5 n5⟩
  · go_enter Tryd.func3, Tryd.ntmps3
    go_wp2_with fail
    go_ret
    exact ⟨rfl, Below.refl _ _⟩
end Go.Proofs.YtfnnahopbghndaaDoor.LIP4
