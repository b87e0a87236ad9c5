/- jsonschema.equals: objects; any two values. -/
import Derived.Test.YtdleegmdpgefmaaJY
namespace Go.Proofs.Ytdleegmdpgefmaa.J
open Go.RowKit Go.Proofs.YtdleegmdpgefmaaW.PrintWords Go.Proofs.YtdleegmdpgefmaaW.PrintLast Go.Proofs.YtdleegmdpgefmaaW.PrintMore Go.Proofs.Ytdleegmdpgefmaa.PJ Go.Proofs.Ytdleegmdpgefmaa.K Go.Maps
set_option linter.unusedVariables false
set_option linter.unusedSimpArgs false
attribute [local go_sem] eql_nil as_yes_b as_yes_i as_yes_s as_yes_a as_yes_m as_no_0 as_nil_0 as_no_1 as_nil_1 as_no_2 as_nil_2 as_no_3 as_nil_3 as_no_4 as_nil_4 as_no_5 as_nil_5 as_no_6 as_nil_6 as_no_7 as_nil_7 as_no_8 as_nil_8 as_no_9 as_nil_9 as_no_10 as_nil_10 as_no_11 as_nil_11 as_no_12 as_nil_12 as_no_13 as_nil_13 as_no_14 as_nil_14 as_no_15 as_nil_15 neq_err eql_nn

/-- What holds in the midst of the members. -/
structure RI (w wi : World) (b1 r n1 : Nat) (D1 : DataW Value) (d1 d2 : D0) (left : Lit → Bool) (cnt : Nat) : Prop where
  rg : wi.ranges Try.prog 9 heldE b1 r n1 D1 left cnt
  below : Below w.heap.size w wi
  new : w.heap.size ≤ r
  agree : ∀ k, Maps.has d1 k = true → left k = false → Maps.has d2 k = true ∧ d1.atKey k .nil = d2.atKey k .nil
theorem keyOfS_val {x : ByteArray} {kl : Lit} (h : keyOf Try.prog 9 (.string x) = some kl) : kl = .string (bs x) := by
  have hk := Try.underlying9
  simp [keyOf, hk, mapKey] at h
  exact h.2.symm
theorem zeroAny (w : World) : (zeroValue 20).run Try.prog w = .ok .nilIface w := by kernel_rfl
theorem RI.step {w wi w' w1 : World} {b1 r n1 : Nat} {D1 : DataW Value} {d1 d2 : D0} {left : Lit → Bool} {cnt cnt' : Nat} {kl : Lit} (h : RI w wi b1 r n1 D1 d1 d2 left cnt) (hrg : w'.ranges Try.prog 9 heldE b1 r n1 D1 (fun z => left z && !z.sameKey kl) cnt') (hgr : wi.grownBy w' (some r)) (hb : Below w'.heap.size w' w1) (hkl : WideAt.IsKeyLit kl) (hag : Maps.has d2 kl = true ∧ d1.atKey kl .nil = d2.atKey kl .nil) : RI w w1 b1 r n1 D1 d1 d2 (fun z => left z && !z.sameKey kl) cnt' := by
  have hb0 : Below w.heap.size w w' := h.below.grown hgr h.below.size (fun k hk => by injection hk with hk; rw [← hk]; exact h.new)
  refine ⟨hrg.kept (row := none) ⟨hb.os, hb.tape, hb.output, hb.size, fun i hi _ => hb.block i hi⟩ (by simp) (by simp), hb0.trans (hb.mono hb0.size), h.new, fun k hk hl => ?_⟩
  by_cases hlk : left k = false
  · exact h.agree k hk hlk
  · simp only [Bool.and_eq_false_iff, Bool.not_eq_false'] at hl
    rcases hl with hl | hl
    · exact absurd hl hlk
    · rw [WideAt.sameKey_eq hl]; exact hag
set_option maxHeartbeats 8000000 in
set_option maxRecDepth 100000 in
theorem eq_maps_len (w : World) (b1 b2 n1 n2 : Nat) (D1 D2 : DataW Value) (d1 d2 : D0) (o1 : w.ownsMap Try.prog 9 heldE b1 n1 D1) (o2 : w.ownsMap Try.prog 9 heldE b2 n2 D2) (s1 : Maps.size D1 = Maps.size d1) (s2 : Maps.size D2 = Maps.size d2) (hne : Maps.size d1 ≠ Maps.size d2) :
    Calls Try.prog 21 #[.iface 44 (.map (some b1)), .iface 44 (.map (some b2))] w (EqP d1 d2 w) := by
  have L1 := fun ty => o1.len Try.underlying44 ty
  have L2 := fun ty => o2.len Try.underlying44 ty
  rw [s1] at L1
  rw [s2] at L2
  obtain ⟨z1, hz1⟩ : ∃ z, Maps.size d1 = z := ⟨_, rfl⟩
  obtain ⟨z2, hz2⟩ : ∃ z, Maps.size d2 = z := ⟨_, rfl⟩
  rw [hz1] at L1
  rw [hz2] at L2
  have hd : ((z1 : Int) != (z2 : Int)) = true := by rw [bne_iff_ne]; omega
  have HNE := Lib.hid hne
  clear o1 o2 s1 s2 hne hz1 hz2
  go_enter Try.func21, Try.ntmps21
  go_wp2_with fail
  go_ret2
  exact eq_no (fun e => HNE.out (by rw [e])) (Below.refl _ _)
set_option maxHeartbeats 8000000 in
set_option maxRecDepth 100000 in
theorem eq_maps (n : Nat) (hI : EqI n) (m : Nat) (ok1 ok2 : Nat → Prop) (w : World) (b1 b2 n1 n2 : Nat) (D1 D2 : DataW Value) (d1 d2 : D0) (o1 : w.ownsMap Try.prog 9 heldE b1 n1 D1) (o2 : w.ownsMap Try.prog 9 heldE b2 n2 D2) (h1 : Same (Rep n ok1 w) D1 d1) (h2 : Same (Rep m ok2 w) D2 d2) (hc1 : CanonS d1) (hc2 : CanonS d2) (hnn : ∀ k, Maps.has d1 k = true → NoNum (d1.atKey k .nil)) (hs : Maps.size d1 = Maps.size d2) :
    Calls Try.prog 21 #[.iface 44 (.map (some b1)), .iface 44 (.map (some b2))] w (EqP d1 d2 w) := by
  have L1 := fun ty => o1.len Try.underlying44 ty
  have L2 := fun ty => o2.len Try.underlying44 ty
  rw [h1.1] at L1
  rw [h2.1, ← hs] at L2
  obtain ⟨z1, hz1⟩ : ∃ z, Maps.size d1 = z := ⟨_, rfl⟩
  rw [hz1] at L1 L2
  have hd : ((z1 : Int) != (z1 : Int)) = false := by simp
  have HI := Lib.hid hI
  have O1 := Lib.hid o1
  have O2 := Lib.hid o2
  have H1 := Lib.hid h1
  have H2 := Lib.hid h2
  have HC := Lib.hid (And.intro hc1 hc2)
  have HN := Lib.hid hnn
  have HS := Lib.hid hs
  clear hI o1 o2 h1 h2 hc1 hc2 hnn hs hz1
  go_enter Try.func21, Try.ntmps21
  go_wp2_with (at_range; refine wpList_range_own _ rfl (.tmp 51) 44 rfl 9 20 keyS Try.underlying44 heldE b1 n1 D1 rfl O1.out ?_; intro w0 hrg0 hg0 hs0)
  have hb0 : Below w.heap.size w w0 := (Below.refl _ _).grown hg0 (Nat.le_refl _) (by simp)
  have HRI := Lib.hid (show RI w w0 b1 w.heap.size n1 D1 d1 d2 (Maps.has D1) (Maps.size D1) from ⟨hrg0, hb0, Nat.le_refl _, fun k hk hl => absurd ((H1.out.2 k).1.symm.trans hl) (by rw [hk]; simp)⟩)
  clear hrg0 hg0 hs0 hb0
  go_frame
  go_loopw [53] (fun v wi => ∃ left cnt, Hid (RI w wi b1 w.heap.size n1 D1 d1 d2 left cnt)) (fun v wi => wi.rangeLeft b1 w.heap.size)
  case atStart => exact ⟨_, _, HRI⟩
  case round =>
    clear HRI
    obtain ⟨left, cnt, HR⟩ := hrel
    clear L1 L2
    go_wp2_with (at_next; refine wpList_next_ranges _ rfl (.tmp 52) rfl 9 keyS heldE Value.string (fun v => v) (fun key kl h => keyOfS_inv h) (fun v y h => ⟨v, rfl⟩) b1 w.heap.size n1 D1 left cnt rfl HR.out.rg ?_ ?_)
    · intro hc0 hl0
      have HL := Lib.hid hl0
      clear hl0
      go_wp2_with fail
      go_ret2
      exact eq_yes (same_maps HC.out.1 HC.out.2 HS.out fun k hk => HR.out.agree k hk (HL.out k)) HR.out.below
    · intro x c kl y1 y2 w' cnt' hkey hlk hy hat hrg hlt hgr hsz hen
      have hcy : y1 = .held c := by simp only [heldE, Option.some.injEq, Prod.mk.injEq] at hy; exact hy.1.symm
      subst hcy
      have hkl : kl = .string (bs x) := keyOfS_val hkey
      subst hkl
      have hk1 : Maps.has D1 (.string (bs x)) = true := has_true_of_atKey hat
      obtain ⟨u1, hu1, hr1⟩ := (H1.out.2 _).2 hk1
      have hu1c : u1 = c := by have := (hu1 .nil).symm.trans (hat .nil); injection this
      subst hu1c
      have hd1 : Maps.has d1 (.string (bs x)) = true := by rw [← (H1.out.2 _).1]; exact hk1
      have hb0 : Below w.heap.size w w' := HR.out.below.grown hgr HR.out.below.size (fun k hk => by injection hk with hk; omega)
      obtain ⟨v, ps, hlook, hv⟩ := (own_below O2.out hb0).look_ok keyS Try.underlying44 (zeroAny w') (zd := .held .nilIface) (zp := []) rfl hkey
      have hv2 : D2.atKey (.string (bs x)) (.held .nilIface) = .held v := by simp only [heldE, Option.some.injEq, Prod.mk.injEq] at hv; exact hv.1.symm
      have HK := Lib.hid (And.intro hd1 (And.intro hb0 (And.intro hr1 hrg)))
      have HG := Lib.hid (And.intro hgr hlt)
      clear hkey hlk hy hat hrg hlt hgr hsz hu1 hk1 hr1 hd1 hb0 hv
      obtain ⟨hb, hhb⟩ : ∃ b, Maps.has D2 (.string (bs x)) = b := ⟨_, rfl⟩
      rw [hhb] at hlook
      have hd2 : Maps.has d2 (.string (bs x)) = hb := by rw [← (H2.out.2 _).1]; exact hhb
      cases hb
      · have HD2 := Lib.hid hd2
        clear hd2 hhb hv2
        go_wp2_with fail
        go_ret2
        exact eq_no (fun e => by have := HK.out.1; rw [e, HD2.out] at this; cases this) HK.out.2.1
      · obtain ⟨u2, hu2, hr2⟩ := (H2.out.2 _).2 hhb
        have hu2v : u2 = v := by have := (hu2 _).symm.trans hv2; injection this
        subst hu2v
        obtain ⟨b, hbq⟩ : ∃ b, eqB (d1.atKey (.string (bs x)) .nil) (d2.atKey (.string (bs x)) .nil) = b := ⟨_, rfl⟩
        have HBQ := Lib.hid hbq
        have HR2 := Lib.hid (And.intro hr2 hd2)
        clear hu2 hr2 hbq hd2 hhb hv2
        have HCA := Lib.hid (show CallIn w' u1 u2 b from fun W hb => HI.out.at_ (HK.out.2.2.1.kept (HK.out.2.1.trans (hb.mono HK.out.2.1.size))) (HN.out _ HK.out.1) (HR2.out.1.kept (HK.out.2.1.trans (hb.mono HK.out.2.1.size))) HBQ.out)
        cases b
        · go_wp2_with fail
          refine (HCA.out.at_ (Below.refl _ _)).mono ?_
          rintro e w1 ⟨rfl, hbl⟩
          have HB := Lib.hid hbl
          clear hbl
          go_wp2_with fail
          go_ret2
          exact eq_no (fun e => eqB_false.1 HBQ.out (by rw [e])) (HK.out.2.1.trans (HB.out.mono HK.out.2.1.size))
        · go_wp2_with fail
          refine (HCA.out.at_ (Below.refl _ _)).mono ?_
          rintro e w1 ⟨rfl, hbl⟩
          have HN2 := Lib.hid (And.intro (HR.out.step HK.out.2.2.2 HG.out.1 hbl (key_lit _) ⟨HR2.out.2, eqB_true.1 HBQ.out⟩) HG.out.2)
          clear hbl
          go_wp2_with fail
          go_roundw
          case rel => exact ⟨_, _, Lib.hid HN2.out.1⟩
          case measure => rw [HN2.out.1.rg.left_eq, HR.out.rg.left_eq]; exact HN2.out.2
end Go.Proofs.Ytdleegmdpgefmaa.J
