/- FnJEmail: impl.JEmail and spec.JEmail answer the same to every text of at most 2^31-1 bytes that the law asks of. -/
import Derived.Test.YtfnnahopbghndaaDoorFmtEmail2
import Derived.Test.YtfnnahopbghndaaDoorSpecEmailJEmail
import Derived.Test.YtfnnahopbghndaaDoorSpecHasjQuoted
import Derived.Test.YtfnnahopbghndaaDoorSpecOdd
import Derived.Test.YtfnnahopbghndaaDoorRows
namespace Go.Proofs.YtfnnahopbghndaaDoor.LEm
open Go.RowKit Go.Proofs.YtfnnahopbghndaaDoorW.PrintWords Go.Proofs.YtfnnahopbghndaaDoorW.PrintLast Go.Proofs.YtfnnahopbghndaaDoor.K Go.Proofs.YtfnnahopbghndaaDoor.Fmt
set_option linter.unusedVariables false
set_option linter.unusedSimpArgs false

theorem bool_of_iff {b c : Bool} {p q : Prop} (h1 : b = true ↔ p) (h2 : c = true ↔ q) (h : p ↔ q) : b = c := by
  rw [Bool.eq_iff_iff, h1, h2, h]
open Go.Proofs.YtfnnahopbghndaaDoor.PjQuoted in
theorem quotS (s : ByteArray) (hs : s.size ≤ 2147483647) : ∃ b, Ev (fun k => laws_jQuoted.f k s) b ∧ (b = false → 34 ∉ bs s ∧ 91 ∉ bs s) := by
  obtain ⟨b1, ⟨K1, h1⟩, e1⟩ := SHasjQuoted.hasS s 34 (by omega)
  obtain ⟨b2, ⟨K2, h2⟩, e2⟩ := SHasjQuoted.hasS s 92 (by omega)
  obtain ⟨b3, ⟨K3, h3⟩, e3⟩ := SHasjQuoted.hasS s 91 (by omega)
  obtain ⟨b4, ⟨K4, h4⟩, e4⟩ := SHasjQuoted.hasS s 93 (by omega)
  refine ⟨b1 || b2 || b3 || b4, ⟨K1 + K2 + K3 + K4, fun k hk => ?_⟩, ?_⟩
  · show laws_jQuoted.f k s = _
    unfold laws_jQuoted.f
    rw [show spec_JHas.f k s 34 = some b1 from h1 k (by omega), show spec_JHas.f k s 92 = some b2 from h2 k (by omega), show spec_JHas.f k s 91 = some b3 from h3 k (by omega), show spec_JHas.f k s 93 = some b4 from h4 k (by omega)]
    cases b1 <;> cases b2 <;> cases b3 <;> rfl
  · intro h
    simp only [Bool.or_eq_false_iff] at h
    obtain ⟨⟨⟨f1, f2⟩, f3⟩, f4⟩ := h
    subst f1 f3
    exact ⟨(fun k => by have := e1.2 k; cases this), (fun k => by have := e3.2 k; cases this)⟩

set_option maxHeartbeats 2000000 in
set_option maxRecDepth 100000 in
theorem walk (s : ByteArray) (w : World) (_hs : s.size ≤ 140737488351232) (_hL : laidMetH Tryd.prog Rows.fnJEmailRow.laid w) :
    Calls Tryd.prog 8 #[.string s] w fun e w' => e = .returned (.bool true) ∧ Below w.heap.size w w' := by
  clear _hL
  by_cases hbig : s.size ≤ 2147483647
  · obtain ⟨p, ⟨K1, hK1⟩, hp⟩ := quotS s hbig
    obtain ⟨c, ⟨K3, hK3⟩, hc⟩ := SEmJEmail.emS s hbig
    have HK1 := Lib.hid (hK1 K1 (Nat.le_refl _))
    have HK3 := Lib.hid (hK3 K3 (Nat.le_refl _))
    have HP := Lib.hid hp
    have HC := Lib.hid hc
    have hl := bs_len s
    have HL := Lib.hid hl
    clear hK1 hK3 hp hc hl
    go_enter Tryd.func8, Tryd.ntmps8
    go_wp2_with fail
    go_loop [3] (fun v => ∃ k : Nat, k ≤ s.size ∧ v = .int .i64 k ∧ Aside0 (64 ∉ (bs s).drop k)) (fun v => (intOf v).toNat)
    case atStart => exact ⟨s.size, Nat.le_refl _, rfl, ⟨by rw [List.drop_of_length_le (by rw [HL.out]; exact Nat.le_refl _)]; simp⟩⟩
    case round =>
      obtain ⟨k, hk, rfl, HN⟩ := hrel
      rcases Nat.eq_zero_or_pos k with rfl | hpos
      · obtain ⟨o, ⟨K2, hK2⟩, ho⟩ := SOddjOdd.oddS s hbig
        have HK2 := Lib.hid (hK2 K2 (Nat.le_refl _))
        have HO := Lib.hid ho
        clear hK2 ho
        go_wp2_with fail
        refine (PjQuoted.laws_jQuoted.calls K1 s p _ HK1.out).mono ?_
        rintro e w1 ⟨rfl, ⟨n1, rfl⟩⟩
        have hb1 := pw_below_drewN (Below.refl w.heap.size w) n1
        cases p with
        | true =>
          go_wp2_with fail
          go_ret
          exact ⟨rfl, hb1⟩
        | false =>
        go_wp2_with fail
        refine (PjOdd.laws_jOdd.calls K2 s o _ HK2.out).mono ?_
        rintro e w2 ⟨rfl, ⟨n2, rfl⟩⟩
        have hb2 := pw_below_drewN (Below.refl w.heap.size w) (n1 + n2)
        cases o with
        | true =>
          go_wp2_with fail
          go_ret
          exact ⟨rfl, hb2⟩
        | false =>

        go_wp2_with fail
        refine (implEmail s _ hbig (HP.out (by simp)).1 (HP.out (by simp)).2).mono ?_
        rintro e w4 ⟨⟨b, rfl, hb1'⟩, hb4⟩
        have HB := Lib.hid hb1'
        have hb5 := hb2.trans (hb4.mono hb2.size)
        clear hb1' hb4
        go_wp2_with fail
        refine (PJEmail.spec_JEmail.calls K3 s c _ HK3.out).mono ?_
        rintro e w5 ⟨rfl, ⟨n5, rfl⟩⟩
        go_wp2_with fail
        go_ret
        have hbc : b = c := bool_of_iff HB.out HC.out (SEmJEmail.email_iff _ (fun i hi => absurd (List.mem_of_getElem? hi.1) (by have := HN.out; rwa [List.drop_zero] at this)))
        subst hbc
        exact ⟨by simp, pw_below_drewN hb5 n5⟩
      · obtain ⟨m, rfl⟩ : ∃ m, k = m + 1 := ⟨k - 1, by omega⟩
        have hm : m < s.size := by omega
        by_cases h64 : (s[m]'hm).toNat = 64
        · have hb : (((s[m]'hm).toNat : Int) != 64) = false := by rw [bne_eq_false_iff_eq]; omega
          obtain ⟨o, ⟨K2, hK2⟩, ho⟩ := SOddjOdd.oddS (s.extract (m + 1) s.size) (by rw [ByteArray.size_extract]; omega)
          rw [bs_drop] at ho
          have HK2 := Lib.hid (hK2 K2 (Nat.le_refl _))
          have HO := Lib.hid ho
          have hat : LastAt (bs s) m := ⟨by rw [List.getElem?_eq_getElem (by rw [HL.out]; exact hm), bs_at s m hm (by rw [HL.out]; exact hm)]; congr 1; exact UInt8.toNat_inj.1 h64, HN.out⟩
          have HAT := Lib.hid hat
          clear hK2 ho hat h64
          go_wp2_with fail
          refine (PjQuoted.laws_jQuoted.calls K1 s p _ HK1.out).mono ?_
          rintro e w1 ⟨rfl, ⟨n1, rfl⟩⟩
          have hb1 := pw_below_drewN (Below.refl w.heap.size w) n1
          cases p with
          | true =>
            go_wp2_with fail
            go_ret
            exact ⟨rfl, hb1⟩
          | false =>
          go_wp2_with fail
          refine (PjOdd.laws_jOdd.calls K2 (s.extract (m + 1) s.size) o _ HK2.out).mono ?_
          rintro e w2 ⟨rfl, ⟨n2, rfl⟩⟩
          have hb2 := pw_below_drewN (Below.refl w.heap.size w) (n1 + n2)
          cases o with
          | true =>
            go_wp2_with fail
            go_ret
            exact ⟨rfl, hb2⟩
          | false =>
          by_cases hm0 : m = 0
          · subst hm0
            go_wp2_with fail
            go_ret
            exact ⟨rfl, hb2⟩
          have hm1 : (((m : Int) + 1) == 1) = false := by rw [beq_eq_false_iff_ne]; omega
          go_wp2_with fail
          refine (implEmail s _ hbig (HP.out (by simp)).1 (HP.out (by simp)).2).mono ?_
          rintro e w4 ⟨⟨b, rfl, hb1'⟩, hb4⟩
          have HB := Lib.hid hb1'
          have hb5 := hb2.trans (hb4.mono hb2.size)
          clear hb1' hb4
          go_wp2_with fail
          refine (PJEmail.spec_JEmail.calls K3 s c _ HK3.out).mono ?_
          rintro e w5 ⟨rfl, ⟨n5, rfl⟩⟩
          go_wp2_with fail
          go_ret
          have hbc : b = c := bool_of_iff HB.out HC.out (SEmJEmail.email_iff _ (fun i hi => by obtain rfl := lastAt_one HAT.out hi; exact ⟨by omega, HO.out (by simp)⟩))
          subst hbc
          exact ⟨by simp, pw_below_drewN hb5 n5⟩
        · have hb : (((s[m]'hm).toNat : Int) != 64) = true := by rw [bne_iff_ne]; omega
          go_wp2_with fail
          refine ⟨⟨m, by omega, by go_num, ⟨?_⟩⟩, ?_⟩
          · rw [List.drop_eq_getElem_cons (by rw [HL.out]; exact hm)]
            intro hx
            rcases List.mem_cons.1 hx with hx | hx
            · exact h64 (by rw [← bs_at s m hm (by rw [HL.out]; exact hm), ← hx]; rfl)
            · exact HN.out hx
          · simp [intOf]
  · go_enter Tryd.func8, Tryd.ntmps8
    go_wp2_with fail
    go_ret
    exact ⟨rfl, Below.refl _ _⟩
end Go.Proofs.YtfnnahopbghndaaDoor.LEm
