/- spec.JIsDecimal: it answers (the walks). -/
import Derived.Test.YtdleegmdpgefmaaJD
namespace Go.Proofs.Ytdleegmdpgefmaa.J
open Go.RowKit Go.Proofs.YtdleegmdpgefmaaW.PrintWords Go.Proofs.YtdleegmdpgefmaaW.PrintLast Go.Proofs.YtdleegmdpgefmaaW.PrintMore Go.Proofs.Ytdleegmdpgefmaa.PJ Go.Proofs.Ytdleegmdpgefmaa.K
set_option linter.unusedVariables false
set_option linter.unusedSimpArgs false

theorem str_cases (s : ByteArray) : s = ⟨#[]⟩ ∨ (0 < s.size ∧ (s.toList == ([] : List UInt8)) = false ∧ (s.toList != ([] : List UInt8)) = true ∧ s.toList.isEmpty = false) := by
  rcases Nat.eq_zero_or_pos s.size with h | h
  · left
    apply bs_ext
    apply List.eq_nil_of_length_eq_zero
    rw [bs_len]; exact h
  · right
    have hne : s.toList ≠ [] := by
      intro e
      rw [ByteArray.toList_eq] at e
      have h2 : (bs s).length = 0 := by show s.data.toList.length = 0; rw [e]; rfl
      rw [bs_len] at h2; omega
    exact ⟨h, beq_eq_false_iff_ne.2 hne, bne_iff_ne.2 hne, by cases hs : s.toList; exact absurd hs hne; rfl⟩
set_option maxHeartbeats 1000000 in
theorem bare (s : ByteArray) (hs : s.size ≤ 140737488351232) (w : World) : Calls Try.prog 42 #[.string s] w fun e w' => ∃ t : ByteArray, e = .returned (.string t) ∧ t.size ≤ s.size ∧ w = w' := by
  go_enter Try.func42, Try.ntmps42
  go_wp2_with fail
  go_loop [0] (fun sv => ∃ t : ByteArray, sv = .string t ∧ t.size ≤ s.size) (fun sv => match sv with | .string t => t.size | _ => 0)
  case atStart => exact ⟨s, rfl, Nat.le_refl _⟩
  case round =>
    obtain ⟨t, rfl, ht⟩ := hrel
    rcases str_cases t with rfl | ⟨h0, h1, h2, h3⟩
    · go_wp2_with fail
      go_ret
      exact ⟨_, rfl, Nat.zero_le _, rfl⟩
    · have hi0 : (0 : Int) < (t.size : Int) := by omega
      have hsz : (t.extract 1 t.size).size = t.size - 1 := by simp [ByteArray.size_extract]
      have HSZ := Lib.hid hsz
      clear hsz
      go_wp2_with fail
      · exact ⟨⟨_, rfl, by rw [HSZ.out]; omega⟩, by show (t.extract 1 t.size).size < t.size; rw [HSZ.out]; omega⟩
      · go_ret
        exact ⟨_, rfl, ht, rfl⟩
set_option maxHeartbeats 2000000 in
theorem lean (m : Bool) (d : ByteArray) (x : Int) (hd : d.size ≤ 140737488351232) (w : World) : Calls Try.prog 36 #[.agg #[.bool m, .string d, .int .i64 x]] w fun e w' => ∃ (m' : Bool) (d' : ByteArray) (x' : Int), e = .returned (.agg #[.bool m', .string d', .int .i64 x']) ∧ Below w.heap.size w w' := by
  go_enter Try.func36, Try.ntmps36
  go_wp2_with (go_at_call 42; refine (bare d hd _).mono ?_; rintro e w1 ⟨t, rfl, ht, rfl⟩)
  go_loopg [7] t.size (fun gk v wx => ∃ (t' : ByteArray) (x' : Int), wx = (w.alloc (.cells #[.bool m, .string t', .int .i64 x'] 70)).alloc (.cells #[.bool false, .string ⟨#[]⟩, .int .i64 0] 70) ∧ t'.size ≤ d.size ∧ gk = t'.size)
  case atStart => exact ⟨t, x, rfl, ht, rfl⟩
  case round =>
    obtain ⟨t', x', rfl, ht', rfl⟩ := hrel
    have hbl : Below w.heap.size w ((w.alloc (.cells #[.bool m, .string t', .int .i64 x'] 70)).alloc (.cells #[.bool false, .string ⟨#[]⟩, .int .i64 0] 70)) := ((Below.refl _ _).alloc (Nat.le_refl _) _).alloc (by simp) _
    have HBL := Lib.hid hbl
    clear hbl
    rcases str_cases t' with rfl | ⟨h0, h1, h2, h3⟩
    · go_wp2_with fail
      exact bodyPost_ret (v := .agg #[.bool false, .string ⟨#[]⟩, .int .i64 0]) (by simp [results, Try.results36, go_sem]) rfl ⟨_, _, _, rfl, ((Below.refl _ _).alloc (Nat.le_refl _) _).alloc (by simp) _⟩
    · have hi0 : (0 : Int) < (t'.size : Int) := by omega
      have hsz : (t'.extract 0 (t'.size - 1)).size = t'.size - 1 := by simp [ByteArray.size_extract]
      have HSZ := Lib.hid hsz
      clear hsz
      go_wp2_with fail
      · go_roundg (t'.size - 1)
        case measure => omega
        case rel => exact ⟨_, _, rfl, by rw [HSZ.out]; omega, HSZ.out.symm⟩
      · exact bodyPost_ret (v := .agg #[.bool m, .string t', .int .i64 x']) (by simp [results, Try.results36, go_sem]) rfl ⟨_, _, _, rfl, ((Below.refl _ _).alloc (Nat.le_refl _) _).alloc (by simp) _⟩
set_option maxHeartbeats 4000000 in
theorem exponent (s : ByteArray) (hs : s.size ≤ 140737488351232) : ∃ b : Bool, ∀ w, Calls Try.prog 35 #[.string s] w fun e w' => ∃ (n : Int), e = .returned (.tuple #[.int .i64 n, .bool b]) ∧ Drawn0 w w' := by
  rcases str_cases s with rfl | ⟨h0, h1, h2, h3⟩
  · refine ⟨true, fun w => ?_⟩
    go_enter Try.func35, Try.ntmps35
    go_wp2_with fail
    go_ret2
    exact ⟨_, rfl, Drawn0.refl _⟩
  · have hi0 : (0 : Int) < (s.size : Int) := by omega
    obtain ⟨s1, hs1⟩ : ∃ s1, s.extract 1 s.size = s1 := ⟨_, rfl⟩
    have hz1 : s1.size ≤ 140737488351232 := by rw [← hs1]; simp [ByteArray.size_extract]; omega
    obtain ⟨s2, hs2⟩ : ∃ s2, s1.extract 1 s1.size = s2 := ⟨_, rfl⟩
    have hz2 : s2.size ≤ 140737488351232 := by rw [← hs2]; simp [ByteArray.size_extract]; omega
    obtain ⟨p1, hp1⟩ : ∃ b, (((s[0]'h0).toNat : Int) != 101) = b := ⟨_, rfl⟩
    obtain ⟨p2, hp2⟩ : ∃ b, (((s[0]'h0).toNat : Int) != 69) = b := ⟨_, rfl⟩
    have HZ2 := Lib.hid hz2
    have HZ1 := Lib.hid hz1
    clear hz2
    by_cases hq : p1 = true ∧ p2 = true
    · obtain ⟨rfl, rfl⟩ := hq
      refine ⟨false, fun w => ?_⟩
      go_enter Try.func35, Try.ntmps35
      go_wp2_with fail
      go_ret2
      exact ⟨_, rfl, Drawn0.refl _⟩
    · have hpp : (p1 = false) ∨ (p1 = true ∧ p2 = false) := by cases p1 <;> cases p2 <;> simp_all
      clear hq
      rcases str_cases s1 with he | ⟨k0, k1, k2, k3⟩
      · obtain ⟨b, C⟩ := digits_calls ⟨#[]⟩ (by simp [ByteArray.size])
        have HC := Lib.hid C
        clear C
        cases b
        · refine ⟨false, fun w => ?_⟩
          rcases hpp with rfl | ⟨rfl, rfl⟩
          all_goals
            go_enter Try.func35, Try.ntmps35
            go_wp2_with fail
            refine (HC.out.at_ _).mono ?_
            rintro e w1 ⟨rfl, ⟨n1, rfl⟩⟩
            go_wp2_with fail
            go_ret2
            exact ⟨_, rfl, ⟨_, rfl⟩⟩
        · have hl : (⟨#[]⟩ : ByteArray).size ≤ 2 := by decide
          refine ⟨true, fun w => ?_⟩
          rcases hpp with rfl | ⟨rfl, rfl⟩
          all_goals
            go_enter Try.func35, Try.ntmps35
            go_wp2_with fail
            refine (HC.out.at_ _).mono ?_
            rintro e w1 ⟨rfl, ⟨n1, rfl⟩⟩
            obtain ⟨r, C⟩ := number_calls ⟨#[]⟩ (by simp [ByteArray.size]) (w.drewN n1)
            have HC2 := Aside0.mk C
            clear C
            go_wp2_with fail
            refine HC2.out.mono ?_
            rintro e w2 ⟨rfl, ⟨n2, rfl⟩⟩
            go_wp2_with fail
            go_ret2
            exact ⟨_, rfl, ⟨_, rfl⟩⟩
      · have ki0 : (0 : Int) < (s1.size : Int) := by omega
        obtain ⟨q1, hq1⟩ : ∃ b, (((s1[0]'k0).toNat : Int) == 45) = b := ⟨_, rfl⟩
        obtain ⟨q2, hq2⟩ : ∃ b, (((s1[0]'k0).toNat : Int) == 43) = b := ⟨_, rfl⟩
        have hqq : q1 = true ∨ (q1 = false ∧ q2 = true) ∨ (q1 = false ∧ q2 = false) := by cases q1 <;> cases q2 <;> simp
        rcases hqq with rfl | ⟨rfl, rfl⟩ | ⟨rfl, rfl⟩
        · obtain ⟨b, C⟩ := digits_calls s2 HZ2.out
          have HC := Lib.hid C
          clear C
          cases b
          · refine ⟨false, fun w => ?_⟩
            rcases hpp with rfl | ⟨rfl, rfl⟩
            all_goals
              go_enter Try.func35, Try.ntmps35
              go_wp2_with fail
              refine (HC.out.at_ _).mono ?_
              rintro e w1 ⟨rfl, ⟨n1, rfl⟩⟩
              go_wp2_with fail
              go_ret2
              exact ⟨_, rfl, ⟨_, rfl⟩⟩
          · by_cases hl : s2.size ≤ 2
            · refine ⟨true, fun w => ?_⟩
              rcases hpp with rfl | ⟨rfl, rfl⟩
              all_goals
                go_enter Try.func35, Try.ntmps35
                go_wp2_with fail
                refine (HC.out.at_ _).mono ?_
                rintro e w1 ⟨rfl, ⟨n1, rfl⟩⟩
                obtain ⟨r, C⟩ := number_calls s2 HZ2.out (w.drewN n1)
                have HC2 := Aside0.mk C
                clear C
                go_wp2_with fail
                refine HC2.out.mono ?_
                rintro e w2 ⟨rfl, ⟨n2, rfl⟩⟩
                go_wp2_with fail
                go_ret2
                exact ⟨_, rfl, ⟨_, rfl⟩⟩
            · have hl2 : 2 < s2.size := by omega
              refine ⟨false, fun w => ?_⟩
              rcases hpp with rfl | ⟨rfl, rfl⟩
              all_goals
                go_enter Try.func35, Try.ntmps35
                go_wp2_with fail
                refine (HC.out.at_ _).mono ?_
                rintro e w1 ⟨rfl, ⟨n1, rfl⟩⟩
                go_wp2_with fail
                go_ret2
                exact ⟨_, rfl, ⟨_, rfl⟩⟩
        · obtain ⟨b, C⟩ := digits_calls s2 HZ2.out
          have HC := Lib.hid C
          clear C
          cases b
          · refine ⟨false, fun w => ?_⟩
            rcases hpp with rfl | ⟨rfl, rfl⟩
            all_goals
              go_enter Try.func35, Try.ntmps35
              go_wp2_with fail
              refine (HC.out.at_ _).mono ?_
              rintro e w1 ⟨rfl, ⟨n1, rfl⟩⟩
              go_wp2_with fail
              go_ret2
              exact ⟨_, rfl, ⟨_, rfl⟩⟩
          · by_cases hl : s2.size ≤ 2
            · refine ⟨true, fun w => ?_⟩
              rcases hpp with rfl | ⟨rfl, rfl⟩
              all_goals
                go_enter Try.func35, Try.ntmps35
                go_wp2_with fail
                refine (HC.out.at_ _).mono ?_
                rintro e w1 ⟨rfl, ⟨n1, rfl⟩⟩
                obtain ⟨r, C⟩ := number_calls s2 HZ2.out (w.drewN n1)
                have HC2 := Aside0.mk C
                clear C
                go_wp2_with fail
                refine HC2.out.mono ?_
                rintro e w2 ⟨rfl, ⟨n2, rfl⟩⟩
                go_wp2_with fail
                go_ret2
                exact ⟨_, rfl, ⟨_, rfl⟩⟩
            · have hl2 : 2 < s2.size := by omega
              refine ⟨false, fun w => ?_⟩
              rcases hpp with rfl | ⟨rfl, rfl⟩
              all_goals
                go_enter Try.func35, Try.ntmps35
                go_wp2_with fail
                refine (HC.out.at_ _).mono ?_
                rintro e w1 ⟨rfl, ⟨n1, rfl⟩⟩
                go_wp2_with fail
                go_ret2
                exact ⟨_, rfl, ⟨_, rfl⟩⟩
        · obtain ⟨b, C⟩ := digits_calls s1 HZ1.out
          have HC := Lib.hid C
          clear C
          cases b
          · refine ⟨false, fun w => ?_⟩
            rcases hpp with rfl | ⟨rfl, rfl⟩
            all_goals
              go_enter Try.func35, Try.ntmps35
              go_wp2_with fail
              refine (HC.out.at_ _).mono ?_
              rintro e w1 ⟨rfl, ⟨n1, rfl⟩⟩
              go_wp2_with fail
              go_ret2
              exact ⟨_, rfl, ⟨_, rfl⟩⟩
          · by_cases hl : s1.size ≤ 2
            · refine ⟨true, fun w => ?_⟩
              rcases hpp with rfl | ⟨rfl, rfl⟩
              all_goals
                go_enter Try.func35, Try.ntmps35
                go_wp2_with fail
                refine (HC.out.at_ _).mono ?_
                rintro e w1 ⟨rfl, ⟨n1, rfl⟩⟩
                obtain ⟨r, C⟩ := number_calls s1 HZ1.out (w.drewN n1)
                have HC2 := Aside0.mk C
                clear C
                go_wp2_with fail
                refine HC2.out.mono ?_
                rintro e w2 ⟨rfl, ⟨n2, rfl⟩⟩
                go_wp2_with fail
                go_ret2
                exact ⟨_, rfl, ⟨_, rfl⟩⟩
            · have hl2 : 2 < s1.size := by omega
              refine ⟨false, fun w => ?_⟩
              rcases hpp with rfl | ⟨rfl, rfl⟩
              all_goals
                go_enter Try.func35, Try.ntmps35
                go_wp2_with fail
                refine (HC.out.at_ _).mono ?_
                rintro e w1 ⟨rfl, ⟨n1, rfl⟩⟩
                go_wp2_with fail
                go_ret2
                exact ⟨_, rfl, ⟨_, rfl⟩⟩
def ExpC (s : ByteArray) (b : Bool) : Prop := ∀ w, Calls Try.prog 35 #[.string s] w fun e w' => ∃ (n : Int), e = .returned (.tuple #[.int .i64 n, .bool b]) ∧ Drawn0 w w'
theorem ExpC.at_ {s : ByteArray} {b : Bool} (h : ExpC s b) (w : World) : Calls Try.prog 35 #[.string s] w fun e w' => ∃ (n : Int), e = .returned (.tuple #[.int .i64 n, .bool b]) ∧ Drawn0 w w' := h w
end Go.Proofs.Ytdleegmdpgefmaa.J
