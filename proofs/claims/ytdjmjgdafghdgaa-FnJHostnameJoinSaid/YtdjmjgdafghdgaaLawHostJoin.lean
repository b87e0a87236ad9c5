/- FnJHostnameJoin: of any two texts that are not odd, the second one not empty, at most 252 bytes together, impl.JHostname takes them with a dot between just if it takes each. -/
import Derived.Test.YtdjmjgdafghdgaaFmtHost
import Derived.Test.YtdjmjgdafghdgaaPFnJHostnameJoinx
import Derived.Test.YtdjmjgdafghdgaaSpecOdd
namespace Go.Proofs.Ytdjmjgdafghdgaa.LHostJ
open Go.RowKit Go.Proofs.YtdjmjgdafghdgaaW.PrintWords Go.Proofs.YtdjmjgdafghdgaaW.PrintLast Go.Proofs.Ytdjmjgdafghdgaa.K Go.Proofs.Ytdjmjgdafghdgaa.Fmt
set_option linter.unusedVariables false
set_option linter.unusedSimpArgs false

theorem split_mid (c : UInt8) (a b : List UInt8) : splitL c (a ++ c :: b) = splitL c a ++ splitL c b := by
  induction a with
  | nil => simp [splitL]
  | cons x a ih =>
    simp only [List.cons_append, splitL]
    split
    · rw [ih]; rfl
    · rw [ih]
      cases hs : splitL c a with
      | nil => exact absurd hs (splitL_ne c a)
      | cons g gs => rfl

theorem last_mid (a b : List UInt8) (c : UInt8) (h : b ≠ []) : (a ++ c :: b).getLast? = b.getLast? := by
  have e : (c :: b).getLast? = b.getLast? := by
    cases b with
    | nil => exact absurd rfl h
    | cons x b => rfl
  rw [List.getLast?_append, e, List.getLast?_eq_some_getLast h]
  rfl

theorem join_ok (a b : List UInt8) (hb : b ≠ []) (ha1 : a.getLast? ≠ some 46) (hb1 : b.getLast? ≠ some 46) (hl : a.length + b.length ≤ 252) : hostOk (a ++ 46 :: b) ↔ hostOk a ∧ hostOk b := by
  unfold hostOk trimDot
  rw [last_mid a b 46 hb, if_neg hb1, if_neg ha1, if_neg hb1, split_mid]
  simp only [List.length_append, List.length_cons, List.mem_append]
  constructor
  · rintro ⟨_, h⟩
    exact ⟨⟨by omega, fun g hg => h g (.inl hg)⟩, ⟨by omega, fun g hg => h g (.inr hg)⟩⟩
  · rintro ⟨⟨_, h1⟩, ⟨_, h2⟩⟩
    exact ⟨by omega, fun g hg => hg.elim (h1 g) (h2 g)⟩

theorem awake_ok : hostOk (bs ⟨#[97, 45, 49, 46, 98]⟩) := by
  have e : bs ⟨#[97, 45, 49, 46, 98]⟩ = [97, 45, 49, 46, 98] := rfl
  have e2 : splitL 46 [97, 45, 49, 46, 98] = [[97, 45, 49], [98]] := by decide
  have e3 : trimDot [97, 45, 49, 46, 98] = [97, 45, 49, 46, 98] := by decide
  rw [e]
  unfold hostOk
  rw [e3, e2]
  refine ⟨by decide, ?_⟩
  intro g hg
  simp only [List.mem_cons, List.not_mem_nil, or_false] at hg
  rcases hg with rfl | rfl
  · exact ⟨by decide, by decide, by decide, by decide, by decide⟩
  · exact ⟨by decide, by decide, by decide, by decide, by decide⟩

set_option maxHeartbeats 4000000 in
theorem walk (a b : ByteArray) (w : World) (_ha : a.size ≤ 140737488351232) (_hb : b.size ≤ 140737488351232) :
    Calls Try.prog 13 #[.string a, .string b] w fun e w' => e = .returned (.bool true) ∧ Below w.heap.size w w' := by
  have hbr : Below w.heap.size w w := Below.refl _ _
  by_cases h1 : a.size ≤ 2147483647
  · by_cases h2 : b.size ≤ 2147483647
    · obtain ⟨oa, ⟨Ka, hKa⟩, hoa⟩ := SOddFnJHostnameJoin.oddS a h1
      obtain ⟨ob, ⟨Kb, hKb⟩, hob⟩ := SOddFnJHostnameJoin.oddS b h2
      have HKa := Lib.hid (hKa Ka (Nat.le_refl _))
      have HKb := Lib.hid (hKb Kb (Nat.le_refl _))
      have HOA := Lib.hid hoa
      have HOB := Lib.hid hob
      clear hKa hKb hoa hob
      go_enter Try.func13, Try.ntmps13
      go_wp2_with fail
      refine (PFnJHostnameJoin.laws_jOdd.calls Ka a oa _ HKa.out).mono ?_
      rintro e w2 ⟨rfl, ⟨n, rfl⟩⟩
      have hbr := pw_below_drewN hbr n
      generalize w.drewN n = wa at *
      cases oa with
      | true =>
        go_wp2_with fail
        go_ret
        exact ⟨rfl, hbr⟩
      | false =>
        go_wp2_with fail
        refine (PFnJHostnameJoin.laws_jOdd.calls Kb b ob _ HKb.out).mono ?_
        rintro e w2 ⟨rfl, ⟨n2, rfl⟩⟩
        have hbr := pw_below_drewN hbr n2
        generalize wa.drewN n2 = wb at *
        cases ob with
        | true =>
          go_wp2_with fail
          go_ret
          exact ⟨rfl, hbr⟩
        | false =>
          by_cases hb0 : b.size = 0
          · have hE : b.toList.isEmpty = true := by rw [ByteArray.toList_eq, bs_data, List.isEmpty_iff]; apply List.eq_nil_of_length_eq_zero; rw [bs_len]; exact hb0
            have HB0 := Lib.hid hb0
            clear hb0
            go_wp2_with fail
            go_ret
            exact ⟨rfl, hbr⟩
          · have hbne : bs b ≠ [] := by intro e; apply hb0; rw [← bs_len, e]; rfl
            have hE : b.toList.isEmpty = false := by rw [ByteArray.toList_eq, bs_data, List.isEmpty_eq_false_iff]; exact hbne
            have HBNE := Lib.hid hbne
            clear hbne
            by_cases hsum : 252 < a.size + b.size
            · go_wp2_with fail
              go_ret
              exact ⟨rfl, hbr⟩
            · have hsum' : a.size + b.size ≤ 252 := by omega
              have hok := join_ok (bs a) (bs b) HBNE.out (HOA.out (by simp)) (HOB.out (by simp)) (by rw [bs_len, bs_len]; exact hsum')
              have HOK := Lib.hid hok
              clear hok hsum
              go_wp2_with fail
              refine (implHost _ _ (by rw [ByteArray.size_append, ByteArray.size_append]; have : (⟨#[46]⟩ : ByteArray).size = 1 := rfl; omega)).mono ?_
              rintro e w3 ⟨⟨c1, rfl, hc1⟩, hb3⟩
              have hbr := fin0 hbr hbr.size hb3
              have HC1 := Lib.hid hc1
              clear hc1
              go_wp2_with fail
              refine (implHost _ _ h1).mono ?_
              rintro e w4 ⟨⟨c2, rfl, hc2⟩, hb4⟩
              have hbr := fin0 hbr hbr.size hb4
              have HC2 := Lib.hid hc2
              clear hc2
              have hcat : bs (a ++ ⟨#[46]⟩ ++ b) = bs a ++ 46 :: bs b := by rw [bs_append, bs_append, List.append_assoc]; rfl
              have HCAT := Lib.hid hcat
              clear hcat
              cases c2 with
              | true =>
                go_wp2_with fail
                refine (implHost _ _ h2).mono ?_
                rintro e w5 ⟨⟨c3, rfl, hc3⟩, hb5⟩
                have hbr := fin0 hbr hbr.size hb5
                have h13 : c1 = c3 := by
                  have q1 := HC1.out
                  have q2 := HC2.out
                  rw [HCAT.out, HOK.out] at q1
                  rw [Bool.eq_iff_iff, q1, hc3]
                  exact ⟨fun h => h.2, fun h => ⟨q2.1 (by simp), h⟩⟩
                subst h13
                clear hc3
                have hself : (c1 == c1) = true := by simp
                go_wp2_with fail
                refine (implHost _ _ (by decide)).mono ?_
                rintro e w6 ⟨⟨c4, rfl, hc4⟩, hb6⟩
                have hbr := fin0 hbr hbr.size hb6
                obtain rfl : c4 = true := hc4.2 awake_ok
                clear hc4
                go_wp2_with fail
                go_ret
                exact ⟨rfl, hbr⟩
              | false =>
                have h13 : c1 = false := by
                  have q1 := HC1.out
                  have q2 := HC2.out
                  rw [HCAT.out, HOK.out] at q1
                  cases c1 with
                  | false => rfl
                  | true => exact absurd (q2.2 (q1.1 (by simp)).1) (by simp)
                subst h13
                go_wp2_with fail
                refine (implHost _ _ (by decide)).mono ?_
                rintro e w6 ⟨⟨c4, rfl, hc4⟩, hb6⟩
                have hbr := fin0 hbr hbr.size hb6
                obtain rfl : c4 = true := hc4.2 awake_ok
                clear hc4
                go_wp2_with fail
                go_ret
                exact ⟨rfl, hbr⟩
    · go_enter Try.func13, Try.ntmps13
      go_wp2_with fail
      go_ret
      exact ⟨rfl, hbr⟩
  · go_enter Try.func13, Try.ntmps13
    go_wp2_with fail
    go_ret
    exact ⟨rfl, hbr⟩
end Go.Proofs.Ytdjmjgdafghdgaa.LHostJ
