/- validateRelativeJSONPointer, IsRelative, impl.JRelative: what they answer. -/
import Derived.Test.YtdjmjgdafghdgaaFmtPtr
import Derived.Test.YtdjmjgdafghdgaaFmtBase
namespace Go.Proofs.Ytdjmjgdafghdgaa.Fmt
open Go.RowKit Go.Proofs.YtdjmjgdafghdgaaW.PrintWords Go.Proofs.YtdjmjgdafghdgaaW.PrintLast Go.Proofs.YtdjmjgdafghdgaaW.PrintMore Go.Proofs.Ytdjmjgdafghdgaa.K
set_option linter.unusedVariables false
set_option linter.unusedSimpArgs false

def relOk (l : List UInt8) : Prop := digs l ≠ 0 ∧ ¬ (1 < digs l ∧ l.head? = some 48) ∧ (l.drop (digs l) = [35] ∨ ptrOk (l.drop (digs l)))

/-- The iterator's part of a count of digits. -/
def DIter (g : ByteArray) (n : Int) (k B : Nat) (w wi : World) : Prop := ∃ pos : Nat, n = pos ∧ pos ≤ g.size ∧ wi.heap[k]? = some (.stringIter g pos) ∧ Sofar digB g pos ∧ Below B w wi

set_option maxHeartbeats 4000000 in
set_option maxRecDepth 100000 in
theorem valRel (s : ByteArray) (w : World) (hs : s.size ≤ 1099511627776) :
    Calls Try.prog 58 #[.iface 9 (.string s)] w fun e w' => Res (relOk (bs s)) e ∧ Below w.heap.size w w' := by
  have hta := asStr s
  have hl := bs_len s
  obtain ⟨d, hd⟩ : ∃ d, digs (bs s) = d := ⟨_, rfl⟩
  have hdl : d ≤ s.size := by rw [← hd, ← hl]; exact digs_le _
  have HD := Lib.hid hd
  have HL := Lib.hid hl
  clear hd hl
  go_enter Try.func58, Try.ntmps58
  go_wp2_with fail
  clear hta
  go_loopw [5] (fun nv wi => ∃ n : Nat, nv = .int .i64 n ∧ n ≤ s.size ∧ wi.heap[w.heap.size]? = some (.stringIter s n) ∧ Aside0 (Sofar digB s n) ∧ Aside0 (Below w.heap.size w wi)) (fun _ wi => s.size - wi.iterPos w.heap.size)
  case atStart => exact ⟨0, rfl, by omega, World.iter_heap w s 0, ⟨Sofar.zero _ _⟩, ⟨(Below.refl _ w).alloc (Nat.le_refl _) _⟩⟩
  case round =>
    obtain ⟨n, rfl, hnl, hit, HS, HB⟩ := hrel
    by_cases hp : n < s.size
    · have hnx : ∀ ty, (Instr.next (.pointer (some ⟨w.heap.size, 0, none⟩)) true ty).run Try.prog wr = _ := fun ty => Lib.run_next_any_at wr w.heap.size s n ty hit hp
      have hB5 : Below w.heap.size w (wr.iterAt w.heap.size s (n + (Utf8.decode s n).2)) := Lib.below_iterAt HB.out (Nat.le_refl _) s _
      by_cases hr : digR (Utf8.decode s n).1
      · obtain ⟨h1, h2⟩ := digK.step hp hr HS.out
        have hr2 : 48 ≤ (Utf8.decode s n).1 ∧ (Utf8.decode s n).1 ≤ 57 := hr
        have H1 := Lib.hid h1
        have H2 := Lib.hid h2
        clear h1 h2 hr
        go_wp2_with fail
        go_roundw
        case rel =>
          have := Lib.iterAt_heap wr w.heap.size s n (n + (Utf8.decode s n).2) hit
          have h2 := H2.out
          rw [H1.out] at this h2
          exact ⟨n + 1, by go_num, by omega, by rw [H1.out]; exact this, ⟨h2⟩, ⟨hB5⟩⟩
        case measure =>
          rw [iterPos_of (Lib.iterAt_heap wr w.heap.size s n _ hit), iterPos_of hit, H1.out]
          omega
      · obtain rfl : d = n := by rw [← HD.out]; exact digs_stop HS.out hnl (.inr ⟨hp, dig_stop hp hr⟩)
        have hr2 : ¬ (48 ≤ (Utf8.decode s d).1 ∧ (Utf8.decode s d).1 ≤ 57) := hr
        have hr3 : (Utf8.decode s d).1 < 48 ∨ 57 < (Utf8.decode s d).1 := by omega
        clear hr2
        rcases hr3 with hr3 | hr3
        all_goals
          have hBX := hB5
          by_cases h0 : d = 0
          · have hz : ((d : Int) == 0) = true := by rw [beq_iff_eq]; omega
            have H0 := Lib.hid h0
            clear h0
            go_wp2_with fail
            refine (locErr _ _ _).mono ?_
            rintro e w' ⟨⟨T, a, rfl⟩, hb⟩
            go_wp2_with fail
            go_ret
            exact ⟨resErr (fun hh => hh.1 (HD.out.trans H0.out)), fin0 hBX hBX.size hb⟩
          · have hz : ((d : Int) == 0) = false := by rw [beq_eq_false_iff_ne]; omega
            by_cases h1 : 1 < d
            · go_wp2_with fail
              refine (PFnJHostname.strings_HasPrefix.calls s ⟨#[48]⟩ _ _ (hasPrefix1 s ⟨#[48]⟩ 48 (by decide))).mono ?_
              rintro e w2 ⟨rfl, ⟨n2, rfl⟩⟩
              have hBX := pw_below_drewN hBX n2
              by_cases hp1 : (bs s).head? = some 48
              · have hdp : decide ((bs s).head? = some 48) = true := decide_eq_true hp1
                go_wp2_with fail
                refine (locErr _ _ _).mono ?_
                rintro e w' ⟨⟨T, a, rfl⟩, hb⟩
                go_wp2_with fail
                go_ret
                exact ⟨resErr (fun hh => hh.2.1 ⟨by rw [HD.out]; exact h1, hp1⟩), fin0 hBX hBX.size hb⟩
              · have hdp : decide ((bs s).head? = some 48) = false := decide_eq_false hp1
                have HN : ¬ (1 < d ∧ (bs s).head? = some 48) := fun hh => hp1 hh.2
                by_cases h35 : (bs s).drop d = [35]
                · have hq : ((s.extract d s.size).toList == [35]) = true := by rw [beq_iff_eq, ByteArray.toList_eq, bs_data, bs_drop]; exact h35
                  go_wp2_with fail
                  go_ret
                  exact ⟨resOk ⟨by rw [HD.out]; exact h0, by rw [HD.out]; exact HN, by rw [HD.out]; exact .inl h35⟩, hBX⟩
                · have hq : ((s.extract d s.size).toList == [35]) = false := by rw [beq_eq_false_iff_ne, Ne, ByteArray.toList_eq, bs_data, bs_drop]; exact h35
                  go_wp2_with fail
                  refine (valPtr (s.extract d s.size) _ (by rw [ByteArray.size_extract]; omega)).mono ?_
                  rintro e w' ⟨hres, hb⟩
                  rcases hres with ⟨hok, rfl⟩ | ⟨hok, ⟨T, a, rfl⟩⟩
                  · go_wp2_with fail
                    go_ret
                    rw [bs_drop] at hok
                    exact ⟨resOk ⟨by rw [HD.out]; exact h0, by rw [HD.out]; exact HN, by rw [HD.out]; exact .inr hok⟩, fin0 hBX hBX.size hb⟩
                  · go_wp2_with fail
                    go_ret
                    rw [bs_drop] at hok
                    exact ⟨resErr (fun hh => by have := hh.2.2; rw [HD.out] at this; rcases this with h | h; exact h35 h; exact hok h), fin0 hBX hBX.size hb⟩

            · have HN : ¬ (1 < d ∧ (bs s).head? = some 48) := fun hh => h1 hh.1
              by_cases h35 : (bs s).drop d = [35]
              · have hq : ((s.extract d s.size).toList == [35]) = true := by rw [beq_iff_eq, ByteArray.toList_eq, bs_data, bs_drop]; exact h35
                go_wp2_with fail
                go_ret
                exact ⟨resOk ⟨by rw [HD.out]; exact h0, by rw [HD.out]; exact HN, by rw [HD.out]; exact .inl h35⟩, hBX⟩
              · have hq : ((s.extract d s.size).toList == [35]) = false := by rw [beq_eq_false_iff_ne, Ne, ByteArray.toList_eq, bs_data, bs_drop]; exact h35
                go_wp2_with fail
                refine (valPtr (s.extract d s.size) _ (by rw [ByteArray.size_extract]; omega)).mono ?_
                rintro e w' ⟨hres, hb⟩
                rcases hres with ⟨hok, rfl⟩ | ⟨hok, ⟨T, a, rfl⟩⟩
                · go_wp2_with fail
                  go_ret
                  rw [bs_drop] at hok
                  exact ⟨resOk ⟨by rw [HD.out]; exact h0, by rw [HD.out]; exact HN, by rw [HD.out]; exact .inr hok⟩, fin0 hBX hBX.size hb⟩
                · go_wp2_with fail
                  go_ret
                  rw [bs_drop] at hok
                  exact ⟨resErr (fun hh => by have := hh.2.2; rw [HD.out] at this; rcases this with h | h; exact h35 h; exact hok h), fin0 hBX hBX.size hb⟩
    · obtain rfl : d = n := by rw [← HD.out]; exact digs_stop HS.out hnl (.inl (by omega))
      have hnx : ∀ ty, (Instr.next (.pointer (some ⟨w.heap.size, 0, none⟩)) true ty).run Try.prog wr = _ := fun ty => Lib.run_next_end_at wr w.heap.size s d ty hit hp
      have hBX := HB.out
      by_cases h0 : d = 0
      · have hz : ((d : Int) == 0) = true := by rw [beq_iff_eq]; omega
        have H0 := Lib.hid h0
        clear h0
        go_wp2_with fail
        refine (locErr _ _ _).mono ?_
        rintro e w' ⟨⟨T, a, rfl⟩, hb⟩
        go_wp2_with fail
        go_ret
        exact ⟨resErr (fun hh => hh.1 (HD.out.trans H0.out)), fin0 hBX hBX.size hb⟩
      · have hz : ((d : Int) == 0) = false := by rw [beq_eq_false_iff_ne]; omega
        by_cases h1 : 1 < d
        · go_wp2_with fail
          refine (PFnJHostname.strings_HasPrefix.calls s ⟨#[48]⟩ _ _ (hasPrefix1 s ⟨#[48]⟩ 48 (by decide))).mono ?_
          rintro e w2 ⟨rfl, ⟨n2, rfl⟩⟩
          have hBX := pw_below_drewN hBX n2
          by_cases hp1 : (bs s).head? = some 48
          · have hdp : decide ((bs s).head? = some 48) = true := decide_eq_true hp1
            go_wp2_with fail
            refine (locErr _ _ _).mono ?_
            rintro e w' ⟨⟨T, a, rfl⟩, hb⟩
            go_wp2_with fail
            go_ret
            exact ⟨resErr (fun hh => hh.2.1 ⟨by rw [HD.out]; exact h1, hp1⟩), fin0 hBX hBX.size hb⟩
          · have hdp : decide ((bs s).head? = some 48) = false := decide_eq_false hp1
            have HN : ¬ (1 < d ∧ (bs s).head? = some 48) := fun hh => hp1 hh.2
            by_cases h35 : (bs s).drop d = [35]
            · have hq : ((s.extract d s.size).toList == [35]) = true := by rw [beq_iff_eq, ByteArray.toList_eq, bs_data, bs_drop]; exact h35
              go_wp2_with fail
              go_ret
              exact ⟨resOk ⟨by rw [HD.out]; exact h0, by rw [HD.out]; exact HN, by rw [HD.out]; exact .inl h35⟩, hBX⟩
            · have hq : ((s.extract d s.size).toList == [35]) = false := by rw [beq_eq_false_iff_ne, Ne, ByteArray.toList_eq, bs_data, bs_drop]; exact h35
              go_wp2_with fail
              refine (valPtr (s.extract d s.size) _ (by rw [ByteArray.size_extract]; omega)).mono ?_
              rintro e w' ⟨hres, hb⟩
              rcases hres with ⟨hok, rfl⟩ | ⟨hok, ⟨T, a, rfl⟩⟩
              · go_wp2_with fail
                go_ret
                rw [bs_drop] at hok
                exact ⟨resOk ⟨by rw [HD.out]; exact h0, by rw [HD.out]; exact HN, by rw [HD.out]; exact .inr hok⟩, fin0 hBX hBX.size hb⟩
              · go_wp2_with fail
                go_ret
                rw [bs_drop] at hok
                exact ⟨resErr (fun hh => by have := hh.2.2; rw [HD.out] at this; rcases this with h | h; exact h35 h; exact hok h), fin0 hBX hBX.size hb⟩

        · have HN : ¬ (1 < d ∧ (bs s).head? = some 48) := fun hh => h1 hh.1
          by_cases h35 : (bs s).drop d = [35]
          · have hq : ((s.extract d s.size).toList == [35]) = true := by rw [beq_iff_eq, ByteArray.toList_eq, bs_data, bs_drop]; exact h35
            go_wp2_with fail
            go_ret
            exact ⟨resOk ⟨by rw [HD.out]; exact h0, by rw [HD.out]; exact HN, by rw [HD.out]; exact .inl h35⟩, hBX⟩
          · have hq : ((s.extract d s.size).toList == [35]) = false := by rw [beq_eq_false_iff_ne, Ne, ByteArray.toList_eq, bs_data, bs_drop]; exact h35
            go_wp2_with fail
            refine (valPtr (s.extract d s.size) _ (by rw [ByteArray.size_extract]; omega)).mono ?_
            rintro e w' ⟨hres, hb⟩
            rcases hres with ⟨hok, rfl⟩ | ⟨hok, ⟨T, a, rfl⟩⟩
            · go_wp2_with fail
              go_ret
              rw [bs_drop] at hok
              exact ⟨resOk ⟨by rw [HD.out]; exact h0, by rw [HD.out]; exact HN, by rw [HD.out]; exact .inr hok⟩, fin0 hBX hBX.size hb⟩
            · go_wp2_with fail
              go_ret
              rw [bs_drop] at hok
              exact ⟨resErr (fun hh => by have := hh.2.2; rw [HD.out] at this; rcases this with h | h; exact h35 h; exact hok h), fin0 hBX hBX.size hb⟩

theorem isRel (s : ByteArray) (w : World) (hs : s.size ≤ 1099511627776) : Calls Try.prog 41 #[.string s] w fun e w' => Says (relOk (bs s)) e ∧ Below w.heap.size w w' := by
  go_enter Try.func41, Try.ntmps41
  go_wp2_with fail
  refine (valRel s _ hs).mono ?_
  rintro e w1 ⟨hr, hb⟩
  rcases hr with ⟨hok, rfl⟩ | ⟨hok, ⟨T, a, rfl⟩⟩
  · go_wp2_with fail
    go_ret
    exact ⟨⟨_, rfl, by simp [hok]⟩, hb⟩
  · go_wp2_with fail
    go_ret
    exact ⟨⟨_, rfl, by simp [hok]⟩, hb⟩

theorem implRel (s : ByteArray) (w : World) (hs : s.size ≤ 1099511627776) : Calls Try.prog 24 #[.string s] w fun e w' => Says (relOk (bs s)) e ∧ Below w.heap.size w w' := by
  go_enter Try.func24, Try.ntmps24
  go_wp2_with fail
  refine (isRel s _ hs).mono ?_
  rintro e w1 ⟨⟨b, rfl, hb1⟩, hb⟩
  have HB := Lib.hid hb1
  clear hb1
  go_wp2_with fail
  go_ret
  exact ⟨⟨_, rfl, HB.out⟩, hb⟩
end Go.Proofs.Ytdjmjgdafghdgaa.Fmt
