/- FnJRelativeParts: digits and a text are a relative pointer exactly if the digits are a number without a 0 ahead, and the text is # or a pointer. -/
import Derived.Test.YtdjmjgdafghdgaaFmtRel
import Derived.Test.YtdjmjgdafghdgaaSpecUtf8FnJRelativeParts
import Derived.Test.YtdjmjgdafghdgaaFmtSemBase
import Derived.OpenShut
namespace Go.Proofs.Ytdjmjgdafghdgaa.LRelP
open Go.RowKit Go.Proofs.YtdjmjgdafghdgaaW.PrintWords Go.Proofs.YtdjmjgdafghdgaaW.PrintLast Go.Proofs.YtdjmjgdafghdgaaW.PrintMore Go.Proofs.Ytdjmjgdafghdgaa.K Go.Proofs.Ytdjmjgdafghdgaa.Fmt
set_option linter.unusedVariables false
set_option linter.unusedSimpArgs false

/-- The digit of a number. -/
def dig (x : Int) : UInt8 := UInt8.ofNat (48 + x % 10).toNat
theorem dig_nat (x : Int) (h : 0 ≤ x) : ((dig x).toNat : Int) = 48 + x % 10 := by
  unfold dig
  rw [UInt8.toNat_ofNat']
  omega
theorem dig_is (x : Int) (h : 0 ≤ x) : digB (dig x) = true := by
  have := dig_nat x h
  rw [(digK.iff _)]
  unfold digR
  omega

theorem digs_app (a b : List UInt8) (ha : ∀ x ∈ a, digB x = true) (hb : ∀ x, b.head? = some x → digB x = false) : digs (a ++ b) = a.length := by
  induction a with
  | nil =>
    cases b with
    | nil => rfl
    | cons y b =>
      have := hb y rfl
      unfold digs
      rw [List.nil_append, List.takeWhile_cons, this]
      rfl
  | cons y a ih =>
    have h1 := ha y List.mem_cons_self
    have h2 := ih (fun x hx => ha x (List.mem_cons_of_mem _ hx))
    unfold digs at h2 ⊢
    rw [List.cons_append, List.takeWhile_cons, h1, if_pos rfl, List.length_cons, h2, List.length_cons]

theorem rel_parts (a b : List UInt8) (ha : ∀ x ∈ a, digB x = true) (hb : ∀ x, b.head? = some x → digB x = false) (h0 : a ≠ []) :
    relOk (a ++ b) ↔ (a.length = 1 ∨ a.head? ≠ some 48) ∧ (b = [35] ∨ ptrOk b) := by
  unfold relOk
  have hl : 0 < a.length := List.length_pos_iff.2 h0
  have hh : (a ++ b).head? = a.head? := by
    cases a with
    | nil => exact absurd rfl h0
    | cons x a => rfl
  rw [digs_app a b ha hb, List.drop_left, hh]
  constructor
  · rintro ⟨_, h2, h3⟩
    refine ⟨?_, h3⟩
    by_cases e : a.length = 1
    · exact .inl e
    · exact .inr fun k => h2 ⟨by omega, k⟩
  · rintro ⟨h1, h3⟩
    refine ⟨by omega, ?_, h3⟩
    rintro ⟨h4, h5⟩
    rcases h1 with h1 | h1
    · omega
    · exact h1 h5
theorem rel_none (b : List UInt8) (hb : ∀ x, b.head? = some x → digB x = false) : ¬ relOk b := by
  unfold relOk
  have := digs_app [] b (fun x hx => by cases hx) hb
  rw [List.nil_append, List.length_nil] at this
  rw [this]
  exact fun h => h.1 rfl
theorem rel_0 : relOk [48, 35] := by
  unfold relOk
  have : digs [48, 35] = 1 := by decide
  rw [this]
  exact ⟨by decide, fun h => absurd h.1 (by decide), .inl rfl⟩

theorem bytes1 (W : World) (x : Int) (hx : 0 ≤ x) : (convert 29 9 (.slice (some ⟨W.heap.size, 0, none⟩) 1 1)).run Try.prog (W.alloc (.cells #[.int .u8 (48 + x % 10)] 5)) = .ok (.string ⟨#[dig x]⟩) (W.alloc (.cells #[.int .u8 (48 + x % 10)] 5)) := by
  have h := run_convert_bytes_arg (P := Try.prog) (W.alloc (.cells #[.int .u8 (48 + x % 10)] 5)) 29 5 Try.underlying29 Try.underlying5 W.heap.size 0 1 1 [48 + x % 10] rfl (by
    intro i hi
    obtain rfl : i = 0 := by omega
    rw [cell_new]
    rfl) 9 Try.underlying9
  rw [h]
  rfl

set_option maxHeartbeats 8000000 in
theorem walk (A : Option Addr) (len cap : Nat) (z : List Int) (s : ByteArray) (w : World)
    (w0 : (A = none ∧ len = 0 ∧ cap = 0 ∧ z = []) ∨ ∃ x, A = some x ∧ len ≤ cap ∧ cap ≤ maxLen ∧ z.length = cap ∧ (∀ i, i < z.length → w.cell? (x.add i) = some (.int .u8 (z.getD i 0))) ∧ ∀ n ∈ z, (Lit.int .u8 n).wf = true)
    (_y0 : len * 1 ≤ 140737488351232) (_w1 : s.size ≤ 140737488351232) :
    Calls Try.prog 9 #[.slice A len cap, .string s] w fun e w' => e = .returned (.bool true) ∧ Below w.heap.size w w' := by
  have hbr : Below w.heap.size w w := Below.refl _ _
  obtain ⟨l, rfl, hr, hm, hw, hc⟩ := ReadsInt.ofRowC w0
  have hl0 : ∀ x ∈ l, 0 ≤ x ∧ x ≤ 255 := by
    intro x hx
    exact bounds_u8 (hw x hx)
  clear w0 hw
  have HR := Lib.hid hr
  have HL := Lib.hid hl0
  clear hr hl0
  by_cases h1 : l.length ≤ 2147483647
  case neg =>
    go_enter Try.func9, Try.ntmps9
    go_wp2_with fail
    go_ret
    exact ⟨rfl, hbr⟩
  by_cases h2 : s.size ≤ 2147483647
  case neg =>
    go_enter Try.func9, Try.ntmps9
    go_wp2_with fail
    go_ret
    exact ⟨rfl, hbr⟩
  obtain ⟨o, ⟨K, hK⟩⟩ := SUtf8FnJRelativeParts.utfE s h2
  have HK := Lib.hid (hK K (Nat.le_refl _))
  clear hK
  go_enter Try.func9, Try.ntmps9
  go_wp2_with fail
  refine (PFnJRelativeParts.spec_JUtf8.calls K s o _ HK.out).mono ?_
  rintro e wx ⟨rfl, ⟨n, rfl⟩⟩
  have hbr := pw_below_drewN hbr n
  generalize w.drewN n = wa at *
  cases o with
  | false =>
    go_wp2_with fail
    go_ret
    exact ⟨rfl, hbr⟩
  | true =>
  by_cases hlz : l.length = 0
  · go_wp2_with fail
    go_ret
    exact ⟨rfl, hbr⟩
  have hgood : (∃ h : 0 < s.size, 48 ≤ (s[0]'h).toNat ∧ (s[0]'h).toNat ≤ 57) ∨ (∃ h : 0 < s.size, (s[0]'h).toNat < 48 ∧ (((s[0]'h).toNat : Int) == 43) = true) ∨ (∃ h : 0 < s.size, (s[0]'h).toNat < 48 ∧ (((s[0]'h).toNat : Int) == 43) = false ∧ (((s[0]'h).toNat : Int) == 45) = true) ∨
      ((∀ x, (bs s).head? = some x → digB x = false) ∧ (s.size = 0 ∨ (∃ h : 0 < s.size, (s[0]'h).toNat < 48 ∧ (((s[0]'h).toNat : Int) == 43) = false ∧ (((s[0]'h).toNat : Int) == 45) = false) ∨ (∃ h : 0 < s.size, 57 < (s[0]'h).toNat ∧ (((s[0]'h).toNat : Int) == 43) = false ∧ (((s[0]'h).toNat : Int) == 45) = false))) := by
    by_cases h : s.size = 0
    · refine .inr (.inr (.inr ⟨?_, .inl h⟩))
      intro x hx
      rw [bs_nil.2 h] at hx; cases hx
    have h' : 0 < s.size := by omega
    obtain ⟨v, hv⟩ : ∃ v, (s[0]'h').toNat = v := ⟨_, rfl⟩
    have hh : ¬ (48 ≤ v ∧ v ≤ 57) → ∀ x, (bs s).head? = some x → digB x = false := by
      intro hn x hx
      rw [head_bs h'] at hx
      obtain rfl := Option.some.inj hx
      rw [Bool.eq_false_iff, Ne, digK.iff]
      unfold digR
      rw [hv]
      exact hn
    have e (c : Nat) : (((s[0]'h').toNat : Int) == (c : Int)) = decide (v = c) := by
      rw [hv, Bool.eq_iff_iff, beq_iff_eq, decide_eq_true_eq]; omega
    by_cases hd : 48 ≤ v ∧ v ≤ 57
    · exact .inl ⟨h', by rw [hv]; exact hd⟩
    by_cases h43 : v = 43
    · exact .inr (.inl ⟨h', by rw [hv]; omega, (e 43).trans (decide_eq_true h43)⟩)
    by_cases h45 : v = 45
    · exact .inr (.inr (.inl ⟨h', by rw [hv]; omega, (e 43).trans (decide_eq_false h43), (e 45).trans (decide_eq_true h45)⟩))
    refine .inr (.inr (.inr ⟨hh hd, .inr ?_⟩))
    by_cases hlt : v < 48
    · exact .inl ⟨h', by rw [hv]; omega, (e 43).trans (decide_eq_false h43), (e 45).trans (decide_eq_false h45)⟩
    · exact .inr ⟨h', by rw [hv]; omega, (e 43).trans (decide_eq_false h43), (e 45).trans (decide_eq_false h45)⟩
  rcases hgood with ⟨hpos, hd⟩ | ⟨hpos, hd⟩ | ⟨hpos, hd⟩ | ⟨hb, hcases⟩
  · have hE := emp_false (g := s) (by omega)
    obtain ⟨hd1, hd2⟩ := hd
    go_wp2_with fail
    go_ret
    exact ⟨rfl, hbr⟩
  · have hE := emp_false (g := s) (by omega)
    obtain ⟨hd1, hd2⟩ := hd
    go_wp2_with fail
    go_ret
    exact ⟨rfl, hbr⟩
  · have hE := emp_false (g := s) (by omega)
    obtain ⟨hd1, hd2, hd3⟩ := hd
    go_wp2_with fail
    go_ret
    exact ⟨rfl, hbr⟩
  have HHB := Lib.hid hb
  clear hb
  have hEs : (s.size = 0 ∧ s.toList.isEmpty = true) ∨ (0 < s.size ∧ s.toList.isEmpty = false) := by
    by_cases h : s.size = 0
    · exact .inl ⟨h, emp_true h⟩
    · exact .inr ⟨by omega, emp_false h⟩
  have hws : w.heap.size ≤ wa.heap.size := hbr.size
  have HRa : Aside0 (ReadsInt wa .u8 A l.length l) := ⟨HR.out.below hbr⟩
  rcases hcases with h0 | ⟨hpos, hd1, hd2, hd3⟩ | ⟨hpos, hd1, hd2, hd3⟩
  all_goals
    rcases hEs with ⟨hz0, hE⟩ | ⟨hz0, hE⟩
  all_goals first | (exfalso; omega) | skip
  all_goals
    have hlz2 : ((l.length : Int) == 0) = false := by rw [beq_eq_false_iff_ne]; omega
    go_wp2_with fail
  all_goals try (exfalso; omega)
  all_goals
    go_loopw [5, 6] (fun tv iv wi => ∃ (i : Nat) (t : ByteArray), tv = .string t ∧ iv = .int .i64 i ∧ i ≤ l.length ∧ t.size = i ∧ Aside0 (bs t = (l.take i).map dig) ∧ Aside0 (Below w.heap.size w wi)) (fun _ iv _ => l.length - (intOf iv).toNat)
    case atStart => exact ⟨0, ⟨#[]⟩, rfl, rfl, by omega, rfl, ⟨rfl⟩, ⟨hbr⟩⟩
    case round =>
      obtain ⟨i, t, rfl, rfl, hil, hts, HT, HB⟩ := hrel
      by_cases hlt : i < l.length
      · obtain ⟨ad, hA, hcell⟩ := (HR.out.below HB.out).at_ (i : Int) (by omega) (by omega)
        subst hA
        have hx : rd l (i : Int) = l[i] := by
          unfold rd
          simp [List.getD_eq_getElem?_getD, List.getElem?_eq_getElem hlt]
        have hx0 := HL.out _ (List.getElem_mem hlt)
        rw [hx] at hcell
        obtain ⟨x, hxe⟩ : ∃ x, l[i] = x := ⟨_, rfl⟩
        rw [hxe] at hcell hx0
        obtain ⟨hx1, hx2⟩ := hx0
        rw [Int.toNat_natCast] at hcell
        have HX := Lib.hid hxe
        have hcv := fun W => bytes1 W x hx1
        clear hxe hx
        have hwi := HB.out.size
        go_wp2_with fail
        go_roundw
        case rel =>
          refine ⟨i + 1, t ++ ⟨#[dig x]⟩, rfl, by go_num, by omega, ?_, ⟨?_⟩, ⟨HB.out.alloc hwi _⟩⟩
          · rw [ByteArray.size_append, hts]; rfl
          · rw [bs_append, HT.out, List.take_succ_eq_append_getElem hlt, List.map_append, HX.out]; rfl
        case measure => simp [intOf]; omega
      · obtain rfl : i = l.length := by omega
        have hT := HT.out
        rw [List.take_length] at hT
        have hall : ∀ y ∈ bs t, digB y = true := by
          rw [hT]
          intro y hy
          obtain ⟨x, hx, rfl⟩ := List.mem_map.1 hy
          exact dig_is x (HL.out x hx).1
        have hne : bs t ≠ [] := fun k => hlz (by rw [← hts]; exact bs_nil.1 k)
        have hrp := rel_parts (bs t) (bs s) hall HHB.out hne
        rw [bs_len, ← bs_append] at hrp
        have htp : 0 < t.size := by omega
        rw [head_bs htp] at hrp
        have HRP := Lib.hid hrp
        have hbx := HB.out
        have hlt2 : decide ((l.length : Int) < (l.length : Int)) = false := by simp
        clear hT hall hne hrp hlt
        go_wp2_with fail
        refine (implRel (t ++ s) _ (by rw [ByteArray.size_append]; omega)).mono ?_
        rintro e w1 ⟨⟨b1, rfl, hb1⟩, hbb⟩
        have hbx := fin0 hbx hbx.size hbb
        rw [HRP.out] at hb1
        have HB1 := Lib.hid hb1
        clear hb1 hbb
        have h35 : (bs s = [35] ∧ (s.toList == [35]) = true) ∨ (bs s ≠ [35] ∧ (s.toList == [35]) = false) := by
          by_cases h : bs s = [35]
          · exact .inl ⟨h, by rw [beq_iff_eq, ByteArray.toList_eq, bs_data, h]⟩
          · exact .inr ⟨h, by rw [beq_eq_false_iff_ne, Ne, ByteArray.toList_eq, bs_data]; exact h⟩
        have hfirst : (((l.length : Int) == 1) = true ∧ (t.size = 1 ∨ some (t[0]'htp) ≠ some 48)) ∨ (((l.length : Int) == 1) = false ∧ (((t[0]'htp).toNat : Int) != 48) = true ∧ (t.size = 1 ∨ some (t[0]'htp) ≠ some 48)) ∨ (((l.length : Int) == 1) = false ∧ (((t[0]'htp).toNat : Int) != 48) = false ∧ ¬ (t.size = 1 ∨ some (t[0]'htp) ≠ some 48)) := by
          by_cases h1' : l.length = 1
          · exact .inl ⟨by rw [beq_iff_eq]; omega, .inl (by omega)⟩
          · by_cases h48 : t[0]'htp = 48
            · refine .inr (.inr ⟨by rw [beq_eq_false_iff_ne]; omega, by rw [h48]; rfl, ?_⟩)
              rintro (k | k)
              · omega
              · exact k (by rw [h48])
            · refine .inr (.inl ⟨by rw [beq_eq_false_iff_ne]; omega, ?_, .inr fun k => h48 (Option.some.inj k)⟩)
              rw [bne_iff_ne]
              exact fun k => h48 ((eq_toNat _ 48).1 k)
        rcases hfirst with ⟨hl1, hf⟩ | ⟨hl1, hl2, hf⟩ | ⟨hl1, hl2, hf⟩
        case inr.inr =>
          obtain rfl : b1 = false := by
            cases b1
            · rfl
            · exact absurd (HB1.out.1 rfl).1 hf
          clear hf h35
          go_wp2_with fail
          refine (implRel ⟨#[48, 35]⟩ _ (by decide)).mono ?_
          rintro e w3 ⟨⟨b3, rfl, hb3⟩, hb3b⟩
          have hbx := fin0 hbx hbx.size hb3b
          obtain rfl : b3 = true := hb3.2 rel_0
          clear hb3 hb3b
          go_wp2_with fail
          refine (implRel s _ (by omega)).mono ?_
          rintro e w4 ⟨⟨b4, rfl, hb4⟩, hb4b⟩
          have hbx := fin0 hbx hbx.size hb4b
          obtain rfl : b4 = false := by rw [Bool.eq_false_iff, Ne, hb4]; exact rel_none _ HHB.out
          clear hb4 hb4b
          go_wp2_with fail
          go_ret
          exact ⟨rfl, hbx⟩
        all_goals
          rcases h35 with ⟨h35, hq35⟩ | ⟨h35, hq35⟩
          · obtain rfl : b1 = true := HB1.out.2 ⟨hf, .inl h35⟩
            clear hf h35
            go_wp2_with fail
            refine (implRel ⟨#[48, 35]⟩ _ (by decide)).mono ?_
            rintro e w3 ⟨⟨b3, rfl, hb3⟩, hb3b⟩
            have hbx := fin0 hbx hbx.size hb3b
            obtain rfl : b3 = true := hb3.2 rel_0
            clear hb3 hb3b
            go_wp2_with fail
            refine (implRel s _ (by omega)).mono ?_
            rintro e w4 ⟨⟨b4, rfl, hb4⟩, hb4b⟩
            have hbx := fin0 hbx hbx.size hb4b
            obtain rfl : b4 = false := by rw [Bool.eq_false_iff, Ne, hb4]; exact rel_none _ HHB.out
            clear hb4 hb4b
            go_wp2_with fail
            go_ret
            exact ⟨rfl, hbx⟩
          · have hb2 : b1 = true ↔ ptrOk (bs s) := by
              rw [HB1.out]
              exact ⟨fun k => k.2.resolve_left h35, fun k => ⟨hf, .inr k⟩⟩
            have HB2 := Lib.hid hb2
            clear hf h35 hb2
            go_wp2_with fail
            refine (implPtr s _ (by omega)).mono ?_
            rintro e w2 ⟨⟨b2, rfl, hb2⟩, hbb⟩
            have hbx := fin0 hbx hbx.size hbb
            obtain rfl : b1 = b2 := by rw [Bool.eq_iff_iff, HB2.out, hb2]
            clear hb2 hbb
            have hself : (b1 == b1) = true := by simp
            go_wp2_with fail
            refine (implRel ⟨#[48, 35]⟩ _ (by decide)).mono ?_
            rintro e w3 ⟨⟨b3, rfl, hb3⟩, hb3b⟩
            have hbx := fin0 hbx hbx.size hb3b
            obtain rfl : b3 = true := hb3.2 rel_0
            clear hb3 hb3b
            go_wp2_with fail
            refine (implRel s _ (by omega)).mono ?_
            rintro e w4 ⟨⟨b4, rfl, hb4⟩, hb4b⟩
            have hbx := fin0 hbx hbx.size hb4b
            obtain rfl : b4 = false := by rw [Bool.eq_false_iff, Ne, hb4]; exact rel_none _ HHB.out
            clear hb4 hb4b
            go_wp2_with fail
            go_ret
            exact ⟨rfl, hbx⟩
end Go.Proofs.Ytdjmjgdafghdgaa.LRelP
