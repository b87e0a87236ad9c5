/- FnJEmailParts: small letters, an at sign and a name are a mail address exactly if the name is a hostname. -/
import Derived.Test.YtfnnahopbghndaaDoorLawEmail
import Derived.OpenShut
namespace Go.Proofs.YtfnnahopbghndaaDoor.LEmP
open Go.RowKit Go.Proofs.YtfnnahopbghndaaDoorW.PrintWords Go.Proofs.YtfnnahopbghndaaDoorW.PrintLast Go.Proofs.YtfnnahopbghndaaDoorW.PrintMore Go.Proofs.YtfnnahopbghndaaDoor.K Go.Proofs.YtfnnahopbghndaaDoor.Fmt
set_option linter.unusedVariables false
set_option linter.unusedSimpArgs false

/-- The letter of a number. -/
def let_ (x : Int) : UInt8 := UInt8.ofNat (97 + x % 26).toNat
theorem let_nat (x : Int) (h : 0 ≤ x) : ((let_ x).toNat : Int) = 97 + x % 26 := by
  unfold let_
  rw [UInt8.toNat_ofNat']
  omega
def low (b : UInt8) : Prop := 97 ≤ b.toNat ∧ b.toNat ≤ 122
theorem let_is (x : Int) (h : 0 ≤ x) : low (let_ x) := by
  have := let_nat x h
  unfold low
  omega
theorem low_em (b : UInt8) (h : low b) : emB b = true := (emK.iff b).2 (.inl h)
theorem low_ne (b c : UInt8) (h : low b) (hc : c.toNat < 97) : b ≠ c := by
  rintro rfl
  unfold low at h
  omega
theorem bytes1 (W : World) (x : Int) (hx : 0 ≤ x) : (convert 29 9 (.slice (some ⟨W.heap.size, 0, none⟩) 1 1)).run Tryd.prog (W.alloc (.cells #[.int .u8 (97 + x % 26)] 5)) = .ok (.string ⟨#[let_ x]⟩) (W.alloc (.cells #[.int .u8 (97 + x % 26)] 5)) := by
  have h := run_convert_bytes_arg (P := Tryd.prog) (W.alloc (.cells #[.int .u8 (97 + x % 26)] 5)) 29 5 Tryd.underlying29 Tryd.underlying5 W.heap.size 0 1 1 [97 + x % 26] rfl (by
    intro i hi
    obtain rfl : i = 0 := by omega
    rw [cell_new]
    rfl) 9 Tryd.underlying9
  rw [h]
  rfl
theorem local_ok (a : List UInt8) (hne : a ≠ []) (hlen : a.length ≤ 64) (ha : ∀ x ∈ a, low x) : localOk a := by
  refine ⟨hlen, fun e => ?_, fun e => ?_, ?_, fun b hb => low_em b (ha b hb)⟩
  · exact low_ne _ _ (ha 46 (List.mem_of_mem_head? e)) (by decide) rfl
  · exact low_ne _ _ (ha 46 (List.mem_of_getLast? e)) (by decide) rfl
  · rintro ⟨i, h, _⟩
    exact low_ne _ _ (ha 46 (List.mem_of_getElem? h)) (by decide) rfl
theorem parts (a b : List UInt8) (hne : a ≠ []) (hlen : a.length ≤ 64) (htot : a.length + b.length ≤ 253) (ha : ∀ x ∈ a, low x) (hb : 64 ∉ b) : emailOk (a ++ 64 :: b) ↔ hostOk b := by
  have hat : LastAt (a ++ 64 :: b) a.length := by
    refine ⟨by simp, ?_⟩
    rw [show a.length + 1 = (a ++ [64]).length by simp, show a ++ 64 :: b = (a ++ [64]) ++ b by simp, List.drop_left]
    exact hb
  have e1 : (a ++ 64 :: b).take a.length = a := List.take_left
  have e2 : (a ++ 64 :: b).drop (a.length + 1) = b := by rw [show a.length + 1 = (a ++ [64]).length by simp, show a ++ 64 :: b = (a ++ [64]) ++ b by simp, List.drop_left]
  unfold emailOk
  constructor
  · rintro ⟨_, i, hi, _, h⟩
    obtain rfl := lastAt_one hat hi
    rwa [e2] at h
  · intro h
    exact ⟨by simp; omega, a.length, hat, by rw [e1]; exact local_ok a hne hlen ha, by rw [e2]; exact h⟩
theorem none_ (a : List UInt8) (ha : ∀ x ∈ a, low x) : ¬ emailOk a := by
  rintro ⟨_, i, hi, _⟩
  exact low_ne _ _ (ha 64 (List.mem_of_getElem? hi.1)) (by decide) rfl
theorem host_c : hostOk [99] := by
  unfold hostOk trimDot labelOk
  rw [if_neg (by decide)]
  have : splitL 46 [99] = [[99]] := by decide
  rw [this]
  simp only [List.mem_singleton, forall_eq]
  refine ⟨by decide, by decide, by decide, by decide, by decide, by decide⟩
theorem abc : emailOk [97, 46, 98, 64, 99] := by
  refine ⟨by decide, 3, ⟨rfl, by decide⟩, ⟨by decide, by decide, by decide, ?_, by decide⟩, host_c⟩
  rintro ⟨i, h1, h2⟩
  match i, h1, h2 with
  | 0, h1, _ => simp at h1
  | 1, _, h2 => simp at h2
  | 2, h1, _ => simp at h1
  | i + 3, h1, _ => simp at h1

open Go.Proofs.YtfnnahopbghndaaDoor.PjQuoted in
theorem hasS (s : ByteArray) (hs : s.size ≤ 4294967296) : ∃ b, Ev (fun k => spec_JHas.f k s 64) b ∧ (b = false → 64 ∉ bs s) := by
  obtain ⟨b, h1, h2⟩ := SHasjQuoted.hasS s 64 hs
  exact ⟨b, h1, fun e k => by have := h2.2 k; rw [e] at this; cases this⟩

set_option maxHeartbeats 8000000 in
set_option maxRecDepth 100000 in
theorem walk (A : Option Addr) (len cap : Nat) (z : List Int) (s : ByteArray) (w : World)
    (w0 : (A = none ∧ len = 0 ∧ cap = 0 ∧ z = []) ∨ ∃ x, A = some x ∧ len ≤ cap ∧ cap ≤ maxLen ∧ z.length = cap ∧ (∀ i, i < z.length → w.cell? (x.add i) = some (.int .u8 (z.getD i 0))) ∧ ∀ n ∈ z, (Lit.int .u8 n).wf = true)
    (_y0 : len * 1 ≤ 140737488351232) (_w1 : s.size ≤ 140737488351232) (_hL : laidMetH Tryd.prog Rows.fnJEmailPartsRow.laid w) :
    Calls Tryd.prog 9 #[.slice A len cap, .string s] w fun e w' => e = .returned (.bool true) ∧ Below w.heap.size w w' := by
  clear _hL
  have hbr : Below w.heap.size w w := Below.refl _ _
  obtain ⟨l, rfl, hr, hm, hw, hc⟩ := ReadsInt.ofRowC w0
  have hl0 : ∀ x ∈ l, 0 ≤ x ∧ x ≤ 255 := by
    intro x hx
    exact bounds_u8 (hw x hx)
  clear w0 hw
  have HR := Lib.hid hr
  have HL := Lib.hid hl0
  clear hr hl0
  have hgate : (2147483647 < l.length) ∨ (l.length ≤ 2147483647 ∧ 2147483647 < s.size) ∨ (60 < l.length ∧ l.length ≤ 2147483647 ∧ s.size ≤ 2147483647) ∨ (l.length ≤ 60 ∧ 190 < s.size ∧ s.size ≤ 2147483647) ∨ (l.length ≤ 60 ∧ s.size ≤ 190) := by omega
  rcases hgate with g1 | ⟨g1, g2⟩ | ⟨g1, g2, g3⟩ | ⟨g1, g2, g3⟩ | ⟨g1, g2⟩
  case inr.inr.inr.inr =>
    obtain ⟨p, ⟨K1, hK1⟩, hp⟩ := LEm.quotS s (by omega)
    obtain ⟨o, ⟨K2, hK2⟩, ho⟩ := SOddjOdd.oddS s (by omega)
    obtain ⟨q, ⟨K3, hK3⟩, hq⟩ := hasS s (by omega)
    have HK1 := Lib.hid (hK1 K1 (Nat.le_refl _))
    have HK2 := Lib.hid (hK2 K2 (Nat.le_refl _))
    have HK3 := Lib.hid (hK3 K3 (Nat.le_refl _))
    have HP := Lib.hid hp
    have HQ := Lib.hid hq
    have hsl := bs_len s
    have HSL := Lib.hid hsl
    clear hK1 hK2 hK3 hp ho hq hsl
    go_enter Tryd.func9, Tryd.ntmps9
    go_wp2_with fail
    refine (PjQuoted.laws_jQuoted.calls K1 s p _ HK1.out).mono ?_
    rintro e w1 ⟨rfl, ⟨n1, rfl⟩⟩
    have hb1 := pw_below_drewN (Below.refl w.heap.size w) n1
    cases p with
    | true =>
      go_wp2_with fail
      go_ret
      exact ⟨rfl, hb1⟩
    | false =>
    go_wp2_with fail
    refine (PjOdd.laws_jOdd.calls K2 s o _ HK2.out).mono ?_
    rintro e w2 ⟨rfl, ⟨n2, rfl⟩⟩
    have hb2 := pw_below_drewN (Below.refl w.heap.size w) (n1 + n2)
    cases o with
    | true =>
      go_wp2_with fail
      go_ret
      exact ⟨rfl, hb2⟩
    | false =>
    go_wp2_with fail
    refine (PjQuoted.spec_JHas.calls K3 s 64 q _ HK3.out).mono ?_
    rintro e w2 ⟨rfl, ⟨n3, rfl⟩⟩
    have hb3 := pw_below_drewN (Below.refl w.heap.size w) (n1 + n2 + n3)
    cases q with
    | true =>
      go_wp2_with fail
      go_ret
      exact ⟨rfl, hb3⟩
    | false =>
    have h64 := HQ.out (by simp)
    obtain ⟨h34, h91⟩ := HP.out (by simp)
    have H64 := Lib.hid h64
    have H34 := Lib.hid h34
    have H91 := Lib.hid h91
    clear h64 h34 h91 HQ HP
    go_wp2_with fail
    have h64s : ∀ x : List UInt8, True := fun _ => trivial
    clear h64s
    generalize w.drewN (n1 + n2 + n3) = wa at *
    go_loopw [5, 6] (fun tv iv wi => ∃ (i : Nat) (t : ByteArray), tv = .string t ∧ iv = .int .i64 i ∧ i ≤ l.length ∧ t.size = i + 1 ∧ Aside0 (∀ x ∈ bs t, low x) ∧ Aside0 (Below w.heap.size w wi)) (fun _ iv _ => l.length - (intOf iv).toNat)
    case atStart => exact ⟨0, ⟨#[97]⟩, rfl, rfl, by omega, rfl, ⟨by intro x hx; have : x = 97 := by simpa [bs] using hx
                                                                    subst this; unfold low; decide⟩, ⟨hb3⟩⟩
    case round =>
      obtain ⟨i, t, rfl, rfl, hil, hts, HT, HB⟩ := hrel
      by_cases hlt : i < l.length
      · obtain ⟨ad, hA, hcell⟩ := (HR.out.below HB.out).at_ (i : Int) (by omega) (by omega)
        subst hA
        have hx : rd l (i : Int) = l[i] := by
          unfold rd
          simp [List.getD_eq_getElem?_getD, List.getElem?_eq_getElem hlt]
        have hx0 := HL.out _ (List.getElem_mem hlt)
        rw [hx] at hcell
        obtain ⟨x, hxe⟩ : ∃ x, l[i] = x := ⟨_, rfl⟩
        rw [hxe] at hcell hx0
        obtain ⟨hx1, hx2⟩ := hx0
        rw [Int.toNat_natCast] at hcell
        have hcv := fun W => bytes1 W x hx1
        clear hxe hx
        have hwi := HB.out.size
        go_wp2_with fail
        go_roundw
        case rel =>
          refine ⟨i + 1, t ++ ⟨#[let_ x]⟩, rfl, by go_num, by omega, ?_, ⟨?_⟩, ⟨HB.out.alloc hwi _⟩⟩
          · rw [ByteArray.size_append, hts]; rfl
          · intro y hy
            rw [bs_append] at hy
            rcases List.mem_append.1 hy with hy | hy
            · exact HT.out y hy
            · have : y = let_ x := by simpa [bs] using hy
              subst this
              exact let_is x hx1
        case measure => simp [intOf]; omega
      · obtain rfl : i = l.length := by omega
        have hlt2 : decide ((l.length : Int) < (l.length : Int)) = false := by simp
        have hne : bs t ≠ [] := fun k => by have := bs_nil.1 k; omega
        have htl := bs_len t
        have e64 : (⟨#[64]⟩ : ByteArray).size = 1 := rfl
        have hbx := HB.out
        have hpt := parts (bs t) (bs s) hne (by omega) (by rw [HSL.out]; omega) HT.out H64.out
        have hcat : bs (t ++ ⟨#[64]⟩ ++ s) = bs t ++ 64 :: bs s := by
          rw [bs_append, bs_append, show bs (⟨#[64]⟩ : ByteArray) = [64] from rfl]; simp
        have hno : ∀ c : UInt8, c.toNat < 97 → c ≠ 64 → c ∉ bs s → c ∉ bs (t ++ ⟨#[64]⟩ ++ s) := by
          intro c h1 h2 h3 h4
          rw [hcat] at h4
          rcases List.mem_append.1 h4 with h4 | h4
          · exact low_ne _ _ (HT.out c h4) h1 rfl
          · rcases List.mem_cons.1 h4 with h4 | h4
            · exact h2 h4
            · exact h3 h4
        have hno2 : ∀ c : UInt8, c.toNat < 97 → c ∉ bs t := fun c h1 h4 => low_ne _ _ (HT.out c h4) h1 rfl
        have hnot := none_ (bs t) HT.out
        rw [← hcat] at hpt
        have hz : (t ++ ⟨#[64]⟩ ++ s).size ≤ 2147483647 := by simp only [ByteArray.size_append, e64]; omega
        have C := fun W => implEmail (t ++ ⟨#[64]⟩ ++ s) W hz (hno 34 (by decide) (by decide) H34.out) (hno 91 (by decide) (by decide) H91.out)
        have C2 := fun W => implEmail t W (by omega) (hno2 34 (by decide)) (hno2 91 (by decide))
        have HCC := Aside0.mk C
        have HC2 := Aside0.mk C2
        have HPT := Lib.hid hpt
        have HNOT := Lib.hid hnot
        clear hpt hcat hno hno2 hnot hne hlt hz C C2 e64
        go_wp2_with fail
        with_reducible refine (HCC.out _).mono ?_
        rintro e w5 ⟨⟨b1, rfl, hb1'⟩, hb5⟩
        have hbx := fin0 hbx hbx.size hb5
        rw [HPT.out] at hb1'
        have B1 := Lib.hid hb1'
        clear hb1' hb5
        go_wp2_with fail
        refine (implHost s _ (by omega)).mono ?_
        rintro e w6 ⟨⟨b2, rfl, hb2'⟩, hb6⟩
        have hbx := fin0 hbx hbx.size hb6
        obtain rfl : b1 = b2 := by rw [Bool.eq_iff_iff, B1.out, hb2']
        clear hb2' hb6 B1
        have hself : (b1 == b1) = true := by simp
        go_wp2_with fail
        with_reducible refine (HC2.out _).mono ?_
        rintro e w7 ⟨⟨b3, rfl, hb3'⟩, hb7⟩
        have hbx := fin0 hbx hbx.size hb7
        obtain rfl : b3 = false := by rw [Bool.eq_false_iff]; intro k; exact HNOT.out (hb3'.1 k)
        clear hb3' hb7
        go_wp2_with fail
        refine (implEmail ⟨#[97, 46, 98, 64, 99]⟩ _ (by decide) (by decide) (by decide)).mono ?_
        rintro e w8 ⟨⟨b4, rfl, hb4'⟩, hb8⟩
        have hbx := fin0 hbx hbx.size hb8
        obtain rfl : b4 = true := hb4'.2 abc
        clear hb4' hb8
        go_wp2_with fail
        go_ret
        exact ⟨rfl, hbx⟩
  all_goals
    go_enter Tryd.func9, Tryd.ntmps9
    go_wp2_with fail
    go_ret
    exact ⟨rfl, hbr⟩
end Go.Proofs.YtfnnahopbghndaaDoor.LEmP
