/- validateJSONPointer, IsPointer, impl.JPointer: what they answer. -/
import Derived.Test.YtdjmjgdafghdgaaFmt0
import Derived.Test.YtdjmjgdafghdgaaFmtSplit
import Derived.Test.YtdjmjgdafghdgaaFmtHost
namespace Go.Proofs.Ytdjmjgdafghdgaa.Fmt
open Go.RowKit Go.Proofs.YtdjmjgdafghdgaaW.PrintWords Go.Proofs.YtdjmjgdafghdgaaW.PrintLast Go.Proofs.YtdjmjgdafghdgaaW.PrintMore Go.Proofs.Ytdjmjgdafghdgaa.K
set_option linter.unusedVariables false
set_option linter.unusedSimpArgs false

theorem bs_get (g : ByteArray) (i : Nat) (h : i < g.size) (h' : i < (bs g).length) : (g.get! i) = (bs g)[i]'h' := by
  rw [bs_at g i h h']
  simp [ByteArray.get!, getElem!_pos, h]
  rfl

/-- A rune of several bytes: all of them from 128 on, within the text; no rune beyond the last one. -/
theorem decode_wide (g : ByteArray) (pos : Nat) (h : pos < g.size) (ha : 128 ≤ (g[pos]'h).toNat) :
    (Utf8.decode g pos).1 ≤ 1114111 ∧ ∀ j, j < (Utf8.decode g pos).2 → ∃ h' : pos + j < (bs g).length, 128 ≤ ((bs g)[pos + j]'h').toNat := by
  have hl := bs_len g
  have h0 : ∀ k, k = 0 → ∃ h' : pos + k < (bs g).length, 128 ≤ ((bs g)[pos + k]'h').toNat := by
    intro k hk; subst hk
    exact ⟨by omega, by simpa [bs_at g pos h (by omega)] using ha⟩
  have hc : ∀ k, (decide (pos + k < g.size) && (g.get! (pos + k)).toNat / 64 == 2) = true → ∃ h' : pos + k < (bs g).length, 128 ≤ ((bs g)[pos + k]'h').toNat := by
    intro k hk
    simp only [Bool.and_eq_true, decide_eq_true_eq, beq_iff_eq] at hk
    refine ⟨by omega, ?_⟩
    rw [← bs_get g _ hk.1 (by omega)]
    omega
  have hn : ¬ (g[pos]'h).toNat < 128 := by omega
  have t1 := (g.get! (pos + 1)).toNat_lt
  have t2 := (g.get! (pos + 2)).toNat_lt
  have t0 := (g[pos]'h).toNat_lt
  have c1 := hc 1; have c2 := hc 2; have c3 := hc 3
  clear hc
  simp only [Utf8.decode, get_at g pos h, hn, if_false]
  generalize g.get! (pos + 1) = b1 at *
  generalize g.get! (pos + 2) = b2 at *
  generalize g.get! (pos + 3) = b3 at *
  repeat' split
  · rename_i x1 x2
    simp only [Bool.and_eq_true] at x1
    refine ⟨by omega, fun j hj => ?_⟩
    rcases (by omega : j = 0 ∨ j = 1) with rfl | rfl
    · exact h0 _ rfl
    · exact c1 (by simp only [Bool.and_eq_true]; exact x1.2)
  · exact ⟨by simp [Utf8.runeError], fun j hj => h0 j (by omega)⟩
  · rename_i x1 x2
    simp only [Bool.and_eq_true] at x1
    refine ⟨by omega, fun j hj => ?_⟩
    rcases (by omega : j = 0 ∨ j = 1 ∨ j = 2) with rfl | rfl | rfl
    · exact h0 _ rfl
    · exact c1 (by simp only [Bool.and_eq_true]; exact x1.1.2)
    · exact c2 (by simp only [Bool.and_eq_true]; exact x1.2)
  · exact ⟨by simp [Utf8.runeError], fun j hj => h0 j (by omega)⟩
  · rename_i x1 x2
    simp only [Bool.and_eq_true] at x1
    refine ⟨?_, fun j hj => ?_⟩
    · have x3 := x1.1.1.1
      rw [beq_iff_eq] at x3
      simp [Utf8.valid] at x2; omega
    · rcases (by omega : j = 0 ∨ j = 1 ∨ j = 2 ∨ j = 3) with rfl | rfl | rfl | rfl
      · exact h0 _ rfl
      · exact c1 (by simp only [Bool.and_eq_true]; exact x1.1.1.2)
      · exact c2 (by simp only [Bool.and_eq_true]; exact x1.1.2)
      · exact c3 (by simp only [Bool.and_eq_true]; exact x1.2)
  · exact ⟨by simp [Utf8.runeError], fun j hj => h0 j (by omega)⟩
  · exact ⟨by simp [Utf8.runeError], fun j hj => h0 j (by omega)⟩

/-- Is each tilde followed by 0 or 1? The first: has there just been one? -/
def esc (e : Bool) : List UInt8 → Bool
  | [] => !e
  | a :: l => if e then (a == 48 || a == 49) && esc false l else esc (a == 126) l

theorem esc_join (l : List UInt8) : ∀ (e : Bool) (g : List UInt8), 47 ∉ g → esc e (g ++ 47 :: l) = (esc e g && esc false l)
  | e, [], _ => by cases e <;> simp [esc]
  | e, a :: g, h => by
    simp only [List.mem_cons, not_or] at h
    simp only [List.cons_append, esc]
    rw [esc_join l _ g h.2, esc_join l _ g h.2]
    cases e <;> simp [Bool.and_assoc]

theorem esc_split (l : List UInt8) : (∀ g ∈ splitL 47 l, esc false g = true) ↔ esc false l = true := by
  have hj := join_split 47 l
  have hf := split_free 47 l
  have hne := splitL_ne 47 l
  generalize splitL 47 l = gs at hj hf hne
  subst hj
  induction gs with
  | nil => exact absurd rfl hne
  | cons g gs ih =>
    cases gs with
    | nil => simp [joinL]
    | cons g2 gs =>
      have hh := ih (fun x hx => hf x (by simp [hx])) (by simp)
      rw [joinL, esc_join _ _ _ (hf g (by simp)), Bool.and_eq_true]
      constructor
      · intro k
        exact ⟨k g (by simp), hh.1 fun x hx => k x (by simp [hx])⟩
      · intro k x hx
        rcases List.mem_cons.1 hx with rfl | hx
        · exact k.1
        · exact hh.2 k.2 x hx

/-- A JSON pointer, by its bytes. -/
def ptrOk (l : List UInt8) : Prop := l = [] ∨ l.head? = some 47 ∧ ∀ g ∈ (splitL 47 l).drop 1, esc false g = true

theorem ptr_esc (l : List UInt8) : ptrOk l ↔ (l = [] ∨ l.head? = some 47) ∧ esc false l = true := by
  unfold ptrOk
  cases l with
  | nil => simp [esc]
  | cons a l =>
    simp only [reduceCtorEq, List.head?_cons, Option.some.injEq, false_or]
    constructor
    · rintro ⟨rfl, h⟩
      refine ⟨rfl, ?_⟩
      rw [← esc_split]
      intro g hg
      simp only [splitL, if_true] at hg h
      rcases List.mem_cons.1 hg with rfl | hg
      · rfl
      · exact h g (by simpa using hg)
    · rintro ⟨rfl, h⟩
      refine ⟨rfl, ?_⟩
      rw [← esc_split] at h
      intro g hg
      exact h g (List.mem_of_mem_drop hg)

theorem esc_step_low {g : ByteArray} {pos : Nat} (hp : pos < (bs g).length) (e : Bool) : esc e ((bs g).drop pos) = if e then ((bs g)[pos] == 48 || (bs g)[pos] == 49) && esc false ((bs g).drop (pos + 1)) else esc ((bs g)[pos] == 126) ((bs g).drop (pos + 1)) := by
  rw [List.drop_eq_getElem_cons hp, esc]

theorem esc_high {g : ByteArray} (w : Nat) : ∀ pos, (∀ j, j < w → ∃ h' : pos + j < (bs g).length, 128 ≤ ((bs g)[pos + j]'h').toNat) → esc false ((bs g).drop pos) = esc false ((bs g).drop (pos + w)) := by
  induction w with
  | zero => intro pos _; rfl
  | succ w ih =>
    intro pos h
    obtain ⟨h0, hb⟩ := h 0 (by omega)
    simp only [Nat.add_zero] at h0 hb
    rw [esc_step_low h0, if_neg (by simp), ← Nat.add_assoc, Nat.add_right_comm, ← ih (pos + 1)]
    · have : ((bs g)[pos] == 126) = false := by
        rw [beq_eq_false_iff_ne]; intro e; rw [e] at hb; simp at hb
      rw [this]
    · intro j hj
      have := h (j + 1) (by omega)
      rw [← Nat.add_assoc, Nat.add_right_comm] at this
      exact this

/-- One rune. -/
theorem esc_rune {g : ByteArray} {pos : Nat} (hp : pos < g.size) (e : Bool) :
    1 ≤ (Utf8.decode g pos).2 ∧ (Utf8.decode g pos).1 ≤ 1114111 ∧
    esc e ((bs g).drop pos) = if e then (decide ((Utf8.decode g pos).1 = 48) || decide ((Utf8.decode g pos).1 = 49)) && esc false ((bs g).drop (pos + (Utf8.decode g pos).2))
      else esc (decide ((Utf8.decode g pos).1 = 126)) ((bs g).drop (pos + (Utf8.decode g pos).2)) := by
  have hl := bs_len g
  have hp' : pos < (bs g).length := by omega
  have hat := bs_at g pos hp hp'
  rcases decode_cases g pos hp with ⟨e1, e2⟩ | ⟨h1, h2, h3⟩
  · rw [e1]
    refine ⟨Nat.le_refl _, by simp only; omega, ?_⟩
    rw [esc_step_low hp', hat]
    have k : ∀ n : UInt8, (g[pos]'hp == n) = decide ((g[pos]'hp).toNat = n.toNat) := by
      intro n; rw [Bool.eq_iff_iff, beq_iff_eq, decide_eq_true_eq, UInt8.toNat_inj]
    simp only [k]
    rfl
  · obtain ⟨h4, h5⟩ := decode_wide g pos hp h3
    refine ⟨h2, h4, ?_⟩
    have n48 : decide ((Utf8.decode g pos).1 = 48) = false := decide_eq_false (by omega)
    have n49 : decide ((Utf8.decode g pos).1 = 49) = false := decide_eq_false (by omega)
    have n126 : decide ((Utf8.decode g pos).1 = 126) = false := decide_eq_false (by omega)
    rw [n48, n49, n126]
    cases e with
    | true =>
      rw [esc_step_low hp', hat]
      have k : ∀ n : UInt8, n.toNat < 128 → (g[pos]'hp == n) = false := by
        intro n hn; rw [beq_eq_false_iff_ne]; intro e; rw [e] at h3; omega
      rw [k 48 (by decide), k 49 (by decide)]; simp
    | false =>
      simp only [Bool.false_eq_true, if_false]
      exact esc_high _ pos h5

theorem no47 {g : ByteArray} {pos : Nat} (hp : pos < g.size) (h : (47 : UInt8) ∉ bs g) : (Utf8.decode g pos).1 ≠ 47 := by
  have hl := bs_len g
  have hp' : pos < (bs g).length := by omega
  rcases decode_cases g pos hp with ⟨e1, e2⟩ | ⟨h1, h2, h3⟩
  · rw [e1]
    intro e
    apply h
    have : (bs g)[pos] = 47 := by rw [bs_at g pos hp hp']; exact UInt8.toNat_inj.1 e
    rw [← this]
    exact List.getElem_mem hp'
  · omega

/-- The iterator's part of the loop's relation. -/
def PIter (g : ByteArray) (e : Bool) (k B : Nat) (w wi : World) : Prop := ∃ pos : Nat, wi.heap[k]? = some (.stringIter g pos) ∧ esc false (bs g) = esc e ((bs g).drop pos) ∧ Below B w wi
theorem info_str : (Try.prog.info? 9).map (fun i => (i.zero, i.size, i.bytes)) = some (some (.string ⟨#[]⟩), 1, 16) := by kernel_rfl

set_option maxHeartbeats 4000000 in
set_option maxRecDepth 100000 in
theorem ptr (s : ByteArray) (k : Nat) (gs ts : List ByteArray) (w : World) (hts : gs.drop 1 = ts) (htl : ts.length ≤ 2199023255552) (h : PFnJUUID.jsonschema_zzSplit.f k s ⟨#[47]⟩ = some gs) (h1l : 1 ≤ gs.length) (hfree : ∀ i, i < gs.length → (47 : UInt8) ∉ bs (gs.getD i ⟨#[]⟩)) :
    Calls Try.prog 57 #[.iface 9 (.string s)] w fun e w' => Res (bs s = [] ∨ (bs s).head? = some 47 ∧ ∀ i, i < ts.length → esc false (bs (ts.getD i ⟨#[]⟩)) = true) e ∧ Below w.heap.size w w' := by
  have hta := asStr s
  have hl := bs_len s
  by_cases hemp : bs s = []
  · have hem : s.toList = [] := by rw [ByteArray.toList_eq]; exact hemp
    have hem2 : s.toList.isEmpty = true := by rw [hem]; rfl
    clear hl
    have HE := Lib.hid hemp
    clear hemp
    go_enter Try.func57, Try.ntmps57
    go_wp2_with fail
    go_ret
    exact ⟨resOk (.inl HE.out), Below.refl _ _⟩
  · have hem : ¬ s.toList = [] := by rw [ByteArray.toList_eq]; exact hemp
    have hem2 : s.toList.isEmpty = false := by cases hh : s.toList <;> simp_all
    have HE := Lib.hid hemp
    clear hl hemp
    go_enter Try.func57, Try.ntmps57
    go_wp2_with fail
    refine (PFnJHostname.strings_HasPrefix.calls s ⟨#[47]⟩ _ _ (hasPrefix1 s ⟨#[47]⟩ 47 (by decide))).mono ?_
    rintro e w2 ⟨rfl, ⟨n2, rfl⟩⟩
    by_cases hp1 : (bs s).head? = some 47
    · have hdp : decide ((bs s).head? = some 47) = true := decide_eq_true hp1
      have HP := Lib.hid hp1
      clear hp1
      go_wp2_with fail
      refine (PFnJUUID.jsonschema_zzSplit.calls k s ⟨#[47]⟩ gs _ h).mono ?_
      rintro e w1 ⟨v, rfl, hR, hb⟩
      obtain ⟨A0, c0, rfl, hlc, hC0⟩ := Kd.R_reads hR
      have hb0 : Below w.heap.size w w1 := (pw_below_drewN (Below.refl _ w) n2).trans hb
      have hsz1 : w.heap.size ≤ w1.heap.size := hb0.size
      obtain ⟨i0, hi, hz0, hz1, hz2⟩ := info_parts info_str
      obtain ⟨A, hsl, hrd, hcap⟩ := print_drop_of (P := Try.prog) Value.string ⟨#[]⟩ 48 9 .i64 Try.underlying48 hi hz1 A0 c0 gs 1 (by omega) (by omega) hlc
      have hC : Kd.string.C w1 A (gs.drop 1).length (gs.drop 1) := Kd.C_of_reads (hrd w1 (Kd.reads_of_C hC0))
      simp only [show (1 : Int).toNat = 1 from rfl, hts] at hsl hcap
      rw [hts] at hC
      have hfree' : ∀ i, i < ts.length → (47 : UInt8) ∉ bs (ts.getD i ⟨#[]⟩) := by
        intro i hi
        rw [← hts] at hi ⊢
        rw [List.length_drop] at hi
        have := hfree (1 + i) (by omega)
        simp only [List.getD_eq_getElem?_getD, List.getElem?_drop] at this ⊢
        exact this
      clear hb hR hta hrd hC0 hi hz0 hz1 hz2 hfree hdp hts
      go_wp2_with fail
      clear hsl hlc h1l hcap h
      go_loopw [27] (fun i wr => ∃ n : Nat, n ≤ ts.length ∧ i = .int .i64 n ∧ Aside0 (∀ j, j < n → esc false (bs (ts.getD j ⟨#[]⟩)) = true) ∧ Aside0 (Below w1.heap.size w1 wr)) (fun i _ => ts.length - (intOf i).toNat)
      case atStart => exact ⟨0, by omega, rfl, ⟨fun j hj => by omega⟩, ⟨Below.refl _ _⟩⟩
      case round =>
        obtain ⟨n, hn, rfl, HA, HB⟩ := hrel
        have hszr : w1.heap.size ≤ wr.heap.size := HB.out.size
        have hbr : Below w.heap.size w wr := fin0 hb0 hsz1 HB.out
        by_cases hlt : n < ts.length
        · have hd1 : decide ((n : Int) < (ts.length : Int)) = true := decide_eq_true (by omega)
          obtain ⟨ad, rfl, hcell⟩ := str_at hC HB.out n hlt
          obtain ⟨g, hg⟩ : ∃ g, g = ts.getD n ⟨#[]⟩ := ⟨_, rfl⟩
          rw [← hg] at hcell
          have hno : (47 : UInt8) ∉ bs g := by rw [hg]; exact hfree' n hlt
          have HNO := Lib.hid hno
          have HG := Lib.hid hg
          clear hg hno
          go_wp2_with fail
          obtain ⟨wo, rfl⟩ : ∃ wo : World, wo = wr := ⟨_, rfl⟩
          go_loopw [7] (fun ev wi => ∃ e : Bool, ev = .bool e ∧ Aside0 (PIter g e wo.heap.size w1.heap.size w1 wi)) (fun _ wi => g.size - wi.iterPos wo.heap.size)
          case atStart => exact ⟨false, rfl, ⟨0, World.iter_heap wo g 0, rfl, HB.out.alloc hszr _⟩⟩
          case round =>
            obtain ⟨e, rfl, ⟨pos, hit, HS0, HB4⟩⟩ := hrel
            have HS := Lib.hid HS0
            clear HS0
            by_cases hp : pos < g.size
            · have hnx : ∀ ty, (Instr.next (.pointer (some ⟨wo.heap.size, 0, none⟩)) true ty).run Try.prog wr = _ := fun ty => Lib.run_next_any_at wr wo.heap.size g pos ty hit hp
              have hB5 : Below w1.heap.size w1 (wr.iterAt wo.heap.size g (pos + (Utf8.decode g pos).2)) := Lib.below_iterAt HB4 hszr g _
              have hs5 : w1.heap.size ≤ (wr.iterAt wo.heap.size g (pos + (Utf8.decode g pos).2)).heap.size := hB5.size
              have hb5 : Below w.heap.size w (wr.iterAt wo.heap.size g (pos + (Utf8.decode g pos).2)) := fin0 hb0 hsz1 hB5
              obtain ⟨hw1, hw2, hes0⟩ := esc_rune hp e
              have HES := Lib.hid hes0
              clear hes0
              have h47 := no47 hp HNO.out
              have hfin : ∀ e', esc e ((bs g).drop pos) = esc e' ((bs g).drop (pos + (Utf8.decode g pos).2)) → ∃ e'' : Bool, Value.bool e' = .bool e'' ∧ Aside0 (PIter g e'' wo.heap.size w1.heap.size w1 (wr.iterAt wo.heap.size g (pos + (Utf8.decode g pos).2))) :=
                fun e' he => ⟨e', rfl, ⟨_, Lib.iterAt_heap wr wo.heap.size g pos _ hit, HS.out.trans he, hB5⟩⟩
              have HF := Lib.hid hfin
              clear hfin
              cases e with
              | true =>
                by_cases h01 : (Utf8.decode g pos).1 = 48 ∨ (Utf8.decode g pos).1 = 49
                · have hes : esc true ((bs g).drop pos) = esc false ((bs g).drop (pos + (Utf8.decode g pos).2)) := by
                    rw [HES.out]; rcases h01 with h | h <;> simp [h]
                  have HES2 := Lib.hid hes
                  clear hes HES
                  have hn1 : (((Utf8.decode g pos).1 : Int) != 48) = true → (((Utf8.decode g pos).1 : Int) != 49) = false := by
                    intro hh; rw [bne_iff_ne] at hh; rw [bne_eq_false_iff_eq]; omega
                  go_wp2_with fail
                  all_goals
                    go_roundw
                    case rel => exact HF.out false HES2.out
                    case measure =>
                      rw [iterPos_of (Lib.iterAt_heap wr wo.heap.size g pos _ hit), iterPos_of hit]
                      omega
                · have hes : esc false (bs g) = false := by
                    rw [HS.out, HES.out]
                    simp only [not_or] at h01
                    simp [h01]
                  have HES2 := Lib.hid hes
                  clear hes HES
                  have hn0 : (((Utf8.decode g pos).1 : Int) != 48) = true := by rw [bne_iff_ne]; omega
                  have hn1 : (((Utf8.decode g pos).1 : Int) != 49) = true := by rw [bne_iff_ne]; omega
                  go_wp2_with fail
                  refine (locErr _ _ _).mono ?_
                  rintro e w' ⟨⟨T, a, rfl⟩, hb⟩
                  go_wp2_with fail
                  go_ret
                  refine ⟨resErr (fun hh => ?_), fin0 hb5 (by omega) hb⟩
                  rcases hh with hh | ⟨_, hh⟩
                  · exact HE.out hh
                  · have := hh n hlt
                    rw [← HG.out, HES2.out] at this
                    cases this
              | false =>
                by_cases h126 : (Utf8.decode g pos).1 = 126
                · have hes : esc false ((bs g).drop pos) = esc true ((bs g).drop (pos + (Utf8.decode g pos).2)) := by
                    rw [HES.out]; simp [h126]
                  have HES2 := Lib.hid hes
                  clear hes HES
                  have hb126 : (((Utf8.decode g pos).1 : Int) == 126) = true := by rw [beq_iff_eq]; omega
                  go_wp2_with fail
                  go_roundw
                  case rel => exact HF.out true HES2.out
                  case measure =>
                    rw [iterPos_of (Lib.iterAt_heap wr wo.heap.size g pos _ hit), iterPos_of hit]
                    omega
                · have hes : esc false ((bs g).drop pos) = esc false ((bs g).drop (pos + (Utf8.decode g pos).2)) := by
                    rw [HES.out]; simp [h126]
                  have HES2 := Lib.hid hes
                  clear hes HES
                  have hb126 : (((Utf8.decode g pos).1 : Int) == 126) = false := by rw [beq_eq_false_iff_ne]; omega
                  go_wp2_with fail
                  all_goals first
                    | (exfalso; omega)
                    | (go_roundw
                       case rel => exact HF.out false HES2.out
                       case measure =>
                         rw [iterPos_of (Lib.iterAt_heap wr wo.heap.size g pos _ hit), iterPos_of hit]
                         omega)
            · have hnx : ∀ ty, (Instr.next (.pointer (some ⟨wo.heap.size, 0, none⟩)) true ty).run Try.prog wr = _ := fun ty => Lib.run_next_end_at wr wo.heap.size g pos ty hit hp
              have hend : esc false (bs g) = !e := by
                rw [HS.out, List.drop_of_length_le (by rw [bs_len]; omega)]; rfl
              have HEND := Lib.hid hend
              clear hend
              cases e with
              | true =>
                go_wp2_with fail
                refine (locErr _ _ _).mono ?_
                rintro e w' ⟨⟨T, a, rfl⟩, hb⟩
                go_wp2_with fail
                go_ret
                refine ⟨resErr (fun hh => ?_), fin0 (fin0 hb0 hsz1 HB4) (by have := HB4.size; omega) hb⟩
                rcases hh with hh | ⟨_, hh⟩
                · exact HE.out hh
                · have := hh n hlt
                  rw [← HG.out, HEND.out] at this
                  simp at this
              | false =>
                go_wp2_with fail
                go_roundw
                case rel => exact ⟨n + 1, by omega, by go_num, ⟨fun j hj => by
                  by_cases e : j = n
                  · subst e; rw [← HG.out, HEND.out]; rfl
                  · exact HA.out j (by omega)⟩, ⟨HB4⟩⟩
                case measure => simp [intOf]; omega
        · have hd1 : decide ((n : Int) < (ts.length : Int)) = false := decide_eq_false (by omega)
          go_wp2_with fail
          go_ret
          obtain rfl : n = ts.length := by omega
          exact ⟨resOk (.inr ⟨HP.out, HA.out⟩), hbr⟩
    · have hdp : decide ((bs s).head? = some 47) = false := decide_eq_false hp1
      go_wp2_with fail
      refine (locErr _ _ _).mono ?_
      rintro e w' ⟨⟨T, a, rfl⟩, hb⟩
      go_wp2_with fail
      go_ret
      exact ⟨resErr (fun hh => by rcases hh with hh | hh; exact HE.out hh; exact hp1 hh.1), fin0 (pw_below_drewN (Below.refl _ w) n2) (by simp) hb⟩

theorem valPtr (s : ByteArray) (w : World) (hs : s.size ≤ 1099511627776) : Calls Try.prog 57 #[.iface 9 (.string s)] w fun e w' => Res (ptrOk (bs s)) e ∧ Below w.heap.size w w' := by
  obtain ⟨gs, ⟨K, hK⟩, hg⟩ := Split.zzSplit_ev s ⟨#[47]⟩ 47 (by decide) (by omega)
  have hlt := bs_len s
  have hgl : gs.length = (splitL 47 (bs s)).length := by rw [← hg, List.length_map]
  have hsl := split_length 47 (bs s)
  have hne : 1 ≤ gs.length := by
    have := splitL_ne 47 (bs s)
    rw [hgl]
    exact List.length_pos_iff.2 this
  have hfree : ∀ i, i < gs.length → (47 : UInt8) ∉ bs (gs.getD i ⟨#[]⟩) := by
    intro i hi
    rw [← getD_bs hg]
    exact split_free 47 (bs s) _ (mem_getD.2 ⟨i, by omega, rfl⟩)
  refine (ptr s K gs (gs.drop 1) w rfl (by rw [List.length_drop]; omega) (hK K (Nat.le_refl _)) hne hfree).mono ?_
  rintro e w' ⟨h, hb⟩
  refine ⟨h.congr ?_, hb⟩
  unfold ptrOk
  have hd : (gs.drop 1).map bs = (splitL 47 (bs s)).drop 1 := by rw [List.map_drop, hg]
  rw [all_split hd (fun g => esc false g = true)]

theorem isPtr (s : ByteArray) (w : World) (hs : s.size ≤ 1099511627776) : Calls Try.prog 39 #[.string s] w fun e w' => Says (ptrOk (bs s)) e ∧ Below w.heap.size w w' := by
  go_enter Try.func39, Try.ntmps39
  go_wp2_with fail
  refine (valPtr s _ hs).mono ?_
  rintro e w1 ⟨hr, hb⟩
  rcases hr with ⟨hok, rfl⟩ | ⟨hok, ⟨T, a, rfl⟩⟩
  · go_wp2_with fail
    go_ret
    exact ⟨⟨_, rfl, by simp [hok]⟩, hb⟩
  · go_wp2_with fail
    go_ret
    exact ⟨⟨_, rfl, by simp [hok]⟩, hb⟩

theorem implPtr (s : ByteArray) (w : World) (hs : s.size ≤ 1099511627776) : Calls Try.prog 21 #[.string s] w fun e w' => Says (ptrOk (bs s)) e ∧ Below w.heap.size w w' := by
  go_enter Try.func21, Try.ntmps21
  go_wp2_with fail
  refine (isPtr s _ hs).mono ?_
  rintro e w1 ⟨⟨b, rfl, hb1⟩, hb⟩
  have HB := Lib.hid hb1
  clear hb1
  go_wp2_with fail
  go_ret
  exact ⟨⟨_, rfl, HB.out⟩, hb⟩
end Go.Proofs.Ytdjmjgdafghdgaa.Fmt
