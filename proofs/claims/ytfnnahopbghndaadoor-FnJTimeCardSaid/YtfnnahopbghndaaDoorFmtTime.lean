/- validateTime: what it answers. -/
import Derived.Test.YtfnnahopbghndaaDoorFmtIP4
import Derived.Test.YtfnnahopbghndaaDoorFmtSplitN
import Derived.Test.YtfnnahopbghndaaDoorPCutPrefixx1
import Derived.Deep.DeepCutAuto
import Derived.Outline
namespace Go.Proofs.YtfnnahopbghndaaDoor.Fmt
open Go.RowKit Go.Proofs.YtfnnahopbghndaaDoorW.PrintWords Go.Proofs.YtfnnahopbghndaaDoorW.PrintLast Go.Proofs.YtfnnahopbghndaaDoorW.PrintMore Go.Proofs.YtfnnahopbghndaaDoor.K
set_option linter.unusedVariables false
set_option linter.unusedSimpArgs false

/-- A number as Atoi reads it; none where it is no number or below 0. -/
def numTok (g : List UInt8) : Option Nat := match Lib.atoiAll g with
  | .ok v => if 0 ≤ v then some v.toNat else none
  | _ => none
theorem numTok_some {g : List UInt8} {v : Int} (h : Lib.atoiAll g = .ok v) (h0 : ¬ v < 0) : numTok g = some v.toNat := by
  unfold numTok; rw [h]; simp only; rw [if_pos (by omega)]
theorem numTok_neg {g : List UInt8} {v : Int} (h : Lib.atoiAll g = .ok v) (h0 : v < 0) : numTok g = none := by
  unfold numTok; rw [h]; simp only; rw [if_neg (by omega)]
theorem numTok_none {g : List UInt8} (h : ∀ v, Lib.atoiAll g ≠ .ok v) : numTok g = none := by
  unfold numTok
  cases h' : Lib.atoiAll g with
  | ok v => exact absurd h' (h v)
  | «syntax» => rfl
  | range => rfl
/-- Numbers of pieces. -/
def nums_ (gs : List (List UInt8)) (xs : List Nat) : Prop := gs.map numTok = xs.map some
def fracOf (t r : List UInt8) : Prop := (t.head? ≠ some 46 ∧ r = t) ∨ (t.head? = some 46 ∧ 1 ≤ digs (t.drop 1) ∧ r = (t.drop 1).drop (digs (t.drop 1)))
/-- The minute of the day in UTC, as the code reckons it. -/
def over (x : Int) : Int := if x < 0 then x + 1440 else x
/-- A zone, and the hour and minute behind it. -/
def zoneOf (h m : Nat) (r : List UInt8) (h' m' : Int) : Prop :=
  ((r = [122] ∨ r = [90]) ∧ h' = h ∧ m' = m) ∨
  (r ≠ [122] ∧ r ≠ [90] ∧ r.length = 6 ∧ r[3]? = some 58 ∧ ∃ zh zm : Nat, nums_ (SplitN.toks 58 2 (r.drop 1)) [zh, zm] ∧ zh ≤ 23 ∧ zm ≤ 59 ∧
    ((r.head? = some 43 ∧ h' = over (60 * h + m - (60 * zh + zm)) / 60 ∧ m' = over (60 * h + m - (60 * zh + zm)) % 60) ∨
     (r.head? = some 45 ∧ h' = over (60 * h + m + (60 * zh + zm)) / 60 ∧ m' = over (60 * h + m + (60 * zh + zm)) % 60)))
def timeOk (l : List UInt8) : Prop := 9 ≤ l.length ∧ l[2]? = some 58 ∧ l[5]? = some 58 ∧ ∃ h m sec : Nat, nums_ (SplitN.toks 58 3 (l.take 8)) [h, m, sec] ∧ h ≤ 23 ∧ m ≤ 59 ∧ sec ≤ 60 ∧
  ∃ r, fracOf (l.drop 8) r ∧ ∃ h' m', zoneOf h m r h' m' ∧ ¬ (60 ≤ sec ∧ (h' ≠ 23 ∨ m' ≠ 59))
theorem toks_le (c : UInt8) (n : Nat) : ∀ (l : List UInt8) (g : List UInt8), g ∈ SplitN.toks c n l → g.length ≤ l.length := by
  induction n with
  | zero => intro l g hg; simp [SplitN.toks] at hg; subst hg; exact Nat.le_refl _
  | succ n ih =>
    intro l g hg
    cases n with
    | zero => simp [SplitN.toks] at hg; subst hg; exact Nat.le_refl _
    | succ n =>
      simp only [SplitN.toks] at hg
      split at hg
      · simp at hg; subst hg; exact Nat.le_refl _
      · rcases List.mem_cons.1 hg with rfl | hg
        · rw [List.length_take]; omega
        · have := ih _ _ hg
          rw [List.length_drop] at this
          omega
theorem toks_len (c : UInt8) (n : Nat) : ∀ l : List UInt8, (SplitN.toks c n l).length ≤ max n 1 := by
  induction n with
  | zero => intro l; simp [SplitN.toks]
  | succ n ih =>
    intro l
    cases n with
    | zero => simp [SplitN.toks]
    | succ n =>
      simp only [SplitN.toks]
      split
      · simp
      · have := ih (l.drop ((idx1 c l).toNat + 1))
        simp only [List.length_cons]
        omega
theorem cutPre (s c : ByteArray) (x : UInt8) (hc : bs c = [x]) : ∃ r, PCutPrefix.strings_CutPrefix.f s c = some (r, decide ((bs s).head? = some x)) ∧ (bs r = if (bs s).head? = some x then (bs s).drop 1 else bs s) ∧ r.size ≤ s.size := by
  have hcs : c.size = 1 := by rw [← bs_len, hc]; rfl
  have hl := bs_len s
  have hp : PCutPrefix.stringslite_HasPrefix.f s c = some (decide ((bs s).head? = some x)) := by
    unfold PCutPrefix.stringslite_HasPrefix.f
    rw [hcs]
    by_cases h : (s.size : Int) ≥ ((1 : Nat) : Int)
    · rw [if_pos h, if_pos (by omega), if_pos (by omega)]
      congr 1
      rw [Bool.eq_iff_iff, beq_iff_eq, decide_eq_true_eq, toList_inj, hc]
      simp only [Int.toNat_natCast, bs_take]
      cases hb : bs s with
      | nil => rw [hb] at hl; simp at hl; omega
      | cons a l => simp
    · rw [if_neg h]
      congr 1
      have : bs s = [] := by apply List.eq_nil_of_length_eq_zero; omega
      rw [this]; simp
  unfold PCutPrefix.strings_CutPrefix.f PCutPrefix.stringslite_CutPrefix.f
  rw [hp, hcs]
  simp only [Option.bind_some, decide_eq_true_eq]
  by_cases h : (bs s).head? = some x
  · have h1 : 1 ≤ s.size := by
      rw [← hl]
      cases hb : bs s with
      | nil => rw [hb] at h; simp at h
      | cons a l => simp
    rw [if_pos h, if_pos (by omega), if_pos (by omega), if_pos h]
    refine ⟨s.extract 1 s.size, by simp [h], by rw [bs_drop], by rw [ByteArray.size_extract]; omega⟩
  · rw [if_neg h, if_neg h]
    exact ⟨s, by simp [h], rfl, Nat.le_refl _⟩
theorem nums_inj {gs : List (List UInt8)} {xs ys : List Nat} (h1 : nums_ gs xs) (h2 : nums_ gs ys) : xs = ys := by
  unfold nums_ at h1 h2
  rw [h1] at h2
  exact List.map_inj_right (fun a b h => by injection h) |>.1 h2
theorem frac_inj {t a b : List UInt8} (h1 : fracOf t a) (h2 : fracOf t b) : a = b := by
  rcases h1 with ⟨h, rfl⟩ | ⟨h, _, rfl⟩
  · rcases h2 with ⟨_, rfl⟩ | ⟨k, _⟩
    · rfl
    · exact absurd k h
  · rcases h2 with ⟨k, _⟩ | ⟨_, _, rfl⟩
    · exact absurd h k
    · rfl
theorem zone_inj {h m : Nat} {r : List UInt8} {a b c d : Int} (h1 : zoneOf h m r a b) (h2 : zoneOf h m r c d) : a = c ∧ b = d := by
  rcases h1 with ⟨h, rfl, rfl⟩ | ⟨n1, n2, l6, l3, zh, zm, hn, z1, z2, hh⟩
  · rcases h2 with ⟨_, rfl, rfl⟩ | ⟨k1, k2, _⟩
    · exact ⟨rfl, rfl⟩
    · rcases h with h | h
      · exact absurd h k1
      · exact absurd h k2
  · rcases h2 with ⟨k, _, _⟩ | ⟨_, _, _, _, zh', zm', hn', _, _, hh'⟩
    · rcases k with k | k
      · exact absurd k n1
      · exact absurd k n2
    · have := nums_inj hn hn'
      simp at this
      obtain ⟨rfl, rfl⟩ := this
      rcases hh with ⟨e1, rfl, rfl⟩ | ⟨e1, rfl, rfl⟩
      · rcases hh' with ⟨_, rfl, rfl⟩ | ⟨e2, _⟩
        · exact ⟨rfl, rfl⟩
        · rw [e1] at e2; cases e2
      · rcases hh' with ⟨e2, _⟩ | ⟨_, rfl, rfl⟩
        · rw [e1] at e2; cases e2
        · exact ⟨rfl, rfl⟩
/-- What is left to be asked once the clock is read and the fraction is passed. -/
theorem time_rest {l r : List UInt8} {h m sec : Nat} (h9 : 9 ≤ l.length) (h2 : l[2]? = some 58) (h5 : l[5]? = some 58) (hn : nums_ (SplitN.toks 58 3 (l.take 8)) [h, m, sec]) (a1 : h ≤ 23) (a2 : m ≤ 59) (a3 : sec ≤ 60) (hf : fracOf (l.drop 8) r) :
    timeOk l ↔ ∃ h' m', zoneOf h m r h' m' ∧ ¬ (60 ≤ sec ∧ (h' ≠ 23 ∨ m' ≠ 59)) := by
  unfold timeOk
  constructor
  · rintro ⟨_, _, _, h', m', sec', hn', _, _, _, r', hf', hz⟩
    have := nums_inj hn hn'
    simp at this
    obtain ⟨rfl, rfl, rfl⟩ := this
    obtain rfl := frac_inj hf hf'
    exact hz
  · intro hz
    exact ⟨h9, h2, h5, h, m, sec, hn, a1, a2, a3, r, hf, hz⟩
theorem toks_two (l : List UInt8) (h : l[2]? = some 58) : (SplitN.toks 58 2 l).length = 2 := by
  have hm : 58 ∈ l := List.mem_of_getElem? h
  have : ¬ idx1 58 l < 0 := fun k => idx1_neg.1 k hm
  simp only [SplitN.toks]
  rw [if_neg this]
  rfl
theorem time_finz {l r : List UInt8} {h m sec : Nat} (hrest : timeOk l ↔ ∃ h' m', zoneOf h m r h' m' ∧ ¬ (60 ≤ sec ∧ (h' ≠ 23 ∨ m' ≠ 59))) (hr : r = [122] ∨ r = [90]) : timeOk l ↔ ¬ (60 ≤ sec ∧ (h ≠ 23 ∨ m ≠ 59)) := by
  have hz : zoneOf h m r h m := .inl ⟨hr, rfl, rfl⟩
  rw [hrest]
  constructor
  · rintro ⟨a, b, hz', k⟩
    obtain ⟨rfl, rfl⟩ := zone_inj hz' hz
    omega
  · intro k
    exact ⟨_, _, hz, by omega⟩
theorem time_fin43 {l r : List UInt8} {h m sec zh zm : Nat} (hrest : timeOk l ↔ ∃ h' m', zoneOf h m r h' m' ∧ ¬ (60 ≤ sec ∧ (h' ≠ 23 ∨ m' ≠ 59))) (n1 : r ≠ [122]) (n2 : r ≠ [90]) (h6 : r.length = 6) (h58 : r[3]? = some 58)
    (hn : nums_ (SplitN.toks 58 2 (r.drop 1)) [zh, zm]) (hd : r.head? = some 43) :
    (zh ≤ 23 ∧ zm ≤ 59 → (timeOk l ↔ ¬ (60 ≤ sec ∧ (over (60 * h + m - (60 * zh + zm)) / 60 ≠ 23 ∨ over (60 * h + m - (60 * zh + zm)) % 60 ≠ 59)))) ∧ (¬ (zh ≤ 23 ∧ zm ≤ 59) → ¬ timeOk l) := by
  rw [hrest]
  constructor
  · rintro ⟨z1, z2⟩
    have hz : zoneOf h m r (over (60 * h + m - (60 * zh + zm)) / 60) (over (60 * h + m - (60 * zh + zm)) % 60) := .inr ⟨n1, n2, h6, h58, zh, zm, hn, z1, z2, .inl ⟨hd, rfl, rfl⟩⟩
    constructor
    · rintro ⟨a, b, hz', k⟩
      obtain ⟨rfl, rfl⟩ := zone_inj hz' hz
      exact k
    · intro k; exact ⟨_, _, hz, k⟩
  · rintro hbad ⟨a, b, hz, _⟩
    rcases hz with ⟨hz | hz, _⟩ | ⟨_, _, _, _, zh', zm', hn', z1, z2, _⟩
    · exact n1 hz
    · exact n2 hz
    · have := nums_inj hn hn'
      simp at this
      omega
theorem time_fin45 {l r : List UInt8} {h m sec zh zm : Nat} (hrest : timeOk l ↔ ∃ h' m', zoneOf h m r h' m' ∧ ¬ (60 ≤ sec ∧ (h' ≠ 23 ∨ m' ≠ 59))) (n1 : r ≠ [122]) (n2 : r ≠ [90]) (h6 : r.length = 6) (h58 : r[3]? = some 58)
    (hn : nums_ (SplitN.toks 58 2 (r.drop 1)) [zh, zm]) (hd : r.head? = some 45) :
    (zh ≤ 23 ∧ zm ≤ 59 → (timeOk l ↔ ¬ (60 ≤ sec ∧ (over (60 * h + m + (60 * zh + zm)) / 60 ≠ 23 ∨ over (60 * h + m + (60 * zh + zm)) % 60 ≠ 59)))) ∧ (¬ (zh ≤ 23 ∧ zm ≤ 59) → ¬ timeOk l) := by
  rw [hrest]
  constructor
  · rintro ⟨z1, z2⟩
    have hz : zoneOf h m r (over (60 * h + m + (60 * zh + zm)) / 60) (over (60 * h + m + (60 * zh + zm)) % 60) := .inr ⟨n1, n2, h6, h58, zh, zm, hn, z1, z2, .inr ⟨hd, rfl, rfl⟩⟩
    constructor
    · rintro ⟨a, b, hz', k⟩
      obtain ⟨rfl, rfl⟩ := zone_inj hz' hz
      exact k
    · intro k; exact ⟨_, _, hz, k⟩
  · rintro hbad ⟨a, b, hz, _⟩
    rcases hz with ⟨hz | hz, _⟩ | ⟨_, _, _, _, zh', zm', hn', z1, z2, _⟩
    · exact n1 hz
    · exact n2 hz
    · have := nums_inj hn hn'
      simp at this
      omega
theorem infoInt : (Tryd.prog.info? 3).map (fun i => (i.zero, i.size, i.bytes)) = some (some (.int .i64 0), 1, 8) := by kernel_rfl

set_option maxHeartbeats 8000000 in
set_option maxRecDepth 100000 in
theorem valTime (s : ByteArray) (w : World) (hs : s.size ≤ 4294967296) (hk : Kept w) :
    Calls Tryd.prog 40 #[.iface 9 (.string s)] w fun e w' => Res (timeOk (bs s)) e ∧ Below w.heap.size w w' := by
  have hta := asStr s
  have hl := bs_len s
  have HL := Lib.hid hl
  have HK := Lib.hid hk
  clear hl hk
  by_cases h9 : 9 ≤ s.size
  case neg =>
    go_enter Tryd.func40, Tryd.ntmps40
    go_wp2_with fail
    refine (locErr _ _ _).mono ?_
    rintro e w' ⟨⟨T, a, rfl⟩, hb⟩
    go_wp2_with fail
    go_ret
    exact ⟨resErr (fun hh => h9 (by rw [← HL.out]; exact hh.1)), hb⟩
  have h2 : 2 < s.size := by omega
  have h5 : 5 < s.size := by omega
  by_cases hc2 : (s[2]'h2).toNat = 58
  case neg =>
    have hb : (((s[2]'h2).toNat : Int) != 58) = true := by rw [bne_iff_ne]; omega
    have HC := Lib.hid hc2
    clear hc2
    go_enter Tryd.func40, Tryd.ntmps40
    go_wp2_with fail
    refine (locErr _ _ _).mono ?_
    rintro e w' ⟨⟨T, a, rfl⟩, hb⟩
    go_wp2_with fail
    go_ret
    refine ⟨resErr (fun hh => HC.out ?_), hb⟩
    have := hh.2.1
    rw [List.getElem?_eq_getElem (by rw [HL.out]; exact h2), bs_at s 2 h2 (by rw [HL.out]; exact h2)] at this
    rw [Option.some.inj this]; rfl
  have hb2 : (((s[2]'h2).toNat : Int) != 58) = false := by rw [bne_eq_false_iff_eq]; omega
  by_cases hc5 : (s[5]'h5).toNat = 58
  case neg =>
    have hb : (((s[5]'h5).toNat : Int) != 58) = true := by rw [bne_iff_ne]; omega
    have HC := Lib.hid hc5
    clear hc5 hc2
    go_enter Tryd.func40, Tryd.ntmps40
    go_wp2_with fail
    refine (locErr _ _ _).mono ?_
    rintro e w' ⟨⟨T, a, rfl⟩, hb⟩
    go_wp2_with fail
    go_ret
    refine ⟨resErr (fun hh => HC.out ?_), hb⟩
    have := hh.2.2.1
    rw [List.getElem?_eq_getElem (by rw [HL.out]; exact h5), bs_at s 5 h5 (by rw [HL.out]; exact h5)] at this
    rw [Option.some.inj this]; rfl
  have hb5 : (((s[5]'h5).toNat : Int) != 58) = false := by rw [bne_eq_false_iff_eq]; omega
  have hl2 : (bs s)[2]? = some 58 := by
    rw [List.getElem?_eq_getElem (by rw [HL.out]; exact h2), bs_at s 2 h2 (by rw [HL.out]; exact h2)]; congr 1; exact UInt8.toNat_inj.1 hc2
  have hl5 : (bs s)[5]? = some 58 := by
    rw [List.getElem?_eq_getElem (by rw [HL.out]; exact h5), bs_at s 5 h5 (by rw [HL.out]; exact h5)]; congr 1; exact UInt8.toNat_inj.1 hc5
  obtain ⟨gs, ⟨K1, hK1⟩, hgs⟩ := SplitN.splitN_ev (s.extract 0 8) ⟨#[58]⟩ 58 (by decide) 3 (by omega) (by rw [ByteArray.size_extract]; omega)
  rw [bs_take] at hgs
  have HK1 := Lib.hid (hK1 K1 (Nat.le_refl _))
  have HGS := Lib.hid hgs
  have HL2 := Lib.hid hl2
  have HL5 := Lib.hid hl5
  clear hK1 hgs hl2 hl5 hc2 hc5
  go_enter Tryd.func40, Tryd.ntmps40
  go_wp2_with fail
  refine (PzzSplitN.jsonschema_zzSplitN.calls K1 (s.extract 0 8) ⟨#[58]⟩ 3 gs _ HK1.out).mono ?_
  rintro e w1 ⟨v, rfl, hR, hb⟩
  obtain ⟨A, c, rfl, hlc, hC⟩ := Kd.R_reads hR
  have hsz1 : w.heap.size ≤ w1.heap.size := hb.size
  have HC := Lib.hid hC
  clear hR hta hC hb2 hb5
  have hgl : ∀ i, i < gs.length → (gs.getD i ⟨#[]⟩).size ≤ 2147483647 := by
    intro i hi
    have hm : bs (gs.getD i ⟨#[]⟩) ∈ SplitN.toks 58 3 ((bs s).take 8) := by
      rw [← getD_bs HGS.out]
      exact mem_getD.2 ⟨i, by rw [← HGS.out, List.length_map]; exact hi, rfl⟩
    have h1 := toks_le 58 3 _ _ hm
    rw [bs_len, List.length_take] at h1
    omega
  have hg3 : gs.length ≤ 3 := by
    have := toks_len 58 3 ((bs s).take 8)
    rw [← HGS.out, List.length_map] at this
    omega
  have HGL := Lib.hid hgl
  clear hgl
  go_wp2_with fail
  go_loopw [5, 51] (fun hv iv wi => ∃ (n : Nat) (ys : List Int), n ≤ gs.length ∧ iv = .int .i64 n ∧ ys.length = n ∧ Aside0 (∃ xs : List Nat, ys = xs.map Int.ofNat ∧ (gs.take n).map (fun g => numTok (bs g)) = xs.map some) ∧ Aside0 (wi.ownsRow w1.heap.size 3 1 hv ys.length (nums .i64 ys)) ∧ Aside0 (Below w1.heap.size w1 wi)) (fun _ iv _ => gs.length - (intOf iv).toNat)
  case atStart => exact ⟨0, [], by omega, rfl, rfl, ⟨[], rfl, rfl⟩, ⟨own_nil _ _ _ _⟩, ⟨Below.refl _ _⟩⟩
  case round =>
    obtain ⟨n, ys, hn, rfl, hys, HX, HO, HB1⟩ := hrel
    have HB : Aside0 (Below w.heap.size w wr) := ⟨fin0 hb hsz1 HB1.out⟩
    have hszr : w.heap.size ≤ wr.heap.size := HB.out.size
    have HKr := Lib.hid (HK.out.below HB.out)
    by_cases hlt : n < gs.length
    · have hd1 : decide ((n : Int) < (gs.length : Int)) = true := decide_eq_true (by omega)
      obtain ⟨ad, rfl, hcell⟩ := str_at HC.out HB1.out n hlt
      obtain ⟨g, hg⟩ : ∃ g, g = gs.getD n ⟨#[]⟩ := ⟨_, rfl⟩
      have hgsz : g.size ≤ 2147483647 := by rw [hg]; exact HGL.out n hlt
      rw [← hg] at hcell
      have hbad : numTok (bs g) = none → ¬ timeOk (bs s) := by
        rintro hnone ⟨_, _, _, h, m, sec, hnum, _⟩
        unfold nums_ at hnum
        rw [← HGS.out] at hnum
        have := congrArg (fun l => l[n]?) hnum
        simp only [List.getElem?_map, List.getElem?_eq_getElem hlt, Option.map_some] at this
        have e : gs[n] = g := by rw [hg, List.getD_eq_getElem?_getD, List.getElem?_eq_getElem hlt]; rfl
        rw [e, hnone] at this
        cases hh : ([h, m, sec][n]?) with
        | none => rw [hh] at this; cases this
        | some q => rw [hh] at this; cases this
      have htake : ∀ v : Nat, numTok (bs g) = some v → (gs.take (n + 1)).map (fun g => numTok (bs g)) = (gs.take n).map (fun g => numTok (bs g)) ++ [some v] := by
        intro v hv
        rw [List.take_succ_eq_append_getElem hlt, List.map_append]
        have e : gs[n] = g := by rw [hg, List.getD_eq_getElem?_getD, List.getElem?_eq_getElem hlt]; rfl
        rw [e]; simp [hv]
      have HBAD := Lib.hid hbad
      have HTK := Lib.hid htake
      clear hg hbad htake
      go_wp2_with fail
      refine (atoiW g _ hgsz HKr.out).mono ?_
      rintro e w2 ⟨hsay, hb2⟩
      have hbr2 : Below w.heap.size w w2 := fin0 HB.out hszr hb2
      have hsz2 : w.heap.size ≤ w2.heap.size := hbr2.size
      have HB2 : Aside0 (Below w1.heap.size w1 w2) := ⟨fin0 HB1.out HB1.out.size hb2⟩
      have HO2 := Lib.hid (pw_own_below HO.out hb2)
      clear hb2
      rcases hsay with ⟨v, hv, rfl⟩ | ⟨hv, m, T, a, rfl⟩
      · by_cases hv0 : v < 0
        · have HV := Lib.hid (numTok_neg hv hv0)
          clear hv
          go_wp2_with fail
          refine (locErr _ _ _).mono ?_
          rintro e w' ⟨⟨T, a, rfl⟩, hb3⟩
          go_wp2_with fail
          go_ret
          exact ⟨resErr (HBAD.out HV.out), fin0 hbr2 hsz2 hb3⟩
        · have HV := Lib.hid (numTok_some hv hv0)
          clear hv
          have hbl : (ys.length + 1) * 8 ≤ 140737488355328 := by omega
          go_wp2_with (at_builtin; refine print_append_num (w0 := w1) w1.heap.size rfl _ _ 47 3 .i64 8 rfl Tryd.underlying47 infoInt (by decide) u5 ys v rfl rfl HO2.out HB2.out HB2.out.size hbl ?_)
          intro v3 w3 hown3 hb3 hgr3 _
          have HO3 := Aside0.mk hown3
          clear hown3 hgr3
          go_wp2_with fail
          go_roundw
          case rel =>
            refine ⟨n + 1, ys ++ [v], by omega, by go_num, by simp [hys], ?_, ⟨by have := HO3.out; simpa [hys] using this⟩, ⟨hb3⟩⟩
            obtain ⟨xs, hxs, hmap⟩ := HX.out
            refine ⟨xs ++ [v.toNat], ?_, ?_⟩
            · rw [hxs, List.map_append]; congr 1; simp; omega
            · rw [HTK.out _ HV.out, hmap, List.map_append]; rfl
          case measure => simp [intOf]; omega
      · have HV := Lib.hid (numTok_none hv)
        clear hv
        go_wp2_with fail
        refine (locErr _ _ _).mono ?_
        rintro e w' ⟨⟨T, a, rfl⟩, hb3⟩
        go_wp2_with fail
        go_ret
        exact ⟨resErr (HBAD.out HV.out), fin0 hbr2 hsz2 hb3⟩
    · have hd1 : decide ((n : Int) < (gs.length : Int)) = false := decide_eq_false (by omega)
      obtain rfl : n = gs.length := by omega
      obtain ⟨A2, c2, rfl⟩ := own_slice HO.out
      have hbx := HB.out
      by_cases h3 : gs.length = 3
      case neg =>
        have h3b : ((gs.length : Int) != 3) = true := by rw [bne_iff_ne]; omega
        have H3 := Lib.hid h3
        clear h3
        have hbad : ¬ timeOk (bs s) := by
          rintro ⟨_, _, _, h, m, sec, hnum, _⟩
          unfold nums_ at hnum
          rw [← HGS.out] at hnum
          have := congrArg List.length hnum
          simp at this
          exact H3.out this
        go_wp2_with fail
        refine (locErr _ _ _).mono ?_
        rintro e w' ⟨⟨T, a, rfl⟩, hb3⟩
        go_wp2_with fail
        go_ret
        exact ⟨resErr hbad, fin0 hbx hszr hb3⟩
      have h3b : ((gs.length : Int) != 3) = false := by rw [bne_eq_false_iff_eq]; omega
      obtain ⟨h, m, sec, hyy, hmap⟩ : ∃ h m sec : Nat, ys = [(h : Int), (m : Int), (sec : Int)] ∧ nums_ (SplitN.toks 58 3 ((bs s).take 8)) [h, m, sec] := by
        obtain ⟨xs, hx, hm⟩ := HX.out
        have hl3 : xs.length = 3 := by rw [← h3, ← hys, hx, List.length_map]
        rw [List.take_length] at hm
        match xs, hl3 with
        | [a, b, c], _ =>
          refine ⟨a, b, c, hx, ?_⟩
          unfold nums_
          rw [← HGS.out, List.map_map]
          exact hm
      have hy3b : ((ys.length : Int) != 3) = false := by rw [bne_eq_false_iff_eq]; omega
      have p0 : 0 < ys.length := by omega
      have p1 : 1 < ys.length := by omega
      have p2 : 2 < ys.length := by omega
      have q0 : (0 : Int) < (ys.length : Int) := by omega
      have q1 : (1 : Int) < (ys.length : Int) := by omega
      have q2 : (2 : Int) < (ys.length : Int) := by omega
      obtain ⟨gb, cap2, hval, _, _⟩ := HO.out.form p0
      injection hval with hv1 hv2 hv3
      subst hv1
      have k0 := (own_at HO.out 0 (by decide) q0).1
      have k1 := (own_at HO.out 1 (by decide) q1).1
      have k2 := (own_at HO.out 2 (by decide) q2).1
      rw [show rd ys 0 = (h : Int) by rw [hyy]; rfl] at k0
      rw [show rd ys 1 = (m : Int) by rw [hyy]; rfl] at k1
      rw [show rd ys 2 = (sec : Int) by rw [hyy]; rfl] at k2
      have c0 : wr.cell? ⟨gb, 0, none⟩ = some (.int .i64 (h : Int)) := k0
      have c1 : wr.cell? ⟨gb, 1, none⟩ = some (.int .i64 (m : Int)) := k1
      have c2' : wr.cell? ⟨gb, 2, none⟩ = some (.int .i64 (sec : Int)) := k2
      have HMAP := Lib.hid hmap
      clear hmap k0 k1 k2 HO HX h3 hys hlt hyy
      go_wp2_with fail
      go_quiet (fail)
      have hbq := pw_below_drewN hbx nq
      by_cases hrange : h ≤ 23 ∧ m ≤ 59 ∧ sec ≤ 60
      case neg =>
        have HR := Lib.hid hrange
        have hcs : 23 < h ∨ (h ≤ 23 ∧ 59 < m) ∨ (h ≤ 23 ∧ m ≤ 59 ∧ 60 < sec) := by omega
        have hbad : ¬ timeOk (bs s) := by
          rintro ⟨_, _, _, h', m', sec', hnum, k1, k2, k3, _⟩
          have := HMAP.out
          unfold nums_ at this hnum
          rw [hnum] at this
          simp at this
          omega
        have HBAD := Lib.hid hbad
        clear hrange hbad
        rcases hcs with h1 | ⟨h1, h2⟩ | ⟨h1, h2, h3⟩
        all_goals
          go_wp2_with fail
          refine (locErr _ _ _).mono ?_
          rintro e w' ⟨⟨T, a, rfl⟩, hb3⟩
          go_wp2_with fail
          go_ret
          exact ⟨resErr HBAD.out, fin0 hbq hbq.size hb3⟩
      obtain ⟨hh23, hm59, hs60⟩ := hrange
      generalize wr.drewN nq = wa at *
      clear hy3b q0 q1 q2 p0 p1 p2 c0 c1 c2' hb HC
      have hl8 := bs_drop s 8
      obtain ⟨t8, ht8⟩ : ∃ t8, t8 = s.extract 8 s.size := ⟨_, rfl⟩
      rw [← ht8] at hl8
      have ht8s : t8.size ≤ 4294967296 := by rw [ht8, ByteArray.size_extract]; omega
      obtain ⟨s1, hs1, hb1, hl1⟩ := cutPre t8 ⟨#[46]⟩ 46 (by decide)
      obtain ⟨q, hq⟩ : ∃ q : Bool, decide ((bs t8).head? = some 46) = q := ⟨_, rfl⟩
      rw [hq] at hs1
      have HQ := Lib.hid hq
      have HS1 := Lib.hid hs1
      have HB1' := Lib.hid hb1
      have HT8 := Lib.hid hl8
      have HE8 := Lib.hid ht8
      have hbq' := hbq
      clear hq hs1 hb1 hl8 ht8 hbx HB HB1 HKr hd1 hn h3b
      go_wp2_with fail
      rw [← HE8.out]
      refine (PCutPrefix.strings_CutPrefix.calls t8 ⟨#[46]⟩ s1 _ _ HS1.out).mono ?_
      rintro e wx ⟨rfl, ⟨n0, rfl⟩⟩
      have hbq := pw_below_drewN hbq n0
      generalize wa.drewN n0 = wb at *
      clear hbq' HGL
      go_upto_if 102 with fail
      go_cut [3] (fun v wc => ∃ r : ByteArray, v = .string r ∧ r.size ≤ 4294967296 ∧ Aside0 (fracOf (bs t8) (bs r)) ∧ Aside0 (Below w.heap.size w wc))
      case first =>
        cases q with
        | false =>
          have HD := Lib.hid (of_decide_eq_false HQ.out)
          go_wp2_with fail
          go_meet
          exact ⟨t8, rfl, ht8s, ⟨.inl ⟨HD.out, rfl⟩⟩, ⟨hbq⟩⟩
        | true =>
        have hdot := of_decide_eq_true HQ.out
        have hb1 := HB1'.out
        rw [if_pos hdot] at hb1
        have hs1l : s1.size ≤ 4294967296 := by omega
        have H46 := Lib.hid hdot
        have HB1' := Lib.hid hb1
        obtain ⟨d, hd⟩ : ∃ d, digs (bs s1) = d := ⟨_, rfl⟩
        have hl' := bs_len s1
        have hdl : d ≤ s1.size := by rw [← hd, ← hl']; exact digs_le _
        have HD := Lib.hid hd
        clear hd hl' hdot hb1
        have hsz6 := hbq.size
        go_upto_block 2 with fail
        go_cut [15] (fun v wc => v = .int .i64 d ∧ Aside0 (Below w.heap.size w wc))
        case first =>
          obtain ⟨wo, rfl⟩ : ∃ wo : World, wo = wb := ⟨_, rfl⟩
          go_wp2_with fail
          go_loopw [15] (fun nv wi => ∃ m : Nat, nv = .int .i64 m ∧ m ≤ s1.size ∧ wi.heap[wo.heap.size]? = some (.stringIter s1 m) ∧ Aside0 (Sofar digB s1 m) ∧ Aside0 (Below w.heap.size w wi)) (fun _ wi => s1.size - wi.iterPos wo.heap.size)
          case atStart => exact ⟨0, rfl, by omega, World.iter_heap wo s1 0, ⟨Sofar.zero _ _⟩, ⟨hbq.alloc hsz6 _⟩⟩
          case round =>
            obtain ⟨m2, rfl, hml, hit, HS, HB7⟩ := hrel
            by_cases hp : m2 < s1.size
            · have hnx : ∀ ty, (Instr.next (.pointer (some ⟨wo.heap.size, 0, none⟩)) true ty).run Tryd.prog wr = _ := fun ty => Lib.run_next_any_at wr wo.heap.size s1 m2 ty hit hp
              have hB5 : Below w.heap.size w (wr.iterAt wo.heap.size s1 (m2 + (Utf8.decode s1 m2).2)) := Lib.below_iterAt HB7.out hsz6 s1 _
              by_cases hr : digR (Utf8.decode s1 m2).1
              · obtain ⟨h1, h2⟩ := digK.step hp hr HS.out
                have hr2 : 48 ≤ (Utf8.decode s1 m2).1 ∧ (Utf8.decode s1 m2).1 ≤ 57 := hr
                have H1 := Lib.hid h1
                have H2 := Lib.hid h2
                clear h1 h2 hr
                go_wp2_with fail
                go_roundw
                case rel =>
                  have := Lib.iterAt_heap wr wo.heap.size s1 m2 (m2 + (Utf8.decode s1 m2).2) hit
                  have h2 := H2.out
                  rw [H1.out] at this h2
                  exact ⟨m2 + 1, by go_num, by omega, by rw [H1.out]; exact this, ⟨h2⟩, ⟨hB5⟩⟩
                case measure =>
                  rw [iterPos_of (Lib.iterAt_heap wr wo.heap.size s1 m2 _ hit), iterPos_of hit, H1.out]
                  omega
              · obtain rfl : d = m2 := by rw [← HD.out]; exact digs_stop HS.out hml (.inr ⟨hp, dig_stop hp hr⟩)
                have hr2 : ¬ (48 ≤ (Utf8.decode s1 d).1 ∧ (Utf8.decode s1 d).1 ≤ 57) := hr
                have hr3 : (Utf8.decode s1 d).1 < 48 ∨ 57 < (Utf8.decode s1 d).1 := by omega
                clear hr2
                rcases hr3 with hr3 | hr3
                all_goals
                  go_wp2_with fail
                  go_meet
                  exact ⟨rfl, ⟨hB5⟩⟩
            · obtain rfl : d = m2 := by rw [← HD.out]; exact digs_stop HS.out hml (.inl (by omega))
              have hnx : ∀ ty, (Instr.next (.pointer (some ⟨wo.heap.size, 0, none⟩)) true ty).run Tryd.prog wr = _ := fun ty => Lib.run_next_end_at wr wo.heap.size s1 d ty hit hp
              go_wp2_with fail
              go_meet
              exact ⟨rfl, HB7⟩
        case rest =>
          obtain ⟨rfl, HBC⟩ := hcut
          have hbc := HBC.out
          by_cases hd0 : d = 0
          · have hz : ((d : Int) == 0) = true := by rw [beq_iff_eq]; omega
            have HD00 := Lib.hid hd0
            have hbad : ¬ timeOk (bs s) := by
              rintro ⟨_, _, _, h', m', sec', _, _, _, _, r, hfr, _⟩
              rw [← HT8.out] at hfr
              rcases hfr with ⟨h1, _⟩ | ⟨_, h2, _⟩
              · exact h1 H46.out
              · rw [← HB1'.out, HD.out] at h2; omega
            have HBAD := Lib.hid hbad
            clear hd0 hbad
            go_wp2_with fail
            refine (locErr _ _ _).mono ?_
            rintro e w' ⟨⟨T, a, rfl⟩, hb⟩
            go_wp2_with fail
            go_ret
            exact ⟨resErr HBAD.out, fin0 hbc hbc.size hb⟩
          have hz : ((d : Int) == 0) = false := by rw [beq_eq_false_iff_ne]; omega
          go_wp2_with fail
          go_meet
          refine ⟨s1.extract d s1.size, rfl, by rw [ByteArray.size_extract]; omega, ⟨.inr ⟨H46.out, ?_, ?_⟩⟩, HBC⟩
          · rw [← HB1'.out, HD.out]; omega
          · rw [bs_drop, ← HB1'.out, HD.out]
      case rest =>
        obtain ⟨r, rfl, hrs, HFR, HBC⟩ := hcut
        have hrest := time_rest (by rw [HL.out]; exact h9) HL2.out HL5.out HMAP.out hh23 hm59 hs60 (by rw [← HT8.out]; exact HFR.out)
        have HREST := Lib.hid hrest
        have hbc := HBC.out
        have hKc := HK.out.below HBC.out
        have HKc := Lib.hid hKc
        have hrl := bs_len r
        have HRL := Lib.hid hrl
        have htl : r.toList = bs r := by rw [ByteArray.toList_eq, bs_data]
        clear hrest HFR HBC hKc hrl
        have hcases : (bs r = [122] ∧ (r.toList == [122]) = true) ∨ (bs r = [90] ∧ (r.toList == [122]) = false ∧ (r.toList == [90]) = true) ∨ (bs r ≠ [122] ∧ bs r ≠ [90] ∧ (r.toList == [122]) = false ∧ (r.toList == [90]) = false) := by
          rw [htl]
          by_cases k1 : bs r = [122]
          · exact .inl ⟨k1, by rw [k1]; rfl⟩
          · by_cases k2 : bs r = [90]
            · exact .inr (.inl ⟨k2, by rw [k2]; rfl, by rw [k2]; rfl⟩)
            · exact .inr (.inr ⟨k1, k2, beq_eq_false_iff_ne.2 k1, beq_eq_false_iff_ne.2 k2⟩)
        clear htl
        rcases hcases with ⟨hr1, hr2⟩ | ⟨hr1, hr2, hr3⟩ | ⟨hr0, hr1, hr2, hr3⟩
        case inr.inr =>
          have HR0 := Lib.hid hr0
          have HR1 := Lib.hid hr1
          clear hr0 hr1
          by_cases h6 : r.size = 6
          case neg =>
            have h6b : ((r.size : Int) != 6) = true := by rw [bne_iff_ne]; omega
            have hbad : ¬ timeOk (bs s) := by
              rw [HREST.out]
              rintro ⟨a, b, hz, _⟩
              rcases hz with ⟨hz | hz, _⟩ | ⟨_, _, k, _⟩
              · exact HR0.out hz
              · exact HR1.out hz
              · rw [HRL.out] at k; exact h6 k
            have HBAD := Lib.hid hbad
            clear hbad h6
            go_wp2_with fail
            refine (locErr _ _ _).mono ?_
            rintro e w' ⟨⟨T, a, rfl⟩, hb⟩
            go_wp2_with fail
            go_ret
            exact ⟨resErr HBAD.out, fin0 hbc hbc.size hb⟩
          have h6b : ((r.size : Int) != 6) = false := by rw [bne_eq_false_iff_eq]; omega
          have hr00 : 0 < r.size := by omega
          have hx2 : 2 < (r.extract 1 6).size := by rw [ByteArray.size_extract]; omega
          have hxl := bs_len (r.extract 1 6)
          have hbx : bs (r.extract 1 6) = (bs r).drop 1 := by rw [bs_extract, List.take_of_length_le (by rw [HRL.out]; omega)]
          have h3e : (bs r)[3]? = some ((r.extract 1 6)[2]'hx2) := by
            have : (bs (r.extract 1 6))[2]? = some ((r.extract 1 6)[2]'hx2) := by
              rw [List.getElem?_eq_getElem (by omega), bs_at _ 2 hx2 (by omega)]
            rw [hbx, List.getElem?_drop] at this
            exact this
          have hhd := head_bs hr00
          have HHD := Lib.hid hhd
          have H3E := Lib.hid h3e
          have HBX := Lib.hid hbx
          clear hhd h3e hbx hxl
          have hsgn : (((r[0]'hr00).toNat : Int) == 43) = true ∧ (bs r).head? = some 43 ∨ (((r[0]'hr00).toNat : Int) == 43) = false ∧ (((r[0]'hr00).toNat : Int) == 45) = true ∧ (bs r).head? = some 45 ∨ (((r[0]'hr00).toNat : Int) == 43) = false ∧ (((r[0]'hr00).toNat : Int) == 45) = false := by
            rw [HHD.out]
            by_cases k1 : r[0]'hr00 = 43
            · exact .inl ⟨by rw [k1]; rfl, by rw [k1]⟩
            · have k1' : (((r[0]'hr00).toNat : Int) == 43) = false := by rw [beq_eq_false_iff_ne]; exact fun e => k1 ((eq_toNat _ 43).1 e)
              by_cases k2 : r[0]'hr00 = 45
              · exact .inr (.inl ⟨k1', by rw [k2]; rfl, by rw [k2]⟩)
              · exact .inr (.inr ⟨k1', by rw [beq_eq_false_iff_ne]; exact fun e => k2 ((eq_toNat _ 45).1 e)⟩)
          rcases hsgn with ⟨g1, g2⟩ | ⟨g1, g1', g2⟩ | ⟨g1, g2⟩
          case inr.inr =>
            have hbad : ¬ timeOk (bs s) := by
              rw [HREST.out]
              rintro ⟨a, b, hz, _⟩
              rcases hz with ⟨hz | hz, _⟩ | ⟨_, _, _, _, zh, zm, _, _, _, hs⟩
              · exact HR0.out hz
              · exact HR1.out hz
              · rw [HHD.out] at hs
                rcases hs with ⟨k, _⟩ | ⟨k, _⟩
                · have := Option.some.inj k; rw [this] at g1; exact absurd g1 (by decide)
                · have := Option.some.inj k; rw [this] at g2; exact absurd g2 (by decide)
            have HBAD := Lib.hid hbad
            clear hbad
            go_wp2_with fail
            refine (locErr _ _ _).mono ?_
            rintro e w' ⟨⟨T, a, rfl⟩, hb⟩
            go_wp2_with fail
            go_ret
            exact ⟨resErr HBAD.out, fin0 hbc hbc.size hb⟩
          all_goals
            have HG2 := Lib.hid g2
            clear g2
            by_cases hcol : (r.extract 1 6)[2]'hx2 = 58
            case neg =>
              have hcb : ((((r.extract 1 6)[2]'hx2).toNat : Int) != 58) = true := by rw [bne_iff_ne]; exact fun e => hcol ((eq_toNat _ 58).1 e)
              have hbad : ¬ timeOk (bs s) := by
                rw [HREST.out]
                rintro ⟨a, b, hz, _⟩
                rcases hz with ⟨hz | hz, _⟩ | ⟨_, _, _, k, _⟩
                · exact HR0.out hz
                · exact HR1.out hz
                · rw [H3E.out] at k; exact hcol (Option.some.inj k)
              have HBAD := Lib.hid hbad
              clear hbad hcol
              go_wp2_with fail
              refine (locErr _ _ _).mono ?_
              rintro e w' ⟨⟨T, a, rfl⟩, hb⟩
              go_wp2_with fail
              go_ret
              exact ⟨resErr HBAD.out, fin0 hbc hbc.size hb⟩
            have hcb : ((((r.extract 1 6)[2]'hx2).toNat : Int) != 58) = false := by rw [bne_eq_false_iff_eq, hcol]; rfl
            have h58 := H3E.out
            rw [hcol] at h58
            have H58 := Lib.hid h58
            obtain ⟨gs2, ⟨K2, hK2⟩, hgs2⟩ := SplitN.splitN_ev (r.extract 1 6) ⟨#[58]⟩ 58 (by decide) 2 (by omega) (by rw [ByteArray.size_extract]; omega)
            rw [HBX.out] at hgs2
            have hlen2 := toks_two ((bs r).drop 1) (by rw [List.getElem?_drop]; exact h58)
            rw [← hgs2, List.length_map] at hlen2
            have HK2 := Lib.hid (hK2 K2 (Nat.le_refl _))
            have HGS2 := Lib.hid hgs2
            have hgl2 : ∀ i, i < gs2.length → (gs2.getD i ⟨#[]⟩).size ≤ 2147483647 := by
              intro i hi
              have hm : bs (gs2.getD i ⟨#[]⟩) ∈ SplitN.toks 58 2 ((bs r).drop 1) := by
                rw [← getD_bs hgs2]
                exact mem_getD.2 ⟨i, by rw [← hgs2, List.length_map]; exact hi, rfl⟩
              have h1 := toks_le 58 2 _ _ hm
              rw [bs_len, List.length_drop, HRL.out] at h1
              omega
            have HGL2 := Lib.hid hgl2
            have hle22 : gs2.length ≤ 2 := by omega
            have HL22 := Lib.hid hlen2
            clear hK2 hgs2 h58 hcol hgl2 hlen2
            go_wp2_with fail
            refine (PzzSplitN.jsonschema_zzSplitN.calls K2 (r.extract 1 6) ⟨#[58]⟩ 2 gs2 _ HK2.out).mono ?_
            rintro e w5 ⟨v, rfl, hR5, hb5'⟩
            obtain ⟨A5, c5, rfl, hlc5, hC5⟩ := Kd.R_reads hR5
            have hbz := fin0 hbc hbc.size hb5'
            have hsz5 := hbz.size
            have HC5 := Lib.hid hC5
            clear hR5 hC5 hcb hb5'
            go_wp2_with fail
            go_loopw [19, 148] (fun hv iv wi => ∃ (n : Nat) (ys2 : List Int), n ≤ gs2.length ∧ iv = .int .i64 n ∧ ys2.length = n ∧ Aside0 (∃ xs : List Nat, ys2 = xs.map Int.ofNat ∧ (gs2.take n).map (fun g => numTok (bs g)) = xs.map some) ∧ Aside0 (wi.ownsRow w5.heap.size 3 1 hv ys2.length (nums .i64 ys2)) ∧ Aside0 (Below w5.heap.size w5 wi)) (fun _ iv _ => gs2.length - (intOf iv).toNat)
            case atStart => exact ⟨0, [], by omega, rfl, rfl, ⟨[], rfl, rfl⟩, ⟨own_nil _ _ _ _⟩, ⟨Below.refl _ _⟩⟩
            case round =>
              obtain ⟨n, ys2, hn, rfl, hys2, HX, HO, HB1⟩ := hrel
              have HB : Aside0 (Below w.heap.size w wr) := ⟨fin0 hbz hsz5 HB1.out⟩
              have hszr : w.heap.size ≤ wr.heap.size := HB.out.size
              have HKr := Lib.hid (HK.out.below HB.out)
              by_cases hlt : n < gs2.length
              · have hd1 : decide ((n : Int) < (gs2.length : Int)) = true := decide_eq_true (by omega)
                obtain ⟨ad, rfl, hcell⟩ := str_at HC5.out HB1.out n hlt
                obtain ⟨g, hg⟩ : ∃ g, g = gs2.getD n ⟨#[]⟩ := ⟨_, rfl⟩
                have hgsz : g.size ≤ 2147483647 := by rw [hg]; exact HGL2.out n hlt
                rw [← hg] at hcell
                have hbad : numTok (bs g) = none → ¬ timeOk (bs s) := by
                  intro hnone
                  rw [HREST.out]
                  rintro ⟨a, b, hz, _⟩
                  rcases hz with ⟨hz | hz, _⟩ | ⟨_, _, _, _, zh, zm, hnum, _⟩
                  · exact HR0.out hz
                  · exact HR1.out hz
                  unfold nums_ at hnum
                  rw [← HGS2.out] at hnum
                  have := congrArg (fun l => l[n]?) hnum
                  simp only [List.getElem?_map, List.getElem?_eq_getElem hlt, Option.map_some] at this
                  have e : gs2[n] = g := by rw [hg, List.getD_eq_getElem?_getD, List.getElem?_eq_getElem hlt]; rfl
                  rw [e, hnone] at this
                  cases hh : ([zh, zm][n]?) with
                  | none => rw [hh] at this; cases this
                  | some q => rw [hh] at this; cases this
                have htake : ∀ v : Nat, numTok (bs g) = some v → (gs2.take (n + 1)).map (fun g => numTok (bs g)) = (gs2.take n).map (fun g => numTok (bs g)) ++ [some v] := by
                  intro v hv
                  rw [List.take_succ_eq_append_getElem hlt, List.map_append]
                  have e : gs2[n] = g := by rw [hg, List.getD_eq_getElem?_getD, List.getElem?_eq_getElem hlt]; rfl
                  rw [e]; simp [hv]
                have HBAD := Lib.hid hbad
                have HTK := Lib.hid htake
                clear hg hbad htake
                go_wp2_with fail
                refine (atoiW g _ hgsz HKr.out).mono ?_
                rintro e w2 ⟨hsay, hb2⟩
                have hbr2 : Below w.heap.size w w2 := fin0 HB.out hszr hb2
                have hsz2 : w.heap.size ≤ w2.heap.size := hbr2.size
                have HB2 : Aside0 (Below w5.heap.size w5 w2) := ⟨fin0 HB1.out HB1.out.size hb2⟩
                have HO2 := Lib.hid (pw_own_below HO.out hb2)
                clear hb2
                rcases hsay with ⟨v, hv, rfl⟩ | ⟨hv, m, T, a, rfl⟩
                · by_cases hv0 : v < 0
                  · have HV := Lib.hid (numTok_neg hv hv0)
                    clear hv
                    go_wp2_with fail
                    refine (locErr _ _ _).mono ?_
                    rintro e w' ⟨⟨T, a, rfl⟩, hb3⟩
                    go_wp2_with fail
                    go_ret
                    exact ⟨resErr (HBAD.out HV.out), fin0 hbr2 hsz2 hb3⟩
                  · have HV := Lib.hid (numTok_some hv hv0)
                    clear hv
                    have hbl : (ys2.length + 1) * 8 ≤ 140737488355328 := by omega
                    go_wp2_with (at_builtin; refine print_append_num (w0 := w5) w5.heap.size rfl _ _ 47 3 .i64 8 rfl Tryd.underlying47 infoInt (by decide) u19 ys2 v rfl rfl HO2.out HB2.out HB2.out.size hbl ?_)
                    intro v3 w3 hown3 hb3 hgr3 _
                    have HO3 := Aside0.mk hown3
                    clear hown3 hgr3
                    go_wp2_with fail
                    go_roundw
                    case rel =>
                      refine ⟨n + 1, ys2 ++ [v], by omega, by go_num, by simp [hys2], ?_, ⟨by have := HO3.out; simpa [hys2] using this⟩, ⟨hb3⟩⟩
                      obtain ⟨xs, hxs, hmap⟩ := HX.out
                      refine ⟨xs ++ [v.toNat], ?_, ?_⟩
                      · rw [hxs, List.map_append]; congr 1; simp; omega
                      · rw [HTK.out _ HV.out, hmap, List.map_append]; rfl
                    case measure => simp [intOf]; omega
                · have HV := Lib.hid (numTok_none hv)
                  clear hv
                  go_wp2_with fail
                  refine (locErr _ _ _).mono ?_
                  rintro e w' ⟨⟨T, a, rfl⟩, hb3⟩
                  go_wp2_with fail
                  go_ret
                  exact ⟨resErr (HBAD.out HV.out), fin0 hbr2 hsz2 hb3⟩
              · have hd1 : decide ((n : Int) < (gs2.length : Int)) = false := decide_eq_false (by omega)
                obtain rfl : n = gs2.length := by omega
                obtain ⟨A6, c6, rfl⟩ := own_slice HO.out
                have hbx := HB.out
                have hg2 := HL22.out
                obtain ⟨zh, zm, hyy, hmap⟩ : ∃ zh zm : Nat, ys2 = [(zh : Int), (zm : Int)] ∧ nums_ (SplitN.toks 58 2 ((bs r).drop 1)) [zh, zm] := by
                  obtain ⟨xs, hx, hm⟩ := HX.out
                  have hl3 : xs.length = 2 := by rw [← hg2, ← hys2, hx, List.length_map]
                  rw [List.take_length] at hm
                  match xs, hl3 with
                  | [a, b], _ =>
                    refine ⟨a, b, hx, ?_⟩
                    unfold nums_
                    rw [← HGS2.out, List.map_map]
                    exact hm
                have p0 : 0 < ys2.length := by omega
                have p1 : 1 < ys2.length := by omega
                have q0 : (0 : Int) < (ys2.length : Int) := by omega
                have q1 : (1 : Int) < (ys2.length : Int) := by omega
                obtain ⟨gb2, cap3, hval, _, _⟩ := HO.out.form p0
                injection hval with hv1 hv2 hv3
                subst hv1
                have k0 := (own_at HO.out 0 (by decide) q0).1
                have k1 := (own_at HO.out 1 (by decide) q1).1
                rw [show rd ys2 0 = (zh : Int) by rw [hyy]; rfl] at k0
                rw [show rd ys2 1 = (zm : Int) by rw [hyy]; rfl] at k1
                have c0 : wr.cell? ⟨gb2, 0, none⟩ = some (.int .i64 (zh : Int)) := k0
                have c1 : wr.cell? ⟨gb2, 1, none⟩ = some (.int .i64 (zm : Int)) := k1
                have HMAP2 := Lib.hid hmap
                clear hmap k0 k1 HO HX hys2 hlt hyy
                go_wp2_with fail
                go_quiet (fail)
                have hbq := pw_below_drewN hbx nq
                first
                  | (have HF := Lib.hid (time_fin43 HREST.out HR0.out HR1.out (by rw [HRL.out]; exact h6) H58.out HMAP2.out HG2.out))
                  | (have HF := Lib.hid (time_fin45 HREST.out HR0.out HR1.out (by rw [HRL.out]; exact h6) H58.out HMAP2.out HG2.out))
                clear q0 q1 p0 p1 c0 c1
                go_wp2_with fail
                all_goals first
                  | (have hbad : ¬ timeOk (bs s) := by
                       try simp only [bne_eq_false_iff_eq, bne_iff_ne, ne_eq] at *
                       (first | (exact HF.out.2 (by omega)) | (rw [HF.out.1 (by omega)]; unfold over; split <;> omega))
                     have HBX := Lib.hid hbad
                     clear hbad
                     refine (locErr _ _ _).mono ?_
                     rintro e w' ⟨⟨T, a, rfl⟩, hb⟩
                     go_wp2_with fail
                     go_ret
                     exact ⟨resErr HBX.out, fin0 hbq (hbq).size hb⟩)
                  | (have hgood : timeOk (bs s) := by
                       try simp only [bne_eq_false_iff_eq, bne_iff_ne, ne_eq] at *
                       (rw [HF.out.1 (by omega)]; unfold over; split <;> omega)
                     go_ret
                     exact ⟨resOk hgood, hbq⟩)
        all_goals
          have HF := Lib.hid (time_finz HREST.out (by first | exact .inl hr1 | exact .inr hr1))
          clear hr1
          go_wp2_with fail
          all_goals first
            | (have hbad : ¬ timeOk (bs s) := by
                 try simp only [bne_eq_false_iff_eq, bne_iff_ne, ne_eq] at *
                 (rw [HF.out]; omega)
               have HBX := Lib.hid hbad
               clear hbad
               refine (locErr _ _ _).mono ?_
               rintro e w' ⟨⟨T, a, rfl⟩, hb⟩
               go_wp2_with fail
               go_ret
               exact ⟨resErr HBX.out, fin0 hbc (hbc).size hb⟩)
            | (have hgood : timeOk (bs s) := by
                 try simp only [bne_eq_false_iff_eq, bne_iff_ne, ne_eq] at *
                 (rw [HF.out]; omega)
               go_ret
               exact ⟨resOk hgood, hbc⟩)
end Go.Proofs.YtfnnahopbghndaaDoor.Fmt
