/- validateUUID, IsUUID, impl.JUUID: what they answer. -/
import Derived.Test.YtdjmjgdafghdgaaFmt0
import Derived.Test.YtdjmjgdafghdgaaFmtSplit
namespace Go.Proofs.Ytdjmjgdafghdgaa.Fmt
open Go.RowKit Go.Proofs.YtdjmjgdafghdgaaW.PrintWords Go.Proofs.YtdjmjgdafghdgaaW.PrintLast Go.Proofs.YtdjmjgdafghdgaaW.PrintMore Go.Proofs.Ytdjmjgdafghdgaa.K
open Go.Proofs.Ytdjmjgdafghdgaa.PFnJUUID
set_option linter.unusedVariables false
set_option linter.unusedSimpArgs false

def hexB (b : UInt8) : Bool := (48 ≤ b && b ≤ 57) || (97 ≤ b && b ≤ 102) || (65 ≤ b && b ≤ 70)
def wants (i : Nat) : Nat := if i = 0 then 8 else if i < 4 then 4 else 12
def GroupOk (i : Nat) (g : ByteArray) : Prop := g.size = wants i ∧ ∀ b ∈ bs g, hexB b = true

def AllOk (gs : List ByteArray) (i : Nat) : Prop := ∀ j, j < i → GroupOk j (gs.getD j ⟨#[]⟩)

def hexR (r : Nat) : Prop := (48 ≤ r ∧ r ≤ 57) ∨ (97 ≤ r ∧ r ≤ 102) ∨ (65 ≤ r ∧ r ≤ 70)
theorem hexB_iff (b : UInt8) : hexB b = true ↔ hexR b.toNat := by
  unfold hexB hexR
  simp [UInt8.le_iff_toNat_le]
  omega
/-- A rune that is a hexadecimal digit: one byte. -/
theorem hex_step {g : ByteArray} {pos : Nat} (hp : pos < g.size) (hr : hexR (Utf8.decode g pos).1) (h : Sofar hexB g pos) : (Utf8.decode g pos).2 = 1 ∧ Sofar hexB g (pos + (Utf8.decode g pos).2) := by
  rcases decode_cases g pos hp with ⟨e, _⟩ | ⟨h1, _, _⟩
  · rw [e] at hr ⊢
    exact ⟨rfl, h.step hp ((hexB_iff _).2 hr)⟩
  · exfalso; unfold hexR at hr; omega
theorem hex_fail {g : ByteArray} {pos : Nat} (hp : pos < g.size) (hr : ¬ hexR (Utf8.decode g pos).1) : ¬ ∀ b ∈ bs g, hexB b = true := by
  apply Sofar.fail hp
  rcases decode_cases g pos hp with ⟨e, _⟩ | ⟨_, _, h2⟩
  · rw [e] at hr
    exact Bool.eq_false_iff.2 (fun h => hr ((hexB_iff _).1 h))
  · exact Bool.eq_false_iff.2 (fun h => by have := (hexB_iff _).1 h; unfold hexR at this; omega)

set_option maxHeartbeats 4000000 in
set_option maxRecDepth 100000 in
theorem uuid (s : ByteArray) (k : Nat) (gs : List ByteArray) (w : World) (h : jsonschema_zzSplit.f k s ⟨#[45]⟩ = some gs) :
    Calls Try.prog 59 #[.iface 9 (.string s)] w fun e w' => Res (gs.length = 5 ∧ AllOk gs 5) e ∧ Below w.heap.size w w' := by
  have hta := asStr s
  go_enter Try.func59, Try.ntmps59
  go_wp2_with fail
  refine (jsonschema_zzSplit.calls k s ⟨#[45]⟩ gs _ h).mono ?_
  rintro e w1 ⟨v, rfl, hR, hb⟩
  obtain ⟨A, c, rfl, hlc, hC⟩ := Kd.R_reads hR
  have hb0 : Below w.heap.size w w1 := ((Below.refl _ w).alloc (Nat.le_refl _) _).trans (hb.mono (by simp))
  have hcells := cell_kept hb
  have hsz1 : w.heap.size < w1.heap.size := by have := hb.size; simp at this; omega
  clear hb hR
  by_cases hlen : gs.length = 5
  · go_wp2_with fail
    clear hta
    have HL := Lib.hid hlen
    rw [hlen] at hC
    clear hlen hlc
    go_loopw [33] (fun i wr => ∃ n : Nat, n ≤ 5 ∧ i = .int .i64 n ∧ Aside0 (AllOk gs n) ∧ Aside0 (Below w1.heap.size w1 wr)) (fun i _ => 5 - (intOf i).toNat)
    case atStart => exact ⟨0, by omega, rfl, ⟨fun j hj => by omega⟩, ⟨Below.refl _ _⟩⟩
    case round =>
      obtain ⟨n, hn, rfl, HA, HB⟩ := hrel
      by_cases hlt : n < 5
      · have hd1 : decide ((n : Int) < 5) = true := decide_eq_true (by omega)
        obtain ⟨ad, rfl, hcell⟩ := str_at hC HB.out n hlt
        obtain ⟨g, hg⟩ : ∃ g, g = gs.getD n ⟨#[]⟩ := ⟨_, rfl⟩
        rw [← hg] at hcell
        have HG := Lib.hid hg
        clear hg
        have hw : wr.cell? ⟨w.heap.size, n, none⟩ = some (.int .i64 ((wants n : Nat) : Int)) := by
          rw [HB.out.cell (p := ⟨w.heap.size, n, none⟩) hsz1, hcells n]
          rcases (by omega : n = 0 ∨ n = 1 ∨ n = 2 ∨ n = 3 ∨ n = 4) with rfl | rfl | rfl | rfl | rfl <;> rfl
        have hszr : w1.heap.size ≤ wr.heap.size := HB.out.size
        by_cases hgs : g.size = wants n
        · have hb1 : (((g.size : Int)) != ((wants n : Nat) : Int)) = false := by rw [bne_eq_false_iff_eq]; omega
          have HGS := Lib.hid hgs
          clear hgs
          go_wp2_with fail
          obtain ⟨wo, rfl⟩ : ∃ wo : World, wo = wr := ⟨_, rfl⟩
          go_loopw [] (fun wi => ∃ pos : Nat, wi.heap[wo.heap.size]? = some (.stringIter g pos) ∧ Aside0 (Sofar hexB g pos) ∧ Aside0 (Below w1.heap.size w1 wi)) (fun wi => g.size - wi.iterPos wo.heap.size)
          case atStart => exact ⟨0, World.iter_heap wo g 0, ⟨Sofar.zero _ _⟩, ⟨HB.out.alloc hszr _⟩⟩
          case round =>
            obtain ⟨pos, hit, HS, HB2⟩ := hrel
            by_cases hp : pos < g.size
            · have hnx : ∀ ty, (Instr.next (.pointer (some ⟨wo.heap.size, 0, none⟩)) true ty).run Try.prog wr = _ := fun ty => Lib.run_next_any_at wr wo.heap.size g pos ty hit hp
              go_wp2_with fail
              all_goals first
                | (refine (locErr _ _ _).mono ?_
                   rintro e w' ⟨⟨T, a, rfl⟩, hb⟩
                   have hr : ¬ hexR (Utf8.decode g pos).1 := by unfold hexR; omega
                   go_wp2_with fail
                   go_ret
                   refine ⟨.inr ⟨fun hh => hex_fail hp hr ?_, _, _, rfl⟩, ?_⟩
                   · have := (hh.2 n hlt).2
                     rw [← HG.out] at this
                     exact this
                   · have hB3 := Lib.below_iterAt HB2.out (k := wo.heap.size) hszr g (pos + (Utf8.decode g pos).2)
                     exact hb0.trans ((hB3.mono (by omega)).trans (((Below.refl _ _).alloc (by have := hB3.size; omega) _).trans (hb.mono (by have := hB3.size; simp; omega)))))
                | (have hr : hexR (Utf8.decode g pos).1 := by unfold hexR; omega
                   obtain ⟨h1, h2⟩ := hex_step hp hr HS.out
                   go_roundw
                   case rel =>
                     have hend : ∃ pos' : Nat, (wr.iterAt wo.heap.size g (pos + (Utf8.decode g pos).2)).heap[wo.heap.size]? = some (.stringIter g pos') ∧ Aside0 (Sofar hexB g pos') ∧ Aside0 (Below w1.heap.size w1 (wr.iterAt wo.heap.size g (pos + (Utf8.decode g pos).2))) := ⟨_, Lib.iterAt_heap wr wo.heap.size g pos _ hit, ⟨h2⟩, ⟨Lib.below_iterAt HB2.out hszr g _⟩⟩
                     exact hend
                   case measure =>
                     rw [iterPos_of (Lib.iterAt_heap wr wo.heap.size g pos _ hit), iterPos_of hit]
                     omega)
            · have hnx : ∀ ty, (Instr.next (.pointer (some ⟨wo.heap.size, 0, none⟩)) true ty).run Try.prog wr = _ := fun ty => Lib.run_next_end_at wr wo.heap.size g pos ty hit hp
              go_wp2_with fail
              go_roundw
              case rel => exact ⟨n + 1, by omega, by go_num, ⟨fun j hj => by
                by_cases e : j = n
                · subst e; rw [← HG.out]; exact ⟨HGS.out, HS.out.all hp⟩
                · exact HA.out j (by omega)⟩, HB2⟩
              case measure => simp [intOf]; omega
        · have hb1 : (((g.size : Int)) != ((wants n : Nat) : Int)) = true := by rw [bne_iff_ne]; omega
          go_wp2_with (go_at_call 72; refine (locErr _ _ _).mono ?_; rintro e w' ⟨⟨T, a, rfl⟩, hb⟩)
          go_ret
          refine ⟨.inr ⟨fun hh => hgs ?_, _, _, rfl⟩, ?_⟩
          · have := (hh.2 n hlt).1
            rw [← HG.out] at this
            exact this
          · exact hb0.trans ((HB.out.mono (by omega)).trans (((Below.refl _ _).alloc (by omega) _).trans (hb.mono (by simp; omega))))
      · go_wp2_with fail
        go_ret
        obtain rfl : n = 5 := by omega
        exact ⟨.inl ⟨⟨HL.out, HA.out⟩, rfl⟩, hb0.trans (HB.out.mono (by omega))⟩
  · go_wp2_with (go_at_call 72; refine (locErr _ _ _).mono ?_; rintro e w' ⟨⟨T, a, rfl⟩, hb⟩)
    go_ret
    exact ⟨.inr ⟨fun h => hlen h.1, _, _, rfl⟩, hb0.trans (((Below.refl _ _).alloc (by omega) _).trans (hb.mono (by simp; omega)))⟩

def uuidOk (l : List UInt8) : Prop := (splitL 45 l).length = 5 ∧ ∀ i, i < 5 → ((splitL 45 l).getD i []).length = wants i ∧ ∀ b ∈ (splitL 45 l).getD i [], hexB b = true

theorem uuid_ok (s : ByteArray) (gs : List ByteArray) (h : gs.map bs = splitL 45 (bs s)) : (gs.length = 5 ∧ AllOk gs 5) ↔ uuidOk (bs s) := by
  have hg : ∀ i, (splitL 45 (bs s)).getD i [] = bs (gs.getD i ⟨#[]⟩) := by
    intro i
    rw [← h]
    simp only [List.getD_eq_getElem?_getD, List.getElem?_map]
    cases gs[i]? <;> rfl
  unfold uuidOk AllOk GroupOk
  rw [← h, List.length_map, h]
  simp only [hg, bs_len]

theorem valUUID (s : ByteArray) (w : World) (hs : s.size ≤ 2147483647) : Calls Try.prog 59 #[.iface 9 (.string s)] w fun e w' => Res (uuidOk (bs s)) e ∧ Below w.heap.size w w' := by
  obtain ⟨gs, ⟨K, hK⟩, hg⟩ := Split.zzSplit_ev s ⟨#[45]⟩ 45 (by decide) (by omega)
  refine (uuid s K gs w (hK K (Nat.le_refl _))).mono ?_
  rintro e w' ⟨h, hb⟩
  refine ⟨?_, hb⟩
  unfold Res at h ⊢
  rw [← uuid_ok s gs hg]
  exact h

theorem isUUID (s : ByteArray) (w : World) (hs : s.size ≤ 2147483647) : Calls Try.prog 42 #[.string s] w fun e w' => Says (uuidOk (bs s)) e ∧ Below w.heap.size w w' := by
  go_enter Try.func42, Try.ntmps42
  go_wp2_with fail
  refine (valUUID s _ hs).mono ?_
  rintro e w1 ⟨hr, hb⟩
  rcases hr with ⟨hok, rfl⟩ | ⟨hok, ⟨T, a, rfl⟩⟩
  · go_wp2_with fail
    go_ret
    exact ⟨⟨_, rfl, by simp [hok]⟩, hb⟩
  · go_wp2_with fail
    go_ret
    exact ⟨⟨_, rfl, by simp [hok]⟩, hb⟩

theorem implUUID (s : ByteArray) (w : World) (hs : s.size ≤ 2147483647) : Calls Try.prog 26 #[.string s] w fun e w' => Says (uuidOk (bs s)) e ∧ Below w.heap.size w w' := by
  go_enter Try.func26, Try.ntmps26
  go_wp2_with fail
  refine (isUUID s _ hs).mono ?_
  rintro e w1 ⟨⟨b, rfl, hb1⟩, hb⟩
  have HB := Lib.hid hb1
  clear hb1
  go_wp2_with fail
  go_ret
  exact ⟨⟨_, rfl, HB.out⟩, hb⟩
end Go.Proofs.Ytdjmjgdafghdgaa.Fmt
