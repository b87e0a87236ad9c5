/- core.QuotedOrList: the walk. -/
import Derived.Test.YtamajbaojbghcaaDoorOr1
namespace Go.Proofs.YtamajbaojbghcaaDoor.Or
open Go.RowKit Go.Proofs.YtamajbaojbghcaaDoorW.PrintWords Go.Proofs.YtamajbaojbghcaaDoorW.PrintLast Go.Proofs.YtamajbaojbghcaaDoorW.PrintMore Go.Proofs.YtamajbaojbghcaaDoor.PO Go.Proofs.YtamajbaojbghcaaDoor.K
set_option linter.unusedVariables false
set_option linter.unusedSimpArgs false
/-- The call's own row: its first i texts are those. -/
structure Rw (w wi : World) (l : List ByteArray) (i : Nat) : Prop where
  below : Below w.heap.size w wi
  row : ∃ cur : Array Value, wi.heap[w.heap.size]? = some (.cells cur 9 (0, 0)) ∧ cur.size = l.length ∧ ∀ j, j < i → cur[j]? = some (.string (quo (it l j)))
theorem Rw.start (w : World) (l : List ByteArray) (cur : Array Value) (h : cur.size = l.length) : Rw w (w.alloc (.cells cur 9)) l 0 :=
  ⟨(Below.refl _ _).alloc (Nat.le_refl _) _, cur, heap_alloc_new w _, h, fun j hj => by omega⟩
theorem Rw.next {w wi : World} {l : List ByteArray} {i : Nat} (h : Rw w wi l i) (hi : i < l.length) : Rw w (wi.setCell ⟨w.heap.size, i, none⟩ (.string (quo (it l i)))) l (i + 1) := by
  obtain ⟨hb, cur, hh, hsz, hc⟩ := h
  refine ⟨below_set hb (Nat.le_refl _), cur.setIfInBounds i (.string (quo (it l i))), blk_put hh i _ rfl, by simpa using hsz, fun j hj => ?_⟩
  rw [Array.getElem?_setIfInBounds]
  by_cases hij : i = j
  · subst hij
    rw [if_pos rfl, if_pos (by omega)]
  · rw [if_neg hij]
    exact hc j (by omega)
theorem Rw.c {w wi : World} {l : List ByteArray} (h : Rw w wi l l.length) : Kd.string.C wi (some ⟨w.heap.size, 0, none⟩) (l.map quo).length (l.map quo) ∨ l.length > 9223372036854775807 := by
  by_cases hbig : l.length > 9223372036854775807
  · exact .inr hbig
  · obtain ⟨hb, cur, hh, hsz, hc⟩ := h
    refine .inl ⟨rfl, by simp; omega, fun _ => ⟨_, rfl, fun j p hp => ?_⟩⟩
    obtain ⟨hj, e⟩ := List.getElem?_eq_some_iff.1 hp
    simp only [List.length_map] at hj
    have e2 : p = quo (it l j) := by rw [← e, List.getElem_map, it_get hj]
    subst e2
    refine ⟨[.string (quo (it l j))], rfl, rfl, fun k u hu => ?_⟩
    match k, hu with
    | 0, hu =>
      simp at hu
      subst hu
      have h1 : wi.cell? ((⟨w.heap.size, 0, none⟩ : Addr).add j) = some (.string (quo (it l j))) := by
        refine World.news_of_block hh j _ ?_
        have := hc j hj
        simpa using this
      simpa [Kd.string, Kd.scalar] using h1
    | k + 1, hu => simp at hu
set_option maxHeartbeats 4000000 in
set_option maxRecDepth 100000 in
theorem coreQuo (l : List ByteArray) (A : Option Addr) (c : Nat) (w : World) (hC : Kd.string.C w A l.length l) (hc : l.length ≤ c) (h5 : l.length ≤ 5) (hs : ∀ s ∈ l, s.size ≤ 2147483647) : Calls Tryd.prog 11 #[.slice A l.length c] w fun e w' => e = .returned (.string (orS (l.map quo) l.length)) ∧ Below w.heap.size w w' := by
  have HC := Lib.hid hC
  have HS := Lib.hid hs
  have hmk := print_make_of (P := Tryd.prog) 22 9 (.string ⟨#[]⟩) 16 Tryd.underlying22 (by kernel_rfl) rfl (by decide) l.length (by omega)
  have HR := Lib.hid (Rw.start w l (madeCells #[.string ⟨#[]⟩] l.length) (by simp [size_madeCells]))
  clear hC hs
  go_enter Tryd.func11, Tryd.ntmps11
  go_wp2_with fail
  clear hmk
  go_loopw [11] (fun iv wi => ∃ i : Nat, iv = .int .i64 i ∧ i ≤ l.length ∧ Hid (Rw w wi l i)) (fun iv _ => l.length - (intOf iv).toNat)
  case atStart => exact ⟨0, rfl, by omega, HR⟩
  case round =>
    obtain ⟨i, rfl, hil, HI⟩ := hrel
    by_cases hlt : i < l.length
    · have hd1 : decide ((i : Int) < (l.length : Int)) = true := decide_eq_true (by omega)
      obtain ⟨ad, rfl, n0⟩ := strAt HC.out i hlt
      have zi := it_size HS.out i hlt
      obtain ⟨cur, hh, hsz, _⟩ := HI.out.row
      obtain ⟨old, hold⟩ : ∃ v, cur[i]? = some v := ⟨_, Array.getElem?_eq_getElem (by omega)⟩
      have r0 : wr.cell? ⟨w.heap.size, i, none⟩ = some old := by rw [Lib.cell_of_heap hh]; exact hold
      have f0 := blk_frozen hh i
      have HN := Lib.hid (HI.out.next hlt)
      obtain ⟨s, hs⟩ : ∃ s, it l i = s := ⟨_, rfl⟩
      rw [hs] at n0 zi HN
      have k0 := (HI.out.below.cell (lt_of_cell n0)).trans n0
      have hi0 : (0 : Int) ≤ (i : Int) := Int.natCast_nonneg _
      have hi1 : (i : Int) < (l.length : Int) := by omega
      have hs1 : (9223372036854775807 < 1 + s.size) = False := eq_false (by omega)
      have hs2 : (9223372036854775807 < 1 + s.size + 1) = False := eq_false (by omega)
      unfold quo at HN
      clear hs hh hsz n0 zi hold
      go_wp2_with fail
      go_roundw
      case rel => exact ⟨i + 1, by go_num, by omega, HN⟩
      case measure => first | (simp [intOf]; done) | (simp [intOf]; omega)
    · obtain rfl : i = l.length := by omega
      have hd1 : decide ((l.length : Int) < (l.length : Int)) = false := by simp
      have hcc : Kd.string.C wr (some ⟨w.heap.size, 0, none⟩) (l.map quo).length (l.map quo) := by
        rcases HI.out.c with h | h
        · exact h
        · omega
      have hm : (l.map quo).length = l.length := List.length_map ..
      have HO := Lib.hid (coreOr (l.map quo) (some ⟨w.heap.size, 0, none⟩) l.length wr hcc (by rw [hm]; exact Nat.le_refl _) (by rw [hm]; exact h5) (fun s hs => by
        obtain ⟨x, hx, rfl⟩ := List.mem_map.1 hs
        rw [quo_size]; have := HS.out x hx; omega))
      rw [hm] at HO
      clear hlt hcc hm
      go_wp2_with fail
      refine HO.out.mono ?_
      rintro e w1 ⟨rfl, hb⟩
      have hb1 := HI.out.below.trans (hb.mono HI.out.below.size)
      go_wp2_with fail
      go_ret
      exact ⟨rfl, hb1⟩
end Go.Proofs.YtamajbaojbghcaaDoor.Or
