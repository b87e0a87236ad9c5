/- FnJCycle: impl.JCycle, the law's walk. -/
import Derived.Test.YtabadjidlfpngaaCycle3
import Derived.Deep.RegionHeld3
import Derived.Deep.AppendLies
namespace Go.Proofs.Ytabadjidlfpngaa.Cyc
open Go.RowKit Go.Proofs.Ytabadjidlfpngaa.PFnJCycle Go.Proofs.YtabadjidlfpngaaW.PrintWords Go.Proofs.YtabadjidlfpngaaW.PrintLast Go.Proofs.YtabadjidlfpngaaW.PrintMore Go.Proofs.Ytabadjidlfpngaa.K
set_option linter.unusedVariables false
set_option linter.unusedSimpArgs false

theorem info3 : (Try.prog.info? 3).map (fun i => (i.zero, i.size, i.bytes)) = some (some (.int .i64 0), 1, 8) := by kernel_rfl
theorem newsA (W : World) (x : Value) (T B : Nat) (hB : W.heap.size = B) : ∀ j u, [x][j]? = some u → (W.alloc (.cells #[x] T)).cell? ((⟨B, 0, none⟩ : Addr).add j) = some u :=
  World.news_of_block (cs := #[x]) (t := T) (fr := (0, 0)) (by subst hB; exact heap_alloc_new W _)
theorem newsB (W : World) (x : Value) (T B : Nat) (o : Obj) (hB : W.heap.size = B) : ∀ j u, [x][j]? = some u → ((W.alloc (.cells #[x] T)).alloc o).cell? ((⟨B, 0, none⟩ : Addr).add j) = some u :=
  World.news_of_block (cs := #[x]) (t := T) (fr := (0, 0)) (by subst hB; rw [Below.heap_alloc _ _ _ (by simp)]; exact heap_alloc_new W _)
theorem newsC (W : World) (x : Value) (T B : Nat) {w1 : World} {row : Option Nat} (hB : W.heap.size = B) {W2 : World} (h : W2.heap[B]? = (W.alloc (.cells #[x] T)).heap[B]?) (hg : W2.grownBy w1 row) (hlt : B < W2.heap.size) (hne : some B ≠ row) : ∀ j u, [x][j]? = some u → w1.cell? ((⟨B, 0, none⟩ : Addr).add j) = some u :=
  World.news_of_block (cs := #[x]) (t := T) (fr := (0, 0)) (by rw [hg.block B hlt hne, h]; subst hB; exact heap_alloc_new W _)
theorem apart_symm {a b : Option Nat} (h : a = none ∨ a ≠ b) : b = none ∨ b ≠ a := by
  rcases h with h | h
  · subst h
    cases b with
    | none => exact .inl rfl
    | some b => exact .inr (by simp)
  · exact .inr (fun e => h e.symm)
theorem apart1 {x y : Option Nat} {g n m : Nat} (hne : x = none ∨ x ≠ y) (hat : x = some g ∨ g = n) (ly : ∀ b, y = some b → b < m) (hmn : m ≤ n) : some g ≠ y := by
  rintro rfl
  have h1 := ly g rfl
  rcases hat with rfl | rfl
  · rcases hne with h | h
    · cases h
    · exact h rfl
  · omega
theorem apart2 {x y : Option Nat} {g1 g2 n m h i1 c1 i2 c2 : Nat} (hne : x = none ∨ x ≠ y) (hat : x = some g1 ∨ g1 = n) (ly : ∀ b, y = some b → b < m) (hmn : m ≤ n) (hat2 : y = some g2 ∨ g2 = h) (hlt : g1 < h) : (Value.slice (some ⟨g1, 0, none⟩) i1 c1).ownBlock ≠ (Value.slice (some ⟨g2, 0, none⟩) i2 c2).ownBlock := by
  have h1 := apart1 hne hat ly hmn
  simp only [Value.ownBlock, ne_eq, Option.some.injEq]
  rintro rfl
  rcases hat2 with e | e
  · exact h1 e.symm
  · omega
theorem nums_snoc (l : List Int) (x : Int) : nums .i64 (l ++ [x]) = nums .i64 l ++ [.int .i64 x] := by simp [nums]
set_option maxHeartbeats 4000000 in
set_option maxRecDepth 100000 in
theorem implCycle (A : Option Addr) (c : Nat) (l : List S40) (w : World) (hr : Kd.C k40 w A l.length l) (hc : l.length ≤ c) (hlen : l.length ≤ 2147483647) (hwf : ∀ x ∈ l, (Lit.int .i64 x.f0).wf = true ∧ (Lit.int .i64 x.f1).wf = true) (p : Int × Int) (t : List (Int × Int)) (hp : (l.map pr).reverse = p :: t) :
    Calls Try.prog 7 #[.slice A l.length c] w fun e w' => e = .returned (.int .i64 (cy p.1 p.2 t 0)) ∧ Below w.heap.size w w' := by
  have HR := Lib.hid hr
  have HW := Lib.hid hwf
  have HP := Lib.hid hp
  have hpos : 0 < l.length := by have := congrArg List.length hp; simp at this; omega
  have h0 : ((l.length : Int) == 0) = false := by rw [beq_eq_false_iff_ne]; omega
  clear hr hwf hp
  go_enter Try.func7, Try.ntmps7
  go_wp2_with fail
  go_loopw [3, 4, 12] (fun xv yv iv wi => ∃ i : Nat, iv = .int .i64 i ∧ i ≤ l.length ∧ Hid (wi.ownsRow w.heap.size 3 1 xv ((l.take i).map S40.f0).length (nums .i64 ((l.take i).map S40.f0)) ∧ wi.ownsRow w.heap.size 3 1 yv ((l.take i).map S40.f1).length (nums .i64 ((l.take i).map S40.f1)) ∧ (xv.ownBlock = none ∨ xv.ownBlock ≠ yv.ownBlock) ∧ Below w.heap.size w wi)) (fun _ _ iv _ => l.length - (intOf iv).toNat)
  case atStart => exact ⟨0, rfl, by omega, Lib.hid ⟨own_nil _ _ _ _, own_nil _ _ _ _, .inl rfl, Below.refl _ _⟩⟩
  case round =>
    obtain ⟨i, rfl, hil, HS⟩ := hrel
    by_cases hlt : i < l.length
    · have hd1 : decide ((i : Int) < (l.length : Int)) = true := decide_eq_true (by omega)
      obtain ⟨ad, rfl, ca, cb⟩ := at_T40 (Kd.C_below HR.out HS.out.2.2.2) (i : Int) (by omega) (by omega)
      rw [Int.toNat_natCast] at ca cb
      obtain ⟨g, hg⟩ : ∃ g, rd_T40 l (i : Int) = g := ⟨_, rfl⟩
      rw [hg] at ca cb
      have HG := Lib.hid hg
      clear hg
      obtain ⟨i0, hi0, hz0, hz1, hz2⟩ := info_parts info3
      have HI0 := Lib.hid hi0
      have HZ0 := Lib.hid hz0
      have HZ1 := Lib.hid hz1
      have HZ2 := Lib.hid hz2
      obtain ⟨o1, o2, hne, hbw⟩ := HS.out
      have hl1 : ((l.take i).map S40.f0).length = i := by simp; omega
      have hl2 : ((l.take i).map S40.f1).length = i := by simp; omega
      rw [hl1] at o1
      rw [hl2] at o2
      have hz := hbw.size
      have lx : ∀ b, u3.ownBlock = some b → b < wr.heap.size := fun b hb => own_lt o1 b hb
      have ly : ∀ b, u4.ownBlock = some b → b < wr.heap.size := fun b hb => own_lt o2 b hb
      have O1 := Lib.hid o1
      have O2 := Lib.hid o2
      have HNE := Lib.hid hne
      have LX := Lib.hid lx
      have LY := Lib.hid ly
      have HBW := Lib.hid hbw
      clear hi0 hz0 hz1 hz2 o1 o2 hne lx ly hbw hl1 hl2
      go_wp2_with fail
      go_region_held3 (fun w' => w'.cell? ⟨wr.heap.size, 0, none⟩ = some (.int .i64 g.f0) ∧ w'.cell? ⟨wr.heap.size, 1, none⟩ = some (.int .i64 g.f1))
        (first
          | go_keep
          | (go_split_ands
             first
               | (refine ⟨?_, ?_⟩ <;> (rw [hgrow2.cell_far _ (by have := hgrow1.size; simp at this ⊢; omega) (fun e => by have := LY.out _ e.symm; simp at this)]; go_keep))
               | (refine ⟨?_, ?_⟩ <;> (rw [hgrow1.cell_far _ (by simp; omega) (fun e => by have := LX.out _ e.symm; simp at this)]; go_keep))))
        ((first
          | (refine step_append_lies _ (by rfl) (.tmp 16) (.tmp 19) 38 (by rfl) w.heap.size 3 i0 (.int .i64 0) 1 8 Try.underlying38 HI0.out HZ0.out HZ1.out HZ2.out rfl (by omega) u3 i (nums .i64 ((l.take i).map S40.f0)) (by rfl) (((O1.out.alloc _).alloc _).drew) ⟨wr.heap.size + 1, 0, none⟩ 1 1 [.int .i64 g.f0] (by rfl) (by rfl) (newsA _ _ 3 _ (by simp)) (by simp [Value.oneCell']) (by omega) (by unfold maxLen; omega) (by omega) (by simp; omega) (wr.heap.size + 2) (by simp) ?_; intro g1 cap1 w1 hown1 hgrow1 hat1 hlt1)
          | (refine step_append_lies _ (by rfl) (.tmp 16) (.tmp 19) 38 (by rfl) w.heap.size 3 i0 (.int .i64 0) 1 8 Try.underlying38 HI0.out HZ0.out HZ1.out HZ2.out rfl (by omega) u3 i (nums .i64 ((l.take i).map S40.f0)) (by rfl) ((((O1.out.alloc _).alloc _).alloc _).drew) ⟨wr.heap.size + 1, 0, none⟩ 1 1 [.int .i64 g.f0] (by rfl) (by rfl) (newsB _ _ 3 _ _ (by simp)) (by simp [Value.oneCell']) (by omega) (by unfold maxLen; omega) (by omega) (by simp; omega) (wr.heap.size + 3) (by simp) ?_; intro g1 cap1 w1 hown1 hgrow1 hat1 hlt1)
          | (refine step_append_lies _ (by rfl) (.tmp 16) (.tmp 19) 38 (by rfl) w.heap.size 3 i0 (.int .i64 0) 1 8 Try.underlying38 HI0.out HZ0.out HZ1.out HZ2.out rfl (by omega) u3 i (nums .i64 ((l.take i).map S40.f0)) (by rfl) ((((O1.out.alloc _).alloc _).alloc _).drew) ⟨wr.heap.size + 2, 0, none⟩ 1 1 [.int .i64 g.f0] (by rfl) (by rfl) (newsA _ _ 3 _ (by simp)) (by simp [Value.oneCell']) (by omega) (by unfold maxLen; omega) (by omega) (by simp; omega) (wr.heap.size + 3) (by simp) ?_; intro g1 cap1 w1 hown1 hgrow1 hat1 hlt1)
          | (have hO := (((O2.out.alloc (.cells #[.int .i64 g.f0, .int .i64 g.f1] 40)).alloc (.cells #[.int .i64 g.f0] 3)).drew).kept hgrow1 (apart_symm HNE.out); have hN := newsA w1 (.int .i64 g.f1) 3 w1.heap.size rfl; have hB2 : w.heap.size ≤ w1.heap.size + 1 := by have := hgrow1.size; simp at this; omega
             refine step_append_lies _ (by rfl) (.tmp 21) (.tmp 24) 38 (by rfl) w.heap.size 3 i0 (.int .i64 0) 1 8 Try.underlying38 HI0.out HZ0.out HZ1.out HZ2.out rfl (by omega) u4 i (nums .i64 ((l.take i).map S40.f1)) (by rfl) ((hO.alloc _).drew) ⟨w1.heap.size, 0, none⟩ 1 1 [.int .i64 g.f1] (by rfl) (by rfl) hN (by simp [Value.oneCell']) (by omega) (by unfold maxLen; omega) (by omega) (by simpa using hB2) (w1.heap.size + 1) (by simp) ?_; intro g2 cap2 w2 hown2 hgrow2 hat2 hlt2; clear hN hO hB2)
          | (have hN : ∀ j u, [Value.int .i64 g.f1][j]? = some u → w1.cell? ((⟨wr.heap.size + 2, 0, none⟩ : Addr).add j) = some u := newsC ((wr.alloc (.cells #[.int .i64 g.f0, .int .i64 g.f1] 40)).alloc (.cells #[.int .i64 g.f0] 3)) _ 3 _ (by simp) (by rfl) hgrow1 (by simp) (fun e => by have := LX.out _ e.symm; omega)
             have hO := ((((O2.out.alloc (.cells #[.int .i64 g.f0, .int .i64 g.f1] 40)).alloc (.cells #[.int .i64 g.f0] 3)).alloc (.cells #[.int .i64 g.f1] 3)).drew).kept hgrow1 (apart_symm HNE.out); have hB2 : w.heap.size ≤ w1.heap.size := by have := hgrow1.size; simp at this; omega
             refine step_append_lies _ (by rfl) (.tmp 21) (.tmp 24) 38 (by rfl) w.heap.size 3 i0 (.int .i64 0) 1 8 Try.underlying38 HI0.out HZ0.out HZ1.out HZ2.out rfl (by omega) u4 i (nums .i64 ((l.take i).map S40.f1)) (by rfl) (hO) ⟨wr.heap.size + 2, 0, none⟩ 1 1 [.int .i64 g.f1] (by rfl) (by rfl) (hN) (by simp [Value.oneCell']) (by omega) (by unfold maxLen; omega) (by omega) hB2 w1.heap.size rfl ?_; intro g2 cap2 w2 hown2 hgrow2 hat2 hlt2; clear hN hO hB2)
          | (have hN : ∀ j u, [Value.int .i64 g.f1][j]? = some u → w1.cell? ((⟨wr.heap.size + 1, 0, none⟩ : Addr).add j) = some u := newsC (wr.alloc (.cells #[.int .i64 g.f0, .int .i64 g.f1] 40)) _ 3 _ (by simp) (by exact Below.heap_alloc _ _ _ (by simp)) hgrow1 (by simp) (fun e => by have := LX.out _ e.symm; omega)
             have hO := ((((O2.out.alloc (.cells #[.int .i64 g.f0, .int .i64 g.f1] 40)).alloc (.cells #[.int .i64 g.f1] 3)).alloc (.cells #[.int .i64 g.f0] 3)).drew).kept hgrow1 (apart_symm HNE.out); have hB2 : w.heap.size ≤ w1.heap.size := by have := hgrow1.size; simp at this; omega
             refine step_append_lies _ (by rfl) (.tmp 21) (.tmp 24) 38 (by rfl) w.heap.size 3 i0 (.int .i64 0) 1 8 Try.underlying38 HI0.out HZ0.out HZ1.out HZ2.out rfl (by omega) u4 i (nums .i64 ((l.take i).map S40.f1)) (by rfl) (hO) ⟨wr.heap.size + 1, 0, none⟩ 1 1 [.int .i64 g.f1] (by rfl) (by rfl) (hN) (by simp [Value.oneCell']) (by omega) (by unfold maxLen; omega) (by omega) hB2 w1.heap.size rfl ?_; intro g2 cap2 w2 hown2 hgrow2 hat2 hlt2; clear hN hO hB2)))
      all_goals
        have hs1 := hgrow1.size
        simp at hs1
        have ha : some g1 ≠ u4.ownBlock := apart1 HNE.out hat1 LY.out (by omega)
        have hR1 : w2.ownsRow w.heap.size 3 1 (.slice (some ⟨g1, 0, none⟩) (i + 1) cap1) (i + 1) (nums .i64 ((l.take i).map S40.f0) ++ [.int .i64 g.f0]) := by
          first
            | exact hown1.kept hgrow2 (.inr ha)
            | exact ((hown1.alloc _).drew).kept hgrow2 (.inr ha)
            | exact (hown1.alloc _).kept hgrow2 (.inr ha)
        have hap := apart2 (i1 := i + 1) (c1 := cap1) (i2 := i + 1) (c2 := cap2) HNE.out hat1 LY.out (by omega) hat2 (by omega)
        have hB1 : Below w.heap.size w w1 := by
          first
            | exact ((HBW.out.alloc hz _).alloc (by simp; omega) _).drew.grown hgrow1 (by simp; omega) (own_base O1.out)
            | exact (((HBW.out.alloc hz _).alloc (by simp; omega) _).alloc (by simp; omega) _).drew.grown hgrow1 (by simp; omega) (own_base O1.out)
        have hB2 : Below w.heap.size w w2 := by
          first
            | exact hB1.grown hgrow2 (by omega) (own_base O2.out)
            | exact ((hB1.alloc (by omega) _).drew).grown hgrow2 (by simp; omega) (own_base O2.out)
            | exact (hB1.alloc (by omega) _).grown hgrow2 (by simp; omega) (own_base O2.out)
        have hX1 : (l.take (i + 1)).map S40.f0 = (l.take i).map S40.f0 ++ [g.f0] := by
          rw [List.take_succ_eq_append_getElem hlt, List.map_append, ← HG.out, rd_nat l i hlt]; rfl
        have hX2 : (l.take (i + 1)).map S40.f1 = (l.take i).map S40.f1 ++ [g.f1] := by
          rw [List.take_succ_eq_append_getElem hlt, List.map_append, ← HG.out, rd_nat l i hlt]; rfl
        have hn1 : ((l.take i).map S40.f0 ++ [g.f0]).length = i + 1 := by simp; omega
        have hn2 : ((l.take i).map S40.f1 ++ [g.f1]).length = i + 1 := by simp; omega
        have HN := Lib.hid (show w2.ownsRow w.heap.size 3 1 (.slice (some ⟨g1, 0, none⟩) (i + 1) cap1) ((l.take (i + 1)).map S40.f0).length (nums .i64 ((l.take (i + 1)).map S40.f0)) ∧ w2.ownsRow w.heap.size 3 1 (.slice (some ⟨g2, 0, none⟩) (i + 1) cap2) ((l.take (i + 1)).map S40.f1).length (nums .i64 ((l.take (i + 1)).map S40.f1)) ∧ ((Value.slice (some ⟨g1, 0, none⟩) (i + 1) cap1).ownBlock = none ∨ (Value.slice (some ⟨g1, 0, none⟩) (i + 1) cap1).ownBlock ≠ (Value.slice (some ⟨g2, 0, none⟩) (i + 1) cap2).ownBlock) ∧ Below w.heap.size w w2 from ⟨by rw [hX1, hn1, nums_snoc]; exact hR1, by rw [hX2, hn2, nums_snoc]; exact hown2, .inr hap, hB2⟩)
        clear hs1 ha hR1 hap hB1 hB2 hX1 hX2 hn1 hn2 hgrow1 hgrow2 hown1 hown2 hat1 hat2 hlt1 hlt2
        go_wp2_with fail
        go_roundw
        case rel => exact ⟨i + 1, by go_num, by omega, HN⟩
        case measure => simp [intOf]; omega
    · obtain rfl : i = l.length := by omega
      have hd1 : decide ((l.length : Int) < (l.length : Int)) = false := by simp
      clear hlt
      have hS := HS.out
      rw [List.take_length] at hS
      obtain ⟨r1, r2, _, hb⟩ := hS
      obtain ⟨g1, c1, hv1, _, _⟩ := r1.form (by simpa using hpos)
      obtain ⟨g2, c2, hv2, _, _⟩ := r2.form (by simpa using hpos)
      have i1 : IntRow wr (some ⟨g1, 0, none⟩) (l.map S40.f0) := fun j v hv => ⟨_, rfl, r1.cells (g := g1) (by rw [hv1]; rfl) j (.int .i64 v) (by simp only [nums, List.getElem?_map] at hv ⊢; rw [hv]; rfl)⟩
      have i2 : IntRow wr (some ⟨g2, 0, none⟩) (l.map S40.f1) := fun j v hv => ⟨_, rfl, r2.cells (g := g2) (by rw [hv2]; rfl) j (.int .i64 v) (by simp only [nums, List.getElem?_map] at hv ⊢; rw [hv]; rfl)⟩
      have C := cycle (some ⟨g1, 0, none⟩) (some ⟨g2, 0, none⟩) c1 c2 (l.map S40.f0) (l.map S40.f1) wr i1 (fun x hx => by obtain ⟨y, hy, rfl⟩ := List.mem_map.1 hx; exact (HW.out y hy).1) i2 (by simp) (by simp; omega) (by simpa using hpos)
      subst hv1 hv2
      have HC := Aside0.mk C
      have HB := Lib.hid hb
      clear C i1 i2 r1 r2 hb
      simp only [List.length_map] at HC ⊢
      go_wp2_with fail
      with_reducible refine HC.out.mono ?_
      rintro e w1 ⟨x, m, rfl, hb1, hg⟩
      obtain ⟨p', t', e1, e2⟩ := good_ans hg (by simp)
      have hzip : (l.map S40.f0).zip (l.map S40.f1) = l.map pr := by rw [List.zip_map']; rfl
      rw [hzip, HP.out] at e1
      injection e1 with e1 e3
      subst e1 e3
      have HE := Lib.hid e2
      clear e2 hg
      go_wp2_with fail
      go_ret
      rw [HE.out]
      exact ⟨rfl, HB.out.trans (hb1.mono HB.out.size)⟩

set_option maxHeartbeats 2000000 in
theorem walk (A : Option Addr) (c : Nat) (l : List S40) (w : World) (hr : Kd.C k40 w A l.length l) (hc : l.length ≤ c) (hwf : ∀ x ∈ l, (Lit.int .i64 x.f0).wf = true ∧ (Lit.int .i64 x.f1).wf = true) :
    Calls Try.prog 3 #[.slice A l.length c] w fun e w' => e = .returned (.bool true) ∧ Below w.heap.size w w' := by
  by_cases hbig : l.length ≤ 2147483647
  · by_cases h0 : l.length = 0
    · have hb0 : ((l.length : Int) == 0) = true := by rw [beq_iff_eq]; omega
      go_enter Try.func3, Try.ntmps3
      go_wp2_with fail
      go_ret
      exact ⟨rfl, Below.refl _ _⟩
    · have hb0 : ((l.length : Int) == 0) = false := by rw [beq_eq_false_iff_ne]; omega
      obtain ⟨p, t, hp⟩ : ∃ p t, (l.map pr).reverse = p :: t := by
        cases h : (l.map pr).reverse with
        | nil => have := congrArg List.length h; simp at this; exact absurd (by rw [this]; rfl) h0
        | cons p t => exact ⟨p, t, rfl⟩
      obtain ⟨K, hK⟩ := specCy l hbig p t hp
      have HK := Lib.hid (hK K (Nat.le_refl _))
      have HR := Lib.hid hr
      have HW := Lib.hid hwf
      have HP := Lib.hid hp
      clear hK hr hwf hp
      go_enter Try.func3, Try.ntmps3
      go_wp2_with fail
      refine (implCycle A c l _ HR.out hc hbig HW.out p t HP.out).mono ?_
      rintro e w1 ⟨rfl, hb1⟩
      go_wp2_with fail
      refine (spec_JCycle.calls K A c l _ _ (Kd.C_below HR.out hb1) hc HK.out).mono ?_
      rintro e w2 ⟨rfl, ⟨n2, rfl⟩⟩
      go_wp2_with fail
      go_ret
      exact ⟨by simp, pw_below_drewN hb1 n2⟩
  · go_enter Try.func3, Try.ntmps3
    go_wp2_with fail
    go_ret
    exact ⟨rfl, Below.refl _ _⟩
end Go.Proofs.Ytabadjidlfpngaa.Cyc
