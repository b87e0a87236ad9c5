/- FnJKind: the name of a value's type, for every proper value. -/
import Derived.Test.YtdleegmdpgefmaaJQ
namespace Go.Proofs.Ytdleegmdpgefmaa.J
open Go.RowKit Go.Proofs.YtdleegmdpgefmaaW.PrintWords Go.Proofs.YtdleegmdpgefmaaW.PrintLast Go.Proofs.YtdleegmdpgefmaaW.PrintMore Go.Proofs.Ytdleegmdpgefmaa.PJ Go.Proofs.Ytdleegmdpgefmaa.K
set_option linter.unusedVariables false
set_option linter.unusedSimpArgs false

/-- The name of a type. -/
def kindS (d : D0) : ByteArray := (jsonschema_jsonType_String.f (codeD d)).getD ByteArray.empty
theorem kindS_f (d : D0) : jsonschema_jsonType_String.f (codeD d) = some (kindS d) := by
  have : ∃ r, jsonschema_jsonType_String.f (codeD d) = some r := by
    unfold jsonschema_jsonType_String.f
    repeat (first | exact ⟨_, rfl⟩ | split)
  obtain ⟨r, h⟩ := this
  unfold kindS
  rw [h]; rfl
theorem specKind {n : Nat} {x : JV} (h : Dp (n + 1) x) : spec_JKind.f x.f0 x.f1 x.f2 x.f3 x.f4 x.f5 = some (kindS (toD (n + 1) x)) := by
  obtain ⟨h0, h5, _, _⟩ := h.inv
  have hcase : x.f0 = 0 ∨ x.f0 = 1 ∨ x.f0 = 2 ∨ x.f0 = 3 ∨ x.f0 = 4 ∨ x.f0 = 5 := by omega
  rcases hcase with hf | hf | hf | hf | hf | hf
  all_goals rw [toD, spec_JKind.f, hf]
  · rfl
  · rfl
  · rfl
  · rfl
  · rfl
  · obtain ⟨es, e, _⟩ := objD_canon (x.f4.zip (x.f5.map (toD n)))
    simp only [show ((5 : Int) = 1) = False by decide, show ((5 : Int) = 2) = False by decide, show ((5 : Int) = 3) = False by decide, show ((5 : Int) = 4) = False by decide, show ((5 : Int) = 0) = False by decide, if_false, if_true, e]
    rfl
set_option maxHeartbeats 1000000 in
theorem typeOfS {n : Nat} {ok : Nat → Prop} {w : World} {v : Value} {d : D0} (h : Rep n ok w v d) : Calls Try.prog 19 #[v] w fun e w' => e = .returned (.string (kindS d)) ∧ Drawn0 w w' := by
  have H := Lib.hid h
  clear h
  go_enter Try.func19, Try.ntmps19
  go_wp2_with fail
  refine (typeOf H.out).mono ?_
  rintro e w1 ⟨rfl, rfl⟩
  go_wp2_with fail
  refine (jsonschema_jsonType_String.calls _ _ w (kindS_f d)).mono ?_
  rintro e w1 ⟨rfl, ⟨n1, rfl⟩⟩
  go_wp2_with fail
  go_ret
  exact ⟨rfl, ⟨n1, rfl⟩⟩
set_option maxHeartbeats 1000000 in
theorem implKind (x : JV) (cs : Array Value) (w : World) (hd : Dp 1000 x) (hw : wfJ x) (hK : kJ.K w x cs.toList) : Calls Try.prog 11 #[.agg cs] w fun e w' => e = .returned (.string (kindS (toD 1000 x))) ∧ Below w.heap.size w w' := by
  obtain ⟨A4, c4, A5, c5, hcs, l4, g4, l5, g5⟩ := k25_open hK
  obtain rfl : cs = #[.int .i64 x.f0, .bool x.f1, .int .i64 x.f2, .string x.f3, .slice A4 x.f4.length c4, .slice A5 x.f5.length c5] := by apply Array.toList_inj.1; rw [hcs]
  have hb1 : Below w.heap.size w (w.alloc (.cells #[.int .i64 x.f0, .bool x.f1, .int .i64 x.f2, .string x.f3, .slice A4 x.f4.length c4, .slice A5 x.f5.length c5] 25)) := (Below.refl _ _).alloc (Nat.le_refl _) _
  have HK := Lib.hid (kJ.K_below hb1 hK)
  have HB := Lib.hid hb1
  have HW := Lib.hid hw
  have HD := Lib.hid hd
  clear hK g4 g5 hcs hb1 hw hd
  go_enter Try.func11, Try.ntmps11
  go_wp2_with fail
  refine ((mk 1000).call x _ _ HD.out HW.out HK.out).mono ?_
  rintro e w1 ⟨v, rfl, hr, hbl⟩
  have HR := Lib.hid (And.intro hr (HB.out.trans (hbl.mono (by simp))))
  clear hr hbl
  go_wp2_with fail
  refine (typeOfS HR.out.1).mono ?_
  rintro e w2 ⟨rfl, ⟨n2, rfl⟩⟩
  go_wp2_with fail
  go_ret
  exact ⟨rfl, pw_below_drewN HR.out.2 n2⟩
theorem specKindC (x : JV) (cs : Array Value) (w : World) (hd : Dp 1000 x) (hK : kJ.K w x cs.toList) : Calls Try.prog 12 #[.agg cs] w fun e w' => e = .returned (.string (kindS (toD 1000 x))) ∧ Below w.heap.size w w' := by
  obtain ⟨A4, c4, A5, c5, hcs, l4, g4, l5, g5⟩ := k25_open hK
  obtain rfl : cs = #[.int .i64 x.f0, .bool x.f1, .int .i64 x.f2, .string x.f3, .slice A4 x.f4.length c4, .slice A5 x.f5.length c5] := by apply Array.toList_inj.1; rw [hcs]
  exact spec_JKind.calls x.f0 x.f1 x.f2 x.f3 A4 c4 x.f4 A5 c5 x.f5 _ w g4 l4 g5 l5 (specKind (n := 999) hd)
set_option maxHeartbeats 4000000 in
set_option maxRecDepth 100000 in
theorem walkKind (cs : Array Value) (x : JV) (w : World) (hK : kJ.K w x cs.toList) (hw : wfJ x) : Calls Try.prog 4 #[.agg cs] w fun e w' => e = .returned (.bool true) ∧ Below w.heap.size w w' := by
  obtain ⟨A4, c4, A5, c5, hcs, l4, g4, l5, g5⟩ := k25_open hK
  obtain rfl : cs = #[.int .i64 x.f0, .bool x.f1, .int .i64 x.f2, .string x.f3, .slice A4 x.f4.length c4, .slice A5 x.f5.length c5] := by apply Array.toList_inj.1; rw [hcs]
  have hb1 : Below w.heap.size w (w.alloc (.cells #[.int .i64 x.f0, .bool x.f1, .int .i64 x.f2, .string x.f3, .slice A4 x.f4.length c4, .slice A5 x.f5.length c5] 25)) := (Below.refl _ _).alloc (Nat.le_refl _) _
  have HK := Lib.hid (kJ.K_below hb1 hK)
  have HB := Lib.hid hb1
  have HW := Lib.hid hw
  clear hK g4 g5 hcs hb1 hw
  go_enter Try.func4, Try.ntmps4
  go_wp2_with fail
  refine (fits5 x _ _ HW.out HK.out).mono ?_
  rintro e w1 ⟨b, rfl, hbl⟩
  have HB1 := Lib.hid (HB.out.trans (hbl.mono (by simp)))
  have HK1 := Lib.hid (kJ.K_below hbl HK.out)
  have HBX := Lib.hid (hbl.block w.heap.size (by simp))
  clear hbl
  cases b
  · go_wp2_with fail
    go_ret
    exact ⟨rfl, HB1.out⟩
  · have hh : w1.heap[w.heap.size]? = some (.cells #[.int .i64 x.f0, .bool x.f1, .int .i64 x.f2, .string x.f3, .slice A4 x.f4.length c4, .slice A5 x.f5.length c5] 25 (0, 0)) := HBX.out.trans (heap_alloc_new w _)
    have q0 : w1.cell? ⟨w.heap.size, 0, none⟩ = some (.int .i64 x.f0) := by rw [Lib.cell_of_heap hh]; rfl
    have q1 : w1.cell? ⟨w.heap.size, 1, none⟩ = some (.bool x.f1) := by rw [Lib.cell_of_heap hh]; rfl
    have q2 : w1.cell? ⟨w.heap.size, 2, none⟩ = some (.int .i64 x.f2) := by rw [Lib.cell_of_heap hh]; rfl
    have q3 : w1.cell? ⟨w.heap.size, 3, none⟩ = some (.string x.f3) := by rw [Lib.cell_of_heap hh]; rfl
    have q4 : w1.cell? ⟨w.heap.size, 4, none⟩ = some (.slice A4 x.f4.length c4) := by rw [Lib.cell_of_heap hh]; rfl
    have q5 : w1.cell? ⟨w.heap.size, 5, none⟩ = some (.slice A5 x.f5.length c5) := by rw [Lib.cell_of_heap hh]; rfl
    have hlt := lt_of_cell q0
    simp only at hlt
    clear hh
    obtain ⟨b, hdp, hPL⟩ := properL [x] (by simp) (fun y hy => by rw [List.mem_singleton.1 hy]; exact HW.out)
    have HPL := Lib.hid hPL
    have HDP := Lib.hid hdp
    clear hPL hdp
    cases b
    · go_wp2_with fail
      go_region_with
        ((first
          | (go_at_call 10; refine (HPL.out.one (by exact heap_alloc_new w1 _) (by exact kJ.K_below ((Below.refl _ _).alloc (Nat.le_refl _) _).drew HK1.out)).mono ?_; rintro e w2 ⟨rfl, hbl⟩; have hb12 : Below w1.heap.size w1 w2 := ((Below.refl _ _).alloc (Nat.le_refl _) _).drew.trans (hbl.mono (by simp)))
          | fail))
      all_goals
        go_wp2
        go_ret
        first | exact ⟨rfl, HB1.out.trans (hb12.mono HB1.out.size)⟩ | exact ⟨rfl, (HB1.out.trans (hb12.mono HB1.out.size)).drew⟩ | exact ⟨rfl, pw_below_drewN (HB1.out.trans (hb12.mono HB1.out.size)) _⟩
    · have hd := HDP.out rfl x (by simp)
      have HD := Lib.hid hd
      clear hd
      go_wp2_with fail
      go_region_held3 (fun w' => w'.cell? ⟨w.heap.size, 0, none⟩ = some (.int .i64 x.f0) ∧ w'.cell? ⟨w.heap.size, 1, none⟩ = some (.bool x.f1) ∧ w'.cell? ⟨w.heap.size, 2, none⟩ = some (.int .i64 x.f2) ∧ w'.cell? ⟨w.heap.size, 3, none⟩ = some (.string x.f3) ∧ w'.cell? ⟨w.heap.size, 4, none⟩ = some (.slice A4 x.f4.length c4) ∧ w'.cell? ⟨w.heap.size, 5, none⟩ = some (.slice A5 x.f5.length c5)) (first
          | go_keep
          | (first | exact ⟨(hb14.cell (p := ⟨w.heap.size, 0, none⟩) hlt).trans q0, (hb14.cell (p := ⟨w.heap.size, 1, none⟩) hlt).trans q1, (hb14.cell (p := ⟨w.heap.size, 2, none⟩) hlt).trans q2, (hb14.cell (p := ⟨w.heap.size, 3, none⟩) hlt).trans q3, (hb14.cell (p := ⟨w.heap.size, 4, none⟩) hlt).trans q4, (hb14.cell (p := ⟨w.heap.size, 5, none⟩) hlt).trans q5⟩ | exact ⟨(hb13.cell (p := ⟨w.heap.size, 0, none⟩) hlt).trans q0, (hb13.cell (p := ⟨w.heap.size, 1, none⟩) hlt).trans q1, (hb13.cell (p := ⟨w.heap.size, 2, none⟩) hlt).trans q2, (hb13.cell (p := ⟨w.heap.size, 3, none⟩) hlt).trans q3, (hb13.cell (p := ⟨w.heap.size, 4, none⟩) hlt).trans q4, (hb13.cell (p := ⟨w.heap.size, 5, none⟩) hlt).trans q5⟩ | exact ⟨(hb12.cell (p := ⟨w.heap.size, 0, none⟩) hlt).trans q0, (hb12.cell (p := ⟨w.heap.size, 1, none⟩) hlt).trans q1, (hb12.cell (p := ⟨w.heap.size, 2, none⟩) hlt).trans q2, (hb12.cell (p := ⟨w.heap.size, 3, none⟩) hlt).trans q3, (hb12.cell (p := ⟨w.heap.size, 4, none⟩) hlt).trans q4, (hb12.cell (p := ⟨w.heap.size, 5, none⟩) hlt).trans q5⟩))
        ((first
          | (go_at_call 10; refine (HPL.out.one (by exact heap_alloc_new w1 _) (by exact kJ.K_below ((Below.refl _ _).alloc (Nat.le_refl _) _).drew HK1.out)).mono ?_; rintro e w2 ⟨rfl, hbl⟩; have hb12 : Below w1.heap.size w1 w2 := ((Below.refl _ _).alloc (Nat.le_refl _) _).drew.trans (hbl.mono (by simp)))
          | (go_at_call 11; refine (implKind x _ _ HD.out HW.out (by first | exact kJ.K_below hb12 HK1.out | exact kJ.K_below hb12.drew HK1.out)).mono ?_; rintro e w3 ⟨rfl, hb3⟩; have hb13 : Below w1.heap.size w1 w3 := (by first | exact hb12.trans (hb3.mono hb12.size) | exact hb12.drew.trans (hb3.mono hb12.size)))
          | (go_at_call 12; refine (specKindC x _ _ HD.out (by first | exact kJ.K_below hb13 HK1.out | exact kJ.K_below hb13.drew HK1.out)).mono ?_; rintro e w4 ⟨rfl, hb4⟩; have hb14 : Below w1.heap.size w1 w4 := (by first | exact hb13.trans (hb4.mono hb13.size) | exact hb13.drew.trans (hb4.mono hb13.size)))
          | fail))
      go_wp2
      go_ret
      first | exact ⟨by simp, HB1.out.trans (hb14.mono HB1.out.size)⟩ | exact ⟨by simp, (HB1.out.trans (hb14.mono HB1.out.size)).drew⟩ | exact ⟨by simp, pw_below_drewN (HB1.out.trans (hb14.mono HB1.out.size)) _⟩
end Go.Proofs.Ytdleegmdpgefmaa.J
