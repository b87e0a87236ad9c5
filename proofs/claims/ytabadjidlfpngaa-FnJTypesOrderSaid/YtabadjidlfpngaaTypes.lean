/- Types.add, Types.Add, impl.JTypes: what they answer. -/
import Derived.Test.YtabadjidlfpngaaK
import Derived.Test.YtabadjidlfpngaaPFnJTypesx1
import Derived.Deep.DeepCutAuto
import Derived.Outline
import Derived.Lib.Builder
import Derived.Deep.QuietTactic
import Derived.BigQuiet
namespace Go.Proofs.Ytabadjidlfpngaa.Types
open Go.RowKit Go.Proofs.Ytabadjidlfpngaa.PFnJTypes Go.Proofs.YtabadjidlfpngaaW.PrintWords Go.Proofs.YtabadjidlfpngaaW.PrintLast Go.Proofs.YtabadjidlfpngaaW.PrintMore Go.Proofs.Ytabadjidlfpngaa.K
set_option linter.unusedVariables false
set_option linter.unusedSimpArgs false

/-- A set of types as a number. -/
def mask (b1 b2 b3 b4 b5 b6 b7 : Bool) : Int :=
  (if b1 then 2 else 0) + (if b2 then 4 else 0) + (if b3 then 8 else 0) + (if b4 then 16 else 0) + (if b5 then 32 else 0) + (if b6 then 64 else 0) + (if b7 then 128 else 0)
/-- The seven names, in their order. -/
def kinds : List (List UInt8) := [[110, 117, 108, 108], [98, 111, 111, 108, 101, 97, 110], [110, 117, 109, 98, 101, 114], [105, 110, 116, 101, 103, 101, 114], [115, 116, 114, 105, 110, 103], [97, 114, 114, 97, 121], [111, 98, 106, 101, 99, 116]]
/-- The number of a set of names. -/
def maskOf (p : List UInt8 → Bool) : Int := mask (p kinds[0]) (p kinds[1]) (p kinds[2]) (p kinds[3]) (p kinds[4]) (p kinds[5]) (p kinds[6])

theorem or_all : ∀ b1 b2 b3 b4 b5 b6 b7 : Bool, (Go.bits .or .i64 (mask b1 b2 b3 b4 b5 b6 b7) 2 = mask true b2 b3 b4 b5 b6 b7 ∧ Go.bits .or .i64 (mask b1 b2 b3 b4 b5 b6 b7) 4 = mask b1 true b3 b4 b5 b6 b7 ∧ Go.bits .or .i64 (mask b1 b2 b3 b4 b5 b6 b7) 8 = mask b1 b2 true b4 b5 b6 b7 ∧ Go.bits .or .i64 (mask b1 b2 b3 b4 b5 b6 b7) 16 = mask b1 b2 b3 true b5 b6 b7) ∧ Go.bits .or .i64 (mask b1 b2 b3 b4 b5 b6 b7) 32 = mask b1 b2 b3 b4 true b6 b7 ∧ Go.bits .or .i64 (mask b1 b2 b3 b4 b5 b6 b7) 64 = mask b1 b2 b3 b4 b5 true b7 ∧ Go.bits .or .i64 (mask b1 b2 b3 b4 b5 b6 b7) 128 = mask b1 b2 b3 b4 b5 b6 true ∧ Go.bits .or .i64 (mask b1 b2 b3 b4 b5 b6 b7) 0 = mask b1 b2 b3 b4 b5 b6 b7 := by
  decide +kernel

/-- The code of a name. -/
def code (s : ByteArray) : Int := (jsonschema_typeFromString.f s).getD 0
theorem code_ev (s : ByteArray) : jsonschema_typeFromString.f s = some (code s) := by
  unfold code jsonschema_typeFromString.f
  repeat' split
  all_goals rfl

theorem mask_add (p : List UInt8 → Bool) (s : ByteArray) : Go.bits .or .i64 (maskOf p) (code s) = maskOf (fun k => p k || k == bs s) := by
  have e : s.toList = bs s := by rw [ByteArray.toList_eq, bs_data]
  have h := or_all (p kinds[0]) (p kinds[1]) (p kinds[2]) (p kinds[3]) (p kinds[4]) (p kinds[5]) (p kinds[6])
  unfold code jsonschema_typeFromString.f
  rw [e]
  unfold maskOf
  repeat' split
  all_goals first
    | (simp_all [kinds]; done)
    | (rename_i h1 h2 h3 h4 h5 h6 h7
       have g (k : List UInt8) (hk : ¬ bs s = k) : (k == bs s) = false := beq_eq_false_iff_ne.2 (Ne.symm hk)
       have g1 := g _ h1; have g2 := g _ h2; have g3 := g _ h3; have g4 := g _ h4; have g5 := g _ h5; have g6 := g _ h6; have g7 := g _ h7
       simp only [kinds, List.getElem_cons_zero, List.getElem_cons_succ, g1, g2, g3, g4, g5, g6, g7, Bool.or_false]
       simpa [kinds] using h.2.2.2.2)

set_option maxHeartbeats 1000000 in
theorem addW (b : Nat) (t x : Int) (w : World) (hc : w.heap[b]? = some (.cells #[.int .i64 t] 46 (0, 0))) :
    Calls Try.prog 41 #[.pointer (some ⟨b, 0, none⟩), .int .i64 x] w fun e w' => e = .returned (.tuple #[]) ∧ w' = w.setCell ⟨b, 0, none⟩ (.int .i64 (Go.bits .or .i64 t x)) := by
  have h0 : w.cell? ⟨b, 0, none⟩ = some (.int .i64 t) := by rw [Lib.cell_of_heap hc]; rfl
  have hf : w.frozen? ⟨b, 0, none⟩ = false := Lib.frozen_of_heap hc 0
  go_enter Try.func41, Try.ntmps41
  go_wp2
  go_end0
  exact ⟨rfl, rfl⟩

/-- Of the names that were added those of a list. -/
def told (l : List ByteArray) (k : List UInt8) : Bool := (l.map bs).contains k
theorem told_snoc (l : List ByteArray) (s : ByteArray) : (fun k => told l k || k == bs s) = told (l ++ [s]) := by
  funext k
  unfold told
  rw [List.map_append, List.contains_eq_any_beq, List.contains_eq_any_beq, List.any_append]
  simp

set_option maxHeartbeats 1000000 in
theorem addName (b : Nat) (t : Int) (s : ByteArray) (w : World) (hc : w.heap[b]? = some (.cells #[.int .i64 t] 46 (0, 0))) :
    Calls Try.prog 26 #[.pointer (some ⟨b, 0, none⟩), .string s] w fun e w' => e = .returned (.tuple #[]) ∧ w'.heap[b]? = some (.cells #[.int .i64 (Go.bits .or .i64 t (code s))] 46 (0, 0)) ∧ (∀ B, B ≤ b → Below B w w') := by
  go_enter Try.func26, Try.ntmps26
  go_wp2_with fail
  refine (jsonschema_typeFromString.calls s (code s) _ (code_ev s)).mono ?_
  rintro e w1 ⟨rfl, ⟨n, rfl⟩⟩
  have hc1 : (w.drewN n).heap[b]? = some (.cells #[.int .i64 t] 46 (0, 0)) := hc
  go_wp2_with fail
  refine (addW b t (code s) _ hc1).mono ?_
  rintro e w2 ⟨rfl, rfl⟩
  go_wp2_with fail
  go_end0
  refine ⟨rfl, ?_, fun B hB => (pw_below_drewN (Below.refl B w) n).setCell (p := ⟨b, 0, none⟩) hB _⟩
  simp [World.setCell, Array.getElem?_modify]
  exact ⟨_, hc1, rfl⟩

/-- impl.JTypes up to its end: the set holds the number of the names. -/
def kindText (l : List ByteArray) : List ByteArray := (kinds.filter (told l)).map fun k => ⟨k.toArray⟩

theorem toStr : ∀ b1 b2 b3 b4 b5 b6 b7 : Bool, jsonschema_Types_ToStrings.f 20 (mask b1 b2 b3 b4 b5 b6 b7) = some ((([b1, b2, b3, b4, b5, b6, b7].zip kinds).filter (·.1)).map fun x => (⟨x.2.toArray⟩ : ByteArray)) := by
  decide +kernel
theorem isEmp : ∀ b1 b2 b3 b4 b5 b6 b7 : Bool, (mask b1 b2 b3 b4 b5 b6 b7 == 0) = ((([b1, b2, b3, b4, b5, b6, b7].zip kinds).filter (·.1)).map fun x => (⟨x.2.toArray⟩ : ByteArray)).isEmpty := by
  decide +kernel
theorem zipf (p : List UInt8 → Bool) (l : List (List UInt8)) : ((((l.map p).zip l).filter (·.1)).map fun x => (⟨x.2.toArray⟩ : ByteArray)) = (l.filter p).map fun k => ⟨k.toArray⟩ := by
  induction l with
  | nil => rfl
  | cons a l ih =>
    simp only [List.map_cons, List.zip_cons_cons, List.filter_cons]
    cases p a <;> simp [ih]
theorem toText (l : List ByteArray) : jsonschema_Types_ToStrings.f 20 (maskOf (told l)) = some (kindText l) := by
  unfold maskOf kindText
  rw [toStr, ← zipf]
  rfl
theorem isNone (l : List ByteArray) : (maskOf (told l) == 0) = (kindText l).isEmpty := by
  unfold maskOf kindText
  rw [isEmp, ← zipf]
  rfl
end Go.Proofs.Ytabadjidlfpngaa.Types
