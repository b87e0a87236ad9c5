/- IsTime, impl.JTime: what they answer. -/
import Derived.Test.YtfnnahopbghndaaDoorFmtTime
namespace Go.Proofs.YtfnnahopbghndaaDoor.Fmt
open Go.RowKit Go.Proofs.YtfnnahopbghndaaDoorW.PrintWords Go.Proofs.YtfnnahopbghndaaDoorW.PrintLast Go.Proofs.YtfnnahopbghndaaDoorW.PrintMore Go.Proofs.YtfnnahopbghndaaDoor.K
set_option linter.unusedVariables false
set_option linter.unusedSimpArgs false
theorem isTime (s : ByteArray) (w : World) (hs : s.size ≤ 4294967296) (hk : Kept w) : Calls Tryd.prog 29 #[.string s] w fun e w' => Says (timeOk (bs s)) e ∧ Below w.heap.size w w' := by
  go_enter Tryd.func29, Tryd.ntmps29
  go_wp2_with fail
  refine (valTime s _ hs hk).mono ?_
  rintro e w1 ⟨hr, hb⟩
  rcases hr with ⟨hok, rfl⟩ | ⟨hok, ⟨T, a, rfl⟩⟩
  · have H := Lib.hid hok
    clear hok
    go_wp2_with fail
    go_ret
    exact ⟨⟨_, rfl, by simp [H.out]⟩, hb⟩
  · have H := Lib.hid hok
    clear hok
    go_wp2_with fail
    go_ret
    exact ⟨⟨_, rfl, by simp [H.out]⟩, hb⟩
theorem implTime (s : ByteArray) (w : World) (hs : s.size ≤ 4294967296) (hk : Kept w) : Calls Tryd.prog 18 #[.string s] w fun e w' => Says (timeOk (bs s)) e ∧ Below w.heap.size w w' := by
  go_enter Tryd.func18, Tryd.ntmps18
  go_wp2_with fail
  refine (isTime s _ hs hk).mono ?_
  rintro e w1 ⟨⟨b, rfl, hb1⟩, hb⟩
  have HB := Lib.hid hb1
  clear hb1
  go_wp2_with fail
  go_ret
  exact ⟨⟨_, rfl, HB.out⟩, hb⟩
end Go.Proofs.YtfnnahopbghndaaDoor.Fmt
