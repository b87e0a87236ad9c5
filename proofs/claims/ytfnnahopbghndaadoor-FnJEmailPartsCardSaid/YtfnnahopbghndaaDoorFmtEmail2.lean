/- IsEmail, impl.JEmail: what they answer. -/
import Derived.Test.YtfnnahopbghndaaDoorFmtEmail
namespace Go.Proofs.YtfnnahopbghndaaDoor.Fmt
open Go.RowKit Go.Proofs.YtfnnahopbghndaaDoorW.PrintWords Go.Proofs.YtfnnahopbghndaaDoorW.PrintLast Go.Proofs.YtfnnahopbghndaaDoorW.PrintMore Go.Proofs.YtfnnahopbghndaaDoor.K
set_option linter.unusedVariables false
set_option linter.unusedSimpArgs false
theorem isEmail (s : ByteArray) (w : World) (hs : s.size ≤ 2147483647) (hq34 : 34 ∉ bs s) (hq91 : 91 ∉ bs s) : Calls Tryd.prog 35 #[.string s] w fun e w' => Says (emailOk (bs s)) e ∧ Below w.heap.size w w' := by
  go_enter Tryd.func35, Tryd.ntmps35
  go_wp2_with fail
  refine (valEmail s _ hs hq34 hq91).mono ?_
  rintro e w1 ⟨hr, hb⟩
  rcases hr with ⟨hok, rfl⟩ | ⟨hok, ⟨T, a, rfl⟩⟩
  · have H := Lib.hid hok
    clear hok
    go_wp2_with fail
    go_ret
    exact ⟨⟨_, rfl, by simp [H.out]⟩, hb⟩
  · have H := Lib.hid hok
    clear hok
    go_wp2_with fail
    go_ret
    exact ⟨⟨_, rfl, by simp [H.out]⟩, hb⟩
theorem implEmail (s : ByteArray) (w : World) (hs : s.size ≤ 2147483647) (hq34 : 34 ∉ bs s) (hq91 : 91 ∉ bs s) : Calls Tryd.prog 23 #[.string s] w fun e w' => Says (emailOk (bs s)) e ∧ Below w.heap.size w w' := by
  go_enter Tryd.func23, Tryd.ntmps23
  go_wp2_with fail
  refine (isEmail s _ hs hq34 hq91).mono ?_
  rintro e w1 ⟨⟨b, rfl, hb1⟩, hb⟩
  have HB := Lib.hid hb1
  clear hb1
  go_wp2_with fail
  go_ret
  exact ⟨⟨_, rfl, HB.out⟩, hb⟩
end Go.Proofs.YtfnnahopbghndaaDoor.Fmt
