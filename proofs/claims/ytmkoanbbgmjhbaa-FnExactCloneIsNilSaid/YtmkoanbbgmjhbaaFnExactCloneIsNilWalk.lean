/-
  What is proved here: the walk through the law FnExactCloneIsNil: it returns true.
  Conditions: none.
-/
import Derived.Test.YtmkoanbbgmjhbaaClone
namespace Go.Proofs.Ytmkoanbbgmjhbaa.fnExactCloneIsNil
open Go.RowKit

set_option maxHeartbeats 400000 in
theorem walk (a0 : Bool) (w : World) :
    Calls Try.prog 4 #[.bool a0] w fun e w' => e = .returned (.bool true) ∧ w.grownBy w' none := by
  go_enter Try.func4, Try.ntmps4
  go_wp2_with fail
  refine (cloneIsNil_any _ _).mono ?_
  rintro e w' ⟨rfl, hg⟩
  go_wp2
  go_ret
  exact ⟨by simp, hg⟩
end Go.Proofs.Ytmkoanbbgmjhbaa.fnExactCloneIsNil
