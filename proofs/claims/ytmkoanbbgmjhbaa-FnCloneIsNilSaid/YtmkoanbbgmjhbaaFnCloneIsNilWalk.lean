/-
  What is proved here: the walk through the law FnCloneIsNil: it returns true.
  Conditions: none.
-/
import Derived.Test.YtmkoanbbgmjhbaaClone
import Derived.Test.YtmkoanbbgmjhbaaOpen
namespace Go.Proofs.Ytmkoanbbgmjhbaa.fnCloneIsNil
open Go.RowKit

set_option maxHeartbeats 400000 in
theorem walk (A : Option Addr) (n c : Nat) (zs : List Int) (w : World) (_h : Bytes w A n c zs) :
    Calls Try.prog 3 #[.slice A n c] w fun e w' => e = .returned (.bool true) ∧ w.grownBy w' none := by
  by_cases hn : 1048576 < n
  · go_enter Try.func3, Try.ntmps3
    go_wp2_with fail
    go_ret
    exact ⟨rfl, World.grownBy.refl _ _⟩
  · go_enter Try.func3, Try.ntmps3
    go_wp2_with fail
    refine (cloneIsNil_any _ _).mono ?_
    rintro e w' ⟨rfl, hg⟩
    go_wp2
    go_ret
    exact ⟨by simp, hg⟩
end Go.Proofs.Ytmkoanbbgmjhbaa.fnCloneIsNil
