/-
  What is proved here: the walk through the law FnExactEqual: it returns true.
  Conditions: the two lists are read as the form reads them.
-/
import Derived.Test.YtmkoanbbgmjhbaaEqual
import Derived.Test.YtmkoanbbgmjhbaaSEqual
import Derived.Test.YtmkoanbbgmjhbaaOpen
namespace Go.Proofs.Ytmkoanbbgmjhbaa.fnExactEqual
open Go.RowKit

set_option maxHeartbeats 400000 in
theorem walk (A : Option Addr) (n c : Nat) (xs : List (I × I)) (B : Option Addr) (m d : Nat) (ys : List (I × I)) (w : World) (hx : Arg twoI w A n c xs) (hn : n * 16 ≤ 140737488351232) (hy : Arg twoI w B m d ys) (hm : m * 16 ≤ 140737488351232) :
    Calls Try.prog 5 #[.slice A n c, .slice B m d] w fun e w' => e = .returned (.bool true) ∧ w.grownBy w' none := by
  go_enter Try.func5, Try.ntmps5
  go_wp2_with fail
  refine (equal_any A B n c m d xs ys _ hx.has hy.has (by omega) (by omega)).mono ?_
  rintro e w1 ⟨rfl, g1⟩
  go_wp2_with fail
  refine (sequal_any A B n c m d xs ys _ (hx.has.kept g1) (hy.has.kept g1) (by omega) (by omega)).mono ?_
  rintro e w2 ⟨rfl, g2⟩
  go_wp2_with fail
  go_ret
  exact ⟨by simp, g1.trans g2⟩
end Go.Proofs.Ytmkoanbbgmjhbaa.fnExactEqual
