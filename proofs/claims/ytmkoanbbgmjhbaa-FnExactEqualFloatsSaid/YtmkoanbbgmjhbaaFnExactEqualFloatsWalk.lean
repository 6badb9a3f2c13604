/-
  What is proved here: the walk through the law FnExactEqualFloats: it returns true.
  Conditions: the two lists are read as the form reads them.
-/
import Derived.Test.YtmkoanbbgmjhbaaSF
namespace Go.Proofs.Ytmkoanbbgmjhbaa.fnExactEqualFloats
open Go.RowKit

set_option maxHeartbeats 400000 in
theorem walk (A : Option Addr) (n c : Nat) (xs : List (I × Nat)) (B : Option Addr) (m d : Nat) (ys : List (I × Nat)) (w : World) (hx : Arg twoF w A n c xs) (hn : n * 16 ≤ 140737488351232) (hy : Arg twoF w B m d ys) (hm : m * 16 ≤ 140737488351232) :
    Calls Try.prog 6 #[.slice A n c, .slice B m d] w fun e w' => e = .returned (.bool true) ∧ w.grownBy w' none := by
  go_enter Try.func6, Try.ntmps6
  go_wp2_with fail
  refine (equalF_any A B n c m d xs ys _ hx.has hy.has (by omega) (by omega)).mono ?_
  rintro e w1 ⟨r1, rfl, h1, g1⟩
  have H1 := Lib.hid h1
  clear h1
  go_wp2_with fail
  refine (sequalF_any A B n c m d xs ys _ (hx.has.kept g1) (hy.has.kept g1) (by omega) (by omega)).mono ?_
  rintro e w2 ⟨r2, rfl, h2, g2⟩
  obtain rfl : r1 = r2 := by rw [Bool.eq_iff_iff, H1.out, h2]
  clear h2 H1
  go_wp2_with fail
  go_ret
  exact ⟨by simp, g1.trans g2⟩
end Go.Proofs.Ytmkoanbbgmjhbaa.fnExactEqualFloats
