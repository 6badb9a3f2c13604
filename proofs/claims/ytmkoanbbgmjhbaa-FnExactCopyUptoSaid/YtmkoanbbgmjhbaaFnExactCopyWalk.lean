/-
  What is proved here: the walk through the law FnExactCopy: it returns true.
  Conditions: each list has at most 2^20 pairs.
-/
import Derived.Test.YtmkoanbbgmjhbaaCopy
import Derived.Test.YtmkoanbbgmjhbaaSCopy
import Derived.Test.YtmkoanbbgmjhbaaSame
import Derived.Test.YtmkoanbbgmjhbaaOpen
namespace Go.Proofs.Ytmkoanbbgmjhbaa.fnExactCopy
open Go.RowKit

set_option maxHeartbeats 400000 in
theorem walk (A : Option Addr) (n c : Nat) (xs : List (I × I)) (B : Option Addr) (m d : Nat) (ys : List (I × I)) (w : World) (hx : Arg twoI w A n c xs) (_hn : n * 16 ≤ 140737488351232) (hy : Arg twoI w B m d ys) (_hm : m * 16 ≤ 140737488351232)
    (bn : n ≤ 1048576) (bm : m ≤ 1048576) :
    Calls Try.prog 9 #[.slice A n c, .slice B m d] w fun e w' => e = .returned (.bool true) ∧ w.grownBy w' none := by
  have hlx : (Plain.mapOf (xs ++ ys)).length ≤ n + m := by have := Plain.length_mapOf_le (xs ++ ys); rw [List.length_append, hx.has.len2, hy.has.len2] at this; exact this
  have HL := Lib.hid hlx
  clear hlx _hn _hm
  go_enter Try.func9, Try.ntmps9
  go_wp2_with fail
  refine (copy_any A B n c m d xs ys _ hx.has hy.has (by omega)).mono ?_
  rintro e w1 ⟨A1, n1, c1, rfl, o1, g1⟩
  have h1 : n1 ≤ n + m := by have := o1.len; have := HL.out; omega
  go_wp2_with fail
  refine (scopy_any A B n c m d xs ys _ (hx.has.kept g1) (hy.has.kept g1) (by omega)).mono ?_
  rintro e w2 ⟨A2, n2, c2, rfl, o2, g2⟩
  have h2 : n2 ≤ n + m := by have := o2.len; have := HL.out; omega
  go_wp2_with fail
  refine (samePairs_any A1 A2 n1 c1 n2 c2 (Plain.mapOf (xs ++ ys)) (Plain.mapOf (xs ++ ys)) _ (o1.keptN g2).has o2.has (by omega) (by omega)).mono ?_
  rintro e w3 ⟨rfl, g3⟩
  go_wp2_with fail
  go_ret
  exact ⟨by simp, (g1.trans g2).trans g3⟩
end Go.Proofs.Ytmkoanbbgmjhbaa.fnExactCopy
