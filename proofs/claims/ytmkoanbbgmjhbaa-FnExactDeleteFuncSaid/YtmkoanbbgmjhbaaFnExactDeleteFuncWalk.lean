/-
  What is proved here: the walk through the law FnExactDeleteFunc: it returns true.
  Conditions: the lists are read as the form reads them.
-/
import Derived.Test.YtmkoanbbgmjhbaaDelFunc
import Derived.Test.YtmkoanbbgmjhbaaSDelFunc
import Derived.Test.YtmkoanbbgmjhbaaSame
import Derived.Test.YtmkoanbbgmjhbaaOpen
namespace Go.Proofs.Ytmkoanbbgmjhbaa.fnExactDeleteFunc
open Go.RowKit

set_option maxHeartbeats 400000 in
theorem walk (A : Option Addr) (n c : Nat) (xs : List (I × I)) (B : Option Addr) (m d : Nat) (rs : List (I × I)) (w : World) (hx : Arg twoI w A n c xs) (hn : n * 16 ≤ 140737488351232) (hy : Arg twoI w B m d rs) (hm : m * 16 ≤ 140737488351232) :
    Calls Try.prog 13 #[.slice A n c, .slice B m d] w fun e w' => e = .returned (.bool true) ∧ w.grownBy w' none := by
  have hlx : (left_of (Plain.mapOf xs) rs).length ≤ n := by
    have h1 : (left_of (Plain.mapOf xs) rs).length ≤ (Plain.mapOf xs).length := List.length_filter_le _ _
    have h2 := Plain.length_mapOf_le xs
    rw [hx.has.len2] at h2
    omega
  have HL := Lib.hid hlx
  clear hlx
  go_enter Try.func13, Try.ntmps13
  go_wp2_with fail
  refine (deleteFunc_any A B n c m d xs rs _ hx.has hy.has (by omega) (by omega)).mono ?_
  rintro e w1 ⟨A1, n1, c1, rfl, o1, g1⟩
  have h1 : n1 ≤ n := by have := o1.len; have := HL.out; omega
  go_wp2_with fail
  refine (sdeleteFunc_any A B n c m d xs rs _ (hx.has.kept g1) (hy.has.kept g1) (by omega) (by omega)).mono ?_
  rintro e w2 ⟨A2, n2, c2, rfl, o2, g2⟩
  have h2 : n2 ≤ n := by have := o2.len; have := HL.out; omega
  go_wp2_with fail
  refine (samePairs_any A1 A2 n1 c1 n2 c2 _ _ _ (o1.keptN g2).has o2.has (by omega) (by omega)).mono ?_
  rintro e w3 ⟨rfl, g3⟩
  go_wp2_with fail
  go_ret
  exact ⟨by simp, (g1.trans g2).trans g3⟩
end Go.Proofs.Ytmkoanbbgmjhbaa.fnExactDeleteFunc
