/-
  What is proved here: the walk through the law FnExactClone: it returns true.
  Conditions: the list is read as the form reads it.
-/
import Derived.Test.YtmkoanbbgmjhbaaCopy
import Derived.Test.YtmkoanbbgmjhbaaSCopy
import Derived.Test.YtmkoanbbgmjhbaaSame
import Derived.Test.YtmkoanbbgmjhbaaOpen
namespace Go.Proofs.Ytmkoanbbgmjhbaa.fnExactClone
open Go.RowKit

set_option maxHeartbeats 400000 in
theorem walk (A : Option Addr) (n c : Nat) (xs : List (I × I)) (w : World) (hx : Arg twoI w A n c xs) (hn : n * 16 ≤ 140737488351232) :
    Calls Try.prog 8 #[.slice A n c] w fun e w' => e = .returned (.bool true) ∧ w.grownBy w' none := by
  have hlx : (Plain.mapOf xs).length ≤ n := by have := Plain.length_mapOf_le xs; rw [hx.has.len2] at this; exact this
  have HL := Lib.hid hlx
  clear hlx
  go_enter Try.func8, Try.ntmps8
  go_wp2_with fail
  refine (clone_any A n c xs _ hx.has (by omega)).mono ?_
  rintro e w1 ⟨A1, n1, c1, rfl, o1, g1⟩
  have h1 : n1 ≤ n := by have := o1.len; have := HL.out; omega
  go_wp2_with fail
  refine (sclone_any A n c xs _ (hx.has.kept g1) (by omega)).mono ?_
  rintro e w2 ⟨A2, n2, c2, rfl, o2, g2⟩
  have h2 : n2 ≤ n := by have := o2.len; have := HL.out; omega
  go_wp2_with fail
  refine (samePairs_any A1 A2 n1 c1 n2 c2 (Plain.mapOf xs) (Plain.mapOf xs) _ (o1.keptN g2).has o2.has (by omega) (by omega)).mono ?_
  rintro e w3 ⟨rfl, g3⟩
  go_wp2_with fail
  go_ret
  exact ⟨by simp, (g1.trans g2).trans g3⟩
end Go.Proofs.Ytmkoanbbgmjhbaa.fnExactClone
