/-
  What is proved here: the walk through the law FnDeleteFunc: it returns true.
  Conditions: the code is read as the form reads it.
-/
import Derived.Test.YtgmeaedpbcimjaaDraw
import Derived.Test.YtgmeaedpbcimjaaDrop
import Derived.Test.YtgmeaedpbcimjaaDelFunc
import Derived.Test.YtgmeaedpbcimjaaSDelFunc
import Derived.Test.YtgmeaedpbcimjaaSame
namespace Go.Proofs.Ytgmeaedpbcimjaa.fnDeleteFunc
open Go.RowKit Go.Maps
set_option linter.unusedSimpArgs false
set_option linter.unusedVariables false

theorem length_left (l rs : List (I × I)) : (left_of l rs).length ≤ l.length := List.length_filter_le _ _

set_option maxRecDepth 100000 in
set_option maxHeartbeats 4000000 in
theorem walk (A : Option Addr) (n c : Nat) (zs : List Int) (w : World) (h : Bytes w A n c zs) :
    Calls Try.prog 10 #[.slice A n c] w fun e w' => e = .returned (.bool true) ∧ w.grownBy w' none := by
  have HB := Lib.hid h
  clear h
  by_cases hn : 1048576 < n
  · go_enter Try.func10, Try.ntmps10
    go_wp2_with fail
    go_ret
    exact ⟨rfl, World.grownBy.refl _ _⟩
  · go_enter Try.func10, Try.ntmps10
    go_wp2_with fail
    refine (drawDrop_any A n c zs _ HB.out (by omega)).mono ?_
    rintro e w1 ⟨A1, n1, c1, xs, A2, n2, c2, ys, A3, n3, c3, vs, rfl, X, hn1, Y, hn2, V, hn3, g0⟩
    have X := Lib.hid X
    have Y := Lib.hid Y
    have V := Lib.hid V
    have G := Lib.hid g0
    clear g0
    have lx := X.out.len2
    have ly := Y.out.len2
    have lv := V.out.len2
    go_wp2_with fail
    refine (deleteFunc_any A1 A2 n1 c1 n2 c2 xs ys _ X.out Y.out (by omega) (by omega)).mono ?_
    rintro e w2 ⟨B1, m1, d1, rfl, o0, g0⟩
    have X := Lib.hid (X.out.kept g0)
    have Y := Lib.hid (Y.out.kept g0)
    have V := Lib.hid (V.out.kept g0)
    have G := Lib.hid (G.out.trans g0)
    clear g0
    have hm1 : m1 ≤ 80 := by
      have t1 := o0.len
      have t2 := length_left (Plain.mapOf xs) (ys)
      have t3 := Plain.length_mapOf_le (xs)
      try simp only [List.length_append, List.length_cons, List.length_nil] at t3
      omega
    have K1 := Lib.hid o0.has
    clear o0
    have lk1 := K1.out.len2
    go_wp2_with fail
    refine (sdeleteFunc_any A1 A2 n1 c1 n2 c2 xs ys _ X.out Y.out (by omega) (by omega)).mono ?_
    rintro e w3 ⟨B2, m2, d2, rfl, o0, g0⟩
    have X := Lib.hid (X.out.kept g0)
    have Y := Lib.hid (Y.out.kept g0)
    have V := Lib.hid (V.out.kept g0)
    have K1 := Lib.hid (K1.out.kept g0)
    have G := Lib.hid (G.out.trans g0)
    clear g0
    have hm2 : m2 ≤ 80 := by
      have t1 := o0.len
      have t2 := length_left (Plain.mapOf xs) (ys)
      have t3 := Plain.length_mapOf_le (xs)
      try simp only [List.length_append, List.length_cons, List.length_nil] at t3
      omega
    have K2 := Lib.hid o0.has
    clear o0
    have lk2 := K2.out.len2
    go_wp2_with fail
    refine (samePairs_any B1 B2 m1 d1 m2 d2 (left_of (Plain.mapOf xs) ys) (left_of (Plain.mapOf xs) ys) _ K1.out K2.out (by omega) (by omega)).mono ?_
    rintro e w4 ⟨rfl, g0⟩
    have X := Lib.hid (X.out.kept g0)
    have Y := Lib.hid (Y.out.kept g0)
    have V := Lib.hid (V.out.kept g0)
    have K1 := Lib.hid (K1.out.kept g0)
    have K2 := Lib.hid (K2.out.kept g0)
    have G := Lib.hid (G.out.trans g0)
    clear g0
    rw [show decide (left_of (Plain.mapOf xs) ys = left_of (Plain.mapOf xs) ys) = true from decide_eq_true rfl]
    go_wp2_with fail
    go_ret
    exact ⟨rfl, G.out⟩
end Go.Proofs.Ytgmeaedpbcimjaa.fnDeleteFunc
