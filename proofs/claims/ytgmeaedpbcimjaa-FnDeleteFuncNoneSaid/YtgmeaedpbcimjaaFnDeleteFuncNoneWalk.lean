/-
  What is proved here: the walk through the law FnDeleteFuncNone: it returns true.
  Conditions: the code is read as the form reads it.
-/
import Derived.Test.YtgmeaedpbcimjaaDraw
import Derived.Test.YtgmeaedpbcimjaaDrop
import Derived.Test.YtgmeaedpbcimjaaDelFunc
import Derived.Test.YtgmeaedpbcimjaaCopy
import Derived.Test.YtgmeaedpbcimjaaEqual
namespace Go.Proofs.Ytgmeaedpbcimjaa.fnDeleteFuncNone
open Go.RowKit Go.Maps
set_option linter.unusedSimpArgs false
set_option linter.unusedVariables false

theorem length_left (l rs : List (I × I)) : (left_of l rs).length ≤ l.length := List.length_filter_le _ _

theorem left_none (l : List (I × I)) : left_of l [] = l := by
  unfold left_of
  rw [List.filter_eq_self]
  intro p _
  simp
theorem left_all (xs : List (I × I)) : left_of (Plain.mapOf xs) xs = [] := by
  unfold left_of
  rw [List.filter_eq_nil_iff]
  intro p hp
  simp [Plain.mem_mapOf hp]

set_option maxRecDepth 100000 in
set_option maxHeartbeats 4000000 in
theorem walk (A : Option Addr) (n c : Nat) (zs : List Int) (w : World) (h : Bytes w A n c zs) :
    Calls Try.prog 4 #[.slice A n c] w fun e w' => e = .returned (.bool true) ∧ w.grownBy w' none := by
  have HB := Lib.hid h
  clear h
  by_cases hn : 1048576 < n
  · go_enter Try.func4, Try.ntmps4
    go_wp2_with fail
    go_ret
    exact ⟨rfl, World.grownBy.refl _ _⟩
  · go_enter Try.func4, Try.ntmps4
    go_wp2_with fail
    refine (drawDrop_any A n c zs _ HB.out (by omega)).mono ?_
    rintro e w1 ⟨A1, n1, c1, xs, A2, n2, c2, ys, A3, n3, c3, vs, rfl, X, hn1, Y, hn2, V, hn3, g0⟩
    have X := Lib.hid X
    have Y := Lib.hid Y
    have V := Lib.hid V
    have G := Lib.hid g0
    clear g0
    have lx := X.out.len2
    have ly := Y.out.len2
    have lv := V.out.len2
    go_wp2_with fail
    refine (deleteFunc_any A1 none n1 c1 0 0 xs [] _ X.out Has.none_ (by omega) (by omega)).mono ?_
    rintro e w2 ⟨B1, m1, d1, rfl, o0, g0⟩
    have X := Lib.hid (X.out.kept g0)
    have Y := Lib.hid (Y.out.kept g0)
    have V := Lib.hid (V.out.kept g0)
    have G := Lib.hid (G.out.trans g0)
    clear g0
    have hm1 : m1 ≤ 80 := by
      have t1 := o0.len
      have t2 := length_left (Plain.mapOf xs) ([])
      have t3 := Plain.length_mapOf_le (xs)
      try simp only [List.length_append, List.length_cons, List.length_nil] at t3
      omega
    have K1 := Lib.hid o0.has
    clear o0
    have lk1 := K1.out.len2
    go_wp2_with fail
    refine (equal_any B1 A1 m1 d1 n1 c1 (left_of (Plain.mapOf xs) []) xs _ K1.out X.out (by omega) (by omega)).mono ?_
    rintro e w3 ⟨rfl, g0⟩
    have X := Lib.hid (X.out.kept g0)
    have Y := Lib.hid (Y.out.kept g0)
    have V := Lib.hid (V.out.kept g0)
    have K1 := Lib.hid (K1.out.kept g0)
    have G := Lib.hid (G.out.trans g0)
    clear g0
    rw [show decide (Plain.mapOf (left_of (Plain.mapOf xs) []) = Plain.mapOf xs) = true from decide_eq_true (by rw [left_none, Plain.mapOf_mapOf])]
    go_wp2_with fail
    refine (deleteFunc_any A1 A1 n1 c1 n1 c1 xs xs _ X.out X.out (by omega) (by omega)).mono ?_
    rintro e w4 ⟨B2, m2, d2, rfl, o0, g0⟩
    have X := Lib.hid (X.out.kept g0)
    have Y := Lib.hid (Y.out.kept g0)
    have V := Lib.hid (V.out.kept g0)
    have K1 := Lib.hid (K1.out.kept g0)
    have G := Lib.hid (G.out.trans g0)
    clear g0
    have hm2 : m2 ≤ 80 := by
      have t1 := o0.len
      have t2 := length_left (Plain.mapOf xs) (xs)
      have t3 := Plain.length_mapOf_le (xs)
      try simp only [List.length_append, List.length_cons, List.length_nil] at t3
      omega
    have K2 := Lib.hid o0.has
    clear o0
    have lk2 := K2.out.len2
    have hm0 : m2 = 0 := by
      rw [← lk2, left_all]
      rfl
    subst hm0
    go_wp2_with fail
    refine (deleteFunc_any A1 A2 n1 c1 n2 c2 xs ys _ X.out Y.out (by omega) (by omega)).mono ?_
    rintro e w5 ⟨B3, m3, d3, rfl, o0, g0⟩
    have X := Lib.hid (X.out.kept g0)
    have Y := Lib.hid (Y.out.kept g0)
    have V := Lib.hid (V.out.kept g0)
    have K1 := Lib.hid (K1.out.kept g0)
    have K2 := Lib.hid (K2.out.kept g0)
    have G := Lib.hid (G.out.trans g0)
    clear g0
    have hm3 : m3 ≤ 80 := by
      have t1 := o0.len
      have t2 := length_left (Plain.mapOf xs) (ys)
      have t3 := Plain.length_mapOf_le (xs)
      try simp only [List.length_append, List.length_cons, List.length_nil] at t3
      omega
    have K3 := Lib.hid o0.has
    clear o0
    have lk3 := K3.out.len2
    go_wp2_with fail
    refine (clone_any A1 n1 c1 xs _ X.out (by omega)).mono ?_
    rintro e w6 ⟨B4, m4, d4, rfl, o0, g0⟩
    have X := Lib.hid (X.out.kept g0)
    have Y := Lib.hid (Y.out.kept g0)
    have V := Lib.hid (V.out.kept g0)
    have K1 := Lib.hid (K1.out.kept g0)
    have K2 := Lib.hid (K2.out.kept g0)
    have K3 := Lib.hid (K3.out.kept g0)
    have G := Lib.hid (G.out.trans g0)
    clear g0
    have hm4 : m4 ≤ 80 := by
      have t1 := o0.len
      have t2 := Plain.length_mapOf_le (xs)
      try simp only [List.length_append, List.length_cons, List.length_nil] at t2
      omega
    have K4 := Lib.hid o0.has
    clear o0
    have lk4 := K4.out.len2
    go_wp2_with fail
    refine (deleteFunc_any B4 A2 m4 d4 n2 c2 (Plain.mapOf xs) ys _ K4.out Y.out (by omega) (by omega)).mono ?_
    rintro e w7 ⟨B5, m5, d5, rfl, o0, g0⟩
    have X := Lib.hid (X.out.kept g0)
    have Y := Lib.hid (Y.out.kept g0)
    have V := Lib.hid (V.out.kept g0)
    have K1 := Lib.hid (K1.out.kept g0)
    have K2 := Lib.hid (K2.out.kept g0)
    have K3 := Lib.hid (K3.out.kept g0)
    have K4 := Lib.hid (K4.out.kept g0)
    have G := Lib.hid (G.out.trans g0)
    clear g0
    have hm5 : m5 ≤ 80 := by
      have t1 := o0.len
      have t2 := length_left (Plain.mapOf (Plain.mapOf xs)) (ys)
      have t3 := Plain.length_mapOf_le (Plain.mapOf xs)
      try simp only [List.length_append, List.length_cons, List.length_nil] at t3
      omega
    have K5 := Lib.hid o0.has
    clear o0
    have lk5 := K5.out.len2
    go_wp2_with fail
    refine (equal_any B3 B5 m3 d3 m5 d5 (left_of (Plain.mapOf xs) ys) (left_of (Plain.mapOf (Plain.mapOf xs)) ys) _ K3.out K5.out (by omega) (by omega)).mono ?_
    rintro e w8 ⟨rfl, g0⟩
    have X := Lib.hid (X.out.kept g0)
    have Y := Lib.hid (Y.out.kept g0)
    have V := Lib.hid (V.out.kept g0)
    have K1 := Lib.hid (K1.out.kept g0)
    have K2 := Lib.hid (K2.out.kept g0)
    have K3 := Lib.hid (K3.out.kept g0)
    have K4 := Lib.hid (K4.out.kept g0)
    have K5 := Lib.hid (K5.out.kept g0)
    have G := Lib.hid (G.out.trans g0)
    clear g0
    rw [show decide (Plain.mapOf (left_of (Plain.mapOf xs) ys) = Plain.mapOf (left_of (Plain.mapOf (Plain.mapOf xs)) ys)) = true from decide_eq_true (by rw [Plain.mapOf_mapOf])]
    go_wp2_with fail
    go_ret
    exact ⟨rfl, G.out⟩
end Go.Proofs.Ytgmeaedpbcimjaa.fnDeleteFuncNone
