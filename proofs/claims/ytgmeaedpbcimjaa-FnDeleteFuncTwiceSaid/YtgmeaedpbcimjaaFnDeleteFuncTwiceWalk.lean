/-
  What is proved here: the walk through the law FnDeleteFuncTwice: it returns true.
  Conditions: the code is read as the form reads it.
-/
import Derived.Test.YtgmeaedpbcimjaaDraw
import Derived.Test.YtgmeaedpbcimjaaDrop
import Derived.Test.YtgmeaedpbcimjaaDelFunc
import Derived.Test.YtgmeaedpbcimjaaSame
namespace Go.Proofs.Ytgmeaedpbcimjaa.fnDeleteFuncTwice
open Go.RowKit Go.Maps
set_option linter.unusedSimpArgs false
set_option linter.unusedVariables false

theorem length_left (l rs : List (I × I)) : (left_of l rs).length ≤ l.length := List.length_filter_le _ _

theorem one_left : (left_of (Plain.mapOf [((⟨1, by decide⟩, ⟨2, by decide⟩) : I × I)]) []).length = 1 := rfl
theorem twice (xs ys vs : List (I × I)) : left_of (Plain.mapOf (left_of (Plain.mapOf xs) ys)) vs = left_of (Plain.mapOf xs) (ys ++ vs) := by
  rw [Plain.mapOf_srt (srt_left (Plain.srt_mapOf xs) ys)]
  unfold left_of
  rw [List.filter_filter]
  congr 1
  funext p
  simp [Bool.and_comm]
theorem turned (xs ys vs : List (I × I)) : left_of (Plain.mapOf (left_of (Plain.mapOf xs) vs)) ys = left_of (Plain.mapOf xs) (ys ++ vs) := by
  rw [twice]
  unfold left_of
  congr 1
  funext p
  simp [Bool.and_comm]

set_option maxRecDepth 100000 in
set_option maxHeartbeats 4000000 in
theorem walk (A : Option Addr) (n c : Nat) (zs : List Int) (w : World) (h : Bytes w A n c zs) :
    Calls Try.prog 11 #[.slice A n c] w fun e w' => e = .returned (.bool true) ∧ w.grownBy w' none := by
  have HB := Lib.hid h
  clear h
  by_cases hn : 1048576 < n
  · go_enter Try.func11, Try.ntmps11
    go_wp2_with fail
    go_ret
    exact ⟨rfl, World.grownBy.refl _ _⟩
  · go_enter Try.func11, Try.ntmps11
    have G := Lib.hid (World.grownBy.refl w none)
    go_wp2_with fail
    refine (deleteFunc_any (some ⟨w.heap.size, 0, none⟩) none 1 1 0 0 [(⟨1, by decide⟩, ⟨2, by decide⟩)] [] _ (hasOne w (⟨1, by decide⟩, ⟨2, by decide⟩)) Has.none_ (by omega) (by omega)).mono ?_
    rintro e w0 ⟨B0, m0, d0, rfl, o0, g0⟩
    have hm0 : m0 = 1 := o0.len.symm
    subst hm0
    have g0 := (World.grownBy_alloc w _ none).trans g0
    have HB := Lib.hid (HB.out.kept g0)
    have G := Lib.hid (G.out.trans g0)
    clear g0 o0
    go_wp2_with fail
    refine (drawDrop_any A n c zs _ HB.out (by omega)).mono ?_
    rintro e w1 ⟨A1, n1, c1, xs, A2, n2, c2, ys, A3, n3, c3, vs, rfl, X, hn1, Y, hn2, V, hn3, g0⟩
    have X := Lib.hid X
    have Y := Lib.hid Y
    have V := Lib.hid V
    have G := Lib.hid (G.out.trans g0)
    clear g0
    have lx := X.out.len2
    have ly := Y.out.len2
    have lv := V.out.len2
    go_wp2_with (first
      | (at_builtin; refine wpList_appG0 (ys := ys) twoP oneP w1 _ rfl (.tmp 22) (.tmp 23) rfl rfl (World.grownBy_alloc w1 _ none) (Own.made w1 (Nat.le_refl _)) rfl (Y.out.kept (World.grownBy_alloc w1 _ none)) (by unfold maxLen; omega) (by omega) ?_; intro B5 d5 w5 o5 G5 g5)
      | (at_builtin; refine wpList_appG (xs := ys) (ys := vs) twoP oneP w1 _ rfl (.tmp 24) (.tmp 25) rfl rfl G5 o5 rfl (V.out.kept G5) (by unfold maxLen; omega) (by omega) ?_; intro B6 d6 w6 o6 G6 g6)
      | fail)
    have Q := Lib.hid o6.has
    clear o5 o6 g5 g6 G5
    have X := Lib.hid (X.out.kept G6)
    have Y := Lib.hid (Y.out.kept G6)
    have V := Lib.hid (V.out.kept G6)
    have G := Lib.hid (G.out.trans G6)
    clear G6
    refine (deleteFunc_any A1 B6 n1 c1 (n2 + n3) d6 xs (ys ++ vs) _ X.out Q.out (by omega) (by omega)).mono ?_
    rintro e w2 ⟨B1, m1, d1, rfl, o0, g0⟩
    have X := Lib.hid (X.out.kept g0)
    have Y := Lib.hid (Y.out.kept g0)
    have V := Lib.hid (V.out.kept g0)
    have Q := Lib.hid (Q.out.kept g0)
    have G := Lib.hid (G.out.trans g0)
    clear g0
    have hm1 : m1 ≤ 80 := by
      have t1 := o0.len
      have t2 := length_left (Plain.mapOf xs) (ys ++ vs)
      have t3 := Plain.length_mapOf_le (xs)
      try simp only [List.length_append, List.length_cons, List.length_nil] at t3
      omega
    have K1 := Lib.hid o0.has
    clear o0
    have lk1 := K1.out.len2
    clear Q
    go_wp2_with fail
    refine (deleteFunc_any A1 A2 n1 c1 n2 c2 xs ys _ X.out Y.out (by omega) (by omega)).mono ?_
    rintro e w3 ⟨B2, m2, d2, rfl, o0, g0⟩
    have X := Lib.hid (X.out.kept g0)
    have Y := Lib.hid (Y.out.kept g0)
    have V := Lib.hid (V.out.kept g0)
    have K1 := Lib.hid (K1.out.kept g0)
    have G := Lib.hid (G.out.trans g0)
    clear g0
    have hm2 : m2 ≤ 80 := by
      have t1 := o0.len
      have t2 := length_left (Plain.mapOf xs) (ys)
      have t3 := Plain.length_mapOf_le (xs)
      try simp only [List.length_append, List.length_cons, List.length_nil] at t3
      omega
    have K2 := Lib.hid o0.has
    clear o0
    have lk2 := K2.out.len2
    go_wp2_with fail
    refine (deleteFunc_any B2 A3 m2 d2 n3 c3 (left_of (Plain.mapOf xs) ys) vs _ K2.out V.out (by omega) (by omega)).mono ?_
    rintro e w4 ⟨B3, m3, d3, rfl, o0, g0⟩
    have X := Lib.hid (X.out.kept g0)
    have Y := Lib.hid (Y.out.kept g0)
    have V := Lib.hid (V.out.kept g0)
    have K1 := Lib.hid (K1.out.kept g0)
    have K2 := Lib.hid (K2.out.kept g0)
    have G := Lib.hid (G.out.trans g0)
    clear g0
    have hm3 : m3 ≤ 80 := by
      have t1 := o0.len
      have t2 := length_left (Plain.mapOf (left_of (Plain.mapOf xs) ys)) (vs)
      have t3 := Plain.length_mapOf_le (left_of (Plain.mapOf xs) ys)
      try simp only [List.length_append, List.length_cons, List.length_nil] at t3
      omega
    have K3 := Lib.hid o0.has
    clear o0
    have lk3 := K3.out.len2
    go_wp2_with fail
    refine (samePairs_any B3 B1 m3 d3 m1 d1 (left_of (Plain.mapOf (left_of (Plain.mapOf xs) ys)) vs) (left_of (Plain.mapOf xs) (ys ++ vs)) _ K3.out K1.out (by omega) (by omega)).mono ?_
    rintro e w5 ⟨rfl, g0⟩
    have X := Lib.hid (X.out.kept g0)
    have Y := Lib.hid (Y.out.kept g0)
    have V := Lib.hid (V.out.kept g0)
    have K1 := Lib.hid (K1.out.kept g0)
    have K2 := Lib.hid (K2.out.kept g0)
    have K3 := Lib.hid (K3.out.kept g0)
    have G := Lib.hid (G.out.trans g0)
    clear g0
    rw [show decide (left_of (Plain.mapOf (left_of (Plain.mapOf xs) ys)) vs = left_of (Plain.mapOf xs) (ys ++ vs)) = true from decide_eq_true (twice xs ys vs)]
    go_wp2_with fail
    refine (deleteFunc_any A1 A3 n1 c1 n3 c3 xs vs _ X.out V.out (by omega) (by omega)).mono ?_
    rintro e w6 ⟨B4, m4, d4, rfl, o0, g0⟩
    have X := Lib.hid (X.out.kept g0)
    have Y := Lib.hid (Y.out.kept g0)
    have V := Lib.hid (V.out.kept g0)
    have K1 := Lib.hid (K1.out.kept g0)
    have K2 := Lib.hid (K2.out.kept g0)
    have K3 := Lib.hid (K3.out.kept g0)
    have G := Lib.hid (G.out.trans g0)
    clear g0
    have hm4 : m4 ≤ 80 := by
      have t1 := o0.len
      have t2 := length_left (Plain.mapOf xs) (vs)
      have t3 := Plain.length_mapOf_le (xs)
      try simp only [List.length_append, List.length_cons, List.length_nil] at t3
      omega
    have K4 := Lib.hid o0.has
    clear o0
    have lk4 := K4.out.len2
    go_wp2_with fail
    refine (deleteFunc_any B4 A2 m4 d4 n2 c2 (left_of (Plain.mapOf xs) vs) ys _ K4.out Y.out (by omega) (by omega)).mono ?_
    rintro e w7 ⟨B5, m5, d5, rfl, o0, g0⟩
    have X := Lib.hid (X.out.kept g0)
    have Y := Lib.hid (Y.out.kept g0)
    have V := Lib.hid (V.out.kept g0)
    have K1 := Lib.hid (K1.out.kept g0)
    have K4 := Lib.hid (K4.out.kept g0)
    have K3 := Lib.hid (K3.out.kept g0)
    have G := Lib.hid (G.out.trans g0)
    clear g0
    have hm5 : m5 ≤ 80 := by
      have t1 := o0.len
      have t2 := length_left (Plain.mapOf (left_of (Plain.mapOf xs) vs)) (ys)
      have t3 := Plain.length_mapOf_le (left_of (Plain.mapOf xs) vs)
      try simp only [List.length_append, List.length_cons, List.length_nil] at t3
      omega
    have K5 := Lib.hid o0.has
    clear o0
    have lk5 := K5.out.len2
    go_wp2_with fail
    refine (samePairs_any B5 B1 m5 d5 m1 d1 (left_of (Plain.mapOf (left_of (Plain.mapOf xs) vs)) ys) (left_of (Plain.mapOf xs) (ys ++ vs)) _ K5.out K1.out (by omega) (by omega)).mono ?_
    rintro e w8 ⟨rfl, g0⟩
    have X := Lib.hid (X.out.kept g0)
    have Y := Lib.hid (Y.out.kept g0)
    have V := Lib.hid (V.out.kept g0)
    have K1 := Lib.hid (K1.out.kept g0)
    have K4 := Lib.hid (K4.out.kept g0)
    have K5 := Lib.hid (K5.out.kept g0)
    have G := Lib.hid (G.out.trans g0)
    clear g0
    rw [show decide (left_of (Plain.mapOf (left_of (Plain.mapOf xs) vs)) ys = left_of (Plain.mapOf xs) (ys ++ vs)) = true from decide_eq_true (turned xs ys vs)]
    go_wp2_with fail
    go_ret
    exact ⟨rfl, G.out⟩
end Go.Proofs.Ytgmeaedpbcimjaa.fnDeleteFuncTwice
