/-
  What is proved here: the walk through the law FnEqualTexts: it returns true.
  Conditions: the code is read as the form reads it.
-/
import Derived.Test.YtmldacjpbifoaaaDrawT
import Derived.Test.YtmldacjpbifoaaaST
namespace Go.Proofs.Ytmldacjpbifoaaa.fnEqualTexts
open Go.RowKit Go.Maps
set_option linter.unusedSimpArgs false
set_option linter.unusedVariables false

theorem self (xs : List (Tx × Tx)) : Same eqvT xs xs := ⟨fun k v h => ⟨v, h, eqvT_self v⟩, fun k u h => ⟨u, h⟩⟩

set_option maxRecDepth 100000 in
set_option maxHeartbeats 1000000 in
theorem walk (A : Option Addr) (n c : Nat) (zs : List Int) (w : World) (h : Bytes w A n c zs) :
    Calls Try.prog 3 #[.slice A n c] w fun e w' => e = .returned (.bool true) ∧ w.grownBy w' none := by
  have HB := Lib.hid h
  clear h
  by_cases hn : 1048576 < n
  · go_enter Try.func3, Try.ntmps3
    go_wp2_with fail
    go_ret
    exact ⟨rfl, World.grownBy.refl _ _⟩
  · go_enter Try.func3, Try.ntmps3
    go_wp2_with fail
    refine (drawT_any A n c zs _ HB.out (by omega)).mono ?_
    rintro e w1 ⟨A1, n1, c1, xs, A2, n2, c2, ys, rfl, X, hn1, Y, hn2, g0⟩
    have X := Lib.hid X
    have Y := Lib.hid Y
    have G := Lib.hid g0
    clear g0
    have lx := X.out.lenBy
    have ly := Y.out.lenBy
    go_wp2_with fail
    refine (equalT_any A1 A2 n1 c1 n2 c2 xs ys _ X.out Y.out (by omega) (by omega)).mono ?_
    rintro e w2 ⟨r1, rfl, h0, g0⟩
    have Hr1 := Lib.hid h0
    have X := Lib.hid (X.out.kept g0)
    have Y := Lib.hid (Y.out.kept g0)
    have G := Lib.hid (G.out.trans g0)
    clear g0 h0
    go_wp2_with fail
    refine (sequalT_any A1 A2 n1 c1 n2 c2 xs ys _ X.out Y.out (by omega) (by omega)).mono ?_
    rintro e w3 ⟨r2, rfl, h0, g0⟩
    have Hr2 := Lib.hid h0
    have X := Lib.hid (X.out.kept g0)
    have Y := Lib.hid (Y.out.kept g0)
    have G := Lib.hid (G.out.trans g0)
    clear g0 h0
    obtain rfl : r1 = r2 := by rw [Bool.eq_iff_iff, Hr1.out, Hr2.out]
    have hbb : (r1 == r1) = true := by simp
    go_wp2_with fail
    refine (equalT_any A2 A1 n2 c2 n1 c1 ys xs _ Y.out X.out (by omega) (by omega)).mono ?_
    rintro e w4 ⟨r3, rfl, h0, g0⟩
    have Hr3 := Lib.hid h0
    have X := Lib.hid (X.out.kept g0)
    have Y := Lib.hid (Y.out.kept g0)
    have G := Lib.hid (G.out.trans g0)
    clear g0 h0
    go_wp2_with fail
    refine (equalT_any A1 A2 n1 c1 n2 c2 xs ys _ X.out Y.out (by omega) (by omega)).mono ?_
    rintro e w5 ⟨r4, rfl, h0, g0⟩
    have Hr4 := Lib.hid h0
    have X := Lib.hid (X.out.kept g0)
    have Y := Lib.hid (Y.out.kept g0)
    have G := Lib.hid (G.out.trans g0)
    clear g0 h0
    obtain rfl : r3 = r4 := by rw [Bool.eq_iff_iff, Hr3.out, Hr4.out]; exact ⟨fun h => h.symm eqvT_symm, fun h => h.symm eqvT_symm⟩
    have hcc : (r3 == r3) = true := by simp
    go_wp2_with fail
    refine (equalT_any A1 A1 n1 c1 n1 c1 xs xs _ X.out X.out (by omega) (by omega)).mono ?_
    rintro e w6 ⟨r5, rfl, h0, g0⟩
    have Hr5 := Lib.hid h0
    have X := Lib.hid (X.out.kept g0)
    have Y := Lib.hid (Y.out.kept g0)
    have G := Lib.hid (G.out.trans g0)
    clear g0 h0
    obtain rfl : r5 = true := Hr5.out.2 (self xs)
    go_wp2_with fail
    go_ret
    exact ⟨by simp, G.out⟩
end Go.Proofs.Ytmldacjpbifoaaa.fnEqualTexts
