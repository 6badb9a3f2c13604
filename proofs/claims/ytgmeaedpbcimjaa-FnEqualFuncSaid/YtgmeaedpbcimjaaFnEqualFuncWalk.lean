/-
  What is proved here: the walk through the law FnEqualFunc: it returns true.
  Conditions: the code is read as the form reads it.
-/
import Derived.Test.YtgmeaedpbcimjaaDraw
import Derived.Test.YtgmeaedpbcimjaaRelated
import Derived.Test.YtgmeaedpbcimjaaEqFunc
import Derived.Test.YtgmeaedpbcimjaaSEqFunc
namespace Go.Proofs.Ytgmeaedpbcimjaa.fnEqualFunc
open Go.RowKit Go.Maps
set_option linter.unusedSimpArgs false
set_option linter.unusedVariables false

set_option maxRecDepth 100000 in
set_option maxHeartbeats 4000000 in
theorem walk (A : Option Addr) (n c : Nat) (zs : List Int) (w : World) (h : Bytes w A n c zs) :
    Calls Try.prog 6 #[.slice A n c] w fun e w' => e = .returned (.bool true) ∧ w.grownBy w' none := by
  have HB := Lib.hid h
  clear h
  by_cases hn : 1048576 < n
  · go_enter Try.func6, Try.ntmps6
    go_wp2_with fail
    go_ret
    exact ⟨rfl, World.grownBy.refl _ _⟩
  · go_enter Try.func6, Try.ntmps6
    go_wp2_with fail
    refine (drawRelated_any A n c zs _ HB.out (by omega)).mono ?_
    rintro e w1 ⟨A1, n1, c1, xs, A2, n2, c2, ys, A3, n3, c3, vs, rfl, X, hn1, Y, hn2, V, hn3, hc3, hs3, g0⟩
    have X := Lib.hid X
    have Y := Lib.hid Y
    have V := Lib.hid V
    have G := Lib.hid g0
    clear g0
    clear hc3 hs3
    have lx := X.out.len2
    have ly := Y.out.len2
    have lv := V.out.len2
    go_wp2_with fail
    refine (equalFunc_any A1 A2 A3 n1 c1 n2 c2 n3 c3 xs ys vs _ X.out Y.out V.out (by omega) (by omega) (by omega)).mono ?_
    rintro e w2 ⟨rfl, g0⟩
    have X := Lib.hid (X.out.kept g0)
    have Y := Lib.hid (Y.out.kept g0)
    have V := Lib.hid (V.out.kept g0)
    have G := Lib.hid (G.out.trans g0)
    clear g0
    generalize hp : related (fun x y => decide ((x, y) ∈ vs)) (Plain.mapOf xs) (Plain.mapOf ys) = p
    go_wp2_with fail
    refine (sequalFunc_any A1 A2 A3 n1 c1 n2 c2 n3 c3 xs ys vs _ X.out Y.out V.out (by omega) (by omega) (by omega)).mono ?_
    rintro e w3 ⟨rfl, g0⟩
    have X := Lib.hid (X.out.kept g0)
    have Y := Lib.hid (Y.out.kept g0)
    have V := Lib.hid (V.out.kept g0)
    have G := Lib.hid (G.out.trans g0)
    clear g0
    rw [hp]
    go_wp2_with fail
    go_ret
    exact ⟨by simp, G.out⟩
end Go.Proofs.Ytgmeaedpbcimjaa.fnEqualFunc
