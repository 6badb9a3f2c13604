/-
  What is proved here: the walk through the law FnEqualChain: it returns true.
  Conditions: the code is read as the form reads it.
-/
import Derived.Test.YtlnbbkegdlkpfaaDraw
import Derived.Test.YtlnbbkegdlkpfaaEqual
namespace Go.Proofs.Ytlnbbkegdlkpfaa.fnEqualChain
open Go.RowKit Go.Maps
set_option linter.unusedSimpArgs false
set_option linter.unusedVariables false

set_option maxRecDepth 100000 in
set_option maxHeartbeats 4000000 in
theorem walk (A : Option Addr) (n c : Nat) (zs : List Int) (w : World) (h : Bytes w A n c zs) :
    Calls Try.prog 4 #[.slice A n c] w fun e w' => e = .returned (.bool true) ∧ w.grownBy w' none := by
  have HB := Lib.hid h
  clear h
  by_cases hn : 1048576 < n
  · go_enter Try.func4, Try.ntmps4
    go_wp2_with fail
    go_ret
    exact ⟨rfl, World.grownBy.refl _ _⟩
  · go_enter Try.func4, Try.ntmps4
    have G := Lib.hid (World.grownBy.refl w none)
    go_wp2_with fail
    refine (equal_any none none 0 0 0 0 [] [] _ Has.none_ Has.none_ (by omega) (by omega)).mono ?_
    rintro e w0 ⟨rfl, g0⟩
    rw [show decide (Plain.mapOf [] = Plain.mapOf []) = true from decide_eq_true rfl]
    have HB := Lib.hid (HB.out.kept g0)
    have G := Lib.hid (G.out.trans g0)
    clear g0
    go_wp2_with fail
    refine (drawMaps_any A n c zs _ HB.out (by omega)).mono ?_
    rintro e w1 ⟨A1, n1, c1, xs, A2, n2, c2, ys, A3, n3, c3, vs, rfl, ⟨X, hn1⟩, ⟨Y, hn2⟩, ⟨V, hn3⟩, g0⟩
    have X := Lib.hid X
    have Y := Lib.hid Y
    have V := Lib.hid V
    have G := Lib.hid (G.out.trans g0)
    clear g0
    have lx := X.out.len2
    have ly := Y.out.len2
    have lv := V.out.len2
    go_wp2_with fail
    refine (equal_any A1 A2 n1 c1 n2 c2 xs ys _ X.out Y.out (by omega) (by omega)).mono ?_
    rintro e w2 ⟨rfl, g0⟩
    have X := Lib.hid (X.out.kept g0)
    have Y := Lib.hid (Y.out.kept g0)
    have V := Lib.hid (V.out.kept g0)
    have G := Lib.hid (G.out.trans g0)
    clear g0
    generalize hp : decide (Plain.mapOf xs = Plain.mapOf ys) = p
    cases p
    · go_wp2_with fail
      go_ret
      exact ⟨rfl, G.out⟩
    · go_wp2_with fail
      refine (equal_any A2 A3 n2 c2 n3 c3 ys vs _ Y.out V.out (by omega) (by omega)).mono ?_
      rintro e w3 ⟨rfl, g0⟩
      have X := Lib.hid (X.out.kept g0)
      have Y := Lib.hid (Y.out.kept g0)
      have V := Lib.hid (V.out.kept g0)
      have G := Lib.hid (G.out.trans g0)
      clear g0
      generalize hq : decide (Plain.mapOf ys = Plain.mapOf vs) = q
      cases q
      · go_wp2_with fail
        go_ret
        exact ⟨rfl, G.out⟩
      · go_wp2_with fail
        refine (equal_any A1 A3 n1 c1 n3 c3 xs vs _ X.out V.out (by omega) (by omega)).mono ?_
        rintro e w4 ⟨rfl, g0⟩
        have X := Lib.hid (X.out.kept g0)
        have Y := Lib.hid (Y.out.kept g0)
        have V := Lib.hid (V.out.kept g0)
        have G := Lib.hid (G.out.trans g0)
        clear g0
        rw [show decide (Plain.mapOf xs = Plain.mapOf vs) = true from decide_eq_true ((of_decide_eq_true hp).trans (of_decide_eq_true hq))]
        go_wp2_with fail
        go_ret
        exact ⟨rfl, G.out⟩
end Go.Proofs.Ytlnbbkegdlkpfaa.fnEqualChain
