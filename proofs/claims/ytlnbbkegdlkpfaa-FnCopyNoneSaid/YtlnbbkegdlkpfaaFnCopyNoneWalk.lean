/-
  What is proved here: the walk through the law FnCopyNone: it returns true.
  Conditions: the code is read as the form reads it.
-/
import Derived.Test.YtlnbbkegdlkpfaaDraw
import Derived.Test.YtlnbbkegdlkpfaaCopy
import Derived.Test.YtlnbbkegdlkpfaaEqual
namespace Go.Proofs.Ytlnbbkegdlkpfaa.fnCopyNone
open Go.RowKit Go.Maps
set_option linter.unusedSimpArgs false
set_option linter.unusedVariables false

theorem self (xs : List (I × I)) : Plain.mapOf (Plain.mapOf (xs ++ xs)) = Plain.mapOf xs := by
  rw [Plain.mapOf_mapOf]
  refine Plain.ext (Plain.srt_mapOf _) (Plain.srt_mapOf _) fun k => ?_
  rw [Plain.get_mapOf, Plain.get_mapOf, Plain.last_append]
  cases Plain.last k xs <;> rfl

set_option maxRecDepth 100000 in
set_option maxHeartbeats 4000000 in
theorem walk (A : Option Addr) (n c : Nat) (zs : List Int) (w : World) (h : Bytes w A n c zs) :
    Calls Try.prog 13 #[.slice A n c] w fun e w' => e = .returned (.bool true) ∧ w.grownBy w' none := by
  have HB := Lib.hid h
  clear h
  by_cases hn : 1048576 < n
  · go_enter Try.func13, Try.ntmps13
    go_wp2_with fail
    go_ret
    exact ⟨rfl, World.grownBy.refl _ _⟩
  · go_enter Try.func13, Try.ntmps13
    go_wp2_with fail
    refine (drawMaps_any A n c zs _ HB.out (by omega)).mono ?_
    rintro e w1 ⟨A1, n1, c1, xs, A2, n2, c2, ys, A3, n3, c3, vs, rfl, ⟨X, hn1⟩, ⟨Y, hn2⟩, ⟨V, hn3⟩, g0⟩
    have X := Lib.hid X
    have Y := Lib.hid Y
    have V := Lib.hid V
    have G := Lib.hid g0
    clear g0
    have lx := X.out.len2
    have ly := Y.out.len2
    have lv := V.out.len2
    go_wp2_with fail
    refine (copy_any A1 none n1 c1 0 0 xs [] _ X.out Has.none_ (by omega)).mono ?_
    rintro e w2 ⟨B1, m1, d1, rfl, o0, g0⟩
    have X := Lib.hid (X.out.kept g0)
    have Y := Lib.hid (Y.out.kept g0)
    have V := Lib.hid (V.out.kept g0)
    have G := Lib.hid (G.out.trans g0)
    clear g0
    have hm1 : m1 ≤ 40 := by
      have t1 := o0.len
      have t2 := Plain.length_mapOf_le (xs ++ [])
      try simp only [List.length_append, List.length_cons, List.length_nil] at t2
      omega
    have K1 := Lib.hid o0.has
    clear o0
    have lk1 := K1.out.len2
    go_wp2_with fail
    refine (equal_any B1 A1 m1 d1 n1 c1 (Plain.mapOf (xs ++ [])) xs _ K1.out X.out (by omega) (by omega)).mono ?_
    rintro e w3 ⟨rfl, g0⟩
    have X := Lib.hid (X.out.kept g0)
    have Y := Lib.hid (Y.out.kept g0)
    have V := Lib.hid (V.out.kept g0)
    have K1 := Lib.hid (K1.out.kept g0)
    have G := Lib.hid (G.out.trans g0)
    clear g0
    rw [show decide (Plain.mapOf (Plain.mapOf (xs ++ [])) = Plain.mapOf xs) = true from decide_eq_true (by rw [List.append_nil, Plain.mapOf_mapOf])]
    go_wp2_with fail
    refine (copy_any none A1 0 0 n1 c1 [] xs _ Has.none_ X.out (by omega)).mono ?_
    rintro e w4 ⟨B2, m2, d2, rfl, o0, g0⟩
    have X := Lib.hid (X.out.kept g0)
    have Y := Lib.hid (Y.out.kept g0)
    have V := Lib.hid (V.out.kept g0)
    have K1 := Lib.hid (K1.out.kept g0)
    have G := Lib.hid (G.out.trans g0)
    clear g0
    have hm2 : m2 ≤ 40 := by
      have t1 := o0.len
      have t2 := Plain.length_mapOf_le ([] ++ xs)
      try simp only [List.length_append, List.length_cons, List.length_nil] at t2
      omega
    have K2 := Lib.hid o0.has
    clear o0
    have lk2 := K2.out.len2
    go_wp2_with fail
    refine (equal_any B2 A1 m2 d2 n1 c1 (Plain.mapOf ([] ++ xs)) xs _ K2.out X.out (by omega) (by omega)).mono ?_
    rintro e w5 ⟨rfl, g0⟩
    have X := Lib.hid (X.out.kept g0)
    have Y := Lib.hid (Y.out.kept g0)
    have V := Lib.hid (V.out.kept g0)
    have K1 := Lib.hid (K1.out.kept g0)
    have K2 := Lib.hid (K2.out.kept g0)
    have G := Lib.hid (G.out.trans g0)
    clear g0
    rw [show decide (Plain.mapOf (Plain.mapOf ([] ++ xs)) = Plain.mapOf xs) = true from decide_eq_true (by rw [List.nil_append, Plain.mapOf_mapOf])]
    go_wp2_with fail
    refine (copy_any A1 A1 n1 c1 n1 c1 xs xs _ X.out X.out (by omega)).mono ?_
    rintro e w6 ⟨B3, m3, d3, rfl, o0, g0⟩
    have X := Lib.hid (X.out.kept g0)
    have Y := Lib.hid (Y.out.kept g0)
    have V := Lib.hid (V.out.kept g0)
    have K1 := Lib.hid (K1.out.kept g0)
    have K2 := Lib.hid (K2.out.kept g0)
    have G := Lib.hid (G.out.trans g0)
    clear g0
    have hm3 : m3 ≤ 80 := by
      have t1 := o0.len
      have t2 := Plain.length_mapOf_le (xs ++ xs)
      try simp only [List.length_append, List.length_cons, List.length_nil] at t2
      omega
    have K3 := Lib.hid o0.has
    clear o0
    have lk3 := K3.out.len2
    go_wp2_with fail
    refine (equal_any B3 A1 m3 d3 n1 c1 (Plain.mapOf (xs ++ xs)) xs _ K3.out X.out (by omega) (by omega)).mono ?_
    rintro e w7 ⟨rfl, g0⟩
    have X := Lib.hid (X.out.kept g0)
    have Y := Lib.hid (Y.out.kept g0)
    have V := Lib.hid (V.out.kept g0)
    have K1 := Lib.hid (K1.out.kept g0)
    have K2 := Lib.hid (K2.out.kept g0)
    have K3 := Lib.hid (K3.out.kept g0)
    have G := Lib.hid (G.out.trans g0)
    clear g0
    rw [show decide (Plain.mapOf (Plain.mapOf (xs ++ xs)) = Plain.mapOf xs) = true from decide_eq_true (self xs)]
    go_wp2_with fail
    go_ret
    exact ⟨rfl, G.out⟩
end Go.Proofs.Ytlnbbkegdlkpfaa.fnCopyNone
