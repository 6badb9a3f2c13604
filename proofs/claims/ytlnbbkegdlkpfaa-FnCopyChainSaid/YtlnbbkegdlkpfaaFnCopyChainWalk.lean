/-
  What is proved here: the walk through the law FnCopyChain: it returns true.
  Conditions: the code is read as the form reads it.
-/
import Derived.Test.YtlnbbkegdlkpfaaDraw
import Derived.Test.YtlnbbkegdlkpfaaCopy
import Derived.Test.YtlnbbkegdlkpfaaSame
namespace Go.Proofs.Ytlnbbkegdlkpfaa.fnCopyChain
open Go.RowKit Go.Maps
set_option linter.unusedSimpArgs false
set_option linter.unusedVariables false

theorem chain (xs ys vs : List (I × I)) : Plain.mapOf (Plain.mapOf (xs ++ ys) ++ vs) = Plain.mapOf (xs ++ Plain.mapOf (ys ++ vs)) := by
  refine Plain.ext (Plain.srt_mapOf _) (Plain.srt_mapOf _) fun k => ?_
  rw [Plain.get_mapOf, Plain.get_mapOf, Plain.last_append, Plain.last_append, Plain.last_eq_get (Plain.srt_mapOf _).once, Plain.last_eq_get (Plain.srt_mapOf _).once, Plain.get_mapOf, Plain.get_mapOf, Plain.last_append, Plain.last_append]
  cases Plain.last k ys <;> cases Plain.last k vs <;> cases Plain.last k xs <;> rfl

set_option maxRecDepth 100000 in
set_option maxHeartbeats 4000000 in
theorem walk (A : Option Addr) (n c : Nat) (zs : List Int) (w : World) (h : Bytes w A n c zs) :
    Calls Try.prog 10 #[.slice A n c] w fun e w' => e = .returned (.bool true) ∧ w.grownBy w' none := by
  have HB := Lib.hid h
  clear h
  by_cases hn : 1048576 < n
  · go_enter Try.func10, Try.ntmps10
    go_wp2_with fail
    go_ret
    exact ⟨rfl, World.grownBy.refl _ _⟩
  · go_enter Try.func10, Try.ntmps10
    have G := Lib.hid (World.grownBy.refl w none)
    go_wp2_with fail
    refine (copy_any none (some ⟨w.heap.size, 0, none⟩) 0 0 1 1 [] [(⟨1, by decide⟩, ⟨2, by decide⟩)] _ Has.none_ (hasOne w (⟨1, by decide⟩, ⟨2, by decide⟩)) (by omega)).mono ?_
    rintro e w0 ⟨B0, m0, d0, rfl, o0, g0⟩
    have hm0 : m0 = 1 := o0.len.symm
    subst hm0
    have g0 := (World.grownBy_alloc w _ none).trans g0
    have HB := Lib.hid (HB.out.kept g0)
    have G := Lib.hid (G.out.trans g0)
    clear g0 o0
    go_wp2_with fail
    refine (drawMaps_any A n c zs _ HB.out (by omega)).mono ?_
    rintro e w1 ⟨A1, n1, c1, xs, A2, n2, c2, ys, A3, n3, c3, vs, rfl, ⟨X, hn1⟩, ⟨Y, hn2⟩, ⟨V, hn3⟩, g0⟩
    have X := Lib.hid X
    have Y := Lib.hid Y
    have V := Lib.hid V
    have G := Lib.hid (G.out.trans g0)
    clear g0
    have lx := X.out.len2
    have ly := Y.out.len2
    have lv := V.out.len2
    go_wp2_with fail
    refine (copy_any A1 A2 n1 c1 n2 c2 xs ys _ X.out Y.out (by omega)).mono ?_
    rintro e w2 ⟨B1, m1, d1, rfl, o0, g0⟩
    have X := Lib.hid (X.out.kept g0)
    have Y := Lib.hid (Y.out.kept g0)
    have V := Lib.hid (V.out.kept g0)
    have G := Lib.hid (G.out.trans g0)
    clear g0
    have hm1 : m1 ≤ 80 := by
      have t1 := o0.len
      have t2 := Plain.length_mapOf_le (xs ++ ys)
      try simp only [List.length_append, List.length_cons, List.length_nil] at t2
      omega
    have K1 := Lib.hid o0.has
    clear o0
    have lk1 := K1.out.len2
    go_wp2_with fail
    refine (copy_any B1 A3 m1 d1 n3 c3 (Plain.mapOf (xs ++ ys)) vs _ K1.out V.out (by omega)).mono ?_
    rintro e w3 ⟨B2, m2, d2, rfl, o0, g0⟩
    have X := Lib.hid (X.out.kept g0)
    have Y := Lib.hid (Y.out.kept g0)
    have V := Lib.hid (V.out.kept g0)
    have K1 := Lib.hid (K1.out.kept g0)
    have G := Lib.hid (G.out.trans g0)
    clear g0
    have hm2 : m2 ≤ 120 := by
      have t1 := o0.len
      have t2 := Plain.length_mapOf_le (Plain.mapOf (xs ++ ys) ++ vs)
      try simp only [List.length_append, List.length_cons, List.length_nil] at t2
      omega
    have K2 := Lib.hid o0.has
    clear o0
    have lk2 := K2.out.len2
    go_wp2_with fail
    refine (copy_any A2 A3 n2 c2 n3 c3 ys vs _ Y.out V.out (by omega)).mono ?_
    rintro e w4 ⟨B3, m3, d3, rfl, o0, g0⟩
    have X := Lib.hid (X.out.kept g0)
    have Y := Lib.hid (Y.out.kept g0)
    have V := Lib.hid (V.out.kept g0)
    have K1 := Lib.hid (K1.out.kept g0)
    have K2 := Lib.hid (K2.out.kept g0)
    have G := Lib.hid (G.out.trans g0)
    clear g0
    have hm3 : m3 ≤ 80 := by
      have t1 := o0.len
      have t2 := Plain.length_mapOf_le (ys ++ vs)
      try simp only [List.length_append, List.length_cons, List.length_nil] at t2
      omega
    have K3 := Lib.hid o0.has
    clear o0
    have lk3 := K3.out.len2
    go_wp2_with fail
    refine (copy_any A1 B3 n1 c1 m3 d3 xs (Plain.mapOf (ys ++ vs)) _ X.out K3.out (by omega)).mono ?_
    rintro e w5 ⟨B4, m4, d4, rfl, o0, g0⟩
    have X := Lib.hid (X.out.kept g0)
    have Y := Lib.hid (Y.out.kept g0)
    have V := Lib.hid (V.out.kept g0)
    have K1 := Lib.hid (K1.out.kept g0)
    have K2 := Lib.hid (K2.out.kept g0)
    have K3 := Lib.hid (K3.out.kept g0)
    have G := Lib.hid (G.out.trans g0)
    clear g0
    have hm4 : m4 ≤ 120 := by
      have t1 := o0.len
      have t2 := Plain.length_mapOf_le (xs ++ Plain.mapOf (ys ++ vs))
      try simp only [List.length_append, List.length_cons, List.length_nil] at t2
      omega
    have K4 := Lib.hid o0.has
    clear o0
    have lk4 := K4.out.len2
    go_wp2_with fail
    refine (samePairs_any B2 B4 m2 d2 m4 d4 (Plain.mapOf (Plain.mapOf (xs ++ ys) ++ vs)) (Plain.mapOf (xs ++ Plain.mapOf (ys ++ vs))) _ K2.out K4.out (by omega) (by omega)).mono ?_
    rintro e w6 ⟨rfl, g0⟩
    have X := Lib.hid (X.out.kept g0)
    have Y := Lib.hid (Y.out.kept g0)
    have V := Lib.hid (V.out.kept g0)
    have K1 := Lib.hid (K1.out.kept g0)
    have K2 := Lib.hid (K2.out.kept g0)
    have K3 := Lib.hid (K3.out.kept g0)
    have K4 := Lib.hid (K4.out.kept g0)
    have G := Lib.hid (G.out.trans g0)
    clear g0
    rw [show decide (Plain.mapOf (Plain.mapOf (xs ++ ys) ++ vs) = Plain.mapOf (xs ++ Plain.mapOf (ys ++ vs))) = true from decide_eq_true (chain xs ys vs)]
    go_wp2_with fail
    go_ret
    exact ⟨rfl, G.out⟩
end Go.Proofs.Ytlnbbkegdlkpfaa.fnCopyChain
