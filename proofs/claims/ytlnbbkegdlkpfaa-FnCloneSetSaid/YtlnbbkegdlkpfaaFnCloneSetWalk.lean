/-
  What is proved here: the walk through the law FnCloneSet: it returns true.
  Conditions: the code is read as the form reads it.
-/
import Derived.Test.YtlnbbkegdlkpfaaDraw
import Derived.Test.YtlnbbkegdlkpfaaSet
import Derived.Test.YtlnbbkegdlkpfaaEqual
import Derived.Test.YtlnbbkegdlkpfaaCopy
import Derived.Test.YtlnbbkegdlkpfaaAt
namespace Go.Proofs.Ytlnbbkegdlkpfaa.fnCloneSet
open Go.RowKit Go.Maps
set_option linter.unusedSimpArgs false
set_option linter.unusedVariables false

theorem last_put (xs : List (I × I)) (p : I × I) : Plain.last p.1 (Plain.mapOf (xs ++ [p])) = some p.2 := by
  rw [Plain.last_eq_get (Plain.srt_mapOf _).once, Plain.get_mapOf, Plain.last_snoc, if_pos rfl]

set_option maxRecDepth 100000 in
set_option maxHeartbeats 4000000 in
theorem walk (A : Option Addr) (n c : Nat) (zs : List Int) (w : World) (h : Bytes w A n c zs) :
    Calls Try.prog 14 #[.slice A n c] w fun e w' => e = .returned (.bool true) ∧ w.grownBy w' none := by
  have HB := Lib.hid h
  clear h
  by_cases hn : 1048576 < n
  · go_enter Try.func14, Try.ntmps14
    go_wp2_with fail
    go_ret
    exact ⟨rfl, World.grownBy.refl _ _⟩
  · go_enter Try.func14, Try.ntmps14
    go_wp2_with fail
    refine (drawSet_any A n c zs _ HB.out (by omega)).mono ?_
    rintro e w1 ⟨A1, n1, c1, xs, p, rfl, ⟨X, hn1⟩, g0⟩
    have X := Lib.hid X
    have G := Lib.hid g0
    clear g0
    have lx := X.out.len2
    go_wp2_with fail
    have PP := Lib.hid (PairAt.made w1 (.int .i64 p.1.1) (.int .i64 p.2.1) 29)
    have ga := World.grownBy_alloc w1 (.cells #[.int .i64 p.1.1, .int .i64 p.2.1] 29) none
    have X := Lib.hid (X.out.kept ga)
    have G := Lib.hid (G.out.trans ga)
    clear ga
    generalize w1.alloc (.cells #[.int .i64 p.1.1, .int .i64 p.2.1] 29) = wp at PP X G ⊢
    generalize w1.heap.size = gp at PP ⊢
    refine (cloneSet_any A1 n1 c1 xs p _ X.out (by omega)).mono ?_
    rintro e w2 ⟨B1, m1, d1, B2, m2, d2, rfl, o1, o2, g0⟩
    have PP := Lib.hid (PP.out.kept g0 (by simp))
    have X := Lib.hid (X.out.kept g0)
    have G := Lib.hid (G.out.trans g0)
    clear g0
    have hm1 : m1 ≤ 41 := by
      have t1 := o1.len
      have t2 := Plain.length_mapOf_le (xs)
      try simp only [List.length_append, List.length_cons, List.length_nil] at t2
      omega
    have K1 := Lib.hid o1.has
    have lk1 := K1.out.len2
    clear o1
    have hm2 : m2 ≤ 41 := by
      have t1 := o2.len
      have t2 := Plain.length_mapOf_le (xs ++ [p])
      try simp only [List.length_append, List.length_cons, List.length_nil] at t2
      omega
    have K2 := Lib.hid o2.has
    have lk2 := K2.out.len2
    clear o2
    have p0 := PP.out.c0
    have p1 := PP.out.c1
    go_wp2_with fail
    clear p0 p1
    refine (sAt_any B2 m2 d2 (Plain.mapOf (xs ++ [p])) p.1 _ K2.out (by omega)).mono ?_
    rintro e wz ⟨rfl, rfl⟩
    rw [last_put]
    simp only [vOf, Option.isSome]
    go_wp2_with fail
    refine (equal_any B1 A1 m1 d1 n1 c1 (Plain.mapOf (xs)) xs _ K1.out X.out (by omega) (by omega)).mono ?_
    rintro e w3 ⟨rfl, g0⟩
    have PP := Lib.hid (PP.out.kept g0 (by simp))
    have X := Lib.hid (X.out.kept g0)
    have K1 := Lib.hid (K1.out.kept g0)
    have K2 := Lib.hid (K2.out.kept g0)
    have G := Lib.hid (G.out.trans g0)
    clear g0
    rw [show decide (Plain.mapOf (Plain.mapOf (xs)) = Plain.mapOf xs) = true from decide_eq_true (Plain.mapOf_mapOf xs)]
    have p0 := PP.out.c0
    have p1 := PP.out.c1
    go_wp2_with fail
    clear p0 p1
    have ga := World.grownBy_alloc w3 (.cells #[.int .i64 p.1.1, .int .i64 p.2.1] 29) none
    have X := Lib.hid (X.out.kept ga)
    have K1 := Lib.hid (K1.out.kept ga)
    have K2 := Lib.hid (K2.out.kept ga)
    have G := Lib.hid (G.out.trans ga)
    have Q := Lib.hid (hasOne w3 p)
    clear ga PP
    generalize w3.alloc (.cells #[.int .i64 p.1.1, .int .i64 p.2.1] 29) = wq at X K1 K2 G Q ⊢
    generalize w3.heap.size = gq at Q ⊢
    refine (copy_any A1 (some ⟨gq, 0, none⟩) n1 c1 1 1 xs [p] _ X.out Q.out (by omega)).mono ?_
    rintro e w4 ⟨B3, m3, d3, rfl, o0, g0⟩
    have X := Lib.hid (X.out.kept g0)
    have K1 := Lib.hid (K1.out.kept g0)
    have K2 := Lib.hid (K2.out.kept g0)
    have Q := Lib.hid (Q.out.kept g0)
    have G := Lib.hid (G.out.trans g0)
    clear g0
    have hm3 : m3 ≤ 41 := by
      have t1 := o0.len
      have t2 := Plain.length_mapOf_le (xs ++ [p])
      try simp only [List.length_append, List.length_cons, List.length_nil] at t2
      omega
    have K3 := Lib.hid o0.has
    clear o0
    have lk3 := K3.out.len2
    go_wp2_with fail
    refine (equal_any B2 B3 m2 d2 m3 d3 (Plain.mapOf (xs ++ [p])) (Plain.mapOf (xs ++ [p])) _ K2.out K3.out (by omega) (by omega)).mono ?_
    rintro e w5 ⟨rfl, g0⟩
    have X := Lib.hid (X.out.kept g0)
    have K1 := Lib.hid (K1.out.kept g0)
    have K2 := Lib.hid (K2.out.kept g0)
    have Q := Lib.hid (Q.out.kept g0)
    have K3 := Lib.hid (K3.out.kept g0)
    have G := Lib.hid (G.out.trans g0)
    clear g0
    rw [show decide (Plain.mapOf (Plain.mapOf (xs ++ [p])) = Plain.mapOf (Plain.mapOf (xs ++ [p]))) = true from decide_eq_true rfl]
    go_wp2_with fail
    go_ret
    exact ⟨rfl, G.out⟩
end Go.Proofs.Ytlnbbkegdlkpfaa.fnCloneSet
