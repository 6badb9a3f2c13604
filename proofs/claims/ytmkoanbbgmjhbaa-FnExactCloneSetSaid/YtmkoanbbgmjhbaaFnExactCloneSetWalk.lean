/-
  What is proved here: the walk through the law FnExactCloneSet: it returns true.
  Conditions: the list and the pair are read as the form reads them.
-/
import Derived.Test.YtmkoanbbgmjhbaaSet
import Derived.Test.YtmkoanbbgmjhbaaSSet
import Derived.Test.YtmkoanbbgmjhbaaSame
import Derived.Test.YtmkoanbbgmjhbaaOpen
namespace Go.Proofs.Ytmkoanbbgmjhbaa.fnExactCloneSet
open Go.RowKit

theorem same {A B : Option Addr} {n c m d : Nat} {xs : List (I × I)} {w : World} (hx : Has w 2 A n (cells2 xs)) (hy : Has w 2 B m (cells2 xs)) (hn : n ≤ 17592186044416) (hm : m ≤ 17592186044416) :
    Calls Try.prog 22 #[.slice A n c, .slice B m d] w fun e w' => e = .returned (.bool true) ∧ w.grownBy w' none :=
  (samePairs_any A B n c m d xs xs w hx hy hn hm).mono fun e w' ⟨he, hg⟩ => ⟨by rw [he]; simp, hg⟩

set_option maxHeartbeats 1000000 in
theorem walk (A : Option Addr) (n c : Nat) (xs : List (I × I)) (p : I × I) (w : World) (hx : Arg twoI w A n c xs) (hn : n * 16 ≤ 140737488351232) :
    Calls Try.prog 11 #[.slice A n c, .agg #[.int .i64 p.1.1, .int .i64 p.2.1]] w fun e w' => e = .returned (.bool true) ∧ w.grownBy w' none := by
  have hl0 : (Plain.mapOf xs).length ≤ n := by have := Plain.length_mapOf_le xs; rw [hx.has.len2] at this; exact this
  have hl1 : (Plain.mapOf (xs ++ [p])).length ≤ n + 1 := by have := Plain.length_mapOf_le (xs ++ [p]); rw [List.length_append, hx.has.len2] at this; exact this
  have HL := Lib.hid (And.intro hl0 hl1)
  clear hl0 hl1
  go_enter Try.func11, Try.ntmps11
  go_wp2_with fail
  have g0 := World.grownBy_alloc w (.cells #[.int .i64 p.1.1, .int .i64 p.2.1] 36) none
  refine (cloneSet_any A n c xs p _ (hx.has.kept g0) (by omega)).mono ?_
  rintro e w1 ⟨A1, n1, c1, A2, n2, c2, rfl, o1, o2, g1⟩
  have k1 : w1.cell? ⟨w.heap.size, 0, none⟩ = some (.int .i64 p.1.1) := g1.cell (by simp) (by simp)
  have k2 : w1.cell? ⟨w.heap.size, 1, none⟩ = some (.int .i64 p.2.1) := g1.cell (by simp) (by simp)
  have b1 : n1 ≤ n + 1 := by have := o1.len; have := HL.out; omega
  have b2 : n2 ≤ n + 1 := by have := o2.len; have := HL.out; omega
  have G1 := g0.trans g1
  go_wp2_with fail
  refine (scloneSet_any A n c xs p _ (hx.has.kept G1) (by omega)).mono ?_
  rintro e w2 ⟨A3, n3, c3, A4, n4, c4, rfl, o3, o4, g2⟩
  have b3 : n3 ≤ n + 1 := by have := o3.len; have := HL.out; omega
  have b4 : n4 ≤ n + 1 := by have := o4.len; have := HL.out; omega
  clear k1 k2
  go_wp2_with fail
  refine (same (o1.keptN g2).has o3.has (by omega) (by omega)).mono ?_
  rintro e w3 ⟨rfl, g3⟩
  go_wp2_with fail
  refine (same ((o2.keptN g2).keptN g3).has (o4.keptN g3).has (by omega) (by omega)).mono ?_
  rintro e w4 ⟨rfl, g4⟩
  go_wp2_with fail
  go_ret
  exact ⟨rfl, ((G1.trans g2).trans g3).trans g4⟩
end Go.Proofs.Ytmkoanbbgmjhbaa.fnExactCloneSet
