/-
  What is proved here: the contracts of the reference's CloneSet and SetClone: the sorted list of the pairs, and of those with one more.
  Conditions: the list has fewer than 2^43 pairs.
-/
import Derived.Test.YtmkoanbbgmjhbaaSCopy
namespace Go.Proofs.Ytmkoanbbgmjhbaa
open Go.RowKit Go.Maps

theorem hasOne1 (w : World) (o : Obj) (p : I × I) : Has ((w.alloc o).alloc (.cells #[.int .i64 p.1.1, .int .i64 p.2.1] 36)) 2 (some ⟨w.heap.size + 1, 0, none⟩) 1 (cells2 [p]) :=
  (Own.one1 (f := twoI) (E := 36) (base := 0) w o p (Nat.zero_le _)).has

set_option maxHeartbeats 1000000 in
set_option maxRecDepth 100000 in
theorem ssetClone_any (A : Option Addr) (n c : Nat) (xs : List (I × I)) (p : I × I) (w : World) (hx : Has w 2 A n (cells2 xs)) (hn : n < 8796093022208) :
    Calls Try.prog 32 #[.slice A n c, .agg #[.int .i64 p.1.1, .int .i64 p.2.1]] w fun e w' => ∃ A1 n1 c1 A2 n2 c2, e = .returned (.tuple #[.slice A1 n1 c1, .slice A2 n2 c2]) ∧
      OwnP w' w.heap.size A1 n1 c1 (Plain.mapOf (xs ++ [p])) ∧ OwnP w' w.heap.size A2 n2 c2 (Plain.mapOf xs) ∧ w.grownBy w' none := by
  have HX := Lib.hid hx
  clear hx
  go_enter Try.func32, Try.ntmps32
  go_wp2_with fail
  have G0 := galloc (World.grownBy_alloc w (.cells #[.int .i64 p.1.1, .int .i64 p.2.1] 36) none) (.cells #[.int .i64 p.1.1, .int .i64 p.2.1] 36)
  refine (scopy_any A _ n c 1 1 xs [p] _ (HX.out.kept G0) (hasOne1 w _ p) (by omega)).mono ?_
  rintro e w1 ⟨A1, n1, c1, rfl, o1, g1⟩
  have G1 := G0.trans g1
  go_wp2_with fail
  refine (smap_any A n c xs _ (HX.out.kept G1) (by omega)).mono ?_
  rintro e w2 ⟨A2, n2, c2, rfl, o2, g2⟩
  go_wp2_with fail
  go_ret2
  exact ⟨A1, n1, c1, A2, n2, c2, rfl, (o1.keptN g2).mono G0.size, o2.mono G1.size, G1.trans g2⟩

set_option maxHeartbeats 4000000 in
set_option maxRecDepth 100000 in
theorem scloneSet_any (A : Option Addr) (n c : Nat) (xs : List (I × I)) (p : I × I) (w : World) (hx : Has w 2 A n (cells2 xs)) (hn : n < 8796093022208) :
    Calls Try.prog 30 #[.slice A n c, .agg #[.int .i64 p.1.1, .int .i64 p.2.1]] w fun e w' => ∃ A1 n1 c1 A2 n2 c2, e = .returned (.tuple #[.slice A1 n1 c1, .slice A2 n2 c2]) ∧
      OwnP w' w.heap.size A1 n1 c1 (Plain.mapOf xs) ∧ OwnP w' w.heap.size A2 n2 c2 (Plain.mapOf (xs ++ [p])) ∧ w.grownBy w' none := by
  have HX := Lib.hid hx
  clear hx
  go_enter Try.func30, Try.ntmps30
  go_wp2_with fail
  have G0 := World.grownBy_alloc w (.cells #[.int .i64 p.1.1, .int .i64 p.2.1] 36) none
  go_region_held3 (fun w' => w'.cell? ⟨w.heap.size, 0, none⟩ = some (.int .i64 p.1.1) ∧ w'.cell? ⟨w.heap.size, 1, none⟩ = some (.int .i64 p.2.1))
    (first
      | go_keep
      | (go_split_ands; refine ⟨?_, ?_⟩ <;> first | exact gC.cell ‹_› (by simp) | exact gA.cell ‹_› (by simp)))
    (first
      | (go_at_call 38; refine (smap_any A n c xs _ (by exact HX.out.kept (by repeat (first | exact GC | exact G0 | apply gdrew | apply galloc))) (by omega)).mono ?_; rintro e wA ⟨A1, n1, c1, rfl, oA, gA⟩; have GA : w.grownBy wA none := (by first | exact GC.trans gA | exact World.grownBy.trans (by repeat (first | exact G0 | apply gdrew | apply galloc)) gA))
      | (go_at_call 26; refine (scopy_any A _ n c 1 1 xs [p] _ (by exact HX.out.kept (by repeat (first | exact GA | exact G0 | apply gdrew | apply galloc))) (by first | exact hasOne wA p | exact ((hasOne1 w _ p) : Has ((w.alloc _).alloc _) _ _ _ _) | exact Has.kept (w := (((w.alloc _).alloc _).drew)) (hasOne1 w _ p) gA) (by omega)).mono ?_; rintro e wC ⟨A2, n2, c2, rfl, oC, gC⟩; have GC : w.grownBy wC none := (by first | exact GA.trans gC | exact (galloc GA _).trans gC | exact World.grownBy.trans (by repeat (first | exact G0 | apply gdrew | apply galloc)) gC)))
  all_goals go_wp2
  all_goals go_ret2
  · exact ⟨A1, n1, c1, A2, n2, c2, rfl, ((oA.alloc _).keptN gC).mono G0.size, oC.mono (galloc GA _).size, GC⟩
  · exact ⟨A1, n1, c1, A2, n2, c2, rfl, (oA.keptN gC).mono (galloc G0 _).size, oC.mono GA.size, GC⟩
end Go.Proofs.Ytmkoanbbgmjhbaa
