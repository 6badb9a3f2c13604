/-
  What is proved here: the contracts of the thin package's CloneSet and SetClone: what is put into a map does not come into its clone, and the other way round.
  Conditions: the list has fewer than 2^43 pairs.
-/
import Derived.Test.YtlnbbkegdlkpfaaCopy
namespace Go.Proofs.Ytlnbbkegdlkpfaa
open Go.RowKit Go.Maps

set_option maxHeartbeats 1000000 in
set_option maxRecDepth 100000 in
theorem cloneSet_any (A : Option Addr) (n c : Nat) (xs : List (I × I)) (p : I × I) (w : World) (hx : Has w 2 A n (cells2 xs)) (hn : n < 8796093022208) :
    Calls Try.prog 28 #[.slice A n c, .agg #[.int .i64 p.1.1, .int .i64 p.2.1]] w fun e w' => ∃ A1 n1 c1 A2 n2 c2, e = .returned (.tuple #[.slice A1 n1 c1, .slice A2 n2 c2]) ∧
      OwnP w' w.heap.size A1 n1 c1 (Plain.mapOf xs) ∧ OwnP w' w.heap.size A2 n2 c2 (Plain.mapOf (xs ++ [p])) ∧ w.grownBy w' none := by
  have hl0 : (Plain.mapOf xs).length ≤ n := by have := Plain.length_mapOf_le xs; rw [hx.len2] at this; exact this
  have hl1 : (Plain.mapOf (xs ++ [p])).length ≤ n + 1 := by have := Plain.length_mapOf_le (xs ++ [p]); rw [List.length_append, hx.len2] at this; exact this
  have HL := Lib.hid (And.intro hl0 hl1)
  have HX := Lib.hid hx
  clear hl0 hl1 hx
  have hkey := key_of p.1
  have hval := plainElem_int (H := Unit) Try.underlying3 p.2.2
  have HK := Lib.hid (And.intro hkey hval)
  clear hkey hval
  go_enter Try.func28, Try.ntmps28
  go_wp2_with fail
  refine (toMap_any A n c xs _ (HX.out.kept (World.grownBy_alloc w _ none)) (by omega)).mono ?_
  rintro e w1 ⟨rfl, h1, g1⟩
  have G1 : w.grownBy w1 none := (World.grownBy_alloc w _ none).trans g1
  have c1 : w1.cell? ⟨w.heap.size, 0, none⟩ = some (.int .i64 p.1.1) := g1.cell (by simp) (by simp)
  have c2 : w1.cell? ⟨w.heap.size, 1, none⟩ = some (.int .i64 p.2.1) := g1.cell (by simp) (by simp)
  have hr : w.heap.size ≤ (w.alloc (.cells #[.int .i64 p.1.1, .int .i64 p.2.1] 29)).heap.size := by simp
  generalize (w.alloc (.cells #[.int .i64 p.1.1, .int .i64 p.2.1] 29)).heap.size = bm at h1 hr ⊢
  have hb1 := h1.lt
  have H1 := Lib.hid h1
  clear h1 g1
  go_wp2_with fail
  refine (clone_owns 3 (plainElem Try.prog 3) _ _ _ _ H1.out).mono ?_
  rintro e w2 ⟨rfl, h2, hs2, g2⟩
  have d1 := g2.cell c1 (by simp)
  have d2 := g2.cell c2 (by simp)
  have hm2 : Map w2 bm n (Plain.mapOf xs) := H1.out.kept g2 (by simp)
  have hc2 : Map w2 w1.heap.size n (Plain.mapOf xs) := h2
  have G2 := G1.trans g2
  have hr2 : w.heap.size ≤ w1.heap.size := G1.size
  clear h2 H1 c1 c2 g2 G1 hs2
  go_wp2_with (first
    | (at_mapUpdate; refine wpList_mapUpdate_own _ rfl _ _ _ 45 rfl 3 3 lawI Try.underlying45 _ w1.heap.size n _ rfl hc2 (by unfold maxLen; omega) _ _ _ rfl rfl HK.out.1 _ [] HK.out.2 ?_; intro w3 h3 g3)
    | fail)
  have h3' : Map w3 w1.heap.size (n + 1) (Plain.mapOf (xs ++ [p])) := by
    unfold Map
    rw [Plain.mapOf_snoc, ← dat_put (Plain.srt_mapOf xs)]
    exact h3
  have hk3 : Map w3 bm n (Plain.mapOf xs) := hm2.kept g3 (by simp; omega)
  have G3 := G2.andThen (row := none) g3 (fun j hj => .inl (by injection hj with e; subst e; omega))
  have H3 := Lib.hid (And.intro h3' hk3)
  clear h3 h3' hk3 hm2 hc2 d1 d2 g3 G2
  try go_wp2_with fail
  refine (toPairs_any bm _ _ (Plain.srt_mapOf _) _ H3.out.2 (by have := HL.out; omega)).mono ?_
  rintro e w4 ⟨A1, n1, c1, rfl, o4, g4⟩
  go_wp2_with fail
  refine (toPairs_any w1.heap.size _ _ (Plain.srt_mapOf _) _ (H3.out.1.kept g4 (by simp)) (by have := HL.out; omega)).mono ?_
  rintro e w5 ⟨A2, n2, c2, rfl, o5, g5⟩
  go_wp2_with fail
  go_ret2
  exact ⟨A1, n1, c1, A2, n2, c2, rfl, (o4.keptN g5).mono G3.size, o5.mono (G3.trans g4).size, (G3.trans g4).trans g5⟩

set_option maxHeartbeats 1000000 in
set_option maxRecDepth 100000 in
theorem setClone_any (A : Option Addr) (n c : Nat) (xs : List (I × I)) (p : I × I) (w : World) (hx : Has w 2 A n (cells2 xs)) (hn : n < 8796093022208) :
    Calls Try.prog 19 #[.slice A n c, .agg #[.int .i64 p.1.1, .int .i64 p.2.1]] w fun e w' => ∃ A1 n1 c1 A2 n2 c2, e = .returned (.tuple #[.slice A1 n1 c1, .slice A2 n2 c2]) ∧
      OwnP w' w.heap.size A1 n1 c1 (Plain.mapOf (xs ++ [p])) ∧ OwnP w' w.heap.size A2 n2 c2 (Plain.mapOf xs) ∧ w.grownBy w' none := by
  have hl0 : (Plain.mapOf xs).length ≤ n := by have := Plain.length_mapOf_le xs; rw [hx.len2] at this; exact this
  have hl1 : (Plain.mapOf (xs ++ [p])).length ≤ n + 1 := by have := Plain.length_mapOf_le (xs ++ [p]); rw [List.length_append, hx.len2] at this; exact this
  have HL := Lib.hid (And.intro hl0 hl1)
  have HX := Lib.hid hx
  clear hl0 hl1 hx
  have hkey := key_of p.1
  have hval := plainElem_int (H := Unit) Try.underlying3 p.2.2
  have HK := Lib.hid (And.intro hkey hval)
  clear hkey hval
  go_enter Try.func19, Try.ntmps19
  go_wp2_with fail
  refine (toMap_any A n c xs _ (HX.out.kept (World.grownBy_alloc w _ none)) (by omega)).mono ?_
  rintro e w1 ⟨rfl, h1, g1⟩
  have G1 : w.grownBy w1 none := (World.grownBy_alloc w _ none).trans g1
  have c1 : w1.cell? ⟨w.heap.size, 0, none⟩ = some (.int .i64 p.1.1) := g1.cell (by simp) (by simp)
  have c2 : w1.cell? ⟨w.heap.size, 1, none⟩ = some (.int .i64 p.2.1) := g1.cell (by simp) (by simp)
  have hr : w.heap.size ≤ (w.alloc (.cells #[.int .i64 p.1.1, .int .i64 p.2.1] 29)).heap.size := by simp
  generalize (w.alloc (.cells #[.int .i64 p.1.1, .int .i64 p.2.1] 29)).heap.size = bm at h1 hr ⊢
  have hb1 := h1.lt
  have H1 := Lib.hid h1
  clear h1 g1
  go_wp2_with fail
  refine (clone_owns 3 (plainElem Try.prog 3) _ _ _ _ H1.out).mono ?_
  rintro e w2 ⟨rfl, h2, hs2, g2⟩
  have d1 := g2.cell c1 (by simp)
  have d2 := g2.cell c2 (by simp)
  have hm2 : Map w2 bm n (Plain.mapOf xs) := H1.out.kept g2 (by simp)
  have hc2 : Map w2 w1.heap.size n (Plain.mapOf xs) := h2
  have G2 := G1.trans g2
  have hr2 : w.heap.size ≤ w1.heap.size := G1.size
  clear h2 H1 c1 c2 g2 G1 hs2
  go_wp2_with (first
    | (at_mapUpdate; refine wpList_mapUpdate_own _ rfl _ _ _ 45 rfl 3 3 lawI Try.underlying45 _ bm n _ rfl hm2 (by unfold maxLen; omega) _ _ _ rfl rfl HK.out.1 _ [] HK.out.2 ?_; intro w3 h3 g3)
    | fail)
  have h3' : Map w3 bm (n + 1) (Plain.mapOf (xs ++ [p])) := by
    unfold Map
    rw [Plain.mapOf_snoc, ← dat_put (Plain.srt_mapOf xs)]
    exact h3
  have hk3 : Map w3 w1.heap.size n (Plain.mapOf xs) := hc2.kept g3 (by simp; omega)
  have G3 := G2.andThen (row := none) g3 (fun j hj => .inl (by injection hj with e; subst e; omega))
  have H3 := Lib.hid (And.intro h3' hk3)
  clear h3 h3' hk3 hm2 hc2 d1 d2 g3 G2
  try go_wp2_with fail
  refine (toPairs_any bm _ _ (Plain.srt_mapOf _) _ H3.out.1 (by have := HL.out; omega)).mono ?_
  rintro e w4 ⟨A1, n1, c1, rfl, o4, g4⟩
  go_wp2_with fail
  refine (toPairs_any w1.heap.size _ _ (Plain.srt_mapOf _) _ (H3.out.2.kept g4 (by simp)) (by have := HL.out; omega)).mono ?_
  rintro e w5 ⟨A2, n2, c2, rfl, o5, g5⟩
  go_wp2_with fail
  go_ret2
  exact ⟨A1, n1, c1, A2, n2, c2, rfl, (o4.keptN g5).mono G3.size, o5.mono (G3.trans g4).size, (G3.trans g4).trans g5⟩
end Go.Proofs.Ytlnbbkegdlkpfaa
