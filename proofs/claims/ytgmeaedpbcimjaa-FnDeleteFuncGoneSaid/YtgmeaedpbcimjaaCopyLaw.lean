/-
  What is proved here: copy(out[i+1:], out[i:]) on a row of the call's own, of elements of two cells: all from place i on lies one place further.
  Conditions: place i is there.
-/
import Derived.Test.YtgmeaedpbcimjaaAppend
import Derived.Laws.CopyRow
import Derived.Laws.CopyOwn
namespace Go.Proofs.Ytgmeaedpbcimjaa
open Go.RowKit Go.Maps

section
variable {α : Type} {f : α → Value × Value} {T E : TypeId} {bytes : Nat} (two : Two T E bytes) (hone : ∀ p, (f p).1.oneCell' = true ∧ (f p).2.oneCell' = true)
variable (w0 w : World) {g n c i dl dc sl sc : Nat} {dp sp : Option Addr} {xs : List α}

theorem cellsBy_take (xs : List α) (k : Nat) : cellsBy f (xs.take k) = (cellsBy f xs).take (k * 2) := by
  induction xs generalizing k with
  | nil => simp [cellsBy_nil]
  | cons p r ih =>
    cases k with
    | zero => simp [cellsBy_nil]
    | succ k => rw [List.take_succ_cons, cellsBy_cons, cellsBy_cons, show (k + 1) * 2 = k * 2 + 1 + 1 from by omega, List.take_succ_cons, List.take_succ_cons, ih]

theorem cellsBy_drop (xs : List α) (k : Nat) : cellsBy f (xs.drop k) = (cellsBy f xs).drop (k * 2) := by
  induction xs generalizing k with
  | nil => simp [cellsBy_nil]
  | cons p r ih =>
    cases k with
    | zero => simp
    | succ k => rw [List.drop_succ_cons, cellsBy_cons, show (k + 1) * 2 = k * 2 + 1 + 1 from by omega, List.drop_succ_cons, List.drop_succ_cons, ih]

/-- a list whose part from i on lies one place further -/
def shifted (xs : List α) (i : Nat) : List α := xs.take (i + 1) ++ (xs.drop i).take (xs.length - (i + 1))

theorem length_shifted (xs : List α) (i : Nat) (hi : i + 1 ≤ xs.length) : (shifted xs i).length = xs.length := by
  simp [shifted]; omega

theorem shifted_snoc (l : List α) (z : α) (i : Nat) (hi : i ≤ l.length) (p : α) : (shifted (l ++ [z]) i).set i p = l.take i ++ p :: l.drop i := by
  have e1 : (shifted (l ++ [z]) i) = (l ++ [z]).take (i + 1) ++ l.drop i := by
    unfold shifted
    rw [List.drop_append_of_le_length hi, List.length_append, List.length_singleton]
    congr 1
    rw [List.take_append_of_le_length (by rw [List.length_drop]; omega), List.take_of_length_le (by rw [List.length_drop]; omega)]
  have hlt : i < (l ++ [z]).length := by simp; omega
  rw [e1, List.take_succ_eq_append_getElem hlt, List.append_assoc, List.set_append_right _ _ (by rw [List.length_take]; omega)]
  have e2 : (List.take i (l ++ [z])).length = i := by simp; omega
  rw [e2, Nat.sub_self, List.singleton_append, List.set_cons_zero, List.take_append_of_le_length hi]

include two hone in
theorem run_shift (ty : TypeId) (hown : Own f E w w0.heap.size (some ⟨g, 0, none⟩) n c xs) (hi : i + 1 ≤ n) (hdl : dl = n - (i + 1)) (hsl : sl = n - i)
    (hdp : 0 < dl → dp = some ⟨g, (i + 1) * 2, none⟩) (hsp : 0 < dl → sp = some ⟨g, i * 2, none⟩) :
    ∃ w', (Builtin.copy_ #[T, T] ty #[.slice dp dl dc, .slice sp sl sc]).run Try.prog w = .ok (goInt dl) w' ∧ Own f E w' w0.heap.size (some ⟨g, 0, none⟩) n c (shifted xs i) ∧ w.grownBy w' (some g) := by
  obtain ⟨ti, z, hti, hz, hsz, hby, hzc⟩ := two.inf
  have hlx := hown.len
  have hmin : Nat.min sl dl = dl := Nat.min_eq_right (by omega)
  by_cases h0 : dl = 0
  · have e : shifted xs i = xs := by
      unfold shifted
      rw [show xs.length - (i + 1) = 0 from by omega, List.take_zero, List.append_nil, List.take_of_length_le (by omega)]
    rw [e]
    refine ⟨w, ?_, hown, World.grownBy.refl _ _⟩
    subst h0
    cases dp <;> cases sp <;> simp [Builtin.copy_, run_underlying two.und, Builtin.lenOf, Builtin.firstCells, sizeOf, typeInfo, hti, storeCells, loadCells, loadCellsFrom]
  · obtain rfl := hdp (by omega)
    obtain rfl := hsp (by omega)
    rcases hown.2.2 with ⟨hv, _⟩ | ⟨g', cap, cur, hv, hb, hh, hnc, hcm, hcs, htake⟩
    · injection hv with hA
      cases hA
    · injection hv with hA hn hc
      cases hA
      subst hc
      have hcl : cur.toList.length = c * 2 := by rw [Array.length_toList]; exact hcs
      have hcsl : (cellsBy f ((xs.drop i).take dl)).length = dl * 2 := by rw [cellsBy_length]; simp; omega
      have hsrc : ∀ j v, (cellsBy f ((xs.drop i).take dl))[j]? = some v → w.cell? ((⟨g, i * 2, none⟩ : Addr).add j) = some v := by
        intro j v hj
        have hjl := (List.getElem?_eq_some_iff.1 hj).1
        rw [hcsl] at hjl
        rw [show (⟨g, i * 2, none⟩ : Addr).add j = ⟨g, i * 2 + j, none⟩ from by unfold Addr.add; split <;> simp_all, hown.2.cellAt _ (by omega)]
        rw [cellsBy_take, cellsBy_drop, List.getElem?_take, if_pos hjl, List.getElem?_drop] at hj
        exact hj
      have hl := run_loadCells_list (P := Try.prog) w ⟨g, i * 2, none⟩ (cellsBy f ((xs.drop i).take dl)) hsrc
      have hst := run_storeCells_at Try.prog g ((i + 1) * 2) E (cellsBy f ((xs.drop i).take dl)) 0 cur w hh (by rw [hcsl, ← Array.length_toList, hcl]; omega) (one_of hone _)
      simp only [Nat.add_zero] at hst
      rw [hcsl] at hl
      refine ⟨w.setRow g (cur.toList.take ((i + 1) * 2) ++ cellsBy f ((xs.drop i).take dl) ++ cur.toList.drop ((i + 1) * 2 + (cellsBy f ((xs.drop i).take dl)).length)).toArray, ?_, ⟨by rw [length_shifted _ _ (by omega)]; exact hlx, ⟨by rw [cellsBy_length, length_shifted _ _ (by omega), hlx], .inr ⟨g, c, _, rfl, hb, setRow_heap w g cur _ E _ hh, hnc, hcm, ?_, ?_⟩⟩⟩, ⟨rfl, rfl, rfl, by simp [World.setRow], fun k hk hne => ?_⟩⟩
      · simp only [Builtin.copy_, Builtin.lenOf, Builtin.firstCells, sizeOf, typeInfo]
        simp [hti, hsz, hl, hst, hmin, run_underlying two.und]
      · simp only [List.size_toArray, List.length_append, List.length_take, List.length_drop, hcl, hcsl]; omega
      · have e1 : cur.toList.take ((i + 1) * 2) = cellsBy f (xs.take (i + 1)) := by
          rw [cellsBy_take, ← htake, List.take_take]
          congr 1
          omega
        rw [List.toList_toArray, e1]
        unfold shifted
        rw [cellsBy_append, show xs.length - (i + 1) = dl from by omega, List.take_append_of_le_length (by simp only [List.length_append, hcsl, cellsBy_length, List.length_take]; omega)]
        rw [List.take_of_length_le (by simp only [List.length_append, hcsl, cellsBy_length, List.length_take]; omega)]
      · unfold World.setRow
        simp only [Array.getElem?_modify]
        rw [if_neg (fun e => hne (by rw [e]))]

include two hone in
theorem step_shift {ops : Array Oper} {o : Oper} {a : Act} {K : Act → World → Prop} {Q : Exit → Act → World → Prop} {EE : Prop} (hgd : o.guard = none) (d s : Operand)
    (ho : o.op = .call { callee := .builtin .copy, args := #[d, s], argTypes := #[T, T] })
    (hd : a.eval d = .slice dp dl dc) (hs : a.eval s = .slice sp sl sc)
    (hown : Own f E w w0.heap.size (some ⟨g, 0, none⟩) n c xs) (hi : i + 1 ≤ n) (hdl : dl = n - (i + 1)) (hsl : sl = n - i)
    (hdp : 0 < dl → dp = some ⟨g, (i + 1) * 2, none⟩) (hsp : 0 < dl → sp = some ⟨g, i * 2, none⟩)
    (h : ∀ w', Own f E w' w0.heap.size (some ⟨g, 0, none⟩) n c (shifted xs i) → w.grownBy w' (some g) → K (a.put o.dst (goInt dl)) w') :
    if Region.wanted o (yielded ops a.tmps) = true then Oper.wp Try.prog o a w K Q else EE := by
  have hw : Region.wanted o (yielded ops a.tmps) = true := by simp [Region.wanted, hgd]
  rw [if_pos hw]
  obtain ⟨w', hrun, h2, h3⟩ := run_shift two hone w0 w o.type (dc := dc) (sc := sc) hown hi hdl hsl hdp hsp
  unfold Oper.wp execOp
  simp only [ho, resolve, invoke, builtin, Sem.run_bind, Sem.run_pure, Result.andThen_ok, List.map_toArray, List.map_cons, List.map_nil, hd, hs, hrun]
  exact h w' h2 h3
end
end Go.Proofs.Ytgmeaedpbcimjaa
