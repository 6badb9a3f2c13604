/-
  What is proved here: append onto a row of the call's own, of elements of two cells, from whatever source (nil, empty or not): as a run, at a list of operations, and at a step of a region whose order is open.
  Conditions: what is made takes at most 2^47 bytes.
-/
import Derived.Test.YtmldacjpbifoaaaRows
import Derived.Test.YtmldacjpbifoaaaData
import Derived.Maps.AppendAt
import Derived.Deep.AppendLies
import Derived.RegionTactic
import Derived.OwnWalk
namespace Go.Proofs.Ytmldacjpbifoaaa
open Go.RowKit Go.Maps

/-- T is the type of slices of elements of type E, of two cells each -/
structure Two (T E : TypeId) (bytes : Nat) : Prop where
  und : Try.prog.underlying T = some (.slice E)
  inf : ∃ i z, Try.prog.info? E = some i ∧ i.zero = some z ∧ i.size = 2 ∧ i.bytes = bytes ∧ z.cells.size = 2

section
variable {α : Type} {f : α → Value × Value} {T E : TypeId} {bytes : Nat} (two : Two T E bytes) (hone : ∀ p, (f p).1.oneCell' = true ∧ (f p).2.oneCell' = true)
variable (w : World) {base : Nat} {A B : Option Addr} {n c m d : Nat} {xs ys : List α}

theorem one_of (hone : ∀ p, (f p).1.oneCell' = true ∧ (f p).2.oneCell' = true) (ys : List α) : ∀ u ∈ cellsBy f ys, u.oneCell' = true := by
  intro u hu
  obtain ⟨p, _, hp⟩ := List.mem_flatMap.1 hu
  simp at hp
  rcases hp with rfl | rfl
  · exact (hone p).1
  · exact (hone p).2

include two hone in
theorem run_app (ty : TypeId) (hown : Own f E w base A n c xs) (hs : Has w 2 B m (cellsBy f ys)) (h63 : n + m ≤ maxLen) (hbytes : (n + m) * bytes ≤ 140737488355328) (hbase : base ≤ w.heap.size) :
    ∃ A' c' w', (Builtin.append_ #[T, T] ty #[.slice A n c, .slice B m d]).run Try.prog w = .ok (.slice A' (n + m) c') w' ∧ Own f E w' base A' (n + m) c' (xs ++ ys) ∧ w.grownBy w' (Value.slice A n c).ownBlock ∧
      ((Value.slice A' (n + m) c').ownBlock = (Value.slice A n c).ownBlock ∨ (Value.slice A' (n + m) c').ownBlock = some w.heap.size) := by
  obtain ⟨i, z, hi, hz, hsz, hby, hzc⟩ := two.inf
  have hlx := hown.len
  have hly := hs.lenBy
  rcases B with _ | ad
  · have h0 : m = 0 := by
      rcases Nat.eq_zero_or_pos m with h | h
      · exact h
      · obtain ⟨b, off, e, _⟩ := hs.2 h
        cases e
    subst h0
    have hn : ys = [] := List.eq_nil_of_length_eq_zero hly
    subst hn
    refine ⟨A, c, w, ?_, by simpa using hown, World.grownBy.refl w _, .inl rfl⟩
    rcases hown.2.2 with ⟨hv, hxs⟩ | ⟨g, cap, cur, hv, _, hh, hnc, _⟩
    · injection hv with hA hn hc
      subst hA hn hc
      simp [Builtin.append_, run_underlying two.und, sizeOf, typeInfo, hi, Builtin.lenOf, Builtin.firstCells]
    · injection hv with hA hn hc
      subst hA hc
      simp [Builtin.append_, run_underlying two.und, sizeOf, typeInfo, hi, Builtin.lenOf, Builtin.firstCells, hnc, storeCells]
  · have hcells : ∀ j u, (cellsBy f ys)[j]? = some u → w.cell? (ad.add j) = some u := by
      intro j u hu
      have hj := (List.getElem?_eq_some_iff.1 hu).1
      rw [cellsBy_length] at hj
      obtain ⟨b, off, e, hb, hc⟩ := hs.2 (by omega)
      cases e
      have := hc j u hu
      unfold Addr.add
      by_cases hj : j = 0
      · subst hj; simpa using this
      · simpa [hj] using this
    obtain ⟨v', w', hrun, h2, h3, _, h5⟩ := run_append_own_at (P := Try.prog) w base T ty E i z 2 bytes two.und hi hz hsz hby hzc (by omega) (.slice A n c) n (cellsBy f xs) hown.2 ad m d (cellsBy f ys) hs.1
      hcells (one_of hone ys) h63 hbytes hbase
    obtain ⟨A', c', rfl⟩ : ∃ A' c', v' = .slice A' (n + m) c' := by
      rcases h2.2 with ⟨hv, h0⟩ | ⟨g, cap, cur, hv, _⟩
      · exact ⟨none, 0, by rw [hv, h0]⟩
      · exact ⟨_, _, hv⟩
    exact ⟨_, _, w', hrun, ⟨by simp; omega, by rw [cellsBy_append]; exact h2⟩, h3, h5⟩

include two hone in
theorem wp_app {o : Oper} {a : Act} {K : Act → World → Prop} {Q : Exit → Act → World → Prop} (s x : Operand)
    (ho : o.op = .call { callee := .builtin .append, args := #[s, x], argTypes := #[T, T] })
    (hes : a.eval s = .slice A n c) (hown : Own f E w base A n c xs) (hex : a.eval x = .slice B m d) (hs : Has w 2 B m (cellsBy f ys)) (h63 : n + m ≤ maxLen) (hbytes : (n + m) * bytes ≤ 140737488355328) (hbase : base ≤ w.heap.size)
    (h : ∀ A' c' w', Own f E w' base A' (n + m) c' (xs ++ ys) → w.grownBy w' (Value.slice A n c).ownBlock → ((Value.slice A' (n + m) c').ownBlock = (Value.slice A n c).ownBlock ∨ (Value.slice A' (n + m) c').ownBlock = some w.heap.size) → K (a.put o.dst (.slice A' (n + m) c')) w') :
    o.wp Try.prog a w K Q := by
  obtain ⟨A', c', w', hrun, h2, h3, h4⟩ := run_app two hone w o.type hown hs (d := d) h63 hbytes hbase
  unfold Oper.wp execOp
  simp only [ho, resolve, invoke, builtin, Sem.run_bind, Sem.run_pure, Result.andThen_ok, List.map_toArray, List.map_cons, List.map_nil, hes, hex, hrun]
  exact h A' c' w' h2 h3 h4

include two hone in
theorem wpList_app {ops : Array Oper} {rest : List Oper} {o : Oper} {a : Act} {Q : Exit → Act → World → Prop} (hgd : o.guard = none) (s x : Operand)
    (ho : o.op = .call { callee := .builtin .append, args := #[s, x], argTypes := #[T, T] })
    (hes : a.eval s = .slice A n c) (hown : Own f E w base A n c xs) (hex : a.eval x = .slice B m d) (hs : Has w 2 B m (cellsBy f ys)) (h63 : n + m ≤ maxLen) (hbytes : (n + m) * bytes ≤ 140737488355328) (hbase : base ≤ w.heap.size)
    (h : ∀ A' c' w', Own f E w' base A' (n + m) c' (xs ++ ys) → w.grownBy w' (Value.slice A n c).ownBlock → ((Value.slice A' (n + m) c').ownBlock = (Value.slice A n c).ownBlock ∨ (Value.slice A' (n + m) c').ownBlock = some w.heap.size) → wpList Try.prog ops Q rest (a.put o.dst (.slice A' (n + m) c')) w') :
    wpList Try.prog ops Q (o :: rest) a w :=
  wpList_plain hgd fun _ hK => wp_app two hone w s x ho hes hown hex hs h63 hbytes hbase fun A' c' w' h2 h3 h4 => hK _ _ (h A' c' w' h2 h3 h4)

include two hone in
theorem step_app {ops : Array Oper} {o : Oper} {a : Act} {K : Act → World → Prop} {Q : Exit → Act → World → Prop} {EE : Prop} (hgd : o.guard = none) (s x : Operand)
    (ho : o.op = .call { callee := .builtin .append, args := #[s, x], argTypes := #[T, T] })
    (hes : a.eval s = .slice A n c) (hown : Own f E w base A n c xs) (hex : a.eval x = .slice B m d) (hs : Has w 2 B m (cellsBy f ys)) (h63 : n + m ≤ maxLen) (hbytes : (n + m) * bytes ≤ 140737488355328) (hbase : base ≤ w.heap.size)
    (h : ∀ A' c' w', Own f E w' base A' (n + m) c' (xs ++ ys) → w.grownBy w' (Value.slice A n c).ownBlock → ((Value.slice A' (n + m) c').ownBlock = (Value.slice A n c).ownBlock ∨ (Value.slice A' (n + m) c').ownBlock = some w.heap.size) → K (a.put o.dst (.slice A' (n + m) c')) w') :
    if Region.wanted o (yielded ops a.tmps) = true then Oper.wp Try.prog o a w K Q else EE := by
  have hw : Region.wanted o (yielded ops a.tmps) = true := by simp [Region.wanted, hgd]
  rw [if_pos hw]
  exact wp_app two hone w s x ho hes hown hex hs h63 hbytes hbase h
end

theorem galloc {w w' : World} {row : Option Nat} (h : w.grownBy w' row) (o : Obj) : w.grownBy (w'.alloc o) row := h.trans (World.grownBy_alloc _ _ _)

/-- nothing that lay in w0 has turned behind an append onto a row that is younger than w0 -/
theorem Own.grown {α : Type} {f : α → Value × Value} {E : TypeId} {w0 w w' : World} {A : Option Addr} {n c : Nat} {xs : List α} (o : Own f E w w0.heap.size A n c xs) (h : w0.grownBy w none) (g : w.grownBy w' (Value.slice A n c).ownBlock) : w0.grownBy w' none :=
  h.andThen g fun j hj => .inl (o.2.lt j hj).1

section
variable {α : Type} {f : α → Value × Value} {T E : TypeId} {bytes : Nat} (two : Two T E bytes) (hone : ∀ p, (f p).1.oneCell' = true ∧ (f p).2.oneCell' = true)
variable (w0 w : World) {A B : Option Addr} {n c m d : Nat} {xs ys : List α}

include two hone in
theorem step_appG {ops : Array Oper} {o : Oper} {a : Act} {K : Act → World → Prop} {Q : Exit → Act → World → Prop} {EE : Prop} (hgd : o.guard = none) (s x : Operand)
    (ho : o.op = .call { callee := .builtin .append, args := #[s, x], argTypes := #[T, T] })
    (hes : a.eval s = .slice A n c) (hG : w0.grownBy w none) (hown : Own f E w w0.heap.size A n c xs) (hex : a.eval x = .slice B m d) (hs : Has w 2 B m (cellsBy f ys)) (h63 : n + m ≤ maxLen) (hbytes : (n + m) * bytes ≤ 140737488355328)
    (h : ∀ A' c' w', Own f E w' w0.heap.size A' (n + m) c' (xs ++ ys) → w0.grownBy w' none → w.grownBy w' (Value.slice A n c).ownBlock → K (a.put o.dst (.slice A' (n + m) c')) w') :
    if Region.wanted o (yielded ops a.tmps) = true then Oper.wp Try.prog o a w K Q else EE :=
  step_app two hone w hgd s x ho hes hown hex hs h63 hbytes hG.size fun A' c' w' h2 h3 _ => h A' c' w' h2 (hown.grown hG h3) h3

include two hone in
/-- onto nothing -/
theorem step_appG0 {ops : Array Oper} {o : Oper} {a : Act} {K : Act → World → Prop} {Q : Exit → Act → World → Prop} {EE : Prop} (hgd : o.guard = none) (s x : Operand)
    (ho : o.op = .call { callee := .builtin .append, args := #[s, x], argTypes := #[T, T] })
    (hes : a.eval s = .slice A 0 c) (hG : w0.grownBy w none) (hown : Own f E w w0.heap.size A 0 c ([] : List α)) (hex : a.eval x = .slice B m d) (hs : Has w 2 B m (cellsBy f ys)) (h63 : m ≤ maxLen) (hbytes : m * bytes ≤ 140737488355328)
    (h : ∀ A' c' w', Own f E w' w0.heap.size A' m c' ys → w0.grownBy w' none → w.grownBy w' (Value.slice A 0 c).ownBlock → K (a.put o.dst (.slice A' m c')) w') :
    if Region.wanted o (yielded ops a.tmps) = true then Oper.wp Try.prog o a w K Q else EE :=
  step_appG two hone w0 w hgd s x ho hes hG hown hex hs (by omega) (by rw [Nat.zero_add]; exact hbytes) fun A' c' w' h2 h3 h4 => by
    rw [Nat.zero_add] at h2 ⊢
    exact h A' c' w' h2 h3 h4

include two hone in
theorem wpList_appG0 {ops : Array Oper} {rest : List Oper} {o : Oper} {a : Act} {Q : Exit → Act → World → Prop} (hgd : o.guard = none) (s x : Operand)
    (ho : o.op = .call { callee := .builtin .append, args := #[s, x], argTypes := #[T, T] })
    (hes : a.eval s = .slice A 0 c) (hG : w0.grownBy w none) (hown : Own f E w w0.heap.size A 0 c ([] : List α)) (hex : a.eval x = .slice B m d) (hs : Has w 2 B m (cellsBy f ys)) (h63 : m ≤ maxLen) (hbytes : m * bytes ≤ 140737488355328)
    (h : ∀ A' c' w', Own f E w' w0.heap.size A' m c' ys → w0.grownBy w' none → w.grownBy w' (Value.slice A 0 c).ownBlock → wpList Try.prog ops Q rest (a.put o.dst (.slice A' m c')) w') :
    wpList Try.prog ops Q (o :: rest) a w :=
  wpList_app two hone w hgd s x ho hes hown hex hs (by omega) (by rw [Nat.zero_add]; exact hbytes) hG.size fun A' c' w' h2 h3 _ => by
    rw [Nat.zero_add] at h2 ⊢
    exact h A' c' w' h2 (hown.grown hG h3) h3

include two hone in
theorem wpList_appG {ops : Array Oper} {rest : List Oper} {o : Oper} {a : Act} {Q : Exit → Act → World → Prop} (hgd : o.guard = none) (s x : Operand)
    (ho : o.op = .call { callee := .builtin .append, args := #[s, x], argTypes := #[T, T] })
    (hes : a.eval s = .slice A n c) (hG : w0.grownBy w none) (hown : Own f E w w0.heap.size A n c xs) (hex : a.eval x = .slice B m d) (hs : Has w 2 B m (cellsBy f ys)) (h63 : n + m ≤ maxLen) (hbytes : (n + m) * bytes ≤ 140737488355328)
    (h : ∀ A' c' w', Own f E w' w0.heap.size A' (n + m) c' (xs ++ ys) → w0.grownBy w' none → w.grownBy w' (Value.slice A n c).ownBlock → wpList Try.prog ops Q rest (a.put o.dst (.slice A' (n + m) c')) w') :
    wpList Try.prog ops Q (o :: rest) a w :=
  wpList_app two hone w hgd s x ho hes hown hex hs h63 hbytes hG.size fun A' c' w' h2 h3 _ => h A' c' w' h2 (hown.grown hG h3) h3
end

theorem twoP : Two 35 64 16 :=
  ⟨Try.underlying35, by
    have h : (Try.prog.info? 64).map (fun i => (i.zero, i.size, i.bytes)) = some (some (.agg #[.int .i64 0, .int .i64 0]), 2, 16) := by kernel_rfl
    obtain ⟨i0, hi, hz0, hz1, hz2⟩ := info_parts h
    exact ⟨i0, _, hi, hz0, hz1, hz2, rfl⟩⟩
theorem oneP : ∀ p, (twoI p).1.oneCell' = true ∧ (twoI p).2.oneCell' = true := fun _ => ⟨rfl, rfl⟩

/-- of pairs -/
abbrev OwnP (w : World) (base : Nat) (A : Option Addr) (n c : Nat) (xs : List (I × I)) : Prop := Own twoI 64 w base A n c xs

def zeroP : I × I := (⟨0, by decide⟩, ⟨0, by decide⟩)
/-- one pair in a block of its own -/
theorem hasOne (w : World) (p : I × I) : Has (w.alloc (.cells #[.int .i64 p.1.1, .int .i64 p.2.1] 64)) 2 (some ⟨w.heap.size, 0, none⟩) 1 (cells2 [p]) :=
  (Own.one (f := twoI) (E := 64) (base := 0) w p (Nat.zero_le _)).has
theorem hasZero (w : World) : Has (w.alloc (.cells #[.int .i64 0, .int .i64 0] 64)) 2 (some ⟨w.heap.size, 0, none⟩) 1 (cells2 [zeroP]) := hasOne w zeroP
end Go.Proofs.Ytmldacjpbifoaaa
