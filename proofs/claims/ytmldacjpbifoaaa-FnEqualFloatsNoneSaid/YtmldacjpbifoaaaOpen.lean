/-
  What is proved here: an argument that is a slice of pairs, as a claim's form reads it, holds the cells of a list of pairs.
  Conditions: that it can be read.
-/
import Derived.Test.YtmldacjpbifoaaaRows
import Derived.Test.YtmldacjpbifoaaaData
import Derived.WalkKit
import Derived.ProofKit
import Derived.Deep.SlicePairs
import Derived.SizedLaws
namespace Go.Proofs.Ytmldacjpbifoaaa
open Go.RowKit Go.Maps Go.ChangeShapes Go.WideShapes Go.ChangeAt Go.Deep

instance : Inhabited I := ⟨⟨0, by decide⟩⟩

/-- of a slice argument: it holds the elements xs, and the weights that the form allows bound its length -/
structure Arg {α : Type} (f : α → Value × Value) (w : World) (A : Option Addr) (n c : Nat) (xs : List α) : Prop where
  has : Has w 2 A n (cellsBy f xs)
  le : n ≤ c
  max : c ≤ maxLen

theorem open_two {α : Type} [Inhabited α] (f : α → Value × Value) {H : Type} {enc : TypeId × Value → H} {w : World} {base : Nat} {held : Bool} {t e : TypeId} {f0 f1 : Field} {fuel : Nat} {A : Option Addr} {n c : Nat} {x : DataW H × List MemPlace}
    (ht : Try.prog.underlying t = some (.slice e)) (he : Try.prog.underlying e = some (.struct #[f0, f1]))
    (ce : Try.prog.cellsOf e = 2) (o0 : f0.offset = 0) (o1 : f1.offset = 1) (c0 : Try.prog.cellsOf f0.type = 1) (c1 : Try.prog.cellsOf f1.type = 1)
    (hel : ∀ (m : Nat) (v0 v1 : Value) (y0 y1 : DataW H × List MemPlace), DataW.trod enc Try.prog w base (fun _ => true) held m f0.type [v0] = some y0 → DataW.trod enc Try.prog w base (fun _ => true) held m f1.type [v1] = some y1 → ∃ p : α, f p = (v0, v1))
    (h : DataW.trod enc Try.prog w base (fun _ => true) held fuel t [.slice A n c] = some x) :
    ∃ xs : List α, Arg f w A n c xs ∧ (x.1 = .nil ∨ ∃ es sp, x.1 = .slice es sp ∧ es.length = n) := by
  rcases open_slice_pairs ht he ce o0 o1 c0 c1 h with ⟨hcs, hx⟩ | ⟨a, len, cap, m, k, V0, V1, D0, D1, P0, P1, hcs, hb, hl, hm, hmm, hx, hall⟩
  · simp at hcs
    obtain ⟨rfl, rfl, rfl⟩ := hcs
    exact ⟨[], ⟨Has.none_, Nat.le_refl _, Nat.zero_le _⟩, .inl (by rw [hx])⟩
  · simp at hcs
    obtain ⟨rfl, rfl, rfl⟩ := hcs
    simp only [if_true] at hmm
    subst hmm
    have hex : ∀ i, i < n → ∃ p : α, f p = (V0 i, V1 i) := fun i hi => by
      obtain ⟨_, _, t0, t1⟩ := hall i (by omega)
      exact hel _ _ _ _ _ t0 t1
    obtain ⟨g, hg⟩ := choose_lt hex
    refine ⟨(List.range n).map g, ⟨?_, hl, hm⟩, .inr ⟨_, _, by rw [hx], by simp⟩⟩
    by_cases h0 : n = 0
    · subst h0; exact Has.none_
    · obtain ⟨b, off, spot⟩ := a
      have hz := (hall 0 (by omega)).1
      have hspot : spot = none := by simpa [Addr.add] using World.cell?_spot hz
      subst hspot
      refine Has.mk2 (by simp) (fun _ => by simpa [Addr.add] using World.block_lt_of_cell? _ _ hz) (fun i hi => ?_) (fun i hi => ?_)
      · have hi' : i < n := by simpa using hi
        have := (hall i (by omega)).1
        rw [add_plain] at this
        simp [this, hg i hi']
      · have hi' : i < n := by simpa using hi
        have := (hall i (by omega)).2.1
        rw [add_plain] at this
        simp only [List.getElem_map, List.getElem_range, hg i hi']
        rw [← this]
        rfl

theorem open_pairs {H : Type} {enc : TypeId × Value → H} {w : World} {base : Nat} {held : Bool} {fuel : Nat} {A : Option Addr} {n c : Nat} {x : DataW H × List MemPlace}
    (h : DataW.trod enc Try.prog w base (fun _ => true) held fuel 35 [.slice A n c] = some x) :
    ∃ xs : List (I × I), Arg twoI w A n c xs ∧ (x.1 = .nil ∨ ∃ es sp, x.1 = .slice es sp ∧ es.length = n) := by
  refine open_two twoI Try.underlying35 Try.underlying64 (by kernel_rfl) rfl rfl (by kernel_rfl) (by kernel_rfl) (fun m v0 v1 y0 y1 h0 h1 => ?_) h
  obtain ⟨a, e0, _, wa⟩ := DataW.trod_int Try.underlying3 h0
  obtain ⟨b, e1, _, wb⟩ := DataW.trod_int Try.underlying3 h1
  simp at e0 e1
  subst e0 e1
  exact ⟨(⟨a, wa⟩, ⟨b, wb⟩), rfl⟩

/-- a slice that reads as nil has no element -/
theorem nil_len {H : Type} {enc : TypeId × Value → H} {w : World} {base : Nat} {held : Bool} {t e : TypeId} {fuel : Nat} {A : Option Addr} {n c : Nat} {x : DataW H × List MemPlace}
    (ht : Try.prog.underlying t = some (.slice e)) (h : DataW.trod enc Try.prog w base (fun _ => true) held fuel t [.slice A n c] = some x) (hx : x.1 = .nil) : n = 0 := by
  rcases open_slice ht h with ⟨hcs, _⟩ | ⟨a, len, cap, m, k, D, Pl, hcs, _, _, _, _, hy, _⟩
  · simp at hcs
    exact hcs.2.1
  · rw [hy] at hx
    cases hx

/-- of an argument that is a slice of bytes: it holds the numbers zs -/
structure Bytes (w : World) (A : Option Addr) (n c : Nat) (zs : List Int) : Prop where
  has : Has w 1 A n (zs.map (Value.int .u8))
  rng : ∀ z ∈ zs, 0 ≤ z ∧ z ≤ 255
  le : n ≤ c
  max : c ≤ maxLen

theorem open_bytes {H : Type} {enc : TypeId × Value → H} {w : World} {base : Nat} {held : Bool} {fuel : Nat} {A : Option Addr} {n c : Nat} {x : DataW H × List MemPlace}
    (h : DataW.trod enc Try.prog w base (fun _ => true) held fuel 22 [.slice A n c] = some x) : ∃ zs, Bytes w A n c zs := by
  rcases open_ints Try.underlying22 Try.underlying5 (by kernel_rfl) h with ⟨hcs, _⟩ | ⟨a, l, cap, zs, hcs, _, hl, hm, hz, _, hcell, hwz⟩
  · simp at hcs
    obtain ⟨rfl, rfl, rfl⟩ := hcs
    exact ⟨[], ⟨Has.none_, by simp, Nat.le_refl _, Nat.zero_le _⟩⟩
  · simp at hcs
    obtain ⟨rfl, rfl, rfl⟩ := hcs
    have hlz : zs.length = c := by simpa using hz
    refine ⟨zs.take n, ⟨⟨by simp; omega, fun h0 => ?_⟩, fun z hz => ?_, hl, hm⟩⟩
    · obtain ⟨b, off, spot⟩ := a
      have hz := hcell 0 (by omega)
      have hspot : spot = none := by simpa [Addr.add] using World.cell?_spot hz
      subst hspot
      refine ⟨b, off, rfl, by simpa [Addr.add] using World.block_lt_of_cell? _ _ hz, fun j u hu => ?_⟩
      obtain ⟨hj, e⟩ := List.getElem?_eq_some_iff.1 hu
      have hj' : j < zs.length := by simp at hj; omega
      have := hcell j hj'
      rw [add_plain] at this
      rw [this, ← e]
      simp [List.getElem_take, hj']
    · have := hwz z (List.mem_of_mem_take hz)
      simpa [Lit.wf, IntKind.min, IntKind.max, IntKind.signed, IntKind.bits] using this

/-! what the bound of an upto statement gives -/
theorem bulk_one {H : Type} (d : DataW H) : 1 ≤ Rows.uptoBulk d := by
  cases d with
  | lit l => cases l <;> simp [Rows.uptoBulk]
  | nil => simp [Rows.uptoBulk]
  | ptr d => simp [Rows.uptoBulk]
  | slice elems spare => simp [Rows.uptoBulk]
  | agg parts => simp [Rows.uptoBulk]
  | iface t d => simp [Rows.uptoBulk]
  | map entries => simp [Rows.uptoBulk]
  | held h => simp [Rows.uptoBulk]

theorem bulk_part {H : Type} {d : DataW H} {l : List (DataW H)} (h : d ∈ l) : Rows.uptoBulk d ≤ Rows.uptoBulkAll l := by
  induction l with
  | nil => cases h
  | cons x r ih =>
    simp only [Rows.uptoBulkAll]
    cases List.mem_cons.1 h with
    | inl e => subst e; omega
    | inr e => have := ih e; omega

theorem bulk_length {H : Type} (l : List (DataW H)) : l.length ≤ Rows.uptoBulkAll l := by
  induction l with
  | nil => simp [Rows.uptoBulkAll]
  | cons x r ih => have := bulk_one x; simp only [Rows.uptoBulkAll, List.length_cons]; omega

theorem bulk_slice {H : Type} (elems spare : List (DataW H)) : elems.length ≤ Rows.uptoBulk (.slice elems spare) := by
  have h1 := bulk_length elems
  simp only [Rows.uptoBulk]
  omega

end Go.Proofs.Ytmldacjpbifoaaa
