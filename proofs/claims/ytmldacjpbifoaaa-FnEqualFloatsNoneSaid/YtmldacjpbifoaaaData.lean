/-
  What is proved here: how sorted association lists of whole numbers stand for the data of maps (put, look-up, size, equality, copying, dropping), and words for slices that hold cells.
  Conditions: none but those that each theorem names. No program in sight.
-/
import Derived.Test.YtmldacjpbifoaaaPlain
import Derived.Lib.SlMapEqual
import Derived.Lib.SlMapMerge
import Derived.Lib.SlMapFilter
import Derived.Maps.Own
import Derived.Maps.OwnSet
import Derived.Maps.Ext
import Derived.Maps.RangeWalk
import Derived.Maps.AppendAt
import Derived.Deep.AppendLies
import Derived.Deep.Onto
import Derived.Deep.Draws
namespace Go.Proofs.Ytmldacjpbifoaaa
open Go.RowKit Go.Maps

/-! ### 1. data of maps -/
/-- a map's data: token type is of no matter -/
abbrev Dt : Type := DataW Unit

def ent (p : I × I) : Lit × Dt := (.int .i64 p.1.1, .lit (.int .i64 p.2.1))
def dat (l : List (I × I)) : Dt := .map (l.map ent)

theorem key_lit (k : I) : WideAt.IsKeyLit (.int .i64 k.1) := trivial

theorem same_lit (a b : I) : (Lit.int .i64 a.1).sameKey (.int .i64 b.1) = decide (a = b) := by
  simp [Lit.sameKey, Subtype.ext_iff]

theorem insert_ent (k v : I) (l : List (I × I)) : DataW.insert (ent (k, v)) ((l.filter fun p => !decide (p.1 = k)).map ent) = (Plain.put k v (l.filter fun p => !decide (p.1 = k))).map ent := by
  generalize hm : l.filter (fun p => !decide (p.1 = k)) = m
  have hne : ∀ p ∈ m, p.1 ≠ k := fun p hp => by
    rw [← hm] at hp
    simpa using (List.mem_filter.1 hp).2
  clear hm
  induction m with
  | nil => rfl
  | cons p r ih =>
    have h1 := hne p List.mem_cons_self
    have h2 : p.1.1 ≠ k.1 := fun e => h1 (Subtype.ext e)
    simp only [List.map_cons, DataW.insert, Plain.put]
    have hb : (ent (k, v)).1.before (ent p).1 = decide (k.1 < p.1.1) := rfl
    by_cases hlt : k.1 < p.1.1
    · rw [hb, if_pos (by simpa using hlt), if_neg (by omega), if_neg h1]
      rfl
    · rw [hb, if_neg (by simpa using hlt), if_pos (by omega), ih fun q hq => hne q (List.mem_cons_of_mem _ hq)]
      rfl

theorem put_filter {k v : I} {l : List (I × I)} (h : Plain.Srt l) : Plain.put k v (l.filter fun p => !decide (p.1 = k)) = Plain.put k v l :=
  Plain.ext ((h.filter _).put k v) (h.put k v) fun k' => by
    rw [Plain.get_put, Plain.get_put]
    split
    · rfl
    · rename_i hne
      rw [Plain.get_filter h]
      have : ¬ k' = k := fun e => hne e.symm
      cases Plain.get k' l <;> simp [this]

theorem dat_put {l : List (I × I)} (h : Plain.Srt l) (k v : I) : (dat l).put (.int .i64 k.1) (.lit (.int .i64 v.1)) = dat (Plain.put k v l) := by
  rw [← put_filter h]
  unfold dat
  rw [← insert_ent]
  simp only [DataW.put, List.filter_map]
  congr 3
  refine List.filter_congr fun p _ => ?_
  simp [ent, same_lit]

theorem dat_nil : (dat [] : Dt) = .map [] := rfl

theorem size_dat (l : List (I × I)) : Maps.size (dat l) = l.length := by simp [dat, Maps.size]

theorem find_ent (k : I) (l : List (I × I)) : (l.map ent).find? (fun p => p.1.sameKey (.int .i64 k.1)) = (Plain.get k l).map (fun v => ent (k, v)) := by
  induction l with
  | nil => rfl
  | cons p r ih =>
    simp only [List.map_cons, List.find?_cons, Plain.get]
    have hs : (ent p).1.sameKey (.int .i64 k.1) = decide (p.1 = k) := same_lit p.1 k
    rw [hs]
    by_cases h : p.1 = k
    · subst h; simp
    · simpa [h] using ih

theorem at_dat (k : I) (l : List (I × I)) (z : Dt) : (dat l).atKey (.int .i64 k.1) z = match Plain.get k l with | some v => .lit (.int .i64 v.1) | none => z := by
  simp only [dat, DataW.atKey, find_ent]
  cases Plain.get k l <;> rfl

theorem has_dat (k : I) (l : List (I × I)) : Maps.has (dat l) (.int .i64 k.1) = (Plain.get k l).isSome := by
  have h : Maps.has (dat l) (.int .i64 k.1) = (l.map ent).any (fun p => p.1.sameKey (.int .i64 k.1)) := rfl
  rw [h, show ((l.map ent).any fun p => p.1.sameKey (.int .i64 k.1)) = ((l.map ent).find? fun p => p.1.sameKey (.int .i64 k.1)).isSome from by rw [Bool.eq_iff_iff, List.find?_isSome, List.any_eq_true], find_ent]
  cases Plain.get k l <;> rfl

/-- the entry that a look-up gives is one of the list's -/
theorem get_of_at {l : List (I × I)} {k : I} {c : Int} (h : ∀ z, (dat l).atKey (.int .i64 k.1) z = .lit (.int .i64 c)) : ∃ v : I, v.1 = c ∧ Plain.get k l = some v := by
  have h1 := h .nil
  rw [at_dat] at h1
  cases hg : Plain.get k l with
  | none => rw [hg] at h1; cases h1
  | some v =>
    rw [hg] at h1
    simp at h1
    exact ⟨v, h1, rfl⟩

/-! what equality says -/
def sameI : Dt → Dt → Bool
  | .lit (.int _ x), .lit (.int _ y) => decide (x = y)
  | _, _ => false

def relI (f : Int → Int → Bool) : Dt → Dt → Bool
  | .lit (.int _ x), .lit (.int _ y) => f x y
  | _, _ => false

/-- two lists with as many pairs, each value of the first one related to the one of its key in the second one -/
def related (f : I → I → Bool) (l m : List (I × I)) : Bool :=
  decide (l.length = m.length) && l.all fun p => match Plain.get p.1 m with | some w => f p.2 w | none => false

theorem equal_rel (f : Int → Int → Bool) (l m : List (I × I)) : Lib.equalFuncD (relI f) (dat l) (dat m) = related (fun x y => f x.1 y.1) l m := by
  unfold Lib.equalFuncD related
  rw [size_dat, size_dat]
  congr 1
  simp only [dat, Lib.entriesD, List.all_map]
  congr 1
  funext p
  simp only [Function.comp, Lib.goodD]
  have h1 := has_dat p.1 m
  have h2 := at_dat p.1 m .nil
  simp only [dat] at h1 h2
  simp only [ent, h1, h2]
  cases Plain.get p.1 m <;> simp [relI]

theorem sameI_rel : sameI = relI (fun x y => decide (x = y)) := by
  funext x y
  unfold sameI relI
  rfl

theorem related_same {l m : List (I × I)} (hl : Plain.Srt l) (hm : Plain.Srt m) : related (fun x y => decide (x.1 = y.1)) l m = decide (l = m) := by
  rw [Bool.eq_iff_iff]
  simp only [related, Bool.and_eq_true, decide_eq_true_eq, List.all_eq_true]
  constructor
  · rintro ⟨hlen, hall⟩
    have hsub : ∀ p ∈ l, p ∈ m := fun p hp => by
      have := hall p hp
      cases hg : Plain.get p.1 m with
      | none => rw [hg] at this; cases this
      | some w =>
        rw [hg] at this
        have e : p.2 = w := Subtype.ext (by simpa using this)
        rw [← e] at hg
        exact Plain.get_mem hg
    have nl : l.Nodup := by rw [List.nodup_iff_pairwise_ne]; exact hl.imp fun h e => by subst e; omega
    have nm : m.Nodup := by rw [List.nodup_iff_pairwise_ne]; exact hm.imp fun h e => by subst e; omega
    have hback : ∀ p ∈ m, p ∈ l := fun p hp => by
      refine Classical.byContradiction fun hn => ?_
      have hle : (p :: l).length ≤ m.length := List.Nodup.length_le_of_subset (List.nodup_cons.2 ⟨hn, nl⟩) (fun q hq => by
        rcases List.mem_cons.1 hq with rfl | hq
        · exact hp
        · exact hsub q hq)
      simp only [List.length_cons] at hle
      omega
    have hp : l.Perm m := (List.perm_ext_iff_of_nodup nl nm).2 fun a => ⟨hsub a, hback a⟩
    exact List.Perm.eq_of_pairwise (fun a b _ _ h1 h2 => absurd h1 (by omega)) hl hm hp
  · rintro rfl
    refine ⟨rfl, fun p hp => ?_⟩
    rw [Plain.get_of_mem hl.once hp]
    simp

theorem equal_same {l m : List (I × I)} (hl : Plain.Srt l) (hm : Plain.Srt m) : Lib.equalFuncD sameI (dat l) (dat m) = decide (l = m) := by
  rw [sameI_rel, equal_rel, ← related_same hl hm]

theorem merge_dat {l : List (I × I)} (hl : Plain.Srt l) (m : List (I × I)) : Lib.mergeD (dat l) (dat m) = dat (Plain.over l m) := by
  show (m.map ent).foldl (fun D p => D.put p.1 p.2) (dat l) = _
  induction m generalizing l with
  | nil => rfl
  | cons p r ih =>
    simp only [List.map_cons, List.foldl_cons]
    have : (dat l).put (ent p).1 (ent p).2 = dat (Plain.put p.1 p.2 l) := dat_put hl p.1 p.2
    rw [this, ih (hl.put p.1 p.2)]
    rfl

/-! ### 2. slices that hold cells -/
/-- the slice of n elements of sz cells at A holds the cells cs -/
def Has (w : World) (sz : Nat) (A : Option Addr) (n : Nat) (cs : List Value) : Prop :=
  cs.length = n * sz ∧ (0 < n → ∃ b off, A = some ⟨b, off, none⟩ ∧ b < w.heap.size ∧ ∀ j u, cs[j]? = some u → w.cell? ⟨b, off + j, none⟩ = some u)

theorem Has.none_ {w : World} {sz : Nat} {A : Option Addr} : Has w sz A 0 [] := ⟨by simp, fun h => absurd h (by omega)⟩

theorem Has.kept {w w' : World} {sz n : Nat} {A : Option Addr} {cs : List Value} (h : Has w sz A n cs) (hg : w.grownBy w' none) : Has w' sz A n cs :=
  ⟨h.1, fun hn => by
    obtain ⟨b, off, e, hb, hc⟩ := h.2 hn
    exact ⟨b, off, e, Nat.lt_of_lt_of_le hb hg.size, fun j u hu => hg.cell (hc j u hu) (by simp)⟩⟩

theorem Has.keptBut {w w' : World} {sz n : Nat} {A : Option Addr} {cs : List Value} {row : Option Nat} (h : Has w sz A n cs) (hg : w.grownBy w' row) (hne : ∀ a, A = some a → some a.block ≠ row) : Has w' sz A n cs :=
  ⟨h.1, fun hn => by
    obtain ⟨b, off, e, hb, hc⟩ := h.2 hn
    exact ⟨b, off, e, Nat.lt_of_lt_of_le hb hg.size, fun j u hu => hg.cell (hc j u hu) (hne ⟨b, off, none⟩ e)⟩⟩

theorem Has.drew {w : World} {sz n : Nat} {A : Option Addr} {cs : List Value} (h : Has w sz A n cs) : Has w.drew sz A n cs := h

theorem Has.of_own {w : World} {base : Nat} {e : TypeId} {sz n c : Nat} {A : Option Addr} {cs : List Value} (h : w.ownsRow base e sz (.slice A n c) n cs) : Has w sz A n cs := by
  refine ⟨h.1, fun hn => ?_⟩
  obtain ⟨g, cap, hv, _, hlt⟩ := h.form hn
  have hA : A = some ⟨g, 0, none⟩ := by injection hv
  subst hA
  refine ⟨g, 0, rfl, hlt, fun j u hu => ?_⟩
  have := h.cells (g := g) rfl j u hu
  unfold Addr.add at this
  by_cases hj : j = 0
  · subst hj; simpa using this
  · simpa [hj] using this

/-- the cells of a list of elements of two cells each -/
def cellsBy {α : Type} (f : α → Value × Value) (xs : List α) : List Value := xs.flatMap fun p => [(f p).1, (f p).2]

section cellsBy
variable {α : Type} {f : α → Value × Value}
theorem cellsBy_nil : cellsBy f [] = [] := rfl
theorem cellsBy_cons (p : α) (r : List α) : cellsBy f (p :: r) = (f p).1 :: (f p).2 :: cellsBy f r := rfl
theorem cellsBy_append (xs ys : List α) : cellsBy f (xs ++ ys) = cellsBy f xs ++ cellsBy f ys := List.flatMap_append

theorem cellsBy_length (xs : List α) : (cellsBy f xs).length = xs.length * 2 := by
  induction xs with
  | nil => rfl
  | cons p r ih => simp only [cellsBy_cons, List.length_cons, ih]; omega

theorem cellsBy_key {xs : List α} {k : Nat} (hk : k < xs.length) : (cellsBy f xs)[k * 2]? = some (f xs[k]).1 := by
  induction xs generalizing k with
  | nil => simp at hk
  | cons p r ih =>
    cases k with
    | zero => rfl
    | succ k =>
      rw [cellsBy_cons, show (k + 1) * 2 = k * 2 + 1 + 1 from by omega, List.getElem?_cons_succ, List.getElem?_cons_succ, ih (by simpa using hk)]
      simp

theorem cellsBy_val {xs : List α} {k : Nat} (hk : k < xs.length) : (cellsBy f xs)[k * 2 + 1]? = some (f xs[k]).2 := by
  induction xs generalizing k with
  | nil => simp at hk
  | cons p r ih =>
    cases k with
    | zero => rfl
    | succ k =>
      rw [cellsBy_cons, show (k + 1) * 2 + 1 = k * 2 + 1 + 1 + 1 from by omega, List.getElem?_cons_succ, List.getElem?_cons_succ, ih (by simpa using hk)]
      simp

/-- an element's two cells -/
theorem Has.two {w : World} {A : Option Addr} {n : Nat} {xs : List α} (h : Has w 2 A n (cellsBy f xs)) {k : Nat} (hk : k < xs.length) :
    ∃ b off, A = some ⟨b, off, none⟩ ∧ b < w.heap.size ∧ w.cell? ⟨b, off + k * 2, none⟩ = some (f xs[k]).1 ∧ w.cell? ⟨b, off + k * 2 + 1, none⟩ = some (f xs[k]).2 := by
  have hn : xs.length = n := by have := h.1; rw [cellsBy_length] at this; omega
  obtain ⟨b, off, e, hb, hc⟩ := h.2 (by omega)
  exact ⟨b, off, e, hb, hc _ _ (cellsBy_key hk), hc _ _ (cellsBy_val hk)⟩

theorem Has.lenBy {w : World} {A : Option Addr} {n : Nat} {xs : List α} (h : Has w 2 A n (cellsBy f xs)) : xs.length = n := by
  have := h.1; rw [cellsBy_length] at this; omega

/-- a slice whose elements are known one by one -/
theorem Has.mk2 {w : World} {b off n : Nat} {xs : List α} (hn : xs.length = n) (hb : 0 < n → b < w.heap.size)
    (h1 : ∀ k (hk : k < xs.length), w.cell? ⟨b, off + k * 2, none⟩ = some (f xs[k]).1) (h2 : ∀ k (hk : k < xs.length), w.cell? ⟨b, off + k * 2 + 1, none⟩ = some (f xs[k]).2) :
    Has w 2 (some ⟨b, off, none⟩) n (cellsBy f xs) := by
  refine ⟨by rw [cellsBy_length, hn], fun h0 => ⟨b, off, rfl, hb h0, fun j u hu => ?_⟩⟩
  have hj : j < xs.length * 2 := by
    have := (List.getElem?_eq_some_iff.1 hu).1
    rwa [cellsBy_length] at this
  rcases Nat.mod_two_eq_zero_or_one j with hm | hm
  · obtain ⟨k, rfl⟩ : ∃ k, j = k * 2 := ⟨j / 2, by omega⟩
    rw [cellsBy_key (by omega)] at hu
    rw [h1 k (by omega), hu]
  · obtain ⟨k, rfl⟩ : ∃ k, j = k * 2 + 1 := ⟨j / 2, by omega⟩
    rw [cellsBy_val (by omega)] at hu
    rw [← Nat.add_assoc, h2 k (by omega), hu]
end cellsBy

/-- the cells of a list of pairs -/
def twoI (p : I × I) : Value × Value := (.int .i64 p.1.1, .int .i64 p.2.1)
abbrev cells2 (xs : List (I × I)) : List Value := cellsBy twoI xs

theorem cells2_one (xs : List (I × I)) : ∀ u ∈ cells2 xs, u.oneCell' = true := by
  intro u hu
  obtain ⟨p, _, hp⟩ := List.mem_flatMap.1 hu
  simp [twoI] at hp
  rcases hp with rfl | rfl <;> rfl

/-- a pair's two cells -/
theorem Has.pair {w : World} {A : Option Addr} {n : Nat} {xs : List (I × I)} (h : Has w 2 A n (cells2 xs)) {k : Nat} (hk : k < xs.length) :
    ∃ b off, A = some ⟨b, off, none⟩ ∧ b < w.heap.size ∧ w.cell? ⟨b, off + k * 2, none⟩ = some (.int .i64 (xs[k]).1.1) ∧ w.cell? ⟨b, off + k * 2 + 1, none⟩ = some (.int .i64 (xs[k]).2.1) :=
  h.two hk

theorem Has.len2 {w : World} {A : Option Addr} {n : Nat} {xs : List (I × I)} (h : Has w 2 A n (cells2 xs)) : xs.length = n := h.lenBy

/-! ### 3. slices of the call's own -/
theorem gdrew {w w' : World} {row : Option Nat} (h : w.grownBy w' row) : w.grownBy w'.drew row := ⟨h.os, h.tape, h.output, h.size, h.block⟩
theorem gdrewN {w w' : World} {row : Option Nat} (h : w.grownBy w' row) (k : Nat) : w.grownBy (w'.drewN k) row := ⟨h.os, h.tape, h.output, h.size, h.block⟩

/-- the slice of n elements of type E at A is a row of the call's own (from block base on) with the elements xs -/
def Own {α : Type} (f : α → Value × Value) (E : TypeId) (w : World) (base : Nat) (A : Option Addr) (n c : Nat) (xs : List α) : Prop :=
  xs.length = n ∧ w.ownsRow base E 2 (.slice A n c) n (cellsBy f xs)

section own
variable {α : Type} {f : α → Value × Value} {E : TypeId} {w w' : World} {base : Nat} {A : Option Addr} {n c : Nat} {xs : List α}

theorem Own.len (h : Own f E w base A n c xs) : xs.length = n := h.1
theorem Own.has (h : Own f E w base A n c xs) : Has w 2 A n (cellsBy f xs) := Has.of_own h.2
theorem Own.kept {row : Option Nat} (h : Own f E w base A n c xs) (hg : w.grownBy w' row) (hne : ∀ g, A = some ⟨g, 0, none⟩ → some g ≠ row) : Own f E w' base A n c xs := by
  refine ⟨h.1, h.2.kept hg ?_⟩
  rcases h.2.2 with ⟨hv, _⟩ | ⟨g, cap, cur, hv, _⟩
  · rw [hv]; exact .inl rfl
  · injection hv with hA
    refine .inr ?_
    rw [hA]
    exact hne g hA
theorem Own.keptN (h : Own f E w base A n c xs) (hg : w.grownBy w' none) : Own f E w' base A n c xs := h.kept hg (by simp)
theorem Own.alloc (h : Own f E w base A n c xs) (o : Obj) : Own f E (w.alloc o) base A n c xs := h.keptN (World.grownBy_alloc _ _ _)
theorem Own.drew (h : Own f E w base A n c xs) : Own f E w.drew base A n c xs := h
theorem Own.mono {base' : Nat} (h : Own f E w base A n c xs) (hb : base' ≤ base) : Own f E w base' A n c xs := ⟨h.1, h.2.mono hb⟩
theorem Own.made (w : World) (hb : base ≤ w.heap.size) : Own f E (w.alloc (.cells #[] E)) base (some ⟨w.heap.size, 0, none⟩) 0 0 [] :=
  ⟨rfl, World.ownsRow_made w #[] 0 hb (Nat.zero_le _) rfl⟩
theorem Own.nil (w : World) : Own f E w base none 0 0 [] := ⟨rfl, World.ownsRow_nil w base E 2⟩
theorem Own.one (w : World) (p : α) (hb : base ≤ w.heap.size) : Own f E (w.alloc (.cells #[(f p).1, (f p).2] E)) base (some ⟨w.heap.size, 0, none⟩) 1 1 [p] :=
  ⟨rfl, World.ownsRow_lit w #[(f p).1, (f p).2] 1 hb (by unfold maxLen; omega) rfl⟩
theorem Own.made1 (w : World) (o : Obj) (hb : base ≤ w.heap.size) : Own f E ((w.alloc o).alloc (.cells #[] E)) base (some ⟨w.heap.size + 1, 0, none⟩) 0 0 [] := by
  have h := Own.made (f := f) (E := E) (base := base) (w.alloc o) (by simp; omega)
  rw [show (w.alloc o).heap.size = w.heap.size + 1 from by simp] at h
  exact h
theorem Own.one1 (w : World) (o : Obj) (p : α) (hb : base ≤ w.heap.size) : Own f E ((w.alloc o).alloc (.cells #[(f p).1, (f p).2] E)) base (some ⟨w.heap.size + 1, 0, none⟩) 1 1 [p] := by
  have h := Own.one (f := f) (E := E) (base := base) (w.alloc o) p (by simp; omega)
  rw [show (w.alloc o).heap.size = w.heap.size + 1 from by simp] at h
  exact h
theorem Own.cap (h : Own f E w base A n c xs) : n ≤ c ∧ c ≤ maxLen := by
  rcases h.2.2 with ⟨hv, _⟩ | ⟨g, cap, cur, hv, _, _, h1, h2, _⟩
  · injection hv with hA hn hc
    subst hn hc
    exact ⟨Nat.le_refl _, Nat.zero_le _⟩
  · injection hv with hA hn hc
    subst hc
    exact ⟨h1, h2⟩

/-- an element's two cells, its block, and that they may be written -/
theorem Own.at_ (h : Own f E w base A n c xs) {j : Nat} (hj : j < xs.length) : ∃ g, A = some ⟨g, 0, none⟩ ∧ base ≤ g ∧ g < w.heap.size ∧
    w.cell? ⟨g, j * 2, none⟩ = some (f xs[j]).1 ∧ w.cell? ⟨g, j * 2 + 1, none⟩ = some (f xs[j]).2 ∧ w.frozen? ⟨g, j * 2, none⟩ = false ∧ w.frozen? ⟨g, j * 2 + 1, none⟩ = false := by
  have hn := h.1
  obtain ⟨g, cap, hv, hb, hlt⟩ := h.2.form (by omega)
  injection hv with hA hn' hc
  subst hA hc
  refine ⟨g, rfl, hb, hlt, ?_, ?_, h.2.frozenAt _, h.2.frozenAt _⟩
  · rw [h.2.cellAt _ (by omega), cellsBy_key hj]
  · rw [h.2.cellAt _ (by omega), cellsBy_val hj]

theorem cellsBy_set_val {xs : List α} {j : Nat} {p : α} (hj : j < xs.length) (hp : (f p).1 = (f xs[j]).1) : (cellsBy f xs).set (j * 2 + 1) (f p).2 = cellsBy f (xs.set j p) := by
  induction xs generalizing j with
  | nil => simp at hj
  | cons q r ih =>
    cases j with
    | zero => simp at hp; simp [cellsBy_cons, hp]
    | succ j =>
      rw [cellsBy_cons, show (j + 1) * 2 + 1 = j * 2 + 1 + 1 + 1 from by omega, List.set_cons_succ, List.set_cons_succ, ih (by simpa using hj) (by simpa using hp)]
      rfl

theorem cellsBy_set_both {xs : List α} {j : Nat} {p : α} (hj : j < xs.length) : ((cellsBy f xs).set (j * 2) (f p).1).set (j * 2 + 1) (f p).2 = cellsBy f (xs.set j p) := by
  induction xs generalizing j with
  | nil => simp at hj
  | cons q r ih =>
    cases j with
    | zero => simp [cellsBy_cons]
    | succ j =>
      rw [cellsBy_cons, show (j + 1) * 2 + 1 = j * 2 + 1 + 1 + 1 from by omega, show (j + 1) * 2 = j * 2 + 1 + 1 from by omega, List.set_cons_succ, List.set_cons_succ, List.set_cons_succ, List.set_cons_succ, ih (by simpa using hj)]
      rfl

/-- a store into an element's second cell -/
theorem Own.store2 {g : Nat} (h : Own f E w base (some ⟨g, 0, none⟩) n c xs) {j : Nat} (hj : j < xs.length) {p : α} (hp : (f p).1 = (f xs[j]).1) :
    Own f E (w.setCell ⟨g, j * 2 + 1, none⟩ (f p).2) base (some ⟨g, 0, none⟩) n c (xs.set j p) ∧ w.grownBy (w.setCell ⟨g, j * 2 + 1, none⟩ (f p).2) (some g) := by
  have hs := h.2.stored (j * 2 + 1) (f p).2
  rw [cellsBy_set_val hj hp] at hs
  exact ⟨⟨by simpa using h.1, hs.1⟩, hs.2⟩

/-- a store into both cells of an element -/
theorem Own.store {g : Nat} (h : Own f E w base (some ⟨g, 0, none⟩) n c xs) {j : Nat} (hj : j < xs.length) (p : α) :
    Own f E ((w.setCell ⟨g, j * 2, none⟩ (f p).1).setCell ⟨g, j * 2 + 1, none⟩ (f p).2) base (some ⟨g, 0, none⟩) n c (xs.set j p) ∧ w.grownBy ((w.setCell ⟨g, j * 2, none⟩ (f p).1).setCell ⟨g, j * 2 + 1, none⟩ (f p).2) (some g) := by
  have h1 := h.2.stored (j * 2) (f p).1
  have h2 := h1.1.stored (j * 2 + 1) (f p).2
  rw [cellsBy_set_both hj] at h2
  exact ⟨⟨by simpa using h.1, h2.1⟩, h1.2.trans h2.2⟩

/-- a part at the head -/
theorem Own.takes (h : Own f E w base A n c xs) {k : Nat} (hk : k ≤ n) : Has w 2 A k (cellsBy f (xs.take k)) := by
  have hn := h.1
  refine ⟨by rw [cellsBy_length]; simp; omega, fun h0 => ?_⟩
  obtain ⟨b, off, e, hb, hc⟩ := h.has.2 (by omega)
  refine ⟨b, off, e, hb, fun j u hu => hc j u ?_⟩
  have e1 : cellsBy f xs = cellsBy f (xs.take k) ++ cellsBy f (xs.drop k) := by rw [← cellsBy_append, List.take_append_drop]
  rw [e1, List.getElem?_append_left (List.getElem?_eq_some_iff.1 hu).1, hu]

/-- a part at the end -/
theorem Own.drops (h : Own f E w base A n c xs) {k : Nat} (hk : k ≤ n) : Has w 2 (if c = k then A else A.map (·.add (k * 2))) (n - k) (cellsBy f (xs.drop k)) := by
  have hn := h.1
  have hcap := h.cap
  refine ⟨by rw [cellsBy_length]; simp; omega, fun h0 => ?_⟩
  obtain ⟨b, off, e, hb, hc⟩ := h.has.2 (by omega)
  subst e
  rw [if_neg (by omega)]
  refine ⟨b, off + k * 2, ?_, hb, fun j u hu => ?_⟩
  · simp only [Option.map_some, Addr.add]
    by_cases hk0 : k = 0
    · subst hk0; simp
    · rw [if_neg (by omega)]
  · have e1 : cellsBy f xs = cellsBy f (xs.take k) ++ cellsBy f (xs.drop k) := by rw [← cellsBy_append, List.take_append_drop]
    have e2 : (cellsBy f (xs.take k)).length = k * 2 := by rw [cellsBy_length]; simp; omega
    rw [Nat.add_assoc]
    refine hc _ u ?_
    rw [e1, List.getElem?_append_right (by omega), e2, Nat.add_sub_cancel_left, hu]

theorem Own.drops0 {g : Nat} (h : Own f E w base (some ⟨g, 0, none⟩) n c xs) {k : Nat} (hk : k ≤ n) : Has w 2 (if c = k then some ⟨g, 0, none⟩ else some ⟨g, k * 2, none⟩) (n - k) (cellsBy f (xs.drop k)) := by
  have h1 := h.drops hk
  have e : (if c = k then some (⟨g, 0, none⟩ : Addr) else (some (⟨g, 0, none⟩ : Addr)).map (·.add (k * 2))) = if c = k then some ⟨g, 0, none⟩ else some ⟨g, k * 2, none⟩ := by
    split
    · rfl
    · simp only [Option.map_some, Addr.add]
      by_cases hk0 : k = 0
      · subst hk0; simp
      · rw [if_neg (by omega)]; simp
  rw [e] at h1
  exact h1
theorem Own.some_ (h : Own f E w base A n c xs) (hn : 0 < n) : ∃ g, A = some ⟨g, 0, none⟩ := by
  obtain ⟨g, e, _⟩ := h.at_ (j := 0) (by have := h.1; omega)
  exact ⟨g, e⟩
end own

end Go.Proofs.Ytmldacjpbifoaaa
