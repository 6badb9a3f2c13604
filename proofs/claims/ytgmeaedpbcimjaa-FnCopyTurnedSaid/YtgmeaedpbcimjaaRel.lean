/-
  What is proved here: facts on related lists (key by key), on equal keys, and on what is left of a list; no program in sight.
  Conditions: the lists are sorted by their keys.
-/
import Derived.Test.YtgmeaedpbcimjaaData
namespace Go.Proofs.Ytgmeaedpbcimjaa

theorem mem_keys {l : List (I × I)} {k : I} : k ∈ l.map (·.1) ↔ (Plain.get k l).isSome = true := by
  rw [Plain.get_isSome, List.mem_map]

theorem keys_nodup {l : List (I × I)} (hl : Plain.Srt l) : (l.map (·.1)).Nodup := hl.once

/-- two lists are related exactly if they have the same keys and related values at each -/
theorem related_iff {f : I → I → Bool} {l m : List (I × I)} (hl : Plain.Srt l) (hm : Plain.Srt m) :
    related f l m = true ↔ ∀ k, (Plain.get k l = none ∧ Plain.get k m = none) ∨ ∃ x y, Plain.get k l = some x ∧ Plain.get k m = some y ∧ f x y = true := by
  simp only [related, Bool.and_eq_true, decide_eq_true_eq, List.all_eq_true]
  constructor
  · rintro ⟨hlen, hall⟩ k
    have hsub : ∀ j ∈ l.map (·.1), j ∈ m.map (·.1) := fun j hj => by
      obtain ⟨p, hp, rfl⟩ := List.mem_map.1 hj
      rw [mem_keys]
      have := hall p hp
      cases hg : Plain.get p.1 m with
      | none => rw [hg] at this; cases this
      | some v => rfl
    cases h1 : Plain.get k l with
    | some x =>
      have := hall (k, x) (Plain.get_mem h1)
      cases h2 : Plain.get k m with
      | none => rw [h2] at this; cases this
      | some y => rw [h2] at this; exact .inr ⟨x, y, rfl, rfl, this⟩
    | none =>
      cases h2 : Plain.get k m with
      | none => exact .inl ⟨rfl, rfl⟩
      | some y =>
        exfalso
        have hn : k ∉ l.map (·.1) := fun h => by rw [mem_keys, h1] at h; cases h
        have hk : k ∈ m.map (·.1) := by rw [mem_keys, h2]; rfl
        have hle : (k :: l.map (·.1)).length ≤ (m.map (·.1)).length := List.Nodup.length_le_of_subset (List.nodup_cons.2 ⟨hn, keys_nodup hl⟩) (fun q hq => by
          rcases List.mem_cons.1 hq with rfl | hq
          · exact hk
          · exact hsub q hq)
        simp only [List.length_cons, List.length_map] at hle
        omega
  · intro h
    have hiff : ∀ k, k ∈ l.map (·.1) ↔ k ∈ m.map (·.1) := fun k => by
      rw [mem_keys, mem_keys]
      rcases h k with ⟨h1, h2⟩ | ⟨x, y, h1, h2, _⟩ <;> rw [h1, h2] <;> simp
    have hp : (l.map (·.1)).Perm (m.map (·.1)) := (List.perm_ext_iff_of_nodup (keys_nodup hl) (keys_nodup hm)).2 hiff
    refine ⟨by simpa using hp.length_eq, fun p hp => ?_⟩
    have hg := Plain.get_of_mem hl.once hp
    rcases h p.1 with ⟨h1, _⟩ | ⟨x, y, h1, h2, h3⟩
    · rw [hg] at h1; cases h1
    · rw [hg] at h1
      cases h1
      rw [h2]
      exact h3

theorem keys_iff {l m : List (I × I)} (hl : Plain.Srt l) (hm : Plain.Srt m) :
    l.map (·.1) = m.map (·.1) ↔ ∀ k, (Plain.get k l).isSome = (Plain.get k m).isSome := by
  constructor
  · intro h k
    rw [Bool.eq_iff_iff, ← mem_keys, ← mem_keys, h]
  · intro h
    have hp : (l.map (·.1)).Perm (m.map (·.1)) := (List.perm_ext_iff_of_nodup (keys_nodup hl) (keys_nodup hm)).2 fun k => by rw [mem_keys, mem_keys, h k]
    exact List.Perm.eq_of_pairwise (le := fun a b : I => a.1 < b.1) (fun a b _ _ h1 h2 => absurd h1 (by omega)) (List.pairwise_map.2 hl) (List.pairwise_map.2 hm) hp

/-! ### the relation turned -/
def swapP (p : I × I) : I × I := (p.2, p.1)
theorem mem_swap {x y : I} {vs : List (I × I)} : (x, y) ∈ vs.map swapP ↔ (y, x) ∈ vs := by
  rw [List.mem_map]
  constructor
  · rintro ⟨⟨a, b⟩, h, e⟩
    cases e
    exact h
  · intro h
    exact ⟨(y, x), h, rfl⟩

theorem related_turned (xs ys vs : List (I × I)) : related (fun x y => decide ((x, y) ∈ vs.map swapP)) (Plain.mapOf ys) (Plain.mapOf xs) = related (fun x y => decide ((x, y) ∈ vs)) (Plain.mapOf xs) (Plain.mapOf ys) := by
  rw [Bool.eq_iff_iff, related_iff (Plain.srt_mapOf _) (Plain.srt_mapOf _), related_iff (Plain.srt_mapOf _) (Plain.srt_mapOf _)]
  refine forall_congr' fun k => or_congr and_comm ?_
  constructor
  · rintro ⟨x, y, h1, h2, h3⟩
    exact ⟨y, x, h2, h1, decide_eq_true (mem_swap.1 (of_decide_eq_true h3))⟩
  · rintro ⟨x, y, h1, h2, h3⟩
    exact ⟨y, x, h2, h1, decide_eq_true (mem_swap.2 (of_decide_eq_true h3))⟩

/-! ### each value related to itself alone -/
def selfP (p : I × I) : I × I := (p.2, p.2)

theorem get_value {xs : List (I × I)} {k x : I} (h : Plain.get k (Plain.mapOf xs) = some x) : (k, x) ∈ xs := Plain.mem_mapOf (Plain.get_mem h)

theorem related_self (xs ys : List (I × I)) : related (fun x y => decide ((x, y) ∈ xs.map selfP)) (Plain.mapOf xs) (Plain.mapOf ys) = decide (Plain.mapOf xs = Plain.mapOf ys) := by
  rw [Bool.eq_iff_iff, related_iff (Plain.srt_mapOf _) (Plain.srt_mapOf _), decide_eq_true_eq, Plain.ext_iff (Plain.srt_mapOf _) (Plain.srt_mapOf _)]
  refine forall_congr' fun k => ?_
  constructor
  · rintro (⟨h1, h2⟩ | ⟨x, y, h1, h2, h3⟩)
    · rw [h1, h2]
    · have h4 := of_decide_eq_true h3
      rw [List.mem_map] at h4
      obtain ⟨p, _, e⟩ := h4
      cases e
      rw [h1, h2]
  · intro h
    cases h1 : Plain.get k (Plain.mapOf xs) with
    | none => exact .inl ⟨rfl, by rw [← h, h1]⟩
    | some x => exact .inr ⟨x, x, rfl, by rw [← h, h1], decide_eq_true (List.mem_map.2 ⟨(k, x), get_value h1, rfl⟩)⟩

/-! ### all values related -/
def allP (xs ys : List (I × I)) : List (I × I) := xs.flatMap fun p => ys.map fun q => (p.2, q.2)

theorem allP_snoc (xs ys : List (I × I)) (p : I × I) : allP (xs ++ [p]) ys = allP xs ys ++ ys.map fun q => (p.2, q.2) := by
  simp [allP]

theorem length_allP (xs ys : List (I × I)) : (allP xs ys).length = xs.length * ys.length := by
  induction xs with
  | nil => simp [allP]
  | cons p r ih =>
    unfold allP at *
    rw [List.flatMap_cons, List.length_append, ih, List.length_map, List.length_cons, Nat.succ_mul]
    omega

theorem related_all (xs ys : List (I × I)) : related (fun x y => decide ((x, y) ∈ allP xs ys)) (Plain.mapOf xs) (Plain.mapOf ys) = decide ((Plain.mapOf xs).map (·.1) = (Plain.mapOf ys).map (·.1)) := by
  rw [Bool.eq_iff_iff, related_iff (Plain.srt_mapOf _) (Plain.srt_mapOf _), decide_eq_true_eq, keys_iff (Plain.srt_mapOf _) (Plain.srt_mapOf _)]
  refine forall_congr' fun k => ?_
  constructor
  · rintro (⟨h1, h2⟩ | ⟨x, y, h1, h2, _⟩) <;> rw [h1, h2] <;> rfl
  · intro h
    cases h1 : Plain.get k (Plain.mapOf xs) with
    | none =>
      cases h2 : Plain.get k (Plain.mapOf ys) with
      | none => exact .inl ⟨rfl, rfl⟩
      | some y => rw [h1, h2] at h; cases h
    | some x =>
      cases h2 : Plain.get k (Plain.mapOf ys) with
      | none => rw [h1, h2] at h; cases h
      | some y =>
        refine .inr ⟨x, y, rfl, rfl, decide_eq_true ?_⟩
        unfold allP
        rw [List.mem_flatMap]
        exact ⟨(k, x), get_value h1, List.mem_map.2 ⟨(k, y), get_value h2, rfl⟩⟩

/-! ### copied the other way round -/
/-- the pair's key has no value in ys, or that which it has in xs -/
def agreeAt (xs ys : List (I × I)) (p : I × I) : Bool := match Plain.last p.1 ys with | none => true | some v => decide (Plain.last p.1 xs = some v)

theorem keys_turned (xs ys : List (I × I)) : (Plain.mapOf (Plain.mapOf (xs ++ ys))).map (·.1) = (Plain.mapOf (Plain.mapOf (ys ++ xs))).map (·.1) := by
  rw [Plain.mapOf_mapOf, Plain.mapOf_mapOf, keys_iff (Plain.srt_mapOf _) (Plain.srt_mapOf _)]
  intro k
  rw [Plain.get_mapOf, Plain.get_mapOf, Plain.last_append, Plain.last_append]
  cases Plain.last k xs <;> cases Plain.last k ys <;> rfl

theorem copy_turned (xs ys : List (I × I)) : decide (Plain.mapOf (Plain.mapOf (xs ++ ys)) = Plain.mapOf (Plain.mapOf (ys ++ xs))) = xs.all (agreeAt xs ys) := by
  rw [Bool.eq_iff_iff, decide_eq_true_eq, Plain.mapOf_mapOf, Plain.mapOf_mapOf, Plain.ext_iff (Plain.srt_mapOf _) (Plain.srt_mapOf _), List.all_eq_true]
  constructor
  · intro h p hp
    have h1 := h p.1
    rw [Plain.get_mapOf, Plain.get_mapOf, Plain.last_append, Plain.last_append] at h1
    unfold agreeAt
    cases h2 : Plain.last p.1 ys with
    | none => rfl
    | some v =>
      rw [h2] at h1
      refine decide_eq_true ?_
      cases h3 : Plain.last p.1 xs with
      | none => exact absurd rfl (Plain.last_none.1 h3 p hp)
      | some u => rw [h3] at h1; simpa using h1.symm
  · intro h k
    rw [Plain.get_mapOf, Plain.get_mapOf, Plain.last_append, Plain.last_append]
    cases h3 : Plain.last k xs with
    | none => cases Plain.last k ys <;> rfl
    | some u =>
      have h1 := h (k, u) (Plain.last_mem h3)
      unfold agreeAt at h1
      simp only at h1
      cases h2 : Plain.last k ys with
      | none => rfl
      | some v =>
        rw [h2] at h1
        have := of_decide_eq_true h1
        rw [h3] at this
        simpa using this.symm

theorem all_take {α : Type} {f : α → Bool} {xs : List α} {k : Nat} (hk : k < xs.length) : (xs.take (k + 1)).all f = ((xs.take k).all f && f xs[k]) := by
  rw [List.take_succ_eq_append_getElem hk, List.all_append]
  simp

theorem map_take {α β : Type} {f : α → β} {xs : List α} {k : Nat} (hk : k < xs.length) : (xs.take (k + 1)).map f = (xs.take k).map f ++ [f xs[k]] := by
  rw [List.take_succ_eq_append_getElem hk, List.map_append]
  rfl
end Go.Proofs.Ytgmeaedpbcimjaa
