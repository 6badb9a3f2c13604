/-
  What is proved here: plain laws of association lists that are sorted by their keys (no program in sight): putting, looking up, copying, dropping, and that such a list is known by its look-ups.
  Conditions: none but those that each theorem names.
-/
import GoSem.Claim
namespace Go.Proofs.Ytmldacjpbifoaaa

/-- a whole number of 64 bits -/
abbrev I : Type := { x : Int // (Lit.int .i64 x).wf = true }

namespace Plain

section generic
variable {K V : Type} [DecidableEq K]

/-- the value of the first pair of a key -/
def get (k : K) : List (K × V) → Option V
  | [] => none
  | p :: r => if p.1 = k then some p.2 else get k r

/-- the value of the last pair of a key -/
def last (k : K) (xs : List (K × V)) : Option V := get k xs.reverse

theorem get_append (k : K) (xs ys : List (K × V)) : get k (xs ++ ys) = (get k xs).or (get k ys) := by
  induction xs with
  | nil => rfl
  | cons p r ih =>
    simp only [List.cons_append, get]
    split
    · rfl
    · exact ih

theorem last_nil (k : K) : last k ([] : List (K × V)) = none := rfl

theorem last_snoc (k : K) (xs : List (K × V)) (p : K × V) : last k (xs ++ [p]) = if p.1 = k then some p.2 else last k xs := by
  simp [last, List.reverse_append, get]

theorem last_append (k : K) (xs ys : List (K × V)) : last k (xs ++ ys) = (last k ys).or (last k xs) := by
  simp [last, List.reverse_append, get_append]

theorem get_none {k : K} {xs : List (K × V)} : get k xs = none ↔ ∀ p ∈ xs, p.1 ≠ k := by
  induction xs with
  | nil => simp [get]
  | cons p r ih =>
    simp only [get, List.mem_cons, forall_eq_or_imp]
    split
    · rename_i h; simp [h]
    · rename_i h; simp [h, ih]

theorem get_mem {k : K} {v : V} {xs : List (K × V)} (h : get k xs = some v) : (k, v) ∈ xs := by
  induction xs with
  | nil => cases h
  | cons p r ih =>
    simp only [get] at h
    split at h
    · rename_i hk; cases h; cases hk; exact List.mem_cons_self
    · exact List.mem_cons_of_mem _ (ih h)

theorem last_mem {k : K} {v : V} {xs : List (K × V)} (h : last k xs = some v) : (k, v) ∈ xs := by simpa using get_mem h

theorem last_none {k : K} {xs : List (K × V)} : last k xs = none ↔ ∀ p ∈ xs, p.1 ≠ k := by
  unfold last
  rw [get_none]
  simp

theorem get_isSome {k : K} {xs : List (K × V)} : (get k xs).isSome = true ↔ ∃ p ∈ xs, p.1 = k := by
  cases h : get k xs with
  | none => exact ⟨fun h' => by simp at h', fun ⟨p, hp, e⟩ => absurd e (get_none.1 h p hp)⟩
  | some v => exact ⟨fun _ => ⟨(k, v), get_mem h, rfl⟩, fun _ => rfl⟩

theorem last_isSome {k : K} {xs : List (K × V)} : (last k xs).isSome = true ↔ ∃ p ∈ xs, p.1 = k := by
  unfold last
  rw [get_isSome]
  simp

/-- no key twice -/
def Once {A B : Type} (xs : List (A × B)) : Prop := (xs.map (·.1)).Nodup

theorem get_of_mem {xs : List (K × V)} (h : Once xs) {p : K × V} (hp : p ∈ xs) : get p.1 xs = some p.2 := by
  induction xs with
  | nil => cases hp
  | cons q r ih =>
    simp only [Once, List.map_cons, List.nodup_cons] at h
    simp only [get]
    rcases List.mem_cons.1 hp with rfl | hp'
    · simp
    · rw [if_neg (fun e => h.1 (by rw [e]; exact List.mem_map_of_mem hp')), ih h.2 hp']

theorem Once.reverse {A B : Type} {xs : List (A × B)} (h : Once xs) : Once xs.reverse := by
  unfold Once at *
  rw [List.map_reverse, List.nodup_iff_pairwise_ne, List.pairwise_reverse]
  exact (List.nodup_iff_pairwise_ne.1 h).imp fun hne => hne.symm

theorem last_of_mem {xs : List (K × V)} (h : Once xs) {p : K × V} (hp : p ∈ xs) : last p.1 xs = some p.2 :=
  get_of_mem h.reverse (by simpa using hp)

theorem last_eq_get {xs : List (K × V)} (h : Once xs) (k : K) : last k xs = get k xs := by
  cases e : get k xs with
  | some v => exact last_of_mem h (get_mem e)
  | none => exact last_none.2 (get_none.1 e)

theorem mem_iff_get {xs : List (K × V)} (h : Once xs) {p : K × V} : p ∈ xs ↔ get p.1 xs = some p.2 :=
  ⟨get_of_mem h, fun e => get_mem e⟩

end generic

/-! ### sorted lists -/
section sorted
variable {V : Type}

/-- sorted by the keys, none twice -/
def Srt (l : List (I × V)) : Prop := l.Pairwise (fun p q => p.1.1 < q.1.1)

def put (k : I) (v : V) : List (I × V) → List (I × V)
  | [] => [(k, v)]
  | p :: r => if p.1.1 < k.1 then p :: put k v r else if p.1 = k then (k, v) :: r else (k, v) :: p :: r

def mapOf (xs : List (I × V)) : List (I × V) := xs.foldl (fun m p => put p.1 p.2 m) []

/-- those of the second one over those of the first one -/
def over (l m : List (I × V)) : List (I × V) := m.foldl (fun l p => put p.1 p.2 l) l

theorem ne_of_lt {a b : I} (h : a.1 < b.1) : a ≠ b := fun e => by subst e; omega

theorem Srt.once {l : List (I × V)} (h : Srt l) : Once l := by
  unfold Once
  rw [List.nodup_iff_pairwise_ne, List.pairwise_map]
  exact h.imp fun hlt => ne_of_lt hlt

theorem Srt.nil : Srt ([] : List (I × V)) := List.Pairwise.nil

theorem get_put (k k' : I) (v : V) (l : List (I × V)) : get k' (put k v l) = if k = k' then some v else get k' l := by
  induction l with
  | nil => simp [put, get]
  | cons p r ih =>
    simp only [put]
    split
    · rename_i hlt
      have hne := ne_of_lt hlt
      simp only [get, ih]
      by_cases e : k = k'
      · subst e; simp [hne]
      · simp [e]
    · split
      · rename_i he
        subst he
        simp only [get]
        split
        · rfl
        · rfl
      · simp only [get]

theorem mem_put {k : I} {v : V} {l : List (I × V)} {p : I × V} (h : p ∈ put k v l) : p = (k, v) ∨ p ∈ l := by
  induction l with
  | nil => left; simpa [put] using h
  | cons q r ih =>
    simp only [put] at h
    split at h
    · rcases List.mem_cons.1 h with rfl | h
      · right; exact List.mem_cons_self
      · rcases ih h with e | e
        · exact .inl e
        · exact .inr (List.mem_cons_of_mem _ e)
    · split at h
      · rcases List.mem_cons.1 h with e | h
        · exact .inl e
        · exact .inr (List.mem_cons_of_mem _ h)
      · rcases List.mem_cons.1 h with e | h
        · exact .inl e
        · exact .inr h

theorem Srt.put {l : List (I × V)} (h : Srt l) (k : I) (v : V) : Srt (put k v l) := by
  induction l with
  | nil => simp [Plain.put, Srt]
  | cons p r ih =>
    have hp := List.pairwise_cons.1 h
    simp only [Plain.put]
    split
    · rename_i hlt
      refine List.pairwise_cons.2 ⟨fun q hq => ?_, ih hp.2⟩
      rcases mem_put hq with rfl | hq
      · exact hlt
      · exact hp.1 q hq
    · split
      · rename_i he
        subst he
        exact List.pairwise_cons.2 ⟨fun q hq => hp.1 q hq, hp.2⟩
      · rename_i hn he
        have hlt : k.1 < p.1.1 := by
          have : p.1.1 ≠ k.1 := fun e => he (Subtype.ext e)
          omega
        refine List.pairwise_cons.2 ⟨fun q hq => ?_, h⟩
        rcases List.mem_cons.1 hq with rfl | hq
        · exact hlt
        · have := hp.1 q hq; show k.1 < q.1.1; omega

theorem Srt.over {l : List (I × V)} (h : Srt l) (m : List (I × V)) : Srt (over l m) := by
  induction m generalizing l with
  | nil => exact h
  | cons p r ih => exact ih (h.put p.1 p.2)

theorem srt_mapOf (xs : List (I × V)) : Srt (mapOf xs) := Srt.nil.over xs

theorem get_over (k : I) (l m : List (I × V)) : get k (over l m) = (last k m).or (get k l) := by
  induction m generalizing l with
  | nil => simp [over, last, get]
  | cons p r ih =>
    have : over l (p :: r) = over (put p.1 p.2 l) r := rfl
    rw [this, ih, get_put]
    have e : last k (p :: r) = (last k r).or (if p.1 = k then some p.2 else none) := by
      simp only [last, List.reverse_cons, get_append, get]
    rw [e]
    cases last k r with
    | some v => rfl
    | none => by_cases h : p.1 = k <;> simp [h]

theorem get_mapOf (k : I) (xs : List (I × V)) : get k (mapOf xs) = last k xs := by
  have := get_over k [] xs
  rw [show over [] xs = mapOf xs from rfl] at this
  rw [this]
  simp [get]

/-- a sorted list is known by its look-ups -/
theorem ext {l m : List (I × V)} (hl : Srt l) (hm : Srt m) (h : ∀ k, get k l = get k m) : l = m := by
  induction l generalizing m with
  | nil =>
    cases m with
    | nil => rfl
    | cons q s =>
      have := h q.1
      simp [get] at this
  | cons p r ih =>
    cases m with
    | nil =>
      have := h p.1
      simp [get] at this
    | cons q s =>
      have hp := List.pairwise_cons.1 hl
      have hq := List.pairwise_cons.1 hm
      have e1 : p.1 = q.1 := by
        rcases Int.lt_trichotomy p.1.1 q.1.1 with hlt | heq | hgt
        · exfalso
          have h1 := h p.1
          have h2 : get p.1 (q :: s) = none := get_none.2 (fun x hx => by
            rcases List.mem_cons.1 hx with rfl | hx
            · exact (ne_of_lt hlt).symm
            · exact (ne_of_lt (by have := hq.1 x hx; omega)).symm)
          rw [h2] at h1
          simp [get] at h1
        · exact Subtype.ext heq
        · exfalso
          have h1 := h q.1
          have h2 : get q.1 (p :: r) = none := get_none.2 (fun x hx => by
            rcases List.mem_cons.1 hx with rfl | hx
            · exact (ne_of_lt hgt).symm
            · exact (ne_of_lt (by have := hp.1 x hx; omega)).symm)
          rw [h2] at h1
          simp [get] at h1
      have e2 : p.2 = q.2 := by
        have h1 := h p.1
        simp only [get, if_pos e1.symm] at h1
        exact Option.some.inj h1
      have e3 : r = s := ih hp.2 hq.2 (fun k => by
        by_cases hk : p.1 = k
        · subst hk
          rw [get_none.2 (fun x hx => (ne_of_lt (hp.1 x hx)).symm), get_none.2 (fun x hx => (ne_of_lt (by rw [e1]; exact hq.1 x hx)).symm)]
        · have h1 := h k
          simpa [get, hk, e1 ▸ hk] using h1)
      rw [e3, Prod.ext e1 e2]

theorem ext_iff {l m : List (I × V)} (hl : Srt l) (hm : Srt m) : l = m ↔ ∀ k, get k l = get k m := ⟨fun e _ => by rw [e], ext hl hm⟩

theorem mapOf_append (xs ys : List (I × V)) : mapOf (xs ++ ys) = over (mapOf xs) ys := by
  simp [mapOf, over, List.foldl_append]

theorem mapOf_snoc (xs : List (I × V)) (p : I × V) : mapOf (xs ++ [p]) = put p.1 p.2 (mapOf xs) := by
  rw [mapOf_append]; rfl

theorem mapOf_srt {l : List (I × V)} (h : Srt l) : mapOf l = l :=
  ext (srt_mapOf l) h fun k => by rw [get_mapOf, last_eq_get h.once]

theorem mapOf_mapOf (xs : List (I × V)) : mapOf (mapOf xs) = mapOf xs := mapOf_srt (srt_mapOf xs)

/-- copying a map's pairs is copying the list's -/
theorem over_mapOf {l : List (I × V)} (h : Srt l) (ys : List (I × V)) : over l (mapOf ys) = over l ys :=
  ext (h.over _) (h.over _) fun k => by rw [get_over, get_over, last_eq_get (srt_mapOf ys).once, get_mapOf]

theorem copy_eq (xs ys : List (I × V)) : over (mapOf xs) (mapOf ys) = mapOf (xs ++ ys) := by
  rw [over_mapOf (srt_mapOf xs), mapOf_append]

theorem length_put_le (k : I) (v : V) (l : List (I × V)) : (put k v l).length ≤ l.length + 1 := by
  induction l with
  | nil => simp [put]
  | cons p r ih =>
    simp only [put]
    split
    · simp; omega
    · split <;> simp

theorem length_over_le (l m : List (I × V)) : (over l m).length ≤ l.length + m.length := by
  induction m generalizing l with
  | nil => simp [over]
  | cons p r ih =>
    have e : over l (p :: r) = over (put p.1 p.2 l) r := rfl
    rw [e]
    have h1 := ih (put p.1 p.2 l)
    have h2 := length_put_le p.1 p.2 l
    simp only [List.length_cons]
    omega

theorem length_mapOf_le (xs : List (I × V)) : (mapOf xs).length ≤ xs.length := by
  have h := length_over_le [] xs
  rw [show over [] xs = mapOf xs from rfl] at h
  simpa using h

theorem mem_mapOf {p : I × V} {xs : List (I × V)} (h : p ∈ mapOf xs) : p ∈ xs := by
  have h1 := get_of_mem (srt_mapOf xs).once h
  rw [get_mapOf] at h1
  exact last_mem h1

/-! ### the place of a key -/
/-- how many keys are less -/
def below (k : I) (l : List (I × V)) : Nat := (l.takeWhile (fun p => decide (p.1.1 < k.1))).length

theorem below_le (k : I) (l : List (I × V)) : below k l ≤ l.length := by
  unfold below
  have h := List.takeWhile_append_dropWhile (p := fun p : I × V => decide (p.1.1 < k.1)) (l := l)
  have := congrArg List.length h
  simp only [List.length_append] at this
  omega

/-- a place is that of the key if all ahead of it are less, and the one there is not -/
theorem below_of {k : I} {l : List (I × V)} {i : Nat} (hi : i ≤ l.length) (h1 : ∀ j (hj : j < l.length), j < i → (l[j]).1.1 < k.1) (h2 : ∀ (h : i < l.length), ¬ (l[i]).1.1 < k.1) : below k l = i := by
  induction l generalizing i with
  | nil => simp at hi; simp [below, hi]
  | cons p r ih =>
    unfold below
    cases i with
    | zero =>
      have := h2 (by simp)
      simp only [List.getElem_cons_zero] at this
      simp [this]
    | succ i =>
      have h0 := h1 0 (by simp) (by omega)
      simp only [List.getElem_cons_zero] at h0
      rw [List.takeWhile_cons, if_pos (by simpa using h0)]
      simp only [List.length_cons]
      have := ih (i := i) (by simpa using hi) (fun j hj hji => by have := h1 (j + 1) (by simpa using hj) (by omega); simpa using this) (fun h => by have := h2 (by simpa using h); simpa using this)
      unfold below at this
      omega

theorem below_lt {k : I} {l : List (I × V)} {j : Nat} (hj : j < l.length) (h : j < below k l) : (l[j]).1.1 < k.1 := by
  induction l generalizing j with
  | nil => simp at hj
  | cons p r ih =>
    unfold below at h
    rw [List.takeWhile_cons] at h
    split at h
    · rename_i hp
      cases j with
      | zero => simpa using hp
      | succ j => simp only [List.length_cons] at h; simpa using ih (j := j) (by simpa using hj) (by unfold below; omega)
    · simp at h

theorem below_ge {k : I} {l : List (I × V)} (h : below k l < l.length) : ¬ (l[below k l]).1.1 < k.1 := by
  induction l with
  | nil => simp at h
  | cons p r ih =>
    by_cases hp : p.1.1 < k.1
    · have e : below k (p :: r) = below k r + 1 := by unfold below; rw [List.takeWhile_cons, if_pos (by simpa using hp)]; rfl
      have h' : below k r < r.length := by rw [e] at h; simpa using h
      have := ih h'
      simp only [e, List.getElem_cons_succ]
      exact this
    · have e : below k (p :: r) = 0 := by unfold below; rw [List.takeWhile_cons, if_neg (by simpa using hp)]; rfl
      simp only [e, List.getElem_cons_zero]
      exact hp

/-- putting by the key's place: the key is there -/
theorem put_at {k : I} {v : V} {l : List (I × V)} (h : below k l < l.length) (he : (l[below k l]).1 = k) : put k v l = l.set (below k l) (k, v) := by
  induction l with
  | nil => simp at h
  | cons p r ih =>
    by_cases hp : p.1.1 < k.1
    · have e : below k (p :: r) = below k r + 1 := by unfold below; rw [List.takeWhile_cons, if_pos (by simpa using hp)]; rfl
      have h' : below k r < r.length := by rw [e] at h; simpa using h
      simp only [e, List.getElem_cons_succ] at he
      rw [e, List.set_cons_succ, ← ih h' he, put, if_pos hp]
    · have e : below k (p :: r) = 0 := by unfold below; rw [List.takeWhile_cons, if_neg (by simpa using hp)]; rfl
      simp only [e, List.getElem_cons_zero] at he
      rw [e, List.set_cons_zero, put, if_neg hp, if_pos he]

/-- putting by the key's place: the key is not there -/
theorem put_new {k : I} {v : V} {l : List (I × V)} (hn : ∀ h : below k l < l.length, (l[below k l]).1 ≠ k) : put k v l = l.take (below k l) ++ (k, v) :: l.drop (below k l) := by
  induction l with
  | nil => simp [put, below]
  | cons p r ih =>
    by_cases hp : p.1.1 < k.1
    · have e : below k (p :: r) = below k r + 1 := by unfold below; rw [List.takeWhile_cons, if_pos (by simpa using hp)]; rfl
      rw [e, List.take_succ_cons, List.drop_succ_cons, List.cons_append, ← ih (fun h => by have := hn (by rw [e]; simpa using h); simpa only [e, List.getElem_cons_succ] using this), put, if_pos hp]
    · have e : below k (p :: r) = 0 := by unfold below; rw [List.takeWhile_cons, if_neg (by simpa using hp)]; rfl
      have hne : p.1 ≠ k := by have := hn (by rw [e]; simp); simpa only [e, List.getElem_cons_zero] using this
      rw [e, put, if_neg hp, if_neg hne]
      rfl

theorem get_filter {l : List (I × V)} (h : Srt l) (f : I × V → Bool) (k : I) : get k (l.filter f) = (get k l).bind (fun v => if f (k, v) then some v else none) := by
  have hs : Srt (l.filter f) := h.sublist List.filter_sublist
  cases e : get k l with
  | none =>
    refine get_none.2 fun p hp => get_none.1 e p (List.mem_filter.1 hp).1
  | some v =>
    simp only [Option.bind_some]
    split
    · rename_i hf
      exact get_of_mem hs.once (List.mem_filter.2 ⟨get_mem e, hf⟩)
    · rename_i hf
      refine get_none.2 fun p hp he => hf ?_
      obtain ⟨hp, hf'⟩ := List.mem_filter.1 hp
      have := get_of_mem h.once hp
      rw [he, e] at this
      have e2 : v = p.2 := Option.some.inj this
      rw [← he, e2]; exact hf'

theorem Srt.filter {l : List (I × V)} (h : Srt l) (f : I × V → Bool) : Srt (l.filter f) := h.sublist List.filter_sublist

end sorted
end Plain
end Go.Proofs.Ytmldacjpbifoaaa
