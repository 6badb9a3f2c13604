/-
  What is proved here: plain laws of maps that are known by their look-ups (keys and values of whatever kind): the data of the map of a list of pairs; when two such maps are held to be equal by a relation on the values.
  Conditions: different keys read differently. No program in sight.
-/
import Derived.Test.YtmldacjpbifoaaaData
namespace Go.Proofs.Ytmldacjpbifoaaa
open Go.RowKit Go.Maps

section
variable {K V : Type} [DecidableEq K] {keyL : K → Lit} {valD : V → Dt}

/-- the data of the map of a list of pairs, one after the other -/
def mapD (keyL : K → Lit) (valD : V → Dt) (xs : List (K × V)) : Dt := xs.foldl (fun D p => D.put (keyL p.1) (valD p.2)) (.map [])

omit [DecidableEq K] in
theorem mapD_snoc (xs : List (K × V)) (p : K × V) : mapD keyL valD (xs ++ [p]) = (mapD keyL valD xs).put (keyL p.1) (valD p.2) := by
  simp [mapD, List.foldl_append]

theorem mem_insert {x p : Lit × Dt} {l : List (Lit × Dt)} (h : p ∈ DataW.insert x l) : p = x ∨ p ∈ l := by
  induction l with
  | nil => left; simpa [DataW.insert] using h
  | cons y r ih =>
    simp only [DataW.insert] at h
    split at h
    · rcases List.mem_cons.1 h with e | e
      · exact .inl e
      · exact .inr e
    · rcases List.mem_cons.1 h with e | e
      · exact .inr (e ▸ List.mem_cons_self)
      · rcases ih e with e | e
        · exact .inl e
        · exact .inr (List.mem_cons_of_mem _ e)

omit [DecidableEq K] in
/-- every entry is of one of the list's keys -/
theorem mapD_entries (xs : List (K × V)) : ∃ es, mapD keyL valD xs = .map es ∧ ∀ e ∈ es, ∃ k, e.1 = keyL k := by
  have h : ∀ ys : List (K × V), ∃ es, mapD keyL valD ys.reverse = .map es ∧ ∀ e ∈ es, ∃ k, e.1 = keyL k := by
    intro ys
    induction ys with
    | nil => exact ⟨[], rfl, by simp⟩
    | cons p r ih =>
      obtain ⟨es, he, hk⟩ := ih
      rw [List.reverse_cons, mapD_snoc, he]
      refine ⟨_, rfl, fun e hm => ?_⟩
      rcases mem_insert hm with rfl | hm
      · exact ⟨p.1, rfl⟩
      · exact hk e (List.mem_filter.1 hm).1
  have := h xs.reverse
  simpa using this

variable (hinj : ∀ a b, keyL a = keyL b → a = b) (hkey : ∀ k, WideAt.IsKeyLit (keyL k))

omit [DecidableEq K] in
include hkey in
theorem tidy_mapD (xs : List (K × V)) : Tidy (mapD keyL valD xs) := by
  have h : ∀ ys : List (K × V), Tidy (mapD keyL valD ys.reverse) := by
    intro ys
    induction ys with
    | nil => exact tidy_empty
    | cons p r ih =>
      rw [List.reverse_cons, mapD_snoc]
      exact ih.put (hkey p.1) _
  have := h xs.reverse
  simpa using this

include hinj hkey in
theorem has_mapD (xs : List (K × V)) (k : K) : Maps.has (mapD keyL valD xs) (keyL k) = (Plain.last k xs).isSome := by
  have h : ∀ ys : List (K × V), Maps.has (mapD keyL valD ys.reverse) (keyL k) = (Plain.get k ys).isSome := by
    intro ys
    induction ys with
    | nil => rfl
    | cons p r ih =>
      rw [List.reverse_cons, mapD_snoc]
      simp only [Plain.get]
      by_cases e : p.1 = k
      · rw [if_pos e, e, has_put_same (tidy_mapD hkey _).isMap (hkey k)]
        rfl
      · rw [if_neg e, has_put_other (fun e2 => e (hinj _ _ e2.symm)), ih]
  have := h xs.reverse
  simpa [Plain.last] using this

include hinj hkey in
theorem at_mapD (xs : List (K × V)) (k : K) (z : Dt) : (mapD keyL valD xs).atKey (keyL k) z = match Plain.last k xs with | some v => valD v | none => z := by
  have h : ∀ ys : List (K × V), (mapD keyL valD ys.reverse).atKey (keyL k) z = match Plain.get k ys with | some v => valD v | none => z := by
    intro ys
    induction ys with
    | nil => rfl
    | cons p r ih =>
      rw [List.reverse_cons, mapD_snoc]
      simp only [Plain.get]
      by_cases e : p.1 = k
      · rw [if_pos e, e, atKey_put_same (tidy_mapD hkey _).isMap (hkey k)]
      · rw [if_neg e, atKey_put_other (fun e2 => e (hinj _ _ e2.symm)), ih]
  have := h xs.reverse
  simpa [Plain.last] using this

/-- two lists stand for maps with the same keys and related values -/
def Same (eqv : V → V → Bool) (xs ys : List (K × V)) : Prop :=
  (∀ k v, Plain.last k xs = some v → ∃ u, Plain.last k ys = some u ∧ eqv v u = true) ∧ ∀ k u, Plain.last k ys = some u → ∃ v, Plain.last k xs = some v

theorem Same.symm {eqv : V → V → Bool} (hs : ∀ a b, eqv a b = eqv b a) {xs ys : List (K × V)} (h : Same eqv xs ys) : Same eqv ys xs := by
  refine ⟨fun k v hv => ?_, fun k u hu => ?_⟩
  · obtain ⟨u, hu⟩ := h.2 k v hv
    obtain ⟨u', hu', e⟩ := h.1 k u hu
    rw [hv] at hu'
    cases hu'
    exact ⟨u, hu, by rw [hs]; exact e⟩
  · obtain ⟨u', hu', _⟩ := h.1 k u hu
    exact ⟨u', hu'⟩

include hinj hkey in
theorem equal_kv {eqd : Dt → Dt → Bool} {eqv : V → V → Bool} (hd : ∀ v u, eqd (valD v) (valD u) = eqv v u) (xs ys : List (K × V)) :
    Lib.equalFuncD eqd (mapD keyL valD xs) (mapD keyL valD ys) = true ↔ Same eqv xs ys := by
  obtain ⟨es1, e1, k1⟩ := mapD_entries (keyL := keyL) (valD := valD) xs
  obtain ⟨es2, e2, k2⟩ := mapD_entries (keyL := keyL) (valD := valD) ys
  have t1 := tidy_mapD (valD := valD) hkey xs
  have t2 := tidy_mapD (valD := valD) hkey ys
  have a1 := at_mapD (valD := valD) hinj hkey xs
  have a2 := at_mapD (valD := valD) hinj hkey ys
  have h1 := has_mapD (valD := valD) hinj hkey xs
  have h2 := has_mapD (valD := valD) hinj hkey ys
  rw [e1] at t1 a1 h1 ⊢
  rw [e2] at t2 a2 h2 ⊢
  obtain ⟨_, et1, p1⟩ := t1
  cases et1
  obtain ⟨_, et2, p2⟩ := t2
  cases et2
  have n1 : (es1.map (·.1)).Nodup := by rw [List.nodup_iff_pairwise_ne, List.pairwise_map]; exact p1
  have n2 : (es2.map (·.1)).Nodup := by rw [List.nodup_iff_pairwise_ne, List.pairwise_map]; exact p2
  have m1 : ∀ k, keyL k ∈ es1.map (·.1) ↔ (Plain.last k xs).isSome = true := fun k => by
    rw [← h1 k, Maps.has_eq, List.any_eq_true]
    simp only [List.mem_map]
    exact ⟨fun ⟨p, hp, e⟩ => ⟨p, hp, by rw [e]; exact WideAt.sameKey_self (hkey k)⟩, fun ⟨p, hp, e⟩ => ⟨p, hp, WideAt.sameKey_eq e⟩⟩
  have m2 : ∀ k, keyL k ∈ es2.map (·.1) ↔ (Plain.last k ys).isSome = true := fun k => by
    rw [← h2 k, Maps.has_eq, List.any_eq_true]
    simp only [List.mem_map]
    exact ⟨fun ⟨p, hp, e⟩ => ⟨p, hp, by rw [e]; exact WideAt.sameKey_self (hkey k)⟩, fun ⟨p, hp, e⟩ => ⟨p, hp, WideAt.sameKey_eq e⟩⟩
  have v1 : ∀ e ∈ es1, ∀ k v, e.1 = keyL k → Plain.last k xs = some v → e.2 = valD v := fun e he k v hk hv => by
    have := WideAt.atKey_mem (k := e.1) (d := e.2) .nil (by rw [hk]; exact hkey k) p1 he
    rw [hk, a1 k, hv] at this
    exact this.symm
  have hgood : ∀ e ∈ es1, ∀ k v, e.1 = keyL k → Plain.last k xs = some v → (Lib.goodD eqd (.map es2) e = true ↔ ∃ u, Plain.last k ys = some u ∧ eqv v u = true) := fun e he k v hk hv => by
    unfold Lib.goodD
    rw [hk, h2 k, a2 k, v1 e he k v hk hv]
    cases Plain.last k ys with
    | none => simp
    | some u => simp [hd]
  have keyOf1 : ∀ e ∈ es1, ∃ k v, e.1 = keyL k ∧ Plain.last k xs = some v := fun e he => by
    obtain ⟨k, hk⟩ := k1 e he
    have := (m1 k).1 (by rw [← hk]; exact List.mem_map_of_mem he)
    obtain ⟨v, hv⟩ := Option.isSome_iff_exists.1 this
    exact ⟨k, v, hk, hv⟩
  unfold Lib.equalFuncD
  simp only [Bool.and_eq_true, Lib.entriesD, List.all_eq_true, Maps.size_eq]
  constructor
  · rintro ⟨hlen0, hall⟩
    have hlen : es1.length = es2.length := of_decide_eq_true hlen0
    have F : ∀ k v, Plain.last k xs = some v → ∃ u, Plain.last k ys = some u ∧ eqv v u = true := fun k v hv => by
      obtain ⟨e, he, hk⟩ := List.mem_map.1 ((m1 k).2 (by rw [hv]; rfl))
      exact (hgood e he k v hk hv).1 (hall e he)
    refine ⟨F, fun k u hu => ?_⟩
    have hsub : ∀ x ∈ es1.map (·.1), x ∈ es2.map (·.1) := fun x hx => by
      obtain ⟨e, he, rfl⟩ := List.mem_map.1 hx
      obtain ⟨k, v, hk, hv⟩ := keyOf1 e he
      obtain ⟨u, hu, _⟩ := F k v hv
      rw [hk]
      exact (m2 k).2 (by rw [hu]; rfl)
    have hin : keyL k ∈ es1.map (·.1) := Classical.byContradiction fun hn => by
      have hle := List.Nodup.length_le_of_subset (l₁ := keyL k :: es1.map (·.1)) (List.nodup_cons.2 ⟨hn, n1⟩) (fun x hx => by
        rcases List.mem_cons.1 hx with rfl | hx
        · exact (m2 k).2 (by rw [hu]; rfl)
        · exact hsub x hx)
      simp only [List.length_cons, List.length_map] at hle
      omega
    exact Option.isSome_iff_exists.1 ((m1 k).1 hin)
  · rintro ⟨F, G⟩
    have s1 : ∀ x ∈ es1.map (·.1), x ∈ es2.map (·.1) := fun x hx => by
      obtain ⟨e, he, rfl⟩ := List.mem_map.1 hx
      obtain ⟨k, v, hk, hv⟩ := keyOf1 e he
      obtain ⟨u, hu, _⟩ := F k v hv
      rw [hk]
      exact (m2 k).2 (by rw [hu]; rfl)
    have s2 : ∀ x ∈ es2.map (·.1), x ∈ es1.map (·.1) := fun x hx => by
      obtain ⟨e, he, rfl⟩ := List.mem_map.1 hx
      obtain ⟨k, hk⟩ := k2 e he
      have := (m2 k).1 (by rw [← hk]; exact List.mem_map_of_mem he)
      obtain ⟨u, hu⟩ := Option.isSome_iff_exists.1 this
      obtain ⟨v, hv⟩ := G k u hu
      rw [hk]
      exact (m1 k).2 (by rw [hv]; rfl)
    refine ⟨?_, fun e he => ?_⟩
    · have l1 := List.Nodup.length_le_of_subset n1 s1
      have l2 := List.Nodup.length_le_of_subset n2 s2
      simp only [List.length_map] at l1 l2
      exact decide_eq_true (Nat.le_antisymm l1 l2)
    · obtain ⟨k, v, hk, hv⟩ := keyOf1 e he
      exact (hgood e he k v hk hv).2 (F k v hv)
end

/-! ### the reference, by places -/
section
variable {K V : Type} [DecidableEq K]

/-- the last pair of a key has a value that is equal to another one -/
def hasP (eqv : V → V → Bool) (xs : List (K × V)) (k : K) (v : V) : Bool := match Plain.last k xs with | some u => eqv u v | none => false

/-- a pair is the last one of its key -/
def LastAt (xs : List (K × V)) (i : Nat) : Prop := ∀ (h : i < xs.length) t (ht : t < xs.length), i < t → (xs[t]).1 ≠ (xs[i]).1

theorem last_at' {xs : List (K × V)} {k : K} {j : Nat} (hj : j < xs.length) (h1 : (xs[j]).1 = k) (h2 : ∀ t (ht : t < xs.length), j < t → (xs[t]).1 ≠ k) : Plain.last k xs = some (xs[j]).2 := by
  have e : xs = xs.take j ++ ([xs[j]] ++ xs.drop (j + 1)) := by simp
  have e2 : Plain.last k xs = Plain.last k (xs.take j ++ ([xs[j]] ++ xs.drop (j + 1))) := congrArg _ e
  rw [e2, Plain.last_append, Plain.last_append]
  have hn : Plain.last k (xs.drop (j + 1)) = none := Plain.last_none.2 fun p hp => by
    obtain ⟨t, ht, rfl⟩ := List.getElem_of_mem hp
    rw [List.getElem_drop]
    exact h2 _ _ (by omega)
  have h3 : Plain.last k [xs[j]] = some (xs[j]).2 := by simp [Plain.last, Plain.get, h1]
  rw [hn, h3]
  simp

theorem last_no' {xs : List (K × V)} {k : K} (h : ∀ t (ht : t < xs.length), (xs[t]).1 ≠ k) : Plain.last k xs = none := Plain.last_none.2 fun p hp => by
  obtain ⟨t, ht, rfl⟩ := List.getElem_of_mem hp
  exact h t ht

/-- every key that is there has a last place -/
theorem last_place {k : K} {v : V} : ∀ {xs : List (K × V)}, Plain.last k xs = some v → ∃ i, ∃ h : i < xs.length, xs[i] = (k, v) ∧ LastAt xs i := by
  have H : ∀ ys : List (K × V), Plain.get k ys = some v → ∃ i, ∃ h : i < ys.reverse.length, ys.reverse[i] = (k, v) ∧ LastAt ys.reverse i := by
    intro ys
    induction ys with
    | nil => intro h; cases h
    | cons p r ih =>
      intro h
      simp only [Plain.get] at h
      by_cases e : p.1 = k
      · rw [if_pos e] at h
        cases h
        refine ⟨r.length, by simp, ?_, fun h t ht hlt => absurd hlt (by simp at ht; omega)⟩
        simp [List.reverse_cons, List.getElem_append_right, e.symm]
      · rw [if_neg e] at h
        obtain ⟨i, hi, hx, hl⟩ := ih h
        have hi' : i < r.length := by simpa using hi
        refine ⟨i, by simp; omega, ?_, fun h t ht hlt => ?_⟩
        · simp only [List.reverse_cons]
          rw [List.getElem_append_left (by simpa using hi')]
          exact hx
        · simp only [List.reverse_cons] at ht ⊢
          rw [show (r.reverse ++ [p])[i]'(by simp; omega) = (k, v) from by rw [List.getElem_append_left (by simpa using hi')]; exact hx]
          by_cases htl : t < r.length
          · rw [List.getElem_append_left (h := by simpa using htl)]
            have := hl hi t (by simpa using htl) hlt
            rw [hx] at this
            exact this
          · have hte : t = r.length := by simp at ht; omega
            subst hte
            rw [List.getElem_append_right (by simp)]
            simpa using e
  intro xs h
  have := H xs.reverse (by simpa [Plain.last] using h)
  simpa using this

theorem of_place {xs : List (K × V)} {i : Nat} (h : i < xs.length) (hl : LastAt xs i) : Plain.last (xs[i]).1 xs = some (xs[i]).2 :=
  last_at' h rfl fun t ht hlt => hl h t ht hlt

/-- a pair is the last one of its key, as a Bool -/
def lastB (xs : List (K × V)) (i : Nat) : Bool := match xs[i]? with | some p => (xs.drop (i + 1)).all (fun q => !decide (q.1 = p.1)) | none => true

theorem lastB_iff {xs : List (K × V)} {i : Nat} (h : i < xs.length) : lastB xs i = true ↔ LastAt xs i := by
  unfold lastB
  rw [List.getElem?_eq_getElem h]
  simp only [List.all_eq_true, Bool.not_eq_true', decide_eq_false_iff_not]
  constructor
  · intro H _ t ht hlt
    have hm : xs[t] ∈ xs.drop (i + 1) := by
      have e : (xs.drop (i + 1))[t - (i + 1)]? = some xs[t] := by
        rw [List.getElem?_drop, show i + 1 + (t - (i + 1)) = t from by omega]
        exact List.getElem?_eq_getElem ht
      exact List.mem_of_getElem? e
    exact H _ hm
  · intro H q hq
    obtain ⟨t, ht, rfl⟩ := List.getElem_of_mem hq
    rw [List.getElem_drop]
    exact H h _ _ (by omega)

theorem lastB_true {xs : List (K × V)} {i : Nat} (h : i < xs.length) (hall : ∀ t (ht : t < xs.length), i < t → (xs[t]).1 ≠ (xs[i]).1) : lastB xs i = true :=
  (lastB_iff h).2 fun _ t ht hlt => hall t ht hlt

theorem lastB_false {xs : List (K × V)} {i t : Nat} (h : i < xs.length) (ht : t < xs.length) (hlt : i < t) (e : (xs[t]).1 = (xs[i]).1) : lastB xs i = false := by
  cases hb : lastB xs i with
  | false => rfl
  | true => exact absurd e ((lastB_iff h).1 hb h t ht hlt)

/-- what the reference asks, both ways -/
theorem spec_same {eqv : V → V → Bool} (hs : ∀ a b, eqv a b = eqv b a) (xs ys : List (K × V)) :
    ((∀ i (h : i < xs.length), LastAt xs i → hasP eqv ys (xs[i]).1 (xs[i]).2 = true) ∧ ∀ i (h : i < ys.length), LastAt ys i → hasP eqv xs (ys[i]).1 (ys[i]).2 = true) ↔ Same eqv xs ys := by
  have one : ∀ as bs : List (K × V), (∀ i (h : i < as.length), LastAt as i → hasP eqv bs (as[i]).1 (as[i]).2 = true) ↔ ∀ k v, Plain.last k as = some v → ∃ u, Plain.last k bs = some u ∧ eqv v u = true := by
    intro as bs
    constructor
    · intro h k v hv
      obtain ⟨i, hi, hx, hl⟩ := last_place hv
      have := h i hi hl
      rw [hx] at this
      unfold hasP at this
      cases hb : Plain.last k bs with
      | none => rw [hb] at this; cases this
      | some u => rw [hb] at this; exact ⟨u, rfl, by rw [hs]; exact this⟩
    · intro h i hi hl
      obtain ⟨u, hu, e⟩ := h _ _ (of_place hi hl)
      unfold hasP
      rw [hu]
      show eqv u _ = true
      rw [hs]
      exact e
  rw [one, one]
  constructor
  · rintro ⟨F, G⟩
    exact ⟨F, fun k u hu => by obtain ⟨v, hv, _⟩ := G k u hu; exact ⟨v, hv⟩⟩
  · intro h
    exact ⟨h.1, (h.symm hs).1⟩
end
end Go.Proofs.Ytmldacjpbifoaaa
