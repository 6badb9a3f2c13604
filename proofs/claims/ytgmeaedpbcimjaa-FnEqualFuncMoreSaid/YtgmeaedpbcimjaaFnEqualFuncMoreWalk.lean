/-
  What is proved here: the walk through the law FnEqualFuncMore: it returns true.
  Conditions: the code is read as the form reads it.
-/
import Derived.Test.YtgmeaedpbcimjaaDraw
import Derived.Test.YtgmeaedpbcimjaaRelated
import Derived.Test.YtgmeaedpbcimjaaEqFunc
import Derived.Test.YtgmeaedpbcimjaaSEqFunc
namespace Go.Proofs.Ytgmeaedpbcimjaa.fnEqualFuncMore
open Go.RowKit Go.Maps
set_option linter.unusedSimpArgs false
set_option linter.unusedVariables false

theorem related_mono {f g : I → I → Bool} (h : ∀ x y, f x y = true → g x y = true) {l m : List (I × I)} (hr : related f l m = true) : related g l m = true := by
  unfold related at *
  rw [Bool.and_eq_true] at hr ⊢
  refine ⟨hr.1, ?_⟩
  have h2 := hr.2
  rw [List.all_eq_true] at h2 ⊢
  intro p hp
  have := h2 p hp
  cases hg : Plain.get p.1 m with
  | none => rw [hg] at this; cases this
  | some v => rw [hg] at this; exact h _ _ this
theorem Has.takes {w : World} {A : Option Addr} {n k : Nat} {xs : List (I × I)} (h : Has w 2 A n (cells2 xs)) (hk : k ≤ n) : Has w 2 A k (cells2 (xs.take k)) := by
  have hl := h.len2
  refine ⟨by rw [cellsBy_length, List.length_take]; omega, fun h0 => ?_⟩
  obtain ⟨b, off, e, hb, hc⟩ := h.2 (by omega)
  refine ⟨b, off, e, hb, fun j u hu => hc j u ?_⟩
  have he : cells2 xs = cells2 (xs.take k) ++ cells2 (xs.drop k) := by rw [← cellsBy_append, List.take_append_drop]
  rw [he, List.getElem?_append_left (List.getElem?_eq_some_iff.1 hu).1]
  exact hu
theorem more {xs ys vs : List (I × I)} {k : Nat} (h : related (fun x y => decide ((x, y) ∈ vs.take k)) (Plain.mapOf xs) (Plain.mapOf ys) = true) : related (fun x y => decide ((x, y) ∈ vs)) (Plain.mapOf xs) (Plain.mapOf ys) = true :=
  related_mono (fun _ _ h => decide_eq_true (List.mem_of_mem_take (of_decide_eq_true h))) h
theorem nothing (xs rs : List (I × I)) : related (fun x y => decide ((x, y) ∈ rs)) (Plain.mapOf xs) (Plain.mapOf []) = decide (xs.length = 0) := by
  cases xs with
  | nil => rfl
  | cons p r =>
    rw [related_len]
    · simp
    · have h1 : Plain.get p.1 (Plain.mapOf (p :: r)) ≠ none := by
        rw [Plain.get_mapOf]
        intro h
        exact Plain.last_none.1 h p List.mem_cons_self rfl
      intro h
      have h2 : Plain.mapOf (p :: r) = [] := List.eq_nil_of_length_eq_zero h
      rw [h2] at h1
      exact h1 rfl

set_option maxRecDepth 100000 in
set_option maxHeartbeats 4000000 in
theorem walk (A : Option Addr) (n c : Nat) (zs : List Int) (w : World) (h : Bytes w A n c zs) :
    Calls Try.prog 8 #[.slice A n c] w fun e w' => e = .returned (.bool true) ∧ w.grownBy w' none := by
  have HB := Lib.hid h
  clear h
  by_cases hn : 1048576 < n
  · go_enter Try.func8, Try.ntmps8
    go_wp2_with fail
    go_ret
    exact ⟨rfl, World.grownBy.refl _ _⟩
  · go_enter Try.func8, Try.ntmps8
    go_wp2_with fail
    refine (drawRelated_any A n c zs _ HB.out (by omega)).mono ?_
    rintro e w1 ⟨A1, n1, c1, xs, A2, n2, c2, ys, A3, n3, c3, vs, rfl, X, hn1, Y, hn2, V, hn3, hc3, ⟨g3, rfl⟩, g0⟩
    have X := Lib.hid X
    have Y := Lib.hid Y
    have V := Lib.hid V
    have G := Lib.hid g0
    clear g0
    have lx := X.out.len2
    have ly := Y.out.len2
    have lv := V.out.len2
    have Q := Lib.hid (Has.takes (k := n3 / 2) V.out (by omega))
    go_wp2_with fail
    refine (equalFunc_any A1 A2 (some ⟨g3, 0, none⟩) n1 c1 n2 c2 (n3 / 2) c3 xs ys (vs.take (n3 / 2)) _ X.out Y.out Q.out (by omega) (by omega) (by omega)).mono ?_
    rintro e w2 ⟨rfl, g0⟩
    have X := Lib.hid (X.out.kept g0)
    have Y := Lib.hid (Y.out.kept g0)
    have V := Lib.hid (V.out.kept g0)
    have Q := Lib.hid (Q.out.kept g0)
    have G := Lib.hid (G.out.trans g0)
    clear g0
    generalize hp : related (fun x y => decide ((x, y) ∈ (vs.take (n3 / 2)))) (Plain.mapOf xs) (Plain.mapOf ys) = p
    cases p
    · go_wp2_with fail
      refine (equalFunc_any none none (some ⟨g3, 0, none⟩) 0 0 0 0 n3 c3 [] [] vs _ Has.none_ Has.none_ V.out (by omega) (by omega) (by omega)).mono ?_
      rintro e w3 ⟨rfl, g0⟩
      have X := Lib.hid (X.out.kept g0)
      have Y := Lib.hid (Y.out.kept g0)
      have V := Lib.hid (V.out.kept g0)
      have Q := Lib.hid (Q.out.kept g0)
      have G := Lib.hid (G.out.trans g0)
      clear g0
      rw [show related (fun x y => decide ((x, y) ∈ vs)) (Plain.mapOf []) (Plain.mapOf []) = true from (nothing [] vs).trans rfl]
      go_wp2_with fail
      refine (equalFunc_any A1 none (some ⟨g3, 0, none⟩) n1 c1 0 0 n3 c3 xs [] vs _ X.out Has.none_ V.out (by omega) (by omega) (by omega)).mono ?_
      rintro e w4 ⟨rfl, g0⟩
      have X := Lib.hid (X.out.kept g0)
      have Y := Lib.hid (Y.out.kept g0)
      have V := Lib.hid (V.out.kept g0)
      have Q := Lib.hid (Q.out.kept g0)
      have G := Lib.hid (G.out.trans g0)
      clear g0
      rw [show related (fun x y => decide ((x, y) ∈ vs)) (Plain.mapOf xs) (Plain.mapOf []) = decide (xs.length = 0) from nothing xs vs]
      go_wp2_with fail
      go_ret
      exact ⟨by simp [lx]; rw [Bool.eq_iff_iff, decide_eq_true_eq, beq_iff_eq]; omega, G.out⟩
    · go_wp2_with fail
      refine (equalFunc_any A1 A2 (some ⟨g3, 0, none⟩) n1 c1 n2 c2 n3 c3 xs ys vs _ X.out Y.out V.out (by omega) (by omega) (by omega)).mono ?_
      rintro e w3 ⟨rfl, g0⟩
      have X := Lib.hid (X.out.kept g0)
      have Y := Lib.hid (Y.out.kept g0)
      have V := Lib.hid (V.out.kept g0)
      have Q := Lib.hid (Q.out.kept g0)
      have G := Lib.hid (G.out.trans g0)
      clear g0
      rw [show related (fun x y => decide ((x, y) ∈ vs)) (Plain.mapOf xs) (Plain.mapOf ys) = true from more hp]
      go_wp2_with fail
      refine (equalFunc_any none none (some ⟨g3, 0, none⟩) 0 0 0 0 n3 c3 [] [] vs _ Has.none_ Has.none_ V.out (by omega) (by omega) (by omega)).mono ?_
      rintro e w4 ⟨rfl, g0⟩
      have X := Lib.hid (X.out.kept g0)
      have Y := Lib.hid (Y.out.kept g0)
      have V := Lib.hid (V.out.kept g0)
      have Q := Lib.hid (Q.out.kept g0)
      have G := Lib.hid (G.out.trans g0)
      clear g0
      rw [show related (fun x y => decide ((x, y) ∈ vs)) (Plain.mapOf []) (Plain.mapOf []) = true from (nothing [] vs).trans rfl]
      go_wp2_with fail
      refine (equalFunc_any A1 none (some ⟨g3, 0, none⟩) n1 c1 0 0 n3 c3 xs [] vs _ X.out Has.none_ V.out (by omega) (by omega) (by omega)).mono ?_
      rintro e w5 ⟨rfl, g0⟩
      have X := Lib.hid (X.out.kept g0)
      have Y := Lib.hid (Y.out.kept g0)
      have V := Lib.hid (V.out.kept g0)
      have Q := Lib.hid (Q.out.kept g0)
      have G := Lib.hid (G.out.trans g0)
      clear g0
      rw [show related (fun x y => decide ((x, y) ∈ vs)) (Plain.mapOf xs) (Plain.mapOf []) = decide (xs.length = 0) from nothing xs vs]
      go_wp2_with fail
      go_ret
      exact ⟨by simp [lx]; rw [Bool.eq_iff_iff, decide_eq_true_eq, beq_iff_eq]; omega, G.out⟩
end Go.Proofs.Ytgmeaedpbcimjaa.fnEqualFuncMore
