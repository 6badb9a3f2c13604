/-
  What is proved here: the walk through the law FnEqualSelf: it returns true.
  Conditions: the code is read as the form reads it.
-/
import Derived.Test.YtlnbbkegdlkpfaaDraw
import Derived.Test.YtlnbbkegdlkpfaaEqual
import Derived.Test.YtlnbbkegdlkpfaaSMap
namespace Go.Proofs.Ytlnbbkegdlkpfaa.fnEqualSelf
open Go.RowKit Go.Maps
set_option linter.unusedSimpArgs false
set_option linter.unusedVariables false

theorem rev (xs : List (I × I)) : Plain.mapOf xs = Plain.mapOf (Plain.mapOf xs).reverse := by
  refine Plain.ext (Plain.srt_mapOf _) (Plain.srt_mapOf _) fun k => ?_
  rw [Plain.get_mapOf, Plain.get_mapOf, ← Plain.get_mapOf k xs]
  unfold Plain.last
  rw [List.reverse_reverse]
theorem turn {L : List (I × I)} {j : Nat} (hj : j < L.length) : (L.drop (j + 1)).reverse ++ [L[j]] = (L.drop j).reverse := by
  rw [List.drop_eq_getElem_cons hj, List.reverse_cons]

set_option maxRecDepth 100000 in
set_option maxHeartbeats 4000000 in
theorem walk (A : Option Addr) (n c : Nat) (zs : List Int) (w : World) (h : Bytes w A n c zs) :
    Calls Try.prog 7 #[.slice A n c] w fun e w' => e = .returned (.bool true) ∧ w.grownBy w' none := by
  have HB := Lib.hid h
  clear h
  by_cases hn : 1048576 < n
  · go_enter Try.func7, Try.ntmps7
    go_wp2_with fail
    go_ret
    exact ⟨rfl, World.grownBy.refl _ _⟩
  · go_enter Try.func7, Try.ntmps7
    go_wp2_with fail
    refine (drawMaps_any A n c zs _ HB.out (by omega)).mono ?_
    rintro e w1 ⟨A1, n1, c1, xs, A2, n2, c2, ys, A3, n3, c3, vs, rfl, ⟨X, hn1⟩, ⟨Y, hn2⟩, ⟨V, hn3⟩, g0⟩
    have X := Lib.hid X
    have Y := Lib.hid Y
    have V := Lib.hid V
    have G := Lib.hid g0
    clear g0
    have lx := X.out.len2
    have ly := Y.out.len2
    have lv := V.out.len2
    go_wp2_with fail
    have ga := World.grownBy_alloc w1 (.cells #[] 29) none
    have o0 : OwnP (w1.alloc (.cells #[] 29)) w1.heap.size (some ⟨w1.heap.size, 0, none⟩) 0 0 [] := Own.made w1 (Nat.le_refl _)
    refine (smap_any A1 n1 c1 xs _ (X.out.kept ga) (by omega)).mono ?_
    rintro e w2 ⟨B1, m1, d1, rfl, o1, g1⟩
    have hm1 : m1 ≤ 40 := by
      have t1 := o1.len
      have t2 := Plain.length_mapOf_le xs
      omega
    have K1 := Lib.hid o1.has
    have lk1 := K1.out.len2
    have O0 := Lib.hid (o0.keptN g1)
    have G1 := Lib.hid (ga.trans g1)
    have HN := Lib.hid (fun (a : Addr) (ha : B1 = some a) (e : w1.heap.size = a.block) => (by
      have t := (o1.2.lt a.block (by rw [ha]; rfl)).1
      simp at t
      omega : False))
    have hkk : (Plain.mapOf xs).drop m1 = [] := by rw [List.drop_eq_nil_iff]; omega
    clear o0 o1 g1 ga
    obtain ⟨L, hL⟩ : ∃ L, L = Plain.mapOf xs := ⟨_, rfl⟩
    rw [← hL] at K1 lk1 hkk
    have HL := Lib.hid hL
    clear hL
    go_wp2_with fail
    go_loopw [6, 8] (fun v i wr => ∃ (k n' c' : Nat) (A' : Option Addr) (z : Int), k ≤ m1 ∧ i = .int .i64 z ∧ z + 1 = (k : Int) ∧ v = .slice A' n' c' ∧ n' + k = m1 ∧ Hid (OwnP wr w1.heap.size A' n' c' (L.drop k).reverse) ∧ Hid (Has wr 2 B1 m1 (cells2 L)) ∧ Hid (w1.grownBy wr none) ∧ Hid (∀ a, B1 = some a → (Value.slice A' n' c').ownBlock ≠ some a.block))
      (fun _ i _ => (intOf i + 1).toNat)
    case atStart => exact ⟨m1, 0, 0, _, (m1 : Int) - 1, Nat.le_refl _, rfl, by omega, rfl, by omega, Lib.hid (by rw [hkk]; exact O0.out), K1, G1, Lib.hid (fun a ha e => HN.out a ha (by injection e))⟩
    case round =>
      clear O0 G1 HN
      obtain ⟨k, n', c', A', z, hk, rfl, hz, rfl, hnk, ho, hK, hG1, hN⟩ := hrel
      by_cases hk0 : k = 0
      · have hzn : ¬ (z ≥ 0) := by omega
        subst hk0
        rw [List.drop_zero] at ho
        have X := Lib.hid (X.out.kept hG1.out)
        have Y := Lib.hid (Y.out.kept hG1.out)
        have K := Lib.hid ho.out.has
        have G := Lib.hid (G.out.trans hG1.out)
        clear ho hG1 hK K1
        have lk := K.out.len2
        go_wp2_with fail
        refine (equal_any A1 A1 n1 c1 n1 c1 xs xs _ X.out X.out (by omega) (by omega)).mono ?_
        rintro e w3 ⟨rfl, g0⟩
        have X := Lib.hid (X.out.kept g0)
        have Y := Lib.hid (Y.out.kept g0)
        have K := Lib.hid (K.out.kept g0)
        have G := Lib.hid (G.out.trans g0)
        clear g0
        rw [show decide (Plain.mapOf xs = Plain.mapOf xs) = true from decide_eq_true rfl]
        go_wp2_with fail
        refine (equal_any A1 A' n1 c1 n' c' xs L.reverse _ X.out K.out (by omega) (by omega)).mono ?_
        rintro e w4 ⟨rfl, g0⟩
        have X := Lib.hid (X.out.kept g0)
        have Y := Lib.hid (Y.out.kept g0)
        have K := Lib.hid (K.out.kept g0)
        have G := Lib.hid (G.out.trans g0)
        clear g0
        rw [show decide (Plain.mapOf xs = Plain.mapOf L.reverse) = true from decide_eq_true (by rw [HL.out]; exact rev xs)]
        go_wp2_with fail
        refine (equal_any A1 A2 n1 c1 n2 c2 xs ys _ X.out Y.out (by omega) (by omega)).mono ?_
        rintro e w5 ⟨rfl, g0⟩
        have X := Lib.hid (X.out.kept g0)
        have Y := Lib.hid (Y.out.kept g0)
        have K := Lib.hid (K.out.kept g0)
        have G := Lib.hid (G.out.trans g0)
        clear g0
        generalize hp : decide (Plain.mapOf xs = Plain.mapOf ys) = p
        go_wp2_with fail
        refine (equal_any A2 A1 n2 c2 n1 c1 ys xs _ Y.out X.out (by omega) (by omega)).mono ?_
        rintro e w6 ⟨rfl, g0⟩
        have X := Lib.hid (X.out.kept g0)
        have Y := Lib.hid (Y.out.kept g0)
        have K := Lib.hid (K.out.kept g0)
        have G := Lib.hid (G.out.trans g0)
        clear g0
        rw [show decide (Plain.mapOf ys = Plain.mapOf xs) = p from by rw [← hp]; exact decide_eq_decide.2 eq_comm]
        go_wp2_with fail
        go_ret
        exact ⟨by simp, G.out⟩
      · obtain ⟨j, rfl⟩ : ∃ j, k = j + 1 := ⟨k - 1, by omega⟩
        obtain rfl : z = (j : Int) := by omega
        have hjL : j < L.length := by omega
        obtain ⟨b, off, rfl, hb, e1, e2⟩ := hK.out.pair hjL
        have HT := Lib.hid (turn hjL)
        obtain ⟨p, hp⟩ : ∃ p, p = L[j] := ⟨_, rfl⟩
        rw [← hp] at e1 e2 HT
        clear hp
        have j0 : (0 : Int) ≤ (j : Int) := by omega
        have j1 : (j : Int) < (m1 : Int) := by omega
        go_wp2_with (first
          | (at_builtin; refine wpList_app (base := w1.heap.size) (xs := (L.drop (j + 1)).reverse) (ys := [p]) twoP oneP _ rfl (.tmp 28) (.tmp 33) rfl rfl (ho.out.alloc _) rfl (hasOne wr p) (by unfold maxLen; omega) (by omega) (galloc hG1.out _).size ?_; intro A9 c9 w9 o9 g9 alt)
          | fail)
        have hK9 := Lib.hid ((hK.out.kept (World.grownBy_alloc wr _ none)).keptBut g9 (fun a ha e => hN.out a ha e.symm))
        have hN9 := Lib.hid (fun (a : Addr) (ha : some (⟨b, off, none⟩ : Addr) = some a) => (by
          rcases alt with e | e
          · rw [e]; exact hN.out a ha
          · rw [e]
            cases ha
            intro e'
            injection e' with e'
            simp at e'
            omega : (Value.slice A9 (n' + 1) c9).ownBlock ≠ some a.block))
        go_roundw
        case rel => exact ⟨j, n' + 1, c9, A9, (j : Int) - 1, by omega, by go_num, by omega, rfl, by omega, Lib.hid (by rw [← HT.out]; exact o9), hK9, Lib.hid ((ho.out.alloc _).grown (galloc hG1.out _) g9), hN9⟩
        case measure => simp [intOf]
end Go.Proofs.Ytlnbbkegdlkpfaa.fnEqualSelf
