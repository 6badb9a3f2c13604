/-
  What is proved here: the contract of the reference's DeleteFunc: the pairs of the sorted list that are not to be dropped.
  Conditions: each list has fewer than 2^43 pairs.
-/
import Derived.Test.YtgmeaedpbcimjaaAt
import Derived.Test.YtgmeaedpbcimjaaDelFunc
namespace Go.Proofs.Ytgmeaedpbcimjaa
open Go.RowKit Go.Maps

theorem left_snoc {l rs : List (I × I)} {j : Nat} (hj : j < l.length) : left_of (l.take (j + 1)) rs = left_of (l.take j) rs ++ if l[j] ∈ rs then [] else [l[j]] := by
  unfold left_of
  rw [List.take_succ_eq_append_getElem hj, List.filter_append]
  congr 1
  by_cases h : l[j] ∈ rs <;> simp [h]

set_option maxRecDepth 100000 in
set_option maxHeartbeats 4000000 in
theorem sdeleteFunc_any (A C : Option Addr) (n0 c k e : Nat) (xs0 rs : List (I × I)) (w : World) (hx0 : Has w 2 A n0 (cells2 xs0)) (hr0 : Has w 2 C k (cells2 rs)) (hn : n0 ≤ 8796093022208) (hk : k ≤ 8796093022208) :
    Calls Try.prog 26 #[.slice A n0 c, .slice C k e] w fun e w' => ∃ A' n' c', e = .returned (.slice A' n' c') ∧ OwnP w' w.heap.size A' n' c' (left_of (Plain.mapOf xs0) rs) ∧ w.grownBy w' none := by
  have HX0 := Lib.hid hx0
  have HR0 := Lib.hid hr0
  have hle1 := Plain.length_mapOf_le xs0
  rw [hx0.len2] at hle1
  clear hx0 hr0
  generalize hxs : Plain.mapOf xs0 = xs at *
  have HXS := Lib.hid hxs
  clear hxs
  go_enter Try.func26, Try.ntmps26
  go_wp2_with fail
  have g0 := World.grownBy_alloc w (.cells #[] 30) none
  refine (smap_any A n0 c xs0 _ (HX0.out.kept g0) hn).mono ?_
  rintro e w1 ⟨A1, n, c1, rfl, hx1, g1⟩
  rw [HXS.out] at hx1
  have hlx := Lib.hid hx1.len
  have HX := Lib.hid hx1.has
  have hn' : n ≤ 8796093022208 := by have := hlx.out; omega
  have HA : Hid (∀ a, A1 = some a → (Value.slice (some ⟨w.heap.size, 0, none⟩) 0 0).ownBlock ≠ some a.block) := fun a ha e => by
    by_cases h0 : n = 0
    · subst h0
      subst ha
      rcases hx1.2.2 with ⟨hv, _⟩ | ⟨g, cap, cur, hv, hb, _⟩
      · injection hv with hA
        cases hA
      · injection hv with hA
        cases hA
        simp [Value.ownBlock] at e
        simp at hb
        omega
    · obtain ⟨g, e1, hb, _⟩ := hx1.at_ (j := 0) (by have := hlx.out; omega)
      rw [ha] at e1
      cases e1
      simp [Value.ownBlock] at e
      simp at hb
      omega
  have hG := g0.trans g1
  have ho : OwnP w1 w.heap.size (some ⟨w.heap.size, 0, none⟩) 0 0 [] := (Own.made w (Nat.le_refl _)).keptN g1
  clear hx1 HXS HX0
  go_wp2
  go_loopw [5, 7] (fun u v wi => ∃ (j : Nat) (A' : Option Addr) (n' c' : Nat), v = .int .i64 j ∧ j ≤ n ∧ u = .slice A' n' c' ∧ OwnP wi w.heap.size A' n' c' (left_of (xs.take j) rs) ∧ w.grownBy wi none ∧ Hid (Has wi 2 A1 n (cells2 xs)) ∧ Hid (∀ a, A1 = some a → (Value.slice A' n' c').ownBlock ≠ some a.block))
    (fun _ v _ => n - (intOf v).toNat)
  case atStart => exact ⟨0, _, _, _, rfl, Nat.zero_le _, rfl, ho, hG, HX, HA⟩
  case round =>
    clear HA
    obtain ⟨j, A', n', c', rfl, hj, rfl, hown, hgw, HXw, HA⟩ := hrel
    by_cases hjl : j < n
    · have hjx : j < xs.length := by have := hlx.out; omega
      have hn'' : n' ≤ j := by
        have e1 := hown.len
        have e2 : (left_of (xs.take j) rs).length ≤ (xs.take j).length := List.length_filter_le _ _
        have e3 : (xs.take j).length ≤ j := List.length_take_le _ _
        omega
      have HS := Lib.hid (left_snoc (rs := rs) hjx)
      obtain ⟨b1, o1, rfl, hb1, e1, e2⟩ := HXw.out.pair hjx
      obtain ⟨p, hp⟩ : ∃ p, p = xs[j] := ⟨_, rfl⟩
      rw [← hp] at e1 e2 HS
      clear hp
      go_wp2_with fail
      refine (hasPair_any C k _ rs p _ (HR0.out.kept hgw) hk).mono ?_
      rintro e w3 ⟨rfl, g3⟩
      have f1 := g3.cell e1 (by simp)
      have f2 := g3.cell e2 (by simp)
      have hown3 := hown.keptN g3
      have hgw3 := hgw.trans g3
      have HX3 := Lib.hid (HXw.out.kept g3)
      clear hown hgw HXw e1 e2
      cases hin : decide (p ∈ rs)
      · have hin' : ¬ p ∈ rs := of_decide_eq_false hin
        rw [if_neg hin'] at HS
        clear hin'
        go_wp2_with (first
          | (at_builtin; refine wpList_app (xs := left_of (xs.take j) rs) (ys := [p]) twoP oneP _ rfl (.tmp 24) (.tmp 29) rfl rfl (hown3.alloc _) rfl (hasOne w3 p) (by unfold maxLen; omega) (by omega) (galloc hgw3 _).size ?_; intro A4 c4 w4 o4 g4 l4)
          | fail)
        have HX4 : Has w4 2 (some ⟨b1, o1, none⟩) n (cells2 xs) := (HX3.out.kept (World.grownBy_alloc w3 _ none)).keptBut g4 (fun a ha => by
          cases ha
          exact fun e => HA.out _ rfl e.symm)
        have hb3 : b1 < (w3.alloc (.cells #[.int .i64 p.1.1, .int .i64 p.2.1] 30)).heap.size := by have := g3.size; simp; omega
        have HA4 : Hid (∀ a, (some ⟨b1, o1, none⟩ : Option Addr) = some a → (Value.slice A4 (n' + 1) c4).ownBlock ≠ some a.block) := fun a ha e => by
          cases ha
          rcases l4 with h | h
          · exact HA.out _ rfl (h.symm.trans e)
          · rw [h] at e
            injection e with e
            have e' : (w3.alloc (.cells #[.int .i64 p.1.1, .int .i64 p.2.1] 30)).heap.size = b1 := e
            omega
        have G4 := (hown3.alloc (.cells #[.int .i64 p.1.1, .int .i64 p.2.1] 30)).grown (galloc hgw3 _) g4
        go_roundw
        case rel => exact ⟨j + 1, A4, n' + 1, c4, by go_num, by omega, rfl, by rw [HS.out]; exact o4, G4, HX4, HA4⟩
        case measure => simp [intOf]; omega
      · have hin' : p ∈ rs := of_decide_eq_true hin
        rw [if_pos hin', List.append_nil] at HS
        clear hin'
        go_wp2_with fail
        go_roundw
        case rel => exact ⟨j + 1, A', n', c', by go_num, by omega, rfl, by rw [HS.out]; exact hown3, hgw3, HX3, HA⟩
        case measure => simp [intOf]; omega
    · go_wp2
      go_ret
      obtain rfl : j = n := by omega
      rw [List.take_of_length_le (Nat.le_of_eq hlx.out)] at hown
      exact ⟨A', n', c', rfl, hown, hgw⟩
end Go.Proofs.Ytgmeaedpbcimjaa
