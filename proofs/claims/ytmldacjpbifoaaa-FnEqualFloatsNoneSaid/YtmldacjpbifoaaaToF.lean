/-
  What is proved here: the contracts of the thin package's functions that make a map of pairs of floating-point numbers, and that hold two such maps against each other.
  Conditions: each list has fewer than 2^43 pairs.
-/
import Derived.Test.YtmldacjpbifoaaaWordsF
import Derived.Test.YtmldacjpbifoaaaEqF
namespace Go.Proofs.Ytmldacjpbifoaaa
open Go.RowKit Go.Maps
attribute [local go_sem] run_store_float

set_option maxRecDepth 100000 in
set_option maxHeartbeats 1000000 in
theorem toF_any (A : Option Addr) (n c : Nat) (xs : List (I × Nat)) (w : World) (h : Has w 2 A n (cellsBy twoF xs)) (hn : n ≤ 8796093022208) :
    Calls Try.prog 24 #[.slice A n c] w fun e w' => e = .returned (.map (some w.heap.size)) ∧ MapF w' w.heap.size n xs ∧ w.grownBy w' none := by
  have hmm := @run_makeMap Try.prog
  have hlen := Lib.hid h.lenBy
  have HX := Lib.hid h
  clear h
  go_enter Try.func24, Try.ntmps24
  go_wp2
  go_loopw [9] (fun i wr => ∃ k : Nat, k ≤ n ∧ i = .int .i64 k ∧ MapF wr w.heap.size k (xs.take k) ∧ w.grownBy wr none)
    (fun i _ => n - (intOf i).toNat)
  case atStart => exact ⟨0, Nat.zero_le _, rfl, World.ownsMap_made _ _ _ _, World.grownBy_alloc _ _ _⟩
  case round =>
    obtain ⟨k, hk, rfl, hown, hgw⟩ := hrel
    by_cases hlt : k < n
    · have hkx : k < xs.length := by have := hlen.out; omega
      obtain ⟨b, off, rfl, hb, h1, h2⟩ := (HX.out.kept hgw).two hkx
      have HT := Lib.hid (take_putF hkx)
      obtain ⟨p, hp⟩ : ∃ p, p = xs[k] := ⟨_, rfl⟩
      rw [← hp] at h1 h2 HT
      simp only [twoF] at h1 h2
      have HK := Lib.hid (key_ofF p.1)
      clear hp HX hlen
      go_wp2_with (first
        | (at_mapUpdate; refine wpList_mapUpdate_own _ rfl _ _ _ 53 rfl 3 32 lawI Try.underlying53 _ w.heap.size k _ rfl (hown.alloc _) (by unfold maxLen; omega) _ _ _ rfl rfl HK.out _ [] rfl ?_; intro w1 hown1 hgrow1)
        | go_in)
      go_roundw
      case rel => exact ⟨k + 1, by omega, by go_num, by unfold MapF; rw [HT.out]; exact hown1, (hgw.andThen (World.grownBy_alloc wr _ none) (fun j hj => by cases hj)).andThen hgrow1 (fun j hj => .inl (by cases hj; exact Nat.le_refl _))⟩
      case measure => simp [intOf]; omega
    · go_wp2
      go_ret
      have : k = n := by omega
      subst this
      rw [List.take_of_length_le (Nat.le_of_eq hlen.out)] at hown
      exact ⟨rfl, hown, hgw⟩

/-- a Bool with what it tells -/
def TellsF (p : Prop) (w : World) (e : Ending) (w' : World) : Prop := ∃ r : Bool, e = .returned (.bool r) ∧ (r = true ↔ p) ∧ w.grownBy w' none

set_option maxHeartbeats 400000 in
theorem equalF_any (A B : Option Addr) (n c m d : Nat) (xs ys : List (I × Nat)) (w : World) (hx : Has w 2 A n (cellsBy twoF xs)) (hy : Has w 2 B m (cellsBy twoF ys)) (hn : n ≤ 8796093022208) (hm : m ≤ 8796093022208) :
    Calls Try.prog 11 #[.slice A n c, .slice B m d] w (TellsF (Same eqvF xs ys) w) := by
  have HY := Lib.hid hy
  have hx' := hx
  clear hy hx
  have HS := Lib.hid (equal_kv (valD := valF) keyF_inj keyF_key sameF_val xs ys)
  go_enter Try.func11, Try.ntmps11
  go_wp2_with fail
  refine (toF_any A n c xs _ hx' hn).mono ?_
  rintro e w1 ⟨rfl, h1, g1⟩
  have H1 := Lib.hid h1
  clear h1
  go_wp2_with fail
  refine (toF_any B m d ys _ (HY.out.kept g1) hm).mono ?_
  rintro e w2 ⟨rfl, h2, g2⟩
  have H2 := Lib.hid h2
  clear h2
  go_wp2_with fail
  refine (equalF_owns lawI rdF sameF _ _ _ _ _ _ _ (H1.out.kept g2 (by simp)) H2.out (.float .f64 0) zeroF (.lit (.float .f64 0)) [] rfl neqF).mono ?_
  generalize Lib.equalFuncD sameF (mapD keyF valF xs) (mapD keyF valF ys) = r at HS ⊢
  rintro e w3 ⟨rfl, g3⟩
  go_wp2_with fail
  go_ret
  exact ⟨r, rfl, HS.out, (g1.trans g2).trans g3⟩
end Go.Proofs.Ytmldacjpbifoaaa
