/-
  What is proved here: the contracts of the reference's Copy, Clone, CloneSet and SetClone: sorted lists.
  Conditions: the lists have fewer than 2^43 pairs together.
-/
import Derived.Test.YtlnbbkegdlkpfaaSMap
namespace Go.Proofs.Ytlnbbkegdlkpfaa
open Go.RowKit Go.Maps

set_option maxHeartbeats 1000000 in
theorem scopy_any (A B : Option Addr) (n c m d : Nat) (xs ys : List (I × I)) (w : World) (hx : Has w 2 A n (cells2 xs)) (hy : Has w 2 B m (cells2 ys)) (hnm : n + m ≤ 8796093022208) :
    Calls Try.prog 24 #[.slice A n c, .slice B m d] w fun e w' => ∃ A' n' c', e = .returned (.slice A' n' c') ∧ OwnP w' w.heap.size A' n' c' (Plain.mapOf (xs ++ ys)) ∧ w.grownBy w' none := by
  have HX := Lib.hid hx
  have HY := Lib.hid hy
  clear hx hy
  go_enter Try.func24, Try.ntmps24
  go_wp2_with (first
    | (at_builtin; refine wpList_appG0 (ys := xs) twoP oneP w _ rfl (.tmp 5) (.tmp 6) rfl rfl (World.grownBy_alloc w _ none) (Own.made w (Nat.le_refl _)) rfl (HX.out.kept (World.grownBy_alloc w _ none)) (by unfold maxLen; omega) (by omega) ?_; intro A1 c1 w1 o1 G1 g1)
    | (at_builtin; refine wpList_appG (xs := xs) (ys := ys) twoP oneP w _ rfl (.tmp 7) (.tmp 8) rfl rfl G1 o1 rfl (HY.out.kept G1) (by unfold maxLen; omega) (by omega) ?_; intro A2 c2 w2 o2 G2 g2)
    | fail)
  refine (smap_any A2 (n + m) c2 (xs ++ ys) _ o2.has hnm).mono ?_
  rintro e w3 ⟨A3, n3, c3, rfl, o3, g3⟩
  go_wp2_with fail
  go_ret
  exact ⟨A3, n3, c3, rfl, o3.mono G2.size, G2.trans g3⟩

set_option maxHeartbeats 400000 in
theorem sclone_any (A : Option Addr) (n c : Nat) (xs : List (I × I)) (w : World) (hx : Has w 2 A n (cells2 xs)) (hn : n ≤ 8796093022208) :
    Calls Try.prog 27 #[.slice A n c] w fun e w' => ∃ A' n' c', e = .returned (.slice A' n' c') ∧ OwnP w' w.heap.size A' n' c' (Plain.mapOf xs) ∧ w.grownBy w' none := by
  go_enter Try.func27, Try.ntmps27
  go_wp2_with fail
  refine (smap_any A n c xs _ hx hn).mono ?_
  rintro e w3 ⟨A3, n3, c3, rfl, o3, g3⟩
  go_wp2_with fail
  go_ret
  exact ⟨A3, n3, c3, rfl, o3, g3⟩
end Go.Proofs.Ytlnbbkegdlkpfaa
