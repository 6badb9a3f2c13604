/-
  What is proved here: the walk through the law FnExactEqualFunc: it returns true.
  Conditions: the lists are read as the form reads them.
-/
import Derived.Test.YtmkoanbbgmjhbaaEqFunc
import Derived.Test.YtmkoanbbgmjhbaaSEqFunc
import Derived.Test.YtmkoanbbgmjhbaaOpen
namespace Go.Proofs.Ytmkoanbbgmjhbaa.fnExactEqualFunc
open Go.RowKit

set_option maxHeartbeats 400000 in
theorem walk (A : Option Addr) (n c : Nat) (xs : List (I × I)) (B : Option Addr) (m d : Nat) (ys : List (I × I)) (C : Option Addr) (k e : Nat) (rs : List (I × I)) (w : World) (hx : Arg twoI w A n c xs) (hn : n * 16 ≤ 140737488351232) (hy : Arg twoI w B m d ys) (hm : m * 16 ≤ 140737488351232)
    (hr : Arg twoI w C k e rs) (hk : k * 16 ≤ 140737488351232) :
    Calls Try.prog 10 #[.slice A n c, .slice B m d, .slice C k e] w fun e w' => e = .returned (.bool true) ∧ w.grownBy w' none := by
  have h1 := equalFunc_any A B C n c m d k e xs ys rs w hx.has hy.has hr.has (by omega) (by omega) (by omega)
  have h2 := fun w1 (g1 : w.grownBy w1 none) => sequalFunc_any A B C n c m d k e xs ys rs w1 (hx.has.kept g1) (hy.has.kept g1) (hr.has.kept g1) (by omega) (by omega) (by omega)
  have H2 := Lib.hid h2
  clear h2 hx hy hr
  generalize hres : related (fun x y => decide ((x, y) ∈ rs)) (Plain.mapOf xs) (Plain.mapOf ys) = r at h1 H2
  clear hres
  go_enter Try.func10, Try.ntmps10
  go_wp2_with fail
  refine h1.mono ?_
  rintro e w1 ⟨rfl, g1⟩
  clear h1
  go_wp2_with fail
  refine (H2.out _ g1).mono ?_
  rintro e w2 ⟨rfl, g2⟩
  go_wp2_with fail
  go_ret
  exact ⟨by simp, g1.trans g2⟩
end Go.Proofs.Ytmkoanbbgmjhbaa.fnExactEqualFunc
