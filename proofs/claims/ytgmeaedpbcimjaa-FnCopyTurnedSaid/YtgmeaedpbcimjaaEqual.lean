/-
  What is proved here: the contract of the thin package's Equal: it tells whether the sorted lists of two lists of pairs are the same.
  Conditions: each list has fewer than 2^43 pairs.
-/
import Derived.Test.YtgmeaedpbcimjaaToMap
import Derived.Test.YtgmeaedpbcimjaaEqI
namespace Go.Proofs.Ytgmeaedpbcimjaa
open Go.RowKit Go.Maps

/-- the language's own inequality at whole numbers, on what reads -/
theorem neqI (W : World) (x y : Value) (xd yd : Dt) (xp yp : List MemPlace) (hx : plainElem Try.prog 3 x = some (xd, xp)) (hy : plainElem Try.prog 3 y = some (yd, yp)) :
    (binOp .neq 3 x y).run Try.prog W = .ok (.bool (!sameI xd yd)) W ∧ ∀ (a b : Operand), (eqGuard .neq 3 a b x y).run Try.prog W = .ok () W := by
  obtain ⟨a, rfl, h1, _⟩ := plainElem_int_inv Try.underlying3 hx
  obtain ⟨b, rfl, h2, _⟩ := plainElem_int_inv Try.underlying3 hy
  obtain rfl : xd = .lit (.int .i64 a) := by simpa using (congrArg Prod.fst h1)
  obtain rfl : yd = .lit (.int .i64 b) := by simpa using (congrArg Prod.fst h2)
  refine ⟨?_, fun _ _ => by rw [eqGuard_at_int]; rfl⟩
  simp [go_sem, sameI, binOp]
  rfl

theorem equalI_map (b1 b2 n1 n2 : Nat) (l m : List (I × I)) (hl : Plain.Srt l) (hm : Plain.Srt m) (w : World) (h1 : Map w b1 n1 l) (h2 : Map w b2 n2 m) :
    Calls Try.prog 36 #[.map (some b1), .map (some b2)] w fun e w' => e = .returned (.bool (decide (l = m))) ∧ w.grownBy w' none := by
  rw [← equal_same hl hm]
  exact equalI_owns lawI (plainElem Try.prog 3) sameI b1 b2 n1 n2 (dat l) (dat m) w h1 h2 (.int .i64 0) zeroI (.lit (.int .i64 0)) [] (plainElem_int Try.underlying3 (by decide)) neqI

set_option maxHeartbeats 400000 in
theorem equal_any (A B : Option Addr) (n c m d : Nat) (xs ys : List (I × I)) (w : World) (hx : Has w 2 A n (cells2 xs)) (hy : Has w 2 B m (cells2 ys)) (hn : n ≤ 8796093022208) (hm : m ≤ 8796093022208) :
    Calls Try.prog 18 #[.slice A n c, .slice B m d] w fun e w' => e = .returned (.bool (decide (Plain.mapOf xs = Plain.mapOf ys))) ∧ w.grownBy w' none := by
  have HY := Lib.hid hy
  have hx' := hx
  clear hy hx
  generalize hr : decide (Plain.mapOf xs = Plain.mapOf ys) = r
  have HR := Lib.hid hr
  clear hr
  go_enter Try.func18, Try.ntmps18
  go_wp2_with fail
  refine (toMap_any A n c xs _ hx' hn).mono ?_
  rintro e w1 ⟨rfl, h1, g1⟩
  have H1 := Lib.hid h1
  clear h1
  go_wp2_with fail
  refine (toMap_any B m d ys _ (HY.out.kept g1) hm).mono ?_
  rintro e w2 ⟨rfl, h2, g2⟩
  have H2 := Lib.hid h2
  clear h2
  go_wp2_with fail
  refine (equalI_map _ _ _ _ (Plain.mapOf xs) (Plain.mapOf ys) (Plain.srt_mapOf _) (Plain.srt_mapOf _) _ (H1.out.kept g2 (by simp)) H2.out).mono ?_
  rintro e w3 ⟨rfl, g3⟩
  rw [HR.out]
  go_wp2_with fail
  go_ret
  exact ⟨rfl, (g1.trans g2).trans g3⟩
end Go.Proofs.Ytgmeaedpbcimjaa
