/-
  What is proved here: words for pairs of floating-point numbers: how they lie in memory, what they read as, when two values are equal; an argument that is a slice of them.
  Conditions: none but those that each theorem names.
-/
import Derived.Test.YtmldacjpbifoaaaRows
import Derived.Test.YtmldacjpbifoaaaKv
import Derived.Test.YtmldacjpbifoaaaOpen
import Derived.Test.YtmldacjpbifoaaaToMap
import Derived.Maps.StringElems
import Derived.WalkKit
import Derived.ProofKit
import Derived.Deep.SlicePairs
import Derived.WalkSpells
import Derived.WalkLawsBesides
namespace Go.Proofs.Ytmldacjpbifoaaa
open Go.RowKit Go.Maps Go.ChangeShapes Go.WideShapes Go.ChangeAt Go.Deep

def twoF (p : I × Nat) : Value × Value := (.int .i64 p.1.1, .float .f64 p.2)
def keyF (k : I) : Lit := .int .i64 k.1
def valF (v : Nat) : Dt := .lit (.float .f64 v)
def eqvF (a b : Nat) : Bool := FloatKind.f64.format.order a b == some .eq
/-- how a floating-point number reads -/
def rdF : Value → Option (Dt × List MemPlace)
  | .float .f64 b => some (.lit (.float .f64 b), [])
  | _ => none
def sameF : Dt → Dt → Bool
  | .lit (.float _ x), .lit (.float _ y) => eqvF x y
  | _, _ => false
theorem rdF_inv {v : Value} {z : Dt × List MemPlace} (h : rdF v = some z) : ∃ b, v = .float .f64 b ∧ z = (.lit (.float .f64 b), []) := by
  unfold rdF at h
  split at h
  · cases h; exact ⟨_, rfl, rfl⟩
  · cases h
theorem keyF_inj (a b : I) (h : keyF a = keyF b) : a = b := by
  simp [keyF] at h
  exact Subtype.ext h
theorem keyF_key (k : I) : WideAt.IsKeyLit (keyF k) := trivial
theorem sameF_val (v u : Nat) : sameF (valF v) (valF u) = eqvF v u := rfl
theorem order_symm (x y : Ieee.Datum) : (x.order y == some .eq) = (y.order x == some .eq) := by
  cases x with
  | nan => cases y <;> rfl
  | infinity s =>
    cases y with
    | nan => rfl
    | infinity t => cases s <;> cases t <;> rfl
    | number t n j => cases s <;> rfl
  | number s m i =>
    cases y with
    | nan => rfl
    | infinity t => cases t <;> rfl
    | number t n j =>
      rw [Bool.eq_iff_iff]
      simp only [Ieee.Datum.order, beq_iff_eq, Option.some.injEq, Int.compare_eq_eq, Int.min_comm j i]
      exact eq_comm
theorem eqvF_symm (a b : Nat) : eqvF a b = eqvF b a := order_symm _ _
theorem zeroF (w : World) : (zeroValue 32).run Try.prog w = .ok (.float .f64 0) w := by kernel_rfl
theorem key_ofF (k : I) : keyOf Try.prog 3 (.int .i64 k.1) = some (keyF k) := key_of k
theorem beq_keyF {a b : I} : (a.1 == b.1) = decide (a = b) := by
  rw [Bool.eq_iff_iff]
  simp [Subtype.ext_iff]
/-- the language's own inequality at floating-point numbers, on what reads -/
theorem neqF (W : World) (x y : Value) (xd yd : Dt) (xp yp : List MemPlace) (hx : rdF x = some (xd, xp)) (hy : rdF y = some (yd, yp)) :
    (binOp .neq 32 x y).run Try.prog W = .ok (.bool (!sameF xd yd)) W ∧ ∀ (a b : Operand), (eqGuard .neq 32 a b x y).run Try.prog W = .ok () W := by
  obtain ⟨a, rfl, h1⟩ := rdF_inv hx
  obtain ⟨b, rfl, h2⟩ := rdF_inv hy
  obtain rfl : xd = .lit (.float .f64 a) := by simpa using (congrArg Prod.fst h1)
  obtain rfl : yd = .lit (.float .f64 b) := by simpa using (congrArg Prod.fst h2)
  refine ⟨?_, fun _ _ => by simp [eqGuard]⟩
  simp [go_sem, sameF, eqvF]
  rfl
/-- a store of a floating-point number -/
theorem run_store_float {P : Program} {w : World} {a : Addr} {m : Mode} (k : FloatKind) (b : Nat) : (store a (.float k b) m).run P w = stored P w a (.float k b) m := run_store P w a _ m rfl
theorem trod_float' {H : Type} {enc : TypeId × Value → H} {w : World} {base : Nat} {spare : Nat → Bool} {held : Bool} {fuel : Nat} {v : Value} {x : DataW H × List MemPlace}
    (h : DataW.trod enc Try.prog w base spare held fuel 32 [v] = some x) : ∃ b, v = .float .f64 b := by
  cases fuel with
  | zero => simp [DataW.trod] at h
  | succ n =>
    unfold DataW.trod at h
    rw [Try.underlying32] at h
    cases v <;> simp at h
    rename_i k b
    obtain ⟨⟨rfl, _⟩, _⟩ := h
    exact ⟨b, rfl⟩
theorem open_floats {H : Type} {enc : TypeId × Value → H} {w : World} {base : Nat} {held : Bool} {fuel : Nat} {A : Option Addr} {n c : Nat} {x : DataW H × List MemPlace}
    (h : DataW.trod enc Try.prog w base (fun _ => true) held fuel 28 [.slice A n c] = some x) :
    ∃ xs : List (I × Nat), Arg twoF w A n c xs ∧ (x.1 = .nil ∨ ∃ es sp, x.1 = .slice es sp ∧ es.length = n) := by
  refine open_two twoF Try.underlying28 Try.underlying34 (by kernel_rfl) rfl rfl (by kernel_rfl) (by kernel_rfl) (fun m v0 v1 y0 y1 h0 h1 => ?_) h
  obtain ⟨a, e0, _, wa⟩ := DataW.trod_int Try.underlying3 h0
  obtain ⟨b, e1⟩ := trod_float' h1
  simp at e0
  subst e0 e1
  exact ⟨(⟨a, wa⟩, b), rfl⟩

/-- block b is the map of the list xs -/
abbrev MapF (w : World) (b n : Nat) (xs : List (I × Nat)) : Prop := w.ownsMap Try.prog 3 rdF b n (mapD keyF valF xs)

theorem take_putF {xs : List (I × Nat)} {k : Nat} (hk : k < xs.length) : mapD keyF valF (xs.take (k + 1)) = (mapD keyF valF (xs.take k)).put (keyF (xs[k]).1) (valF (xs[k]).2) := by
  rw [List.take_succ_eq_append_getElem hk, mapD_snoc]
end Go.Proofs.Ytmldacjpbifoaaa
