/-
  What is proved here: words for pairs of texts: how they lie in memory, what they read as, when two values are equal; an argument that is a slice of them.
  Conditions: none but those that each theorem names.
-/
import Derived.Test.YtmldacjpbifoaaaRows
import Derived.Test.YtmldacjpbifoaaaKv
import Derived.Test.YtmldacjpbifoaaaOpen
import Derived.Test.YtmldacjpbifoaaaToMap
import Derived.Maps.StringElems
import Derived.WalkKit
import Derived.ProofKit
import Derived.Deep.SlicePairs
import Derived.WalkSpells
import Derived.WalkLawsBesides
namespace Go.Proofs.Ytmldacjpbifoaaa
open Go.RowKit Go.Maps Go.ChangeShapes Go.WideShapes Go.ChangeAt Go.Deep

/-- a text of a length that fits -/
abbrev Tx : Type := { s : ByteArray // s.size ≤ maxLen }
instance : Inhabited Tx := ⟨⟨ByteArray.empty, Nat.zero_le _⟩⟩
def twoT (p : Tx × Tx) : Value × Value := (.string p.1.1, .string p.2.1)
def keyT (k : Tx) : Lit := .string k.1.data.toList
def valT (v : Tx) : Dt := .lit (.string v.1.data.toList)
def eqvT (a b : Tx) : Bool := a.1.toList == b.1.toList
def sameT : Dt → Dt → Bool
  | .lit (.string x), .lit (.string y) => x == y
  | _, _ => false
theorem toList_data (s : ByteArray) : s.toList = s.data.toList := ByteArray.toList_eq s
theorem bytes_ext {a b : ByteArray} (h : a.data.toList = b.data.toList) : a = b := by
  obtain ⟨⟨x⟩⟩ := a
  obtain ⟨⟨y⟩⟩ := b
  simp at h
  rw [h]
theorem keyT_inj (a b : Tx) (h : keyT a = keyT b) : a = b := by
  simp [keyT] at h
  exact Subtype.ext (bytes_ext (by simpa using h))
theorem keyT_key (k : Tx) : WideAt.IsKeyLit (keyT k) := trivial
theorem sameT_val (v u : Tx) : sameT (valT v) (valT u) = eqvT v u := by
  simp [sameT, valT, eqvT, toList_data]
theorem eqvT_symm (a b : Tx) : eqvT a b = eqvT b a := by
  unfold eqvT
  exact Bool.beq_comm
theorem eqvT_self (a : Tx) : eqvT a a = true := by simp [eqvT]
theorem lawT : Keyed Try.prog 9 := string_keyed Try.underlying9
theorem zeroT (w : World) : (zeroValue 9).run Try.prog w = .ok (.string ByteArray.empty) w := by kernel_rfl
theorem key_ofT (k : Tx) : keyOf Try.prog 9 (.string k.1) = some (keyT k) := Go.WideMaps.keyOf_string_mk Try.underlying9 k.2
theorem beq_key {a b : Tx} : (a.1.toList == b.1.toList) = decide (a = b) := by
  rw [Bool.eq_iff_iff]
  simp only [beq_iff_eq, decide_eq_true_eq, toList_data]
  exact ⟨fun h => Subtype.ext (bytes_ext h), fun h => by rw [h]⟩
/-- the language's own inequality at texts, on what reads -/
theorem neqT (W : World) (x y : Value) (xd yd : Dt) (xp yp : List MemPlace) (hx : plainElem Try.prog 9 x = some (xd, xp)) (hy : plainElem Try.prog 9 y = some (yd, yp)) :
    (binOp .neq 9 x y).run Try.prog W = .ok (.bool (!sameT xd yd)) W ∧ ∀ (a b : Operand), (eqGuard .neq 9 a b x y).run Try.prog W = .ok () W := by
  obtain ⟨a, rfl, h1, _⟩ := plainElem_string_inv Try.underlying9 hx
  obtain ⟨b, rfl, h2, _⟩ := plainElem_string_inv Try.underlying9 hy
  obtain rfl : xd = .lit (.string a.data.toList) := by simpa using (congrArg Prod.fst h1)
  obtain rfl : yd = .lit (.string b.data.toList) := by simpa using (congrArg Prod.fst h2)
  refine ⟨?_, fun _ _ => by simp [eqGuard]⟩
  simp [go_sem, sameT, toList_data]
theorem open_texts {H : Type} {enc : TypeId × Value → H} {w : World} {base : Nat} {held : Bool} {fuel : Nat} {A : Option Addr} {n c : Nat} {x : DataW H × List MemPlace}
    (h : DataW.trod enc Try.prog w base (fun _ => true) held fuel 23 [.slice A n c] = some x) :
    ∃ xs : List (Tx × Tx), Arg twoT w A n c xs ∧ (x.1 = .nil ∨ ∃ es sp, x.1 = .slice es sp ∧ es.length = n) := by
  refine open_two twoT Try.underlying23 Try.underlying45 (by kernel_rfl) rfl rfl (by kernel_rfl) (by kernel_rfl) (fun m v0 v1 y0 y1 h0 h1 => ?_) h
  obtain ⟨a, e0, _, wa⟩ := DataW.trod_string Try.underlying9 h0
  obtain ⟨b, e1, _, wb⟩ := DataW.trod_string Try.underlying9 h1
  simp at e0 e1
  subst e0 e1
  exact ⟨(⟨a, wa⟩, ⟨b, wb⟩), rfl⟩

/-- block b is the map of the list xs -/
abbrev MapT (w : World) (b n : Nat) (xs : List (Tx × Tx)) : Prop := w.ownsMap Try.prog 9 (plainElem Try.prog 9) b n (mapD keyT valT xs)

theorem take_putT {xs : List (Tx × Tx)} {k : Nat} (hk : k < xs.length) : mapD keyT valT (xs.take (k + 1)) = (mapD keyT valT (xs.take k)).put (keyT (xs[k]).1) (valT (xs[k]).2) := by
  rw [List.take_succ_eq_append_getElem hk, mapD_snoc]
end Go.Proofs.Ytmldacjpbifoaaa
