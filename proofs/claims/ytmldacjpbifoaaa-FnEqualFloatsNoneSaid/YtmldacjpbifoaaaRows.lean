/-
  No cell of these rows narrows 'for every input' (looked for: loops, veiled, ifaces, maps, wideKeys, modest, calm, conditions, laid).
  DERIVED. THE GIVEN ROWS OF THIS SEAT. 4 by the template 'for every input the law returns true; each argument reads behind the call as it read before'; 0 by the template 'total and deterministic' (their statements: YtmldacjpbifoaaaTotals.lean).
  GIVEN WITH THE SEED: the statements are not yours to turn. If you find one false, say at which input.
  Laid BY PROGRAM, IN A SANDBOX (cutbox-rows.mjs): the forced cells as the released guide's own fill.sh prints them over the translation 57df02b2640d3313… (all of the seat's roots in one cut). By AI agents, Wed Nov 11 2026. No macro, syntax, notation, axiom, sorry.
-/
import Derived.Test.YtmldacjpbifoaaaChecked
import GoSem.Claim
import GoSem.ClaimJoined
import GoSem.ClaimMapViews
import Derived.JoinedTies
import Derived.KernelRfl
namespace Go.Proofs.Ytmldacjpbifoaaa
/- THE CELL 'sum', in the pinned program and in every row, IS THE sha256 OF THE DUMP (.gsa) THAT YtmldacjpbifoaaaProg.lean LOADS. Nothing in Lean hashes anything: it is a label: what it is worth is what the hold of that sum in a sandbox is worth. -/
noncomputable def Try.pinned : Pinned := { name := "ytmldacjpbifoaaa", sum := "57df02b2640d33135aa7372873bce36d669026b9787fa9d6a951f234a05165f2", checked := Try.checked }
namespace Rows
def none {H : Type} : Left H := { results := [], args := [] }

/-- 'laws.FnEqualTexts': WHATEVER THE INPUT: true; the input reads as it did. -/
def fnEqualTextsSpec : ChangeSpec := { name := "fnEqualTexts", fn := fun _ => fun
  | [d] => { results := [.lit (.bool true)], args := [d] }
  | _ => none }
def fnEqualTextsRow : OpenClaim := { program := "ytmldacjpbifoaaa", sum := "57df02b2640d33135aa7372873bce36d669026b9787fa9d6a951f234a05165f2", func := "loop.example/lib-comparemaps/laws.FnEqualTexts", spec := "fnEqualTexts", apart := false }
def FnEqualTextsSaid : Prop := fnEqualTextsRow.holds Try.pinned (OpenSpec.ofChange fnEqualTextsSpec)

/-- ITS FALSE NEIGHBOUR: 'it returns false'. Refute it at one input. -/
def fnEqualTextsWrong : ChangeSpec := { name := "fnEqualTexts", fn := fun _ => fun
  | [d] => { results := [.lit (.bool false)], args := [d] }
  | _ => none }
def FnEqualTextsWrongFalsely : Prop := fnEqualTextsRow.holds Try.pinned (OpenSpec.ofChange fnEqualTextsWrong)

/-- 'laws.FnEqualFloats': WHATEVER THE INPUT: true; the input reads as it did. -/
def fnEqualFloatsSpec : ChangeSpec := { name := "fnEqualFloats", fn := fun _ => fun
  | [d] => { results := [.lit (.bool true)], args := [d] }
  | _ => none }
def fnEqualFloatsRow : OpenClaim := { program := "ytmldacjpbifoaaa", sum := "57df02b2640d33135aa7372873bce36d669026b9787fa9d6a951f234a05165f2", func := "loop.example/lib-comparemaps/laws.FnEqualFloats", spec := "fnEqualFloats", inPlace := ["math.Float64bits", "math.Float64frombits"], apart := false }
def FnEqualFloatsSaid : Prop := fnEqualFloatsRow.holds Try.pinned (OpenSpec.ofChange fnEqualFloatsSpec)

/-- ITS FALSE NEIGHBOUR: 'it returns false'. Refute it at one input. -/
def fnEqualFloatsWrong : ChangeSpec := { name := "fnEqualFloats", fn := fun _ => fun
  | [d] => { results := [.lit (.bool false)], args := [d] }
  | _ => none }
def FnEqualFloatsWrongFalsely : Prop := fnEqualFloatsRow.holds Try.pinned (OpenSpec.ofChange fnEqualFloatsWrong)

/-- 'laws.FnEqualFloatsNone': WHATEVER THE INPUT: true; the input reads as it did. -/
def fnEqualFloatsNoneSpec : ChangeSpec := { name := "fnEqualFloatsNone", fn := fun _ => fun
  | [d] => { results := [.lit (.bool true)], args := [d] }
  | _ => none }
def fnEqualFloatsNoneRow : OpenClaim := { program := "ytmldacjpbifoaaa", sum := "57df02b2640d33135aa7372873bce36d669026b9787fa9d6a951f234a05165f2", func := "loop.example/lib-comparemaps/laws.FnEqualFloatsNone", spec := "fnEqualFloatsNone", inPlace := ["math.Float64bits", "math.Float64frombits"], apart := false }
def FnEqualFloatsNoneSaid : Prop := fnEqualFloatsNoneRow.holds Try.pinned (OpenSpec.ofChange fnEqualFloatsNoneSpec)

/-- ITS FALSE NEIGHBOUR: 'it returns false'. Refute it at one input. -/
def fnEqualFloatsNoneWrong : ChangeSpec := { name := "fnEqualFloatsNone", fn := fun _ => fun
  | [d] => { results := [.lit (.bool false)], args := [d] }
  | _ => none }
def FnEqualFloatsNoneWrongFalsely : Prop := fnEqualFloatsNoneRow.holds Try.pinned (OpenSpec.ofChange fnEqualFloatsNoneWrong)

/-- 'laws.FnEqual': WHATEVER THE INPUT: true; the input reads as it did. -/
def fnEqualSpec : ChangeSpec := { name := "fnEqual", fn := fun _ => fun
  | [d] => { results := [.lit (.bool true)], args := [d] }
  | _ => none }
def fnEqualRow : OpenClaim := { program := "ytmldacjpbifoaaa", sum := "57df02b2640d33135aa7372873bce36d669026b9787fa9d6a951f234a05165f2", func := "loop.example/lib-comparemaps/laws.FnEqual", spec := "fnEqual", apart := false }
def FnEqualSaid : Prop := fnEqualRow.holds Try.pinned (OpenSpec.ofChange fnEqualSpec)

/-- ITS FALSE NEIGHBOUR: 'it returns false'. Refute it at one input. -/
def fnEqualWrong : ChangeSpec := { name := "fnEqual", fn := fun _ => fun
  | [d] => { results := [.lit (.bool false)], args := [d] }
  | _ => none }
def FnEqualWrongFalsely : Prop := fnEqualRow.holds Try.pinned (OpenSpec.ofChange fnEqualWrong)

/- THE SECOND FORM. 'bulk': how many values and letters a reading holds, each counted each time it is reached (what is shared counts as often as it is met; a slice's spare places count too). A statement '..UptoSaid' is the law's where the arguments, and the package variables that the reading takes, are together of bulk at most 1048576: NARROWER than '..Said'. Prove '..Said' where nothing that the law and all that it calls make is longer than what came in: it says more and counts as full. Else prove '..UptoSaid'. A law counts once. -/
mutual
def uptoBulk {H : Type} : DataW H → Nat
  | .lit (.string bytes) => bytes.length + 1
  | .lit _ => 1
  | .nil => 1
  | .ptr d => uptoBulk d + 1
  | .slice elems spare => uptoBulkAll elems + uptoBulkAll spare + 1
  | .agg parts => uptoBulkAll parts + 1
  | .iface _ d => uptoBulk d + 1
  | .map entries => uptoBulkEntries entries + 1
  | .held _ => 1
def uptoBulkAll {H : Type} : List (DataW H) → Nat
  | [] => 0
  | d :: r => uptoBulk d + uptoBulkAll r
def uptoBulkEntries {H : Type} : List (Lit × DataW H) → Nat
  | [] => 0
  | x :: r => uptoBulkEntry x + uptoBulkEntries r
def uptoBulkEntry {H : Type} : Lit × DataW H → Nat
  | (.string bytes, d) => bytes.length + uptoBulk d + 1
  | (_, d) => uptoBulk d + 1
 end
def uptoSmall : (H : Type) → List (DataW H) → Bool := fun _ ds => decide (uptoBulkAll ds ≤ 1048576)
def OpenSpec.upto (s : _root_.Go.ChangeSpec) : _root_.Go.OpenSpec := { _root_.Go.OpenSpec.ofChange s with cond := some uptoSmall }

/-- 'laws.FnEqualTexts', WHERE WHAT IT READS IS OF BULK AT MOST 1048576: true; the input reads as it did. -/
def fnEqualTextsUptoRow : OpenClaim := { program := "ytmldacjpbifoaaa", sum := "57df02b2640d33135aa7372873bce36d669026b9787fa9d6a951f234a05165f2", func := "loop.example/lib-comparemaps/laws.FnEqualTexts", spec := "fnEqualTexts", apart := false, narrowed := true }
def FnEqualTextsUptoSaid : Prop := fnEqualTextsUptoRow.holds Try.pinned (OpenSpec.upto fnEqualTextsSpec)

/-- 'laws.FnEqualFloats', WHERE WHAT IT READS IS OF BULK AT MOST 1048576: true; the input reads as it did. -/
def fnEqualFloatsUptoRow : OpenClaim := { program := "ytmldacjpbifoaaa", sum := "57df02b2640d33135aa7372873bce36d669026b9787fa9d6a951f234a05165f2", func := "loop.example/lib-comparemaps/laws.FnEqualFloats", spec := "fnEqualFloats", inPlace := ["math.Float64bits", "math.Float64frombits"], apart := false, narrowed := true }
def FnEqualFloatsUptoSaid : Prop := fnEqualFloatsUptoRow.holds Try.pinned (OpenSpec.upto fnEqualFloatsSpec)

/-- 'laws.FnEqualFloatsNone', WHERE WHAT IT READS IS OF BULK AT MOST 1048576: true; the input reads as it did. -/
def fnEqualFloatsNoneUptoRow : OpenClaim := { program := "ytmldacjpbifoaaa", sum := "57df02b2640d33135aa7372873bce36d669026b9787fa9d6a951f234a05165f2", func := "loop.example/lib-comparemaps/laws.FnEqualFloatsNone", spec := "fnEqualFloatsNone", inPlace := ["math.Float64bits", "math.Float64frombits"], apart := false, narrowed := true }
def FnEqualFloatsNoneUptoSaid : Prop := fnEqualFloatsNoneUptoRow.holds Try.pinned (OpenSpec.upto fnEqualFloatsNoneSpec)

/-- 'laws.FnEqual', WHERE WHAT IT READS IS OF BULK AT MOST 1048576: true; the input reads as it did. -/
def fnEqualUptoRow : OpenClaim := { program := "ytmldacjpbifoaaa", sum := "57df02b2640d33135aa7372873bce36d669026b9787fa9d6a951f234a05165f2", func := "loop.example/lib-comparemaps/laws.FnEqual", spec := "fnEqual", apart := false, narrowed := true }
def FnEqualUptoSaid : Prop := fnEqualUptoRow.holds Try.pinned (OpenSpec.upto fnEqualSpec)

end Rows
end Go.Proofs.Ytmldacjpbifoaaa
