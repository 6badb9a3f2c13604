/-
  No cell of these rows narrows 'for every input' (looked for: loops, veiled, ifaces, maps, wideKeys, modest, calm, conditions, laid).
  DERIVED. THE GIVEN ROWS OF THIS SEAT. 11 by the template 'for every input the law returns true; each argument reads behind the call as it read before'; 0 by the template 'total and deterministic' (their statements: YtmkoanbbgmjhbaaTotals.lean).
  GIVEN WITH THE SEED: the statements are not yours to turn. If you find one false, say at which input.
  Laid BY PROGRAM, IN A SANDBOX (cutbox-rows.mjs): the forced cells as the released guide's own fill.sh prints them over the translation 1e72eff7855143e1… (all of the seat's roots in one cut). By AI agents, Wed Nov 11 2026. No macro, syntax, notation, axiom, sorry.
-/
import Derived.Test.YtmkoanbbgmjhbaaChecked
import GoSem.Claim
import GoSem.ClaimJoined
import GoSem.ClaimMapViews
import Derived.JoinedTies
import Derived.KernelRfl
namespace Go.Proofs.Ytmkoanbbgmjhbaa
/- THE CELL 'sum', in the pinned program and in every row, IS THE sha256 OF THE DUMP (.gsa) THAT YtmkoanbbgmjhbaaProg.lean LOADS. Nothing in Lean hashes anything: it is a label: what it is worth is what the hold of that sum in a sandbox is worth. -/
noncomputable def Try.pinned : Pinned := { name := "ytmkoanbbgmjhbaa", sum := "1e72eff7855143e13348a4adb08cff830efe52a2eca746578c2104ba5bab6dc3", checked := Try.checked }
namespace Rows
def none {H : Type} : Left H := { results := [], args := [] }

/-- 'laws.FnCloneIsNil': WHATEVER THE INPUT: true; the input reads as it did. -/
def fnCloneIsNilSpec : ChangeSpec := { name := "fnCloneIsNil", fn := fun _ => fun
  | [d] => { results := [.lit (.bool true)], args := [d] }
  | _ => none }
def fnCloneIsNilRow : OpenClaim := { program := "ytmkoanbbgmjhbaa", sum := "1e72eff7855143e13348a4adb08cff830efe52a2eca746578c2104ba5bab6dc3", func := "loop.example/lib-comparemaps/laws.FnCloneIsNil", spec := "fnCloneIsNil", inPlace := ["maps.clone"], plainKeys := false, apart := false }
def FnCloneIsNilSaid : Prop := fnCloneIsNilRow.holds Try.pinned (OpenSpec.ofChange fnCloneIsNilSpec)

/-- ITS FALSE NEIGHBOUR: 'it returns false'. Refute it at one input. -/
def fnCloneIsNilWrong : ChangeSpec := { name := "fnCloneIsNil", fn := fun _ => fun
  | [d] => { results := [.lit (.bool false)], args := [d] }
  | _ => none }
def FnCloneIsNilWrongFalsely : Prop := fnCloneIsNilRow.holds Try.pinned (OpenSpec.ofChange fnCloneIsNilWrong)

/-- 'laws.FnExactCloneIsNil': WHATEVER THE INPUT: true; the input reads as it did. -/
def fnExactCloneIsNilSpec : ChangeSpec := { name := "fnExactCloneIsNil", fn := fun _ => fun
  | [d] => { results := [.lit (.bool true)], args := [d] }
  | _ => none }
def fnExactCloneIsNilRow : OpenClaim := { program := "ytmkoanbbgmjhbaa", sum := "1e72eff7855143e13348a4adb08cff830efe52a2eca746578c2104ba5bab6dc3", func := "loop.example/lib-comparemaps/laws.FnExactCloneIsNil", spec := "fnExactCloneIsNil", inPlace := ["maps.clone"], plainKeys := false, apart := false }
def FnExactCloneIsNilSaid : Prop := fnExactCloneIsNilRow.holds Try.pinned (OpenSpec.ofChange fnExactCloneIsNilSpec)

/-- ITS FALSE NEIGHBOUR: 'it returns false'. Refute it at one input. -/
def fnExactCloneIsNilWrong : ChangeSpec := { name := "fnExactCloneIsNil", fn := fun _ => fun
  | [d] => { results := [.lit (.bool false)], args := [d] }
  | _ => none }
def FnExactCloneIsNilWrongFalsely : Prop := fnExactCloneIsNilRow.holds Try.pinned (OpenSpec.ofChange fnExactCloneIsNilWrong)

/-- 'laws.FnExactEqual': WHATEVER THE INPUT: true; the input reads as it did. -/
def fnExactEqualSpec : ChangeSpec := { name := "fnExactEqual", fn := fun _ => fun
  | [d1, d2] => { results := [.lit (.bool true)], args := [d1, d2] }
  | _ => none }
def fnExactEqualRow : OpenClaim := { program := "ytmkoanbbgmjhbaa", sum := "1e72eff7855143e13348a4adb08cff830efe52a2eca746578c2104ba5bab6dc3", func := "loop.example/lib-comparemaps/laws.FnExactEqual", spec := "fnExactEqual", plainKeys := false, apart := false }
def FnExactEqualSaid : Prop := fnExactEqualRow.holds Try.pinned (OpenSpec.ofChange fnExactEqualSpec)

/-- ITS FALSE NEIGHBOUR: 'it returns false'. Refute it at one input. -/
def fnExactEqualWrong : ChangeSpec := { name := "fnExactEqual", fn := fun _ => fun
  | [d1, d2] => { results := [.lit (.bool false)], args := [d1, d2] }
  | _ => none }
def FnExactEqualWrongFalsely : Prop := fnExactEqualRow.holds Try.pinned (OpenSpec.ofChange fnExactEqualWrong)

/-- 'laws.FnExactEqualFloats': WHATEVER THE INPUT: true; the input reads as it did. -/
def fnExactEqualFloatsSpec : ChangeSpec := { name := "fnExactEqualFloats", fn := fun _ => fun
  | [d1, d2] => { results := [.lit (.bool true)], args := [d1, d2] }
  | _ => none }
def fnExactEqualFloatsRow : OpenClaim := { program := "ytmkoanbbgmjhbaa", sum := "1e72eff7855143e13348a4adb08cff830efe52a2eca746578c2104ba5bab6dc3", func := "loop.example/lib-comparemaps/laws.FnExactEqualFloats", spec := "fnExactEqualFloats", plainKeys := false, apart := false }
def FnExactEqualFloatsSaid : Prop := fnExactEqualFloatsRow.holds Try.pinned (OpenSpec.ofChange fnExactEqualFloatsSpec)

/-- ITS FALSE NEIGHBOUR: 'it returns false'. Refute it at one input. -/
def fnExactEqualFloatsWrong : ChangeSpec := { name := "fnExactEqualFloats", fn := fun _ => fun
  | [d1, d2] => { results := [.lit (.bool false)], args := [d1, d2] }
  | _ => none }
def FnExactEqualFloatsWrongFalsely : Prop := fnExactEqualFloatsRow.holds Try.pinned (OpenSpec.ofChange fnExactEqualFloatsWrong)

/-- 'laws.FnExactEqualTexts': WHATEVER THE INPUT: true; the input reads as it did. -/
def fnExactEqualTextsSpec : ChangeSpec := { name := "fnExactEqualTexts", fn := fun _ => fun
  | [d1, d2] => { results := [.lit (.bool true)], args := [d1, d2] }
  | _ => none }
def fnExactEqualTextsRow : OpenClaim := { program := "ytmkoanbbgmjhbaa", sum := "1e72eff7855143e13348a4adb08cff830efe52a2eca746578c2104ba5bab6dc3", func := "loop.example/lib-comparemaps/laws.FnExactEqualTexts", spec := "fnExactEqualTexts", plainKeys := false, apart := false }
def FnExactEqualTextsSaid : Prop := fnExactEqualTextsRow.holds Try.pinned (OpenSpec.ofChange fnExactEqualTextsSpec)

/-- ITS FALSE NEIGHBOUR: 'it returns false'. Refute it at one input. -/
def fnExactEqualTextsWrong : ChangeSpec := { name := "fnExactEqualTexts", fn := fun _ => fun
  | [d1, d2] => { results := [.lit (.bool false)], args := [d1, d2] }
  | _ => none }
def FnExactEqualTextsWrongFalsely : Prop := fnExactEqualTextsRow.holds Try.pinned (OpenSpec.ofChange fnExactEqualTextsWrong)

/-- 'laws.FnExactClone': WHATEVER THE INPUT: true; the input reads as it did. -/
def fnExactCloneSpec : ChangeSpec := { name := "fnExactClone", fn := fun _ => fun
  | [d] => { results := [.lit (.bool true)], args := [d] }
  | _ => none }
def fnExactCloneRow : OpenClaim := { program := "ytmkoanbbgmjhbaa", sum := "1e72eff7855143e13348a4adb08cff830efe52a2eca746578c2104ba5bab6dc3", func := "loop.example/lib-comparemaps/laws.FnExactClone", spec := "fnExactClone", inPlace := ["maps.clone"], plainKeys := false, apart := false }
def FnExactCloneSaid : Prop := fnExactCloneRow.holds Try.pinned (OpenSpec.ofChange fnExactCloneSpec)

/-- ITS FALSE NEIGHBOUR: 'it returns false'. Refute it at one input. -/
def fnExactCloneWrong : ChangeSpec := { name := "fnExactClone", fn := fun _ => fun
  | [d] => { results := [.lit (.bool false)], args := [d] }
  | _ => none }
def FnExactCloneWrongFalsely : Prop := fnExactCloneRow.holds Try.pinned (OpenSpec.ofChange fnExactCloneWrong)

/-- 'laws.FnExactCopy': WHATEVER THE INPUT: true; the input reads as it did. -/
def fnExactCopySpec : ChangeSpec := { name := "fnExactCopy", fn := fun _ => fun
  | [d1, d2] => { results := [.lit (.bool true)], args := [d1, d2] }
  | _ => none }
def fnExactCopyRow : OpenClaim := { program := "ytmkoanbbgmjhbaa", sum := "1e72eff7855143e13348a4adb08cff830efe52a2eca746578c2104ba5bab6dc3", func := "loop.example/lib-comparemaps/laws.FnExactCopy", spec := "fnExactCopy", plainKeys := false, apart := false }
def FnExactCopySaid : Prop := fnExactCopyRow.holds Try.pinned (OpenSpec.ofChange fnExactCopySpec)

/-- ITS FALSE NEIGHBOUR: 'it returns false'. Refute it at one input. -/
def fnExactCopyWrong : ChangeSpec := { name := "fnExactCopy", fn := fun _ => fun
  | [d1, d2] => { results := [.lit (.bool false)], args := [d1, d2] }
  | _ => none }
def FnExactCopyWrongFalsely : Prop := fnExactCopyRow.holds Try.pinned (OpenSpec.ofChange fnExactCopyWrong)

/-- 'laws.FnExactEqualFunc': WHATEVER THE INPUT: true; the input reads as it did. -/
def fnExactEqualFuncSpec : ChangeSpec := { name := "fnExactEqualFunc", fn := fun _ => fun
  | [d1, d2, d3] => { results := [.lit (.bool true)], args := [d1, d2, d3] }
  | _ => none }
def fnExactEqualFuncRow : OpenClaim := { program := "ytmkoanbbgmjhbaa", sum := "1e72eff7855143e13348a4adb08cff830efe52a2eca746578c2104ba5bab6dc3", func := "loop.example/lib-comparemaps/laws.FnExactEqualFunc", spec := "fnExactEqualFunc", unfollowed := true, recurses := true, plainKeys := false, apart := false }
def FnExactEqualFuncSaid : Prop := fnExactEqualFuncRow.holds Try.pinned (OpenSpec.ofChange fnExactEqualFuncSpec)

/-- ITS FALSE NEIGHBOUR: 'it returns false'. Refute it at one input. -/
def fnExactEqualFuncWrong : ChangeSpec := { name := "fnExactEqualFunc", fn := fun _ => fun
  | [d1, d2, d3] => { results := [.lit (.bool false)], args := [d1, d2, d3] }
  | _ => none }
def FnExactEqualFuncWrongFalsely : Prop := fnExactEqualFuncRow.holds Try.pinned (OpenSpec.ofChange fnExactEqualFuncWrong)

/-- 'laws.FnExactCloneSet': WHATEVER THE INPUT: true; the input reads as it did. -/
def fnExactCloneSetSpec : ChangeSpec := { name := "fnExactCloneSet", fn := fun _ => fun
  | [d1, d2] => { results := [.lit (.bool true)], args := [d1, d2] }
  | _ => none }
def fnExactCloneSetRow : OpenClaim := { program := "ytmkoanbbgmjhbaa", sum := "1e72eff7855143e13348a4adb08cff830efe52a2eca746578c2104ba5bab6dc3", func := "loop.example/lib-comparemaps/laws.FnExactCloneSet", spec := "fnExactCloneSet", inPlace := ["maps.clone"], plainKeys := false, apart := false }
def FnExactCloneSetSaid : Prop := fnExactCloneSetRow.holds Try.pinned (OpenSpec.ofChange fnExactCloneSetSpec)

/-- ITS FALSE NEIGHBOUR: 'it returns false'. Refute it at one input. -/
def fnExactCloneSetWrong : ChangeSpec := { name := "fnExactCloneSet", fn := fun _ => fun
  | [d1, d2] => { results := [.lit (.bool false)], args := [d1, d2] }
  | _ => none }
def FnExactCloneSetWrongFalsely : Prop := fnExactCloneSetRow.holds Try.pinned (OpenSpec.ofChange fnExactCloneSetWrong)

/-- 'laws.FnExactSetClone': WHATEVER THE INPUT: true; the input reads as it did. -/
def fnExactSetCloneSpec : ChangeSpec := { name := "fnExactSetClone", fn := fun _ => fun
  | [d1, d2] => { results := [.lit (.bool true)], args := [d1, d2] }
  | _ => none }
def fnExactSetCloneRow : OpenClaim := { program := "ytmkoanbbgmjhbaa", sum := "1e72eff7855143e13348a4adb08cff830efe52a2eca746578c2104ba5bab6dc3", func := "loop.example/lib-comparemaps/laws.FnExactSetClone", spec := "fnExactSetClone", inPlace := ["maps.clone"], plainKeys := false, apart := false }
def FnExactSetCloneSaid : Prop := fnExactSetCloneRow.holds Try.pinned (OpenSpec.ofChange fnExactSetCloneSpec)

/-- ITS FALSE NEIGHBOUR: 'it returns false'. Refute it at one input. -/
def fnExactSetCloneWrong : ChangeSpec := { name := "fnExactSetClone", fn := fun _ => fun
  | [d1, d2] => { results := [.lit (.bool false)], args := [d1, d2] }
  | _ => none }
def FnExactSetCloneWrongFalsely : Prop := fnExactSetCloneRow.holds Try.pinned (OpenSpec.ofChange fnExactSetCloneWrong)

/-- 'laws.FnExactDeleteFunc': WHATEVER THE INPUT: true; the input reads as it did. -/
def fnExactDeleteFuncSpec : ChangeSpec := { name := "fnExactDeleteFunc", fn := fun _ => fun
  | [d1, d2] => { results := [.lit (.bool true)], args := [d1, d2] }
  | _ => none }
def fnExactDeleteFuncRow : OpenClaim := { program := "ytmkoanbbgmjhbaa", sum := "1e72eff7855143e13348a4adb08cff830efe52a2eca746578c2104ba5bab6dc3", func := "loop.example/lib-comparemaps/laws.FnExactDeleteFunc", spec := "fnExactDeleteFunc", unfollowed := true, recurses := true, plainKeys := false, apart := false }
def FnExactDeleteFuncSaid : Prop := fnExactDeleteFuncRow.holds Try.pinned (OpenSpec.ofChange fnExactDeleteFuncSpec)

/-- ITS FALSE NEIGHBOUR: 'it returns false'. Refute it at one input. -/
def fnExactDeleteFuncWrong : ChangeSpec := { name := "fnExactDeleteFunc", fn := fun _ => fun
  | [d1, d2] => { results := [.lit (.bool false)], args := [d1, d2] }
  | _ => none }
def FnExactDeleteFuncWrongFalsely : Prop := fnExactDeleteFuncRow.holds Try.pinned (OpenSpec.ofChange fnExactDeleteFuncWrong)

/- THE SECOND FORM. 'bulk': how many values and letters a reading holds, each counted each time it is reached (what is shared counts as often as it is met; a slice's spare places count too). A statement '..UptoSaid' is the law's where the arguments, and the package variables that the reading takes, are together of bulk at most 1048576: NARROWER than '..Said'. Prove '..Said' where nothing that the law and all that it calls make is longer than what came in: it says more and counts as full. Else prove '..UptoSaid'. A law counts once. -/
mutual
def uptoBulk {H : Type} : DataW H → Nat
  | .lit (.string bytes) => bytes.length + 1
  | .lit _ => 1
  | .nil => 1
  | .ptr d => uptoBulk d + 1
  | .slice elems spare => uptoBulkAll elems + uptoBulkAll spare + 1
  | .agg parts => uptoBulkAll parts + 1
  | .iface _ d => uptoBulk d + 1
  | .map entries => uptoBulkEntries entries + 1
  | .held _ => 1
def uptoBulkAll {H : Type} : List (DataW H) → Nat
  | [] => 0
  | d :: r => uptoBulk d + uptoBulkAll r
def uptoBulkEntries {H : Type} : List (Lit × DataW H) → Nat
  | [] => 0
  | x :: r => uptoBulkEntry x + uptoBulkEntries r
def uptoBulkEntry {H : Type} : Lit × DataW H → Nat
  | (.string bytes, d) => bytes.length + uptoBulk d + 1
  | (_, d) => uptoBulk d + 1
 end
def uptoSmall : (H : Type) → List (DataW H) → Bool := fun _ ds => decide (uptoBulkAll ds ≤ 1048576)
def OpenSpec.upto (s : _root_.Go.ChangeSpec) : _root_.Go.OpenSpec := { _root_.Go.OpenSpec.ofChange s with cond := some uptoSmall }

/-- 'laws.FnCloneIsNil', WHERE WHAT IT READS IS OF BULK AT MOST 1048576: true; the input reads as it did. -/
def fnCloneIsNilUptoRow : OpenClaim := { program := "ytmkoanbbgmjhbaa", sum := "1e72eff7855143e13348a4adb08cff830efe52a2eca746578c2104ba5bab6dc3", func := "loop.example/lib-comparemaps/laws.FnCloneIsNil", spec := "fnCloneIsNil", inPlace := ["maps.clone"], plainKeys := false, apart := false, narrowed := true }
def FnCloneIsNilUptoSaid : Prop := fnCloneIsNilUptoRow.holds Try.pinned (OpenSpec.upto fnCloneIsNilSpec)

/-- 'laws.FnExactCloneIsNil', WHERE WHAT IT READS IS OF BULK AT MOST 1048576: true; the input reads as it did. -/
def fnExactCloneIsNilUptoRow : OpenClaim := { program := "ytmkoanbbgmjhbaa", sum := "1e72eff7855143e13348a4adb08cff830efe52a2eca746578c2104ba5bab6dc3", func := "loop.example/lib-comparemaps/laws.FnExactCloneIsNil", spec := "fnExactCloneIsNil", inPlace := ["maps.clone"], plainKeys := false, apart := false, narrowed := true }
def FnExactCloneIsNilUptoSaid : Prop := fnExactCloneIsNilUptoRow.holds Try.pinned (OpenSpec.upto fnExactCloneIsNilSpec)

/-- 'laws.FnExactEqual', WHERE WHAT IT READS IS OF BULK AT MOST 1048576: true; the input reads as it did. -/
def fnExactEqualUptoRow : OpenClaim := { program := "ytmkoanbbgmjhbaa", sum := "1e72eff7855143e13348a4adb08cff830efe52a2eca746578c2104ba5bab6dc3", func := "loop.example/lib-comparemaps/laws.FnExactEqual", spec := "fnExactEqual", plainKeys := false, apart := false, narrowed := true }
def FnExactEqualUptoSaid : Prop := fnExactEqualUptoRow.holds Try.pinned (OpenSpec.upto fnExactEqualSpec)

/-- 'laws.FnExactEqualFloats', WHERE WHAT IT READS IS OF BULK AT MOST 1048576: true; the input reads as it did. -/
def fnExactEqualFloatsUptoRow : OpenClaim := { program := "ytmkoanbbgmjhbaa", sum := "1e72eff7855143e13348a4adb08cff830efe52a2eca746578c2104ba5bab6dc3", func := "loop.example/lib-comparemaps/laws.FnExactEqualFloats", spec := "fnExactEqualFloats", plainKeys := false, apart := false, narrowed := true }
def FnExactEqualFloatsUptoSaid : Prop := fnExactEqualFloatsUptoRow.holds Try.pinned (OpenSpec.upto fnExactEqualFloatsSpec)

/-- 'laws.FnExactEqualTexts', WHERE WHAT IT READS IS OF BULK AT MOST 1048576: true; the input reads as it did. -/
def fnExactEqualTextsUptoRow : OpenClaim := { program := "ytmkoanbbgmjhbaa", sum := "1e72eff7855143e13348a4adb08cff830efe52a2eca746578c2104ba5bab6dc3", func := "loop.example/lib-comparemaps/laws.FnExactEqualTexts", spec := "fnExactEqualTexts", plainKeys := false, apart := false, narrowed := true }
def FnExactEqualTextsUptoSaid : Prop := fnExactEqualTextsUptoRow.holds Try.pinned (OpenSpec.upto fnExactEqualTextsSpec)

/-- 'laws.FnExactClone', WHERE WHAT IT READS IS OF BULK AT MOST 1048576: true; the input reads as it did. -/
def fnExactCloneUptoRow : OpenClaim := { program := "ytmkoanbbgmjhbaa", sum := "1e72eff7855143e13348a4adb08cff830efe52a2eca746578c2104ba5bab6dc3", func := "loop.example/lib-comparemaps/laws.FnExactClone", spec := "fnExactClone", inPlace := ["maps.clone"], plainKeys := false, apart := false, narrowed := true }
def FnExactCloneUptoSaid : Prop := fnExactCloneUptoRow.holds Try.pinned (OpenSpec.upto fnExactCloneSpec)

/-- 'laws.FnExactCopy', WHERE WHAT IT READS IS OF BULK AT MOST 1048576: true; the input reads as it did. -/
def fnExactCopyUptoRow : OpenClaim := { program := "ytmkoanbbgmjhbaa", sum := "1e72eff7855143e13348a4adb08cff830efe52a2eca746578c2104ba5bab6dc3", func := "loop.example/lib-comparemaps/laws.FnExactCopy", spec := "fnExactCopy", plainKeys := false, apart := false, narrowed := true }
def FnExactCopyUptoSaid : Prop := fnExactCopyUptoRow.holds Try.pinned (OpenSpec.upto fnExactCopySpec)

/-- 'laws.FnExactEqualFunc', WHERE WHAT IT READS IS OF BULK AT MOST 1048576: true; the input reads as it did. -/
def fnExactEqualFuncUptoRow : OpenClaim := { program := "ytmkoanbbgmjhbaa", sum := "1e72eff7855143e13348a4adb08cff830efe52a2eca746578c2104ba5bab6dc3", func := "loop.example/lib-comparemaps/laws.FnExactEqualFunc", spec := "fnExactEqualFunc", unfollowed := true, recurses := true, plainKeys := false, apart := false, narrowed := true }
def FnExactEqualFuncUptoSaid : Prop := fnExactEqualFuncUptoRow.holds Try.pinned (OpenSpec.upto fnExactEqualFuncSpec)

/-- 'laws.FnExactCloneSet', WHERE WHAT IT READS IS OF BULK AT MOST 1048576: true; the input reads as it did. -/
def fnExactCloneSetUptoRow : OpenClaim := { program := "ytmkoanbbgmjhbaa", sum := "1e72eff7855143e13348a4adb08cff830efe52a2eca746578c2104ba5bab6dc3", func := "loop.example/lib-comparemaps/laws.FnExactCloneSet", spec := "fnExactCloneSet", inPlace := ["maps.clone"], plainKeys := false, apart := false, narrowed := true }
def FnExactCloneSetUptoSaid : Prop := fnExactCloneSetUptoRow.holds Try.pinned (OpenSpec.upto fnExactCloneSetSpec)

/-- 'laws.FnExactSetClone', WHERE WHAT IT READS IS OF BULK AT MOST 1048576: true; the input reads as it did. -/
def fnExactSetCloneUptoRow : OpenClaim := { program := "ytmkoanbbgmjhbaa", sum := "1e72eff7855143e13348a4adb08cff830efe52a2eca746578c2104ba5bab6dc3", func := "loop.example/lib-comparemaps/laws.FnExactSetClone", spec := "fnExactSetClone", inPlace := ["maps.clone"], plainKeys := false, apart := false, narrowed := true }
def FnExactSetCloneUptoSaid : Prop := fnExactSetCloneUptoRow.holds Try.pinned (OpenSpec.upto fnExactSetCloneSpec)

/-- 'laws.FnExactDeleteFunc', WHERE WHAT IT READS IS OF BULK AT MOST 1048576: true; the input reads as it did. -/
def fnExactDeleteFuncUptoRow : OpenClaim := { program := "ytmkoanbbgmjhbaa", sum := "1e72eff7855143e13348a4adb08cff830efe52a2eca746578c2104ba5bab6dc3", func := "loop.example/lib-comparemaps/laws.FnExactDeleteFunc", spec := "fnExactDeleteFunc", unfollowed := true, recurses := true, plainKeys := false, apart := false, narrowed := true }
def FnExactDeleteFuncUptoSaid : Prop := fnExactDeleteFuncUptoRow.holds Try.pinned (OpenSpec.upto fnExactDeleteFuncSpec)

end Rows
end Go.Proofs.Ytmkoanbbgmjhbaa
