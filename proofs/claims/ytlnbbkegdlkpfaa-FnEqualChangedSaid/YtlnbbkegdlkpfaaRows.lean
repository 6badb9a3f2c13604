/-
  No cell of these rows narrows 'for every input' (looked for: loops, veiled, ifaces, maps, wideKeys, modest, calm, conditions, laid).
  DERIVED. THE GIVEN ROWS OF THIS SEAT. 12 by the template 'for every input the law returns true; each argument reads behind the call as it read before'; 0 by the template 'total and deterministic' (their statements: YtlnbbkegdlkpfaaTotals.lean).
  GIVEN WITH THE SEED: the statements are not yours to turn. If you find one false, say at which input.
  Laid BY PROGRAM, IN A SANDBOX (cutbox-rows.mjs): the forced cells as the released guide's own fill.sh prints them over the translation 81c8e9c3111b9b5c… (all of the seat's roots in one cut). By AI agents, Wed Nov 11 2026. No macro, syntax, notation, axiom, sorry.
-/
import Derived.Test.YtlnbbkegdlkpfaaChecked
import GoSem.Claim
import GoSem.ClaimJoined
import GoSem.ClaimMapViews
import Derived.JoinedTies
import Derived.KernelRfl
namespace Go.Proofs.Ytlnbbkegdlkpfaa
/- THE CELL 'sum', in the pinned program and in every row, IS THE sha256 OF THE DUMP (.gsa) THAT YtlnbbkegdlkpfaaProg.lean LOADS. Nothing in Lean hashes anything: it is a label: what it is worth is what the hold of that sum in a sandbox is worth. -/
noncomputable def Try.pinned : Pinned := { name := "ytlnbbkegdlkpfaa", sum := "81c8e9c3111b9b5ce9147060a4ec05192076698097fcc7a5fe9f0566e361964a", checked := Try.checked }
namespace Rows
def none {H : Type} : Left H := { results := [], args := [] }

/-- 'laws.FnEqual': WHATEVER THE INPUT: true; the input reads as it did. -/
def fnEqualSpec : ChangeSpec := { name := "fnEqual", fn := fun _ => fun
  | [d] => { results := [.lit (.bool true)], args := [d] }
  | _ => none }
def fnEqualRow : OpenClaim := { program := "ytlnbbkegdlkpfaa", sum := "81c8e9c3111b9b5ce9147060a4ec05192076698097fcc7a5fe9f0566e361964a", func := "loop.example/lib-comparemaps/laws.FnEqual", spec := "fnEqual", apart := false }
def FnEqualSaid : Prop := fnEqualRow.holds Try.pinned (OpenSpec.ofChange fnEqualSpec)

/-- ITS FALSE NEIGHBOUR: 'it returns false'. Refute it at one input. -/
def fnEqualWrong : ChangeSpec := { name := "fnEqual", fn := fun _ => fun
  | [d] => { results := [.lit (.bool false)], args := [d] }
  | _ => none }
def FnEqualWrongFalsely : Prop := fnEqualRow.holds Try.pinned (OpenSpec.ofChange fnEqualWrong)

/-- 'laws.FnEqualChain': WHATEVER THE INPUT: true; the input reads as it did. -/
def fnEqualChainSpec : ChangeSpec := { name := "fnEqualChain", fn := fun _ => fun
  | [d] => { results := [.lit (.bool true)], args := [d] }
  | _ => none }
def fnEqualChainRow : OpenClaim := { program := "ytlnbbkegdlkpfaa", sum := "81c8e9c3111b9b5ce9147060a4ec05192076698097fcc7a5fe9f0566e361964a", func := "loop.example/lib-comparemaps/laws.FnEqualChain", spec := "fnEqualChain", apart := false }
def FnEqualChainSaid : Prop := fnEqualChainRow.holds Try.pinned (OpenSpec.ofChange fnEqualChainSpec)

/-- ITS FALSE NEIGHBOUR: 'it returns false'. Refute it at one input. -/
def fnEqualChainWrong : ChangeSpec := { name := "fnEqualChain", fn := fun _ => fun
  | [d] => { results := [.lit (.bool false)], args := [d] }
  | _ => none }
def FnEqualChainWrongFalsely : Prop := fnEqualChainRow.holds Try.pinned (OpenSpec.ofChange fnEqualChainWrong)

/-- 'laws.FnSetClone': WHATEVER THE INPUT: true; the input reads as it did. -/
def fnSetCloneSpec : ChangeSpec := { name := "fnSetClone", fn := fun _ => fun
  | [d] => { results := [.lit (.bool true)], args := [d] }
  | _ => none }
def fnSetCloneRow : OpenClaim := { program := "ytlnbbkegdlkpfaa", sum := "81c8e9c3111b9b5ce9147060a4ec05192076698097fcc7a5fe9f0566e361964a", func := "loop.example/lib-comparemaps/laws.FnSetClone", spec := "fnSetClone", inPlace := ["maps.clone"], apart := false }
def FnSetCloneSaid : Prop := fnSetCloneRow.holds Try.pinned (OpenSpec.ofChange fnSetCloneSpec)

/-- ITS FALSE NEIGHBOUR: 'it returns false'. Refute it at one input. -/
def fnSetCloneWrong : ChangeSpec := { name := "fnSetClone", fn := fun _ => fun
  | [d] => { results := [.lit (.bool false)], args := [d] }
  | _ => none }
def FnSetCloneWrongFalsely : Prop := fnSetCloneRow.holds Try.pinned (OpenSpec.ofChange fnSetCloneWrong)

/-- 'laws.FnEqualChanged': WHATEVER THE INPUT: true; the input reads as it did. -/
def fnEqualChangedSpec : ChangeSpec := { name := "fnEqualChanged", fn := fun _ => fun
  | [d] => { results := [.lit (.bool true)], args := [d] }
  | _ => none }
def fnEqualChangedRow : OpenClaim := { program := "ytlnbbkegdlkpfaa", sum := "81c8e9c3111b9b5ce9147060a4ec05192076698097fcc7a5fe9f0566e361964a", func := "loop.example/lib-comparemaps/laws.FnEqualChanged", spec := "fnEqualChanged", apart := false }
def FnEqualChangedSaid : Prop := fnEqualChangedRow.holds Try.pinned (OpenSpec.ofChange fnEqualChangedSpec)

/-- ITS FALSE NEIGHBOUR: 'it returns false'. Refute it at one input. -/
def fnEqualChangedWrong : ChangeSpec := { name := "fnEqualChanged", fn := fun _ => fun
  | [d] => { results := [.lit (.bool false)], args := [d] }
  | _ => none }
def FnEqualChangedWrongFalsely : Prop := fnEqualChangedRow.holds Try.pinned (OpenSpec.ofChange fnEqualChangedWrong)

/-- 'laws.FnEqualSelf': WHATEVER THE INPUT: true; the input reads as it did. -/
def fnEqualSelfSpec : ChangeSpec := { name := "fnEqualSelf", fn := fun _ => fun
  | [d] => { results := [.lit (.bool true)], args := [d] }
  | _ => none }
def fnEqualSelfRow : OpenClaim := { program := "ytlnbbkegdlkpfaa", sum := "81c8e9c3111b9b5ce9147060a4ec05192076698097fcc7a5fe9f0566e361964a", func := "loop.example/lib-comparemaps/laws.FnEqualSelf", spec := "fnEqualSelf", apart := false }
def FnEqualSelfSaid : Prop := fnEqualSelfRow.holds Try.pinned (OpenSpec.ofChange fnEqualSelfSpec)

/-- ITS FALSE NEIGHBOUR: 'it returns false'. Refute it at one input. -/
def fnEqualSelfWrong : ChangeSpec := { name := "fnEqualSelf", fn := fun _ => fun
  | [d] => { results := [.lit (.bool false)], args := [d] }
  | _ => none }
def FnEqualSelfWrongFalsely : Prop := fnEqualSelfRow.holds Try.pinned (OpenSpec.ofChange fnEqualSelfWrong)

/-- 'laws.FnCopy': WHATEVER THE INPUT: true; the input reads as it did. -/
def fnCopySpec : ChangeSpec := { name := "fnCopy", fn := fun _ => fun
  | [d] => { results := [.lit (.bool true)], args := [d] }
  | _ => none }
def fnCopyRow : OpenClaim := { program := "ytlnbbkegdlkpfaa", sum := "81c8e9c3111b9b5ce9147060a4ec05192076698097fcc7a5fe9f0566e361964a", func := "loop.example/lib-comparemaps/laws.FnCopy", spec := "fnCopy", apart := false }
def FnCopySaid : Prop := fnCopyRow.holds Try.pinned (OpenSpec.ofChange fnCopySpec)

/-- ITS FALSE NEIGHBOUR: 'it returns false'. Refute it at one input. -/
def fnCopyWrong : ChangeSpec := { name := "fnCopy", fn := fun _ => fun
  | [d] => { results := [.lit (.bool false)], args := [d] }
  | _ => none }
def FnCopyWrongFalsely : Prop := fnCopyRow.holds Try.pinned (OpenSpec.ofChange fnCopyWrong)

/-- 'laws.FnCopyAt': WHATEVER THE INPUT: true; the input reads as it did. -/
def fnCopyAtSpec : ChangeSpec := { name := "fnCopyAt", fn := fun _ => fun
  | [d] => { results := [.lit (.bool true)], args := [d] }
  | _ => none }
def fnCopyAtRow : OpenClaim := { program := "ytlnbbkegdlkpfaa", sum := "81c8e9c3111b9b5ce9147060a4ec05192076698097fcc7a5fe9f0566e361964a", func := "loop.example/lib-comparemaps/laws.FnCopyAt", spec := "fnCopyAt", apart := false }
def FnCopyAtSaid : Prop := fnCopyAtRow.holds Try.pinned (OpenSpec.ofChange fnCopyAtSpec)

/-- ITS FALSE NEIGHBOUR: 'it returns false'. Refute it at one input. -/
def fnCopyAtWrong : ChangeSpec := { name := "fnCopyAt", fn := fun _ => fun
  | [d] => { results := [.lit (.bool false)], args := [d] }
  | _ => none }
def FnCopyAtWrongFalsely : Prop := fnCopyAtRow.holds Try.pinned (OpenSpec.ofChange fnCopyAtWrong)

/-- 'laws.FnCopyChain': WHATEVER THE INPUT: true; the input reads as it did. -/
def fnCopyChainSpec : ChangeSpec := { name := "fnCopyChain", fn := fun _ => fun
  | [d] => { results := [.lit (.bool true)], args := [d] }
  | _ => none }
def fnCopyChainRow : OpenClaim := { program := "ytlnbbkegdlkpfaa", sum := "81c8e9c3111b9b5ce9147060a4ec05192076698097fcc7a5fe9f0566e361964a", func := "loop.example/lib-comparemaps/laws.FnCopyChain", spec := "fnCopyChain", apart := false }
def FnCopyChainSaid : Prop := fnCopyChainRow.holds Try.pinned (OpenSpec.ofChange fnCopyChainSpec)

/-- ITS FALSE NEIGHBOUR: 'it returns false'. Refute it at one input. -/
def fnCopyChainWrong : ChangeSpec := { name := "fnCopyChain", fn := fun _ => fun
  | [d] => { results := [.lit (.bool false)], args := [d] }
  | _ => none }
def FnCopyChainWrongFalsely : Prop := fnCopyChainRow.holds Try.pinned (OpenSpec.ofChange fnCopyChainWrong)

/-- 'laws.FnCopyTwice': WHATEVER THE INPUT: true; the input reads as it did. -/
def fnCopyTwiceSpec : ChangeSpec := { name := "fnCopyTwice", fn := fun _ => fun
  | [d] => { results := [.lit (.bool true)], args := [d] }
  | _ => none }
def fnCopyTwiceRow : OpenClaim := { program := "ytlnbbkegdlkpfaa", sum := "81c8e9c3111b9b5ce9147060a4ec05192076698097fcc7a5fe9f0566e361964a", func := "loop.example/lib-comparemaps/laws.FnCopyTwice", spec := "fnCopyTwice", apart := false }
def FnCopyTwiceSaid : Prop := fnCopyTwiceRow.holds Try.pinned (OpenSpec.ofChange fnCopyTwiceSpec)

/-- ITS FALSE NEIGHBOUR: 'it returns false'. Refute it at one input. -/
def fnCopyTwiceWrong : ChangeSpec := { name := "fnCopyTwice", fn := fun _ => fun
  | [d] => { results := [.lit (.bool false)], args := [d] }
  | _ => none }
def FnCopyTwiceWrongFalsely : Prop := fnCopyTwiceRow.holds Try.pinned (OpenSpec.ofChange fnCopyTwiceWrong)

/-- 'laws.FnClone': WHATEVER THE INPUT: true; the input reads as it did. -/
def fnCloneSpec : ChangeSpec := { name := "fnClone", fn := fun _ => fun
  | [d] => { results := [.lit (.bool true)], args := [d] }
  | _ => none }
def fnCloneRow : OpenClaim := { program := "ytlnbbkegdlkpfaa", sum := "81c8e9c3111b9b5ce9147060a4ec05192076698097fcc7a5fe9f0566e361964a", func := "loop.example/lib-comparemaps/laws.FnClone", spec := "fnClone", inPlace := ["maps.clone"], apart := false }
def FnCloneSaid : Prop := fnCloneRow.holds Try.pinned (OpenSpec.ofChange fnCloneSpec)

/-- ITS FALSE NEIGHBOUR: 'it returns false'. Refute it at one input. -/
def fnCloneWrong : ChangeSpec := { name := "fnClone", fn := fun _ => fun
  | [d] => { results := [.lit (.bool false)], args := [d] }
  | _ => none }
def FnCloneWrongFalsely : Prop := fnCloneRow.holds Try.pinned (OpenSpec.ofChange fnCloneWrong)

/-- 'laws.FnCopyNone': WHATEVER THE INPUT: true; the input reads as it did. -/
def fnCopyNoneSpec : ChangeSpec := { name := "fnCopyNone", fn := fun _ => fun
  | [d] => { results := [.lit (.bool true)], args := [d] }
  | _ => none }
def fnCopyNoneRow : OpenClaim := { program := "ytlnbbkegdlkpfaa", sum := "81c8e9c3111b9b5ce9147060a4ec05192076698097fcc7a5fe9f0566e361964a", func := "loop.example/lib-comparemaps/laws.FnCopyNone", spec := "fnCopyNone", apart := false }
def FnCopyNoneSaid : Prop := fnCopyNoneRow.holds Try.pinned (OpenSpec.ofChange fnCopyNoneSpec)

/-- ITS FALSE NEIGHBOUR: 'it returns false'. Refute it at one input. -/
def fnCopyNoneWrong : ChangeSpec := { name := "fnCopyNone", fn := fun _ => fun
  | [d] => { results := [.lit (.bool false)], args := [d] }
  | _ => none }
def FnCopyNoneWrongFalsely : Prop := fnCopyNoneRow.holds Try.pinned (OpenSpec.ofChange fnCopyNoneWrong)

/-- 'laws.FnCloneSet': WHATEVER THE INPUT: true; the input reads as it did. -/
def fnCloneSetSpec : ChangeSpec := { name := "fnCloneSet", fn := fun _ => fun
  | [d] => { results := [.lit (.bool true)], args := [d] }
  | _ => none }
def fnCloneSetRow : OpenClaim := { program := "ytlnbbkegdlkpfaa", sum := "81c8e9c3111b9b5ce9147060a4ec05192076698097fcc7a5fe9f0566e361964a", func := "loop.example/lib-comparemaps/laws.FnCloneSet", spec := "fnCloneSet", inPlace := ["maps.clone"], apart := false }
def FnCloneSetSaid : Prop := fnCloneSetRow.holds Try.pinned (OpenSpec.ofChange fnCloneSetSpec)

/-- ITS FALSE NEIGHBOUR: 'it returns false'. Refute it at one input. -/
def fnCloneSetWrong : ChangeSpec := { name := "fnCloneSet", fn := fun _ => fun
  | [d] => { results := [.lit (.bool false)], args := [d] }
  | _ => none }
def FnCloneSetWrongFalsely : Prop := fnCloneSetRow.holds Try.pinned (OpenSpec.ofChange fnCloneSetWrong)

/- THE SECOND FORM. 'bulk': how many values and letters a reading holds, each counted each time it is reached (what is shared counts as often as it is met; a slice's spare places count too). A statement '..UptoSaid' is the law's where the arguments, and the package variables that the reading takes, are together of bulk at most 1048576: NARROWER than '..Said'. Prove '..Said' where nothing that the law and all that it calls make is longer than what came in: it says more and counts as full. Else prove '..UptoSaid'. A law counts once. -/
mutual
def uptoBulk {H : Type} : DataW H → Nat
  | .lit (.string bytes) => bytes.length + 1
  | .lit _ => 1
  | .nil => 1
  | .ptr d => uptoBulk d + 1
  | .slice elems spare => uptoBulkAll elems + uptoBulkAll spare + 1
  | .agg parts => uptoBulkAll parts + 1
  | .iface _ d => uptoBulk d + 1
  | .map entries => uptoBulkEntries entries + 1
  | .held _ => 1
def uptoBulkAll {H : Type} : List (DataW H) → Nat
  | [] => 0
  | d :: r => uptoBulk d + uptoBulkAll r
def uptoBulkEntries {H : Type} : List (Lit × DataW H) → Nat
  | [] => 0
  | x :: r => uptoBulkEntry x + uptoBulkEntries r
def uptoBulkEntry {H : Type} : Lit × DataW H → Nat
  | (.string bytes, d) => bytes.length + uptoBulk d + 1
  | (_, d) => uptoBulk d + 1
 end
def uptoSmall : (H : Type) → List (DataW H) → Bool := fun _ ds => decide (uptoBulkAll ds ≤ 1048576)
def OpenSpec.upto (s : _root_.Go.ChangeSpec) : _root_.Go.OpenSpec := { _root_.Go.OpenSpec.ofChange s with cond := some uptoSmall }

/-- 'laws.FnEqual', WHERE WHAT IT READS IS OF BULK AT MOST 1048576: true; the input reads as it did. -/
def fnEqualUptoRow : OpenClaim := { program := "ytlnbbkegdlkpfaa", sum := "81c8e9c3111b9b5ce9147060a4ec05192076698097fcc7a5fe9f0566e361964a", func := "loop.example/lib-comparemaps/laws.FnEqual", spec := "fnEqual", apart := false, narrowed := true }
def FnEqualUptoSaid : Prop := fnEqualUptoRow.holds Try.pinned (OpenSpec.upto fnEqualSpec)

/-- 'laws.FnEqualChain', WHERE WHAT IT READS IS OF BULK AT MOST 1048576: true; the input reads as it did. -/
def fnEqualChainUptoRow : OpenClaim := { program := "ytlnbbkegdlkpfaa", sum := "81c8e9c3111b9b5ce9147060a4ec05192076698097fcc7a5fe9f0566e361964a", func := "loop.example/lib-comparemaps/laws.FnEqualChain", spec := "fnEqualChain", apart := false, narrowed := true }
def FnEqualChainUptoSaid : Prop := fnEqualChainUptoRow.holds Try.pinned (OpenSpec.upto fnEqualChainSpec)

/-- 'laws.FnSetClone', WHERE WHAT IT READS IS OF BULK AT MOST 1048576: true; the input reads as it did. -/
def fnSetCloneUptoRow : OpenClaim := { program := "ytlnbbkegdlkpfaa", sum := "81c8e9c3111b9b5ce9147060a4ec05192076698097fcc7a5fe9f0566e361964a", func := "loop.example/lib-comparemaps/laws.FnSetClone", spec := "fnSetClone", inPlace := ["maps.clone"], apart := false, narrowed := true }
def FnSetCloneUptoSaid : Prop := fnSetCloneUptoRow.holds Try.pinned (OpenSpec.upto fnSetCloneSpec)

/-- 'laws.FnEqualChanged', WHERE WHAT IT READS IS OF BULK AT MOST 1048576: true; the input reads as it did. -/
def fnEqualChangedUptoRow : OpenClaim := { program := "ytlnbbkegdlkpfaa", sum := "81c8e9c3111b9b5ce9147060a4ec05192076698097fcc7a5fe9f0566e361964a", func := "loop.example/lib-comparemaps/laws.FnEqualChanged", spec := "fnEqualChanged", apart := false, narrowed := true }
def FnEqualChangedUptoSaid : Prop := fnEqualChangedUptoRow.holds Try.pinned (OpenSpec.upto fnEqualChangedSpec)

/-- 'laws.FnEqualSelf', WHERE WHAT IT READS IS OF BULK AT MOST 1048576: true; the input reads as it did. -/
def fnEqualSelfUptoRow : OpenClaim := { program := "ytlnbbkegdlkpfaa", sum := "81c8e9c3111b9b5ce9147060a4ec05192076698097fcc7a5fe9f0566e361964a", func := "loop.example/lib-comparemaps/laws.FnEqualSelf", spec := "fnEqualSelf", apart := false, narrowed := true }
def FnEqualSelfUptoSaid : Prop := fnEqualSelfUptoRow.holds Try.pinned (OpenSpec.upto fnEqualSelfSpec)

/-- 'laws.FnCopy', WHERE WHAT IT READS IS OF BULK AT MOST 1048576: true; the input reads as it did. -/
def fnCopyUptoRow : OpenClaim := { program := "ytlnbbkegdlkpfaa", sum := "81c8e9c3111b9b5ce9147060a4ec05192076698097fcc7a5fe9f0566e361964a", func := "loop.example/lib-comparemaps/laws.FnCopy", spec := "fnCopy", apart := false, narrowed := true }
def FnCopyUptoSaid : Prop := fnCopyUptoRow.holds Try.pinned (OpenSpec.upto fnCopySpec)

/-- 'laws.FnCopyAt', WHERE WHAT IT READS IS OF BULK AT MOST 1048576: true; the input reads as it did. -/
def fnCopyAtUptoRow : OpenClaim := { program := "ytlnbbkegdlkpfaa", sum := "81c8e9c3111b9b5ce9147060a4ec05192076698097fcc7a5fe9f0566e361964a", func := "loop.example/lib-comparemaps/laws.FnCopyAt", spec := "fnCopyAt", apart := false, narrowed := true }
def FnCopyAtUptoSaid : Prop := fnCopyAtUptoRow.holds Try.pinned (OpenSpec.upto fnCopyAtSpec)

/-- 'laws.FnCopyChain', WHERE WHAT IT READS IS OF BULK AT MOST 1048576: true; the input reads as it did. -/
def fnCopyChainUptoRow : OpenClaim := { program := "ytlnbbkegdlkpfaa", sum := "81c8e9c3111b9b5ce9147060a4ec05192076698097fcc7a5fe9f0566e361964a", func := "loop.example/lib-comparemaps/laws.FnCopyChain", spec := "fnCopyChain", apart := false, narrowed := true }
def FnCopyChainUptoSaid : Prop := fnCopyChainUptoRow.holds Try.pinned (OpenSpec.upto fnCopyChainSpec)

/-- 'laws.FnCopyTwice', WHERE WHAT IT READS IS OF BULK AT MOST 1048576: true; the input reads as it did. -/
def fnCopyTwiceUptoRow : OpenClaim := { program := "ytlnbbkegdlkpfaa", sum := "81c8e9c3111b9b5ce9147060a4ec05192076698097fcc7a5fe9f0566e361964a", func := "loop.example/lib-comparemaps/laws.FnCopyTwice", spec := "fnCopyTwice", apart := false, narrowed := true }
def FnCopyTwiceUptoSaid : Prop := fnCopyTwiceUptoRow.holds Try.pinned (OpenSpec.upto fnCopyTwiceSpec)

/-- 'laws.FnClone', WHERE WHAT IT READS IS OF BULK AT MOST 1048576: true; the input reads as it did. -/
def fnCloneUptoRow : OpenClaim := { program := "ytlnbbkegdlkpfaa", sum := "81c8e9c3111b9b5ce9147060a4ec05192076698097fcc7a5fe9f0566e361964a", func := "loop.example/lib-comparemaps/laws.FnClone", spec := "fnClone", inPlace := ["maps.clone"], apart := false, narrowed := true }
def FnCloneUptoSaid : Prop := fnCloneUptoRow.holds Try.pinned (OpenSpec.upto fnCloneSpec)

/-- 'laws.FnCopyNone', WHERE WHAT IT READS IS OF BULK AT MOST 1048576: true; the input reads as it did. -/
def fnCopyNoneUptoRow : OpenClaim := { program := "ytlnbbkegdlkpfaa", sum := "81c8e9c3111b9b5ce9147060a4ec05192076698097fcc7a5fe9f0566e361964a", func := "loop.example/lib-comparemaps/laws.FnCopyNone", spec := "fnCopyNone", apart := false, narrowed := true }
def FnCopyNoneUptoSaid : Prop := fnCopyNoneUptoRow.holds Try.pinned (OpenSpec.upto fnCopyNoneSpec)

/-- 'laws.FnCloneSet', WHERE WHAT IT READS IS OF BULK AT MOST 1048576: true; the input reads as it did. -/
def fnCloneSetUptoRow : OpenClaim := { program := "ytlnbbkegdlkpfaa", sum := "81c8e9c3111b9b5ce9147060a4ec05192076698097fcc7a5fe9f0566e361964a", func := "loop.example/lib-comparemaps/laws.FnCloneSet", spec := "fnCloneSet", inPlace := ["maps.clone"], apart := false, narrowed := true }
def FnCloneSetUptoSaid : Prop := fnCloneSetUptoRow.holds Try.pinned (OpenSpec.upto fnCloneSetSpec)

end Rows
end Go.Proofs.Ytlnbbkegdlkpfaa
