/-
  No cell of these rows narrows 'for every input' (looked for: loops, veiled, ifaces, maps, wideKeys, modest, calm, conditions, laid).
  DERIVED. THE GIVEN ROWS OF THIS SEAT. 11 by the template 'for every input the law returns true; each argument reads behind the call as it read before'; 0 by the template 'total and deterministic' (their statements: YtgmeaedpbcimjaaTotals.lean).
  GIVEN WITH THE SEED: the statements are not yours to turn. If you find one false, say at which input.
  Laid BY PROGRAM, IN A SANDBOX (cutbox-rows.mjs): the forced cells as the released guide's own fill.sh prints them over the translation bbc433fb202a197f… (all of the seat's roots in one cut). By AI agents, Wed Nov 11 2026. No macro, syntax, notation, axiom, sorry.
-/
import Derived.Test.YtgmeaedpbcimjaaChecked
import GoSem.Claim
import GoSem.ClaimJoined
import GoSem.ClaimMapViews
import Derived.JoinedTies
import Derived.KernelRfl
namespace Go.Proofs.Ytgmeaedpbcimjaa
/- THE CELL 'sum', in the pinned program and in every row, IS THE sha256 OF THE DUMP (.gsa) THAT YtgmeaedpbcimjaaProg.lean LOADS. Nothing in Lean hashes anything: it is a label: what it is worth is what the hold of that sum in a sandbox is worth. -/
noncomputable def Try.pinned : Pinned := { name := "ytgmeaedpbcimjaa", sum := "bbc433fb202a197f0d2c52639b6479353aee26ffa7f5b0a4fe442258a0e57d0b", checked := Try.checked }
namespace Rows
def none {H : Type} : Left H := { results := [], args := [] }

/-- 'laws.FnCopyTurned': WHATEVER THE INPUT: true; the input reads as it did. -/
def fnCopyTurnedSpec : ChangeSpec := { name := "fnCopyTurned", fn := fun _ => fun
  | [d] => { results := [.lit (.bool true)], args := [d] }
  | _ => none }
def fnCopyTurnedRow : OpenClaim := { program := "ytgmeaedpbcimjaa", sum := "bbc433fb202a197f0d2c52639b6479353aee26ffa7f5b0a4fe442258a0e57d0b", func := "loop.example/lib-comparemaps/laws.FnCopyTurned", spec := "fnCopyTurned", plainKeys := false, apart := false }
def FnCopyTurnedSaid : Prop := fnCopyTurnedRow.holds Try.pinned (OpenSpec.ofChange fnCopyTurnedSpec)

/-- ITS FALSE NEIGHBOUR: 'it returns false'. Refute it at one input. -/
def fnCopyTurnedWrong : ChangeSpec := { name := "fnCopyTurned", fn := fun _ => fun
  | [d] => { results := [.lit (.bool false)], args := [d] }
  | _ => none }
def FnCopyTurnedWrongFalsely : Prop := fnCopyTurnedRow.holds Try.pinned (OpenSpec.ofChange fnCopyTurnedWrong)

/-- 'laws.FnDeleteFuncNone': WHATEVER THE INPUT: true; the input reads as it did. -/
def fnDeleteFuncNoneSpec : ChangeSpec := { name := "fnDeleteFuncNone", fn := fun _ => fun
  | [d] => { results := [.lit (.bool true)], args := [d] }
  | _ => none }
def fnDeleteFuncNoneRow : OpenClaim := { program := "ytgmeaedpbcimjaa", sum := "bbc433fb202a197f0d2c52639b6479353aee26ffa7f5b0a4fe442258a0e57d0b", func := "loop.example/lib-comparemaps/laws.FnDeleteFuncNone", spec := "fnDeleteFuncNone", inPlace := ["maps.clone"], unfollowed := true, recurses := true, plainKeys := false, apart := false }
def FnDeleteFuncNoneSaid : Prop := fnDeleteFuncNoneRow.holds Try.pinned (OpenSpec.ofChange fnDeleteFuncNoneSpec)

/-- ITS FALSE NEIGHBOUR: 'it returns false'. Refute it at one input. -/
def fnDeleteFuncNoneWrong : ChangeSpec := { name := "fnDeleteFuncNone", fn := fun _ => fun
  | [d] => { results := [.lit (.bool false)], args := [d] }
  | _ => none }
def FnDeleteFuncNoneWrongFalsely : Prop := fnDeleteFuncNoneRow.holds Try.pinned (OpenSpec.ofChange fnDeleteFuncNoneWrong)

/-- 'laws.FnDeleteFuncCopy': WHATEVER THE INPUT: true; the input reads as it did. -/
def fnDeleteFuncCopySpec : ChangeSpec := { name := "fnDeleteFuncCopy", fn := fun _ => fun
  | [d] => { results := [.lit (.bool true)], args := [d] }
  | _ => none }
def fnDeleteFuncCopyRow : OpenClaim := { program := "ytgmeaedpbcimjaa", sum := "bbc433fb202a197f0d2c52639b6479353aee26ffa7f5b0a4fe442258a0e57d0b", func := "loop.example/lib-comparemaps/laws.FnDeleteFuncCopy", spec := "fnDeleteFuncCopy", inPlace := ["maps.clone"], unfollowed := true, recurses := true, plainKeys := false, apart := false }
def FnDeleteFuncCopySaid : Prop := fnDeleteFuncCopyRow.holds Try.pinned (OpenSpec.ofChange fnDeleteFuncCopySpec)

/-- ITS FALSE NEIGHBOUR: 'it returns false'. Refute it at one input. -/
def fnDeleteFuncCopyWrong : ChangeSpec := { name := "fnDeleteFuncCopy", fn := fun _ => fun
  | [d] => { results := [.lit (.bool false)], args := [d] }
  | _ => none }
def FnDeleteFuncCopyWrongFalsely : Prop := fnDeleteFuncCopyRow.holds Try.pinned (OpenSpec.ofChange fnDeleteFuncCopyWrong)

/-- 'laws.FnEqualFunc': WHATEVER THE INPUT: true; the input reads as it did. -/
def fnEqualFuncSpec : ChangeSpec := { name := "fnEqualFunc", fn := fun _ => fun
  | [d] => { results := [.lit (.bool true)], args := [d] }
  | _ => none }
def fnEqualFuncRow : OpenClaim := { program := "ytgmeaedpbcimjaa", sum := "bbc433fb202a197f0d2c52639b6479353aee26ffa7f5b0a4fe442258a0e57d0b", func := "loop.example/lib-comparemaps/laws.FnEqualFunc", spec := "fnEqualFunc", unfollowed := true, recurses := true, plainKeys := false, apart := false }
def FnEqualFuncSaid : Prop := fnEqualFuncRow.holds Try.pinned (OpenSpec.ofChange fnEqualFuncSpec)

/-- ITS FALSE NEIGHBOUR: 'it returns false'. Refute it at one input. -/
def fnEqualFuncWrong : ChangeSpec := { name := "fnEqualFunc", fn := fun _ => fun
  | [d] => { results := [.lit (.bool false)], args := [d] }
  | _ => none }
def FnEqualFuncWrongFalsely : Prop := fnEqualFuncRow.holds Try.pinned (OpenSpec.ofChange fnEqualFuncWrong)

/-- 'laws.FnEqualFuncAll': WHATEVER THE INPUT: true; the input reads as it did. -/
def fnEqualFuncAllSpec : ChangeSpec := { name := "fnEqualFuncAll", fn := fun _ => fun
  | [d] => { results := [.lit (.bool true)], args := [d] }
  | _ => none }
def fnEqualFuncAllRow : OpenClaim := { program := "ytgmeaedpbcimjaa", sum := "bbc433fb202a197f0d2c52639b6479353aee26ffa7f5b0a4fe442258a0e57d0b", func := "loop.example/lib-comparemaps/laws.FnEqualFuncAll", spec := "fnEqualFuncAll", unfollowed := true, recurses := true, plainKeys := false, apart := false }
def FnEqualFuncAllSaid : Prop := fnEqualFuncAllRow.holds Try.pinned (OpenSpec.ofChange fnEqualFuncAllSpec)

/-- ITS FALSE NEIGHBOUR: 'it returns false'. Refute it at one input. -/
def fnEqualFuncAllWrong : ChangeSpec := { name := "fnEqualFuncAll", fn := fun _ => fun
  | [d] => { results := [.lit (.bool false)], args := [d] }
  | _ => none }
def FnEqualFuncAllWrongFalsely : Prop := fnEqualFuncAllRow.holds Try.pinned (OpenSpec.ofChange fnEqualFuncAllWrong)

/-- 'laws.FnEqualFuncMore': WHATEVER THE INPUT: true; the input reads as it did. -/
def fnEqualFuncMoreSpec : ChangeSpec := { name := "fnEqualFuncMore", fn := fun _ => fun
  | [d] => { results := [.lit (.bool true)], args := [d] }
  | _ => none }
def fnEqualFuncMoreRow : OpenClaim := { program := "ytgmeaedpbcimjaa", sum := "bbc433fb202a197f0d2c52639b6479353aee26ffa7f5b0a4fe442258a0e57d0b", func := "loop.example/lib-comparemaps/laws.FnEqualFuncMore", spec := "fnEqualFuncMore", unfollowed := true, recurses := true, plainKeys := false, apart := false }
def FnEqualFuncMoreSaid : Prop := fnEqualFuncMoreRow.holds Try.pinned (OpenSpec.ofChange fnEqualFuncMoreSpec)

/-- ITS FALSE NEIGHBOUR: 'it returns false'. Refute it at one input. -/
def fnEqualFuncMoreWrong : ChangeSpec := { name := "fnEqualFuncMore", fn := fun _ => fun
  | [d] => { results := [.lit (.bool false)], args := [d] }
  | _ => none }
def FnEqualFuncMoreWrongFalsely : Prop := fnEqualFuncMoreRow.holds Try.pinned (OpenSpec.ofChange fnEqualFuncMoreWrong)

/-- 'laws.FnEqualFuncTurned': WHATEVER THE INPUT: true; the input reads as it did. -/
def fnEqualFuncTurnedSpec : ChangeSpec := { name := "fnEqualFuncTurned", fn := fun _ => fun
  | [d] => { results := [.lit (.bool true)], args := [d] }
  | _ => none }
def fnEqualFuncTurnedRow : OpenClaim := { program := "ytgmeaedpbcimjaa", sum := "bbc433fb202a197f0d2c52639b6479353aee26ffa7f5b0a4fe442258a0e57d0b", func := "loop.example/lib-comparemaps/laws.FnEqualFuncTurned", spec := "fnEqualFuncTurned", unfollowed := true, recurses := true, plainKeys := false, apart := false }
def FnEqualFuncTurnedSaid : Prop := fnEqualFuncTurnedRow.holds Try.pinned (OpenSpec.ofChange fnEqualFuncTurnedSpec)

/-- ITS FALSE NEIGHBOUR: 'it returns false'. Refute it at one input. -/
def fnEqualFuncTurnedWrong : ChangeSpec := { name := "fnEqualFuncTurned", fn := fun _ => fun
  | [d] => { results := [.lit (.bool false)], args := [d] }
  | _ => none }
def FnEqualFuncTurnedWrongFalsely : Prop := fnEqualFuncTurnedRow.holds Try.pinned (OpenSpec.ofChange fnEqualFuncTurnedWrong)

/-- 'laws.FnDeleteFunc': WHATEVER THE INPUT: true; the input reads as it did. -/
def fnDeleteFuncSpec : ChangeSpec := { name := "fnDeleteFunc", fn := fun _ => fun
  | [d] => { results := [.lit (.bool true)], args := [d] }
  | _ => none }
def fnDeleteFuncRow : OpenClaim := { program := "ytgmeaedpbcimjaa", sum := "bbc433fb202a197f0d2c52639b6479353aee26ffa7f5b0a4fe442258a0e57d0b", func := "loop.example/lib-comparemaps/laws.FnDeleteFunc", spec := "fnDeleteFunc", unfollowed := true, recurses := true, plainKeys := false, apart := false }
def FnDeleteFuncSaid : Prop := fnDeleteFuncRow.holds Try.pinned (OpenSpec.ofChange fnDeleteFuncSpec)

/-- ITS FALSE NEIGHBOUR: 'it returns false'. Refute it at one input. -/
def fnDeleteFuncWrong : ChangeSpec := { name := "fnDeleteFunc", fn := fun _ => fun
  | [d] => { results := [.lit (.bool false)], args := [d] }
  | _ => none }
def FnDeleteFuncWrongFalsely : Prop := fnDeleteFuncRow.holds Try.pinned (OpenSpec.ofChange fnDeleteFuncWrong)

/-- 'laws.FnDeleteFuncTwice': WHATEVER THE INPUT: true; the input reads as it did. -/
def fnDeleteFuncTwiceSpec : ChangeSpec := { name := "fnDeleteFuncTwice", fn := fun _ => fun
  | [d] => { results := [.lit (.bool true)], args := [d] }
  | _ => none }
def fnDeleteFuncTwiceRow : OpenClaim := { program := "ytgmeaedpbcimjaa", sum := "bbc433fb202a197f0d2c52639b6479353aee26ffa7f5b0a4fe442258a0e57d0b", func := "loop.example/lib-comparemaps/laws.FnDeleteFuncTwice", spec := "fnDeleteFuncTwice", unfollowed := true, recurses := true, plainKeys := false, apart := false }
def FnDeleteFuncTwiceSaid : Prop := fnDeleteFuncTwiceRow.holds Try.pinned (OpenSpec.ofChange fnDeleteFuncTwiceSpec)

/-- ITS FALSE NEIGHBOUR: 'it returns false'. Refute it at one input. -/
def fnDeleteFuncTwiceWrong : ChangeSpec := { name := "fnDeleteFuncTwice", fn := fun _ => fun
  | [d] => { results := [.lit (.bool false)], args := [d] }
  | _ => none }
def FnDeleteFuncTwiceWrongFalsely : Prop := fnDeleteFuncTwiceRow.holds Try.pinned (OpenSpec.ofChange fnDeleteFuncTwiceWrong)

/-- 'laws.FnEqualFuncSame': WHATEVER THE INPUT: true; the input reads as it did. -/
def fnEqualFuncSameSpec : ChangeSpec := { name := "fnEqualFuncSame", fn := fun _ => fun
  | [d] => { results := [.lit (.bool true)], args := [d] }
  | _ => none }
def fnEqualFuncSameRow : OpenClaim := { program := "ytgmeaedpbcimjaa", sum := "bbc433fb202a197f0d2c52639b6479353aee26ffa7f5b0a4fe442258a0e57d0b", func := "loop.example/lib-comparemaps/laws.FnEqualFuncSame", spec := "fnEqualFuncSame", unfollowed := true, recurses := true, plainKeys := false, apart := false }
def FnEqualFuncSameSaid : Prop := fnEqualFuncSameRow.holds Try.pinned (OpenSpec.ofChange fnEqualFuncSameSpec)

/-- ITS FALSE NEIGHBOUR: 'it returns false'. Refute it at one input. -/
def fnEqualFuncSameWrong : ChangeSpec := { name := "fnEqualFuncSame", fn := fun _ => fun
  | [d] => { results := [.lit (.bool false)], args := [d] }
  | _ => none }
def FnEqualFuncSameWrongFalsely : Prop := fnEqualFuncSameRow.holds Try.pinned (OpenSpec.ofChange fnEqualFuncSameWrong)

/-- 'laws.FnDeleteFuncGone': WHATEVER THE INPUT: true; the input reads as it did. -/
def fnDeleteFuncGoneSpec : ChangeSpec := { name := "fnDeleteFuncGone", fn := fun _ => fun
  | [d] => { results := [.lit (.bool true)], args := [d] }
  | _ => none }
def fnDeleteFuncGoneRow : OpenClaim := { program := "ytgmeaedpbcimjaa", sum := "bbc433fb202a197f0d2c52639b6479353aee26ffa7f5b0a4fe442258a0e57d0b", func := "loop.example/lib-comparemaps/laws.FnDeleteFuncGone", spec := "fnDeleteFuncGone", inPlace := ["maps.clone"], unfollowed := true, recurses := true, plainKeys := false, apart := false }
def FnDeleteFuncGoneSaid : Prop := fnDeleteFuncGoneRow.holds Try.pinned (OpenSpec.ofChange fnDeleteFuncGoneSpec)

/-- ITS FALSE NEIGHBOUR: 'it returns false'. Refute it at one input. -/
def fnDeleteFuncGoneWrong : ChangeSpec := { name := "fnDeleteFuncGone", fn := fun _ => fun
  | [d] => { results := [.lit (.bool false)], args := [d] }
  | _ => none }
def FnDeleteFuncGoneWrongFalsely : Prop := fnDeleteFuncGoneRow.holds Try.pinned (OpenSpec.ofChange fnDeleteFuncGoneWrong)

/- THE SECOND FORM. 'bulk': how many values and letters a reading holds, each counted each time it is reached (what is shared counts as often as it is met; a slice's spare places count too). A statement '..UptoSaid' is the law's where the arguments, and the package variables that the reading takes, are together of bulk at most 1048576: NARROWER than '..Said'. Prove '..Said' where nothing that the law and all that it calls make is longer than what came in: it says more and counts as full. Else prove '..UptoSaid'. A law counts once. -/
mutual
def uptoBulk {H : Type} : DataW H → Nat
  | .lit (.string bytes) => bytes.length + 1
  | .lit _ => 1
  | .nil => 1
  | .ptr d => uptoBulk d + 1
  | .slice elems spare => uptoBulkAll elems + uptoBulkAll spare + 1
  | .agg parts => uptoBulkAll parts + 1
  | .iface _ d => uptoBulk d + 1
  | .map entries => uptoBulkEntries entries + 1
  | .held _ => 1
def uptoBulkAll {H : Type} : List (DataW H) → Nat
  | [] => 0
  | d :: r => uptoBulk d + uptoBulkAll r
def uptoBulkEntries {H : Type} : List (Lit × DataW H) → Nat
  | [] => 0
  | x :: r => uptoBulkEntry x + uptoBulkEntries r
def uptoBulkEntry {H : Type} : Lit × DataW H → Nat
  | (.string bytes, d) => bytes.length + uptoBulk d + 1
  | (_, d) => uptoBulk d + 1
 end
def uptoSmall : (H : Type) → List (DataW H) → Bool := fun _ ds => decide (uptoBulkAll ds ≤ 1048576)
def OpenSpec.upto (s : _root_.Go.ChangeSpec) : _root_.Go.OpenSpec := { _root_.Go.OpenSpec.ofChange s with cond := some uptoSmall }

/-- 'laws.FnCopyTurned', WHERE WHAT IT READS IS OF BULK AT MOST 1048576: true; the input reads as it did. -/
def fnCopyTurnedUptoRow : OpenClaim := { program := "ytgmeaedpbcimjaa", sum := "bbc433fb202a197f0d2c52639b6479353aee26ffa7f5b0a4fe442258a0e57d0b", func := "loop.example/lib-comparemaps/laws.FnCopyTurned", spec := "fnCopyTurned", plainKeys := false, apart := false, narrowed := true }
def FnCopyTurnedUptoSaid : Prop := fnCopyTurnedUptoRow.holds Try.pinned (OpenSpec.upto fnCopyTurnedSpec)

/-- 'laws.FnDeleteFuncNone', WHERE WHAT IT READS IS OF BULK AT MOST 1048576: true; the input reads as it did. -/
def fnDeleteFuncNoneUptoRow : OpenClaim := { program := "ytgmeaedpbcimjaa", sum := "bbc433fb202a197f0d2c52639b6479353aee26ffa7f5b0a4fe442258a0e57d0b", func := "loop.example/lib-comparemaps/laws.FnDeleteFuncNone", spec := "fnDeleteFuncNone", inPlace := ["maps.clone"], unfollowed := true, recurses := true, plainKeys := false, apart := false, narrowed := true }
def FnDeleteFuncNoneUptoSaid : Prop := fnDeleteFuncNoneUptoRow.holds Try.pinned (OpenSpec.upto fnDeleteFuncNoneSpec)

/-- 'laws.FnDeleteFuncCopy', WHERE WHAT IT READS IS OF BULK AT MOST 1048576: true; the input reads as it did. -/
def fnDeleteFuncCopyUptoRow : OpenClaim := { program := "ytgmeaedpbcimjaa", sum := "bbc433fb202a197f0d2c52639b6479353aee26ffa7f5b0a4fe442258a0e57d0b", func := "loop.example/lib-comparemaps/laws.FnDeleteFuncCopy", spec := "fnDeleteFuncCopy", inPlace := ["maps.clone"], unfollowed := true, recurses := true, plainKeys := false, apart := false, narrowed := true }
def FnDeleteFuncCopyUptoSaid : Prop := fnDeleteFuncCopyUptoRow.holds Try.pinned (OpenSpec.upto fnDeleteFuncCopySpec)

/-- 'laws.FnEqualFunc', WHERE WHAT IT READS IS OF BULK AT MOST 1048576: true; the input reads as it did. -/
def fnEqualFuncUptoRow : OpenClaim := { program := "ytgmeaedpbcimjaa", sum := "bbc433fb202a197f0d2c52639b6479353aee26ffa7f5b0a4fe442258a0e57d0b", func := "loop.example/lib-comparemaps/laws.FnEqualFunc", spec := "fnEqualFunc", unfollowed := true, recurses := true, plainKeys := false, apart := false, narrowed := true }
def FnEqualFuncUptoSaid : Prop := fnEqualFuncUptoRow.holds Try.pinned (OpenSpec.upto fnEqualFuncSpec)

/-- 'laws.FnEqualFuncAll', WHERE WHAT IT READS IS OF BULK AT MOST 1048576: true; the input reads as it did. -/
def fnEqualFuncAllUptoRow : OpenClaim := { program := "ytgmeaedpbcimjaa", sum := "bbc433fb202a197f0d2c52639b6479353aee26ffa7f5b0a4fe442258a0e57d0b", func := "loop.example/lib-comparemaps/laws.FnEqualFuncAll", spec := "fnEqualFuncAll", unfollowed := true, recurses := true, plainKeys := false, apart := false, narrowed := true }
def FnEqualFuncAllUptoSaid : Prop := fnEqualFuncAllUptoRow.holds Try.pinned (OpenSpec.upto fnEqualFuncAllSpec)

/-- 'laws.FnEqualFuncMore', WHERE WHAT IT READS IS OF BULK AT MOST 1048576: true; the input reads as it did. -/
def fnEqualFuncMoreUptoRow : OpenClaim := { program := "ytgmeaedpbcimjaa", sum := "bbc433fb202a197f0d2c52639b6479353aee26ffa7f5b0a4fe442258a0e57d0b", func := "loop.example/lib-comparemaps/laws.FnEqualFuncMore", spec := "fnEqualFuncMore", unfollowed := true, recurses := true, plainKeys := false, apart := false, narrowed := true }
def FnEqualFuncMoreUptoSaid : Prop := fnEqualFuncMoreUptoRow.holds Try.pinned (OpenSpec.upto fnEqualFuncMoreSpec)

/-- 'laws.FnEqualFuncTurned', WHERE WHAT IT READS IS OF BULK AT MOST 1048576: true; the input reads as it did. -/
def fnEqualFuncTurnedUptoRow : OpenClaim := { program := "ytgmeaedpbcimjaa", sum := "bbc433fb202a197f0d2c52639b6479353aee26ffa7f5b0a4fe442258a0e57d0b", func := "loop.example/lib-comparemaps/laws.FnEqualFuncTurned", spec := "fnEqualFuncTurned", unfollowed := true, recurses := true, plainKeys := false, apart := false, narrowed := true }
def FnEqualFuncTurnedUptoSaid : Prop := fnEqualFuncTurnedUptoRow.holds Try.pinned (OpenSpec.upto fnEqualFuncTurnedSpec)

/-- 'laws.FnDeleteFunc', WHERE WHAT IT READS IS OF BULK AT MOST 1048576: true; the input reads as it did. -/
def fnDeleteFuncUptoRow : OpenClaim := { program := "ytgmeaedpbcimjaa", sum := "bbc433fb202a197f0d2c52639b6479353aee26ffa7f5b0a4fe442258a0e57d0b", func := "loop.example/lib-comparemaps/laws.FnDeleteFunc", spec := "fnDeleteFunc", unfollowed := true, recurses := true, plainKeys := false, apart := false, narrowed := true }
def FnDeleteFuncUptoSaid : Prop := fnDeleteFuncUptoRow.holds Try.pinned (OpenSpec.upto fnDeleteFuncSpec)

/-- 'laws.FnDeleteFuncTwice', WHERE WHAT IT READS IS OF BULK AT MOST 1048576: true; the input reads as it did. -/
def fnDeleteFuncTwiceUptoRow : OpenClaim := { program := "ytgmeaedpbcimjaa", sum := "bbc433fb202a197f0d2c52639b6479353aee26ffa7f5b0a4fe442258a0e57d0b", func := "loop.example/lib-comparemaps/laws.FnDeleteFuncTwice", spec := "fnDeleteFuncTwice", unfollowed := true, recurses := true, plainKeys := false, apart := false, narrowed := true }
def FnDeleteFuncTwiceUptoSaid : Prop := fnDeleteFuncTwiceUptoRow.holds Try.pinned (OpenSpec.upto fnDeleteFuncTwiceSpec)

/-- 'laws.FnEqualFuncSame', WHERE WHAT IT READS IS OF BULK AT MOST 1048576: true; the input reads as it did. -/
def fnEqualFuncSameUptoRow : OpenClaim := { program := "ytgmeaedpbcimjaa", sum := "bbc433fb202a197f0d2c52639b6479353aee26ffa7f5b0a4fe442258a0e57d0b", func := "loop.example/lib-comparemaps/laws.FnEqualFuncSame", spec := "fnEqualFuncSame", unfollowed := true, recurses := true, plainKeys := false, apart := false, narrowed := true }
def FnEqualFuncSameUptoSaid : Prop := fnEqualFuncSameUptoRow.holds Try.pinned (OpenSpec.upto fnEqualFuncSameSpec)

/-- 'laws.FnDeleteFuncGone', WHERE WHAT IT READS IS OF BULK AT MOST 1048576: true; the input reads as it did. -/
def fnDeleteFuncGoneUptoRow : OpenClaim := { program := "ytgmeaedpbcimjaa", sum := "bbc433fb202a197f0d2c52639b6479353aee26ffa7f5b0a4fe442258a0e57d0b", func := "loop.example/lib-comparemaps/laws.FnDeleteFuncGone", spec := "fnDeleteFuncGone", inPlace := ["maps.clone"], unfollowed := true, recurses := true, plainKeys := false, apart := false, narrowed := true }
def FnDeleteFuncGoneUptoSaid : Prop := fnDeleteFuncGoneUptoRow.holds Try.pinned (OpenSpec.upto fnDeleteFuncGoneSpec)

end Rows
end Go.Proofs.Ytgmeaedpbcimjaa
