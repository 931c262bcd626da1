/-
  No cell of these rows narrows 'for every input' (looked for: loops, veiled, ifaces, maps, wideKeys, modest, calm, conditions, laid).
  DERIVED. THE GIVEN ROWS OF THIS SEAT. 8 by the template 'for every input the law returns true; each argument reads behind the call as it read before'; 0 by the template 'total and deterministic' (their statements: YtjbjdpahnnkgmaaTotals.lean).
  GIVEN WITH THE SEED: the statements are not yours to turn. If you find one false, say at which input.
  Laid BY PROGRAM, IN A SANDBOX (cutbox-rows.mjs): the forced cells as the released guide's own fill.sh prints them over the translation d74e0724cb39f092… (all of the seat's roots in one cut). By AI agents, Wed Nov 11 2026. No macro, syntax, notation, axiom, sorry.
-/
import Derived.Test.YtjbjdpahnnkgmaaChecked
import GoSem.Claim
import GoSem.ClaimJoined
import GoSem.ClaimMapViews
import Derived.JoinedTies
import Derived.KernelRfl
namespace Go.Proofs.Ytjbjdpahnnkgmaa
/- THE CELL 'sum', in the pinned program and in every row, IS THE sha256 OF THE DUMP (.gsa) THAT YtjbjdpahnnkgmaaProg.lean LOADS. Nothing in Lean hashes anything: it is a label: what it is worth is what the hold of that sum in a sandbox is worth. -/
noncomputable def Try.pinned : Pinned := { name := "ytjbjdpahnnkgmaa", sum := "d74e0724cb39f09246a7937df84e82f396b492343de21c1d1158f3967148223b", checked := Try.checked }
namespace Rows
def none {H : Type} : Left H := { results := [], args := [] }

/-- 'laws.FnLessOn': WHATEVER THE INPUT: true; the input reads as it did. -/
def fnLessOnSpec : ChangeSpec := { name := "fnLessOn", fn := fun _ => fun
  | [d] => { results := [.lit (.bool true)], args := [d] }
  | _ => none }
def fnLessOnRow : OpenClaim := { program := "ytjbjdpahnnkgmaa", sum := "d74e0724cb39f09246a7937df84e82f396b492343de21c1d1158f3967148223b", func := "loop.example/lib-steadybytes/laws.FnLessOn", spec := "fnLessOn", inPlace := ["crypto/internal/constanttime.boolToUint8"], apart := false }
def FnLessOnSaid : Prop := fnLessOnRow.holds Try.pinned (OpenSpec.ofChange fnLessOnSpec)

/-- ITS FALSE NEIGHBOUR: 'it returns false'. Refute it at one input. -/
def fnLessOnWrong : ChangeSpec := { name := "fnLessOn", fn := fun _ => fun
  | [d] => { results := [.lit (.bool false)], args := [d] }
  | _ => none }
def FnLessOnWrongFalsely : Prop := fnLessOnRow.holds Try.pinned (OpenSpec.ofChange fnLessOnWrong)

/-- 'laws.FnLessTotal': WHATEVER THE INPUT: true; the input reads as it did. -/
def fnLessTotalSpec : ChangeSpec := { name := "fnLessTotal", fn := fun _ => fun
  | [d] => { results := [.lit (.bool true)], args := [d] }
  | _ => none }
def fnLessTotalRow : OpenClaim := { program := "ytjbjdpahnnkgmaa", sum := "d74e0724cb39f09246a7937df84e82f396b492343de21c1d1158f3967148223b", func := "loop.example/lib-steadybytes/laws.FnLessTotal", spec := "fnLessTotal", inPlace := ["crypto/internal/constanttime.boolToUint8"], apart := false }
def FnLessTotalSaid : Prop := fnLessTotalRow.holds Try.pinned (OpenSpec.ofChange fnLessTotalSpec)

/-- ITS FALSE NEIGHBOUR: 'it returns false'. Refute it at one input. -/
def fnLessTotalWrong : ChangeSpec := { name := "fnLessTotal", fn := fun _ => fun
  | [d] => { results := [.lit (.bool false)], args := [d] }
  | _ => none }
def FnLessTotalWrongFalsely : Prop := fnLessTotalRow.holds Try.pinned (OpenSpec.ofChange fnLessTotalWrong)

/-- 'laws.FnNumberEither': WHATEVER THE INPUT: true; the input reads as it did. -/
def fnNumberEitherSpec : ChangeSpec := { name := "fnNumberEither", fn := fun _ => fun
  | [d] => { results := [.lit (.bool true)], args := [d] }
  | _ => none }
def fnNumberEitherRow : OpenClaim := { program := "ytjbjdpahnnkgmaa", sum := "d74e0724cb39f09246a7937df84e82f396b492343de21c1d1158f3967148223b", func := "loop.example/lib-steadybytes/laws.FnNumberEither", spec := "fnNumberEither", inPlace := ["crypto/internal/constanttime.boolToUint8"], apart := false }
def FnNumberEitherSaid : Prop := fnNumberEitherRow.holds Try.pinned (OpenSpec.ofChange fnNumberEitherSpec)

/-- ITS FALSE NEIGHBOUR: 'it returns false'. Refute it at one input. -/
def fnNumberEitherWrong : ChangeSpec := { name := "fnNumberEither", fn := fun _ => fun
  | [d] => { results := [.lit (.bool false)], args := [d] }
  | _ => none }
def FnNumberEitherWrongFalsely : Prop := fnNumberEitherRow.holds Try.pinned (OpenSpec.ofChange fnNumberEitherWrong)

/-- 'laws.FnChosenLeast': WHATEVER THE INPUT: true; the input reads as it did. -/
def fnChosenLeastSpec : ChangeSpec := { name := "fnChosenLeast", fn := fun _ => fun
  | [d] => { results := [.lit (.bool true)], args := [d] }
  | _ => none }
def fnChosenLeastRow : OpenClaim := { program := "ytjbjdpahnnkgmaa", sum := "d74e0724cb39f09246a7937df84e82f396b492343de21c1d1158f3967148223b", func := "loop.example/lib-steadybytes/laws.FnChosenLeast", spec := "fnChosenLeast", inPlace := ["crypto/internal/constanttime.boolToUint8"], apart := false }
def FnChosenLeastSaid : Prop := fnChosenLeastRow.holds Try.pinned (OpenSpec.ofChange fnChosenLeastSpec)

/-- ITS FALSE NEIGHBOUR: 'it returns false'. Refute it at one input. -/
def fnChosenLeastWrong : ChangeSpec := { name := "fnChosenLeast", fn := fun _ => fun
  | [d] => { results := [.lit (.bool false)], args := [d] }
  | _ => none }
def FnChosenLeastWrongFalsely : Prop := fnChosenLeastRow.holds Try.pinned (OpenSpec.ofChange fnChosenLeastWrong)

/-- 'laws.FnChosenTwice': WHATEVER THE INPUT: true; the input reads as it did. -/
def fnChosenTwiceSpec : ChangeSpec := { name := "fnChosenTwice", fn := fun _ => fun
  | [d] => { results := [.lit (.bool true)], args := [d] }
  | _ => none }
def fnChosenTwiceRow : OpenClaim := { program := "ytjbjdpahnnkgmaa", sum := "d74e0724cb39f09246a7937df84e82f396b492343de21c1d1158f3967148223b", func := "loop.example/lib-steadybytes/laws.FnChosenTwice", spec := "fnChosenTwice", inPlace := ["crypto/internal/constanttime.boolToUint8"], apart := false }
def FnChosenTwiceSaid : Prop := fnChosenTwiceRow.holds Try.pinned (OpenSpec.ofChange fnChosenTwiceSpec)

/-- ITS FALSE NEIGHBOUR: 'it returns false'. Refute it at one input. -/
def fnChosenTwiceWrong : ChangeSpec := { name := "fnChosenTwice", fn := fun _ => fun
  | [d] => { results := [.lit (.bool false)], args := [d] }
  | _ => none }
def FnChosenTwiceWrongFalsely : Prop := fnChosenTwiceRow.holds Try.pinned (OpenSpec.ofChange fnChosenTwiceWrong)

/-- 'laws.FnByteRoad': WHATEVER THE INPUT: true; the input reads as it did. -/
def fnByteRoadSpec : ChangeSpec := { name := "fnByteRoad", fn := fun _ => fun
  | [d] => { results := [.lit (.bool true)], args := [d] }
  | _ => none }
def fnByteRoadRow : OpenClaim := { program := "ytjbjdpahnnkgmaa", sum := "d74e0724cb39f09246a7937df84e82f396b492343de21c1d1158f3967148223b", func := "loop.example/lib-steadybytes/laws.FnByteRoad", spec := "fnByteRoad", inPlace := ["crypto/internal/constanttime.boolToUint8"], apart := false }
def FnByteRoadSaid : Prop := fnByteRoadRow.holds Try.pinned (OpenSpec.ofChange fnByteRoadSpec)

/-- ITS FALSE NEIGHBOUR: 'it returns false'. Refute it at one input. -/
def fnByteRoadWrong : ChangeSpec := { name := "fnByteRoad", fn := fun _ => fun
  | [d] => { results := [.lit (.bool false)], args := [d] }
  | _ => none }
def FnByteRoadWrongFalsely : Prop := fnByteRoadRow.holds Try.pinned (OpenSpec.ofChange fnByteRoadWrong)

/-- 'laws.FnCopyAll': WHATEVER THE INPUT: true; the input reads as it did. -/
def fnCopyAllSpec : ChangeSpec := { name := "fnCopyAll", fn := fun _ => fun
  | [d] => { results := [.lit (.bool true)], args := [d] }
  | _ => none }
def fnCopyAllRow : OpenClaim := { program := "ytjbjdpahnnkgmaa", sum := "d74e0724cb39f09246a7937df84e82f396b492343de21c1d1158f3967148223b", func := "loop.example/lib-steadybytes/laws.FnCopyAll", spec := "fnCopyAll", inPlace := ["crypto/internal/constanttime.boolToUint8"], apart := false }
def FnCopyAllSaid : Prop := fnCopyAllRow.holds Try.pinned (OpenSpec.ofChange fnCopyAllSpec)

/-- ITS FALSE NEIGHBOUR: 'it returns false'. Refute it at one input. -/
def fnCopyAllWrong : ChangeSpec := { name := "fnCopyAll", fn := fun _ => fun
  | [d] => { results := [.lit (.bool false)], args := [d] }
  | _ => none }
def FnCopyAllWrongFalsely : Prop := fnCopyAllRow.holds Try.pinned (OpenSpec.ofChange fnCopyAllWrong)

/-- 'laws.FnCopyRoad': WHATEVER THE INPUT: true; the input reads as it did. -/
def fnCopyRoadSpec : ChangeSpec := { name := "fnCopyRoad", fn := fun _ => fun
  | [d] => { results := [.lit (.bool true)], args := [d] }
  | _ => none }
def fnCopyRoadRow : OpenClaim := { program := "ytjbjdpahnnkgmaa", sum := "d74e0724cb39f09246a7937df84e82f396b492343de21c1d1158f3967148223b", func := "loop.example/lib-steadybytes/laws.FnCopyRoad", spec := "fnCopyRoad", inPlace := ["crypto/internal/constanttime.boolToUint8"], apart := false }
def FnCopyRoadSaid : Prop := fnCopyRoadRow.holds Try.pinned (OpenSpec.ofChange fnCopyRoadSpec)

/-- ITS FALSE NEIGHBOUR: 'it returns false'. Refute it at one input. -/
def fnCopyRoadWrong : ChangeSpec := { name := "fnCopyRoad", fn := fun _ => fun
  | [d] => { results := [.lit (.bool false)], args := [d] }
  | _ => none }
def FnCopyRoadWrongFalsely : Prop := fnCopyRoadRow.holds Try.pinned (OpenSpec.ofChange fnCopyRoadWrong)

/- THE SECOND FORM. 'bulk': how many values and letters a reading holds, each counted each time it is reached (what is shared counts as often as it is met; a slice's spare places count too). A statement '..UptoSaid' is the law's where the arguments, and the package variables that the reading takes, are together of bulk at most 1048576: NARROWER than '..Said'. Prove '..Said' where nothing that the law and all that it calls make is longer than what came in: it says more and counts as full. Else prove '..UptoSaid'. A law counts once. -/
mutual
def uptoBulk {H : Type} : DataW H → Nat
  | .lit (.string bytes) => bytes.length + 1
  | .lit _ => 1
  | .nil => 1
  | .ptr d => uptoBulk d + 1
  | .slice elems spare => uptoBulkAll elems + uptoBulkAll spare + 1
  | .agg parts => uptoBulkAll parts + 1
  | .iface _ d => uptoBulk d + 1
  | .map entries => uptoBulkEntries entries + 1
  | .held _ => 1
def uptoBulkAll {H : Type} : List (DataW H) → Nat
  | [] => 0
  | d :: r => uptoBulk d + uptoBulkAll r
def uptoBulkEntries {H : Type} : List (Lit × DataW H) → Nat
  | [] => 0
  | x :: r => uptoBulkEntry x + uptoBulkEntries r
def uptoBulkEntry {H : Type} : Lit × DataW H → Nat
  | (.string bytes, d) => bytes.length + uptoBulk d + 1
  | (_, d) => uptoBulk d + 1
 end
def uptoSmall : (H : Type) → List (DataW H) → Bool := fun _ ds => decide (uptoBulkAll ds ≤ 1048576)
def OpenSpec.upto (s : _root_.Go.ChangeSpec) : _root_.Go.OpenSpec := { _root_.Go.OpenSpec.ofChange s with cond := some uptoSmall }

/-- 'laws.FnLessOn', WHERE WHAT IT READS IS OF BULK AT MOST 1048576: true; the input reads as it did. -/
def fnLessOnUptoRow : OpenClaim := { program := "ytjbjdpahnnkgmaa", sum := "d74e0724cb39f09246a7937df84e82f396b492343de21c1d1158f3967148223b", func := "loop.example/lib-steadybytes/laws.FnLessOn", spec := "fnLessOn", inPlace := ["crypto/internal/constanttime.boolToUint8"], apart := false, narrowed := true }
def FnLessOnUptoSaid : Prop := fnLessOnUptoRow.holds Try.pinned (OpenSpec.upto fnLessOnSpec)

/-- 'laws.FnLessTotal', WHERE WHAT IT READS IS OF BULK AT MOST 1048576: true; the input reads as it did. -/
def fnLessTotalUptoRow : OpenClaim := { program := "ytjbjdpahnnkgmaa", sum := "d74e0724cb39f09246a7937df84e82f396b492343de21c1d1158f3967148223b", func := "loop.example/lib-steadybytes/laws.FnLessTotal", spec := "fnLessTotal", inPlace := ["crypto/internal/constanttime.boolToUint8"], apart := false, narrowed := true }
def FnLessTotalUptoSaid : Prop := fnLessTotalUptoRow.holds Try.pinned (OpenSpec.upto fnLessTotalSpec)

/-- 'laws.FnNumberEither', WHERE WHAT IT READS IS OF BULK AT MOST 1048576: true; the input reads as it did. -/
def fnNumberEitherUptoRow : OpenClaim := { program := "ytjbjdpahnnkgmaa", sum := "d74e0724cb39f09246a7937df84e82f396b492343de21c1d1158f3967148223b", func := "loop.example/lib-steadybytes/laws.FnNumberEither", spec := "fnNumberEither", inPlace := ["crypto/internal/constanttime.boolToUint8"], apart := false, narrowed := true }
def FnNumberEitherUptoSaid : Prop := fnNumberEitherUptoRow.holds Try.pinned (OpenSpec.upto fnNumberEitherSpec)

/-- 'laws.FnChosenLeast', WHERE WHAT IT READS IS OF BULK AT MOST 1048576: true; the input reads as it did. -/
def fnChosenLeastUptoRow : OpenClaim := { program := "ytjbjdpahnnkgmaa", sum := "d74e0724cb39f09246a7937df84e82f396b492343de21c1d1158f3967148223b", func := "loop.example/lib-steadybytes/laws.FnChosenLeast", spec := "fnChosenLeast", inPlace := ["crypto/internal/constanttime.boolToUint8"], apart := false, narrowed := true }
def FnChosenLeastUptoSaid : Prop := fnChosenLeastUptoRow.holds Try.pinned (OpenSpec.upto fnChosenLeastSpec)

/-- 'laws.FnChosenTwice', WHERE WHAT IT READS IS OF BULK AT MOST 1048576: true; the input reads as it did. -/
def fnChosenTwiceUptoRow : OpenClaim := { program := "ytjbjdpahnnkgmaa", sum := "d74e0724cb39f09246a7937df84e82f396b492343de21c1d1158f3967148223b", func := "loop.example/lib-steadybytes/laws.FnChosenTwice", spec := "fnChosenTwice", inPlace := ["crypto/internal/constanttime.boolToUint8"], apart := false, narrowed := true }
def FnChosenTwiceUptoSaid : Prop := fnChosenTwiceUptoRow.holds Try.pinned (OpenSpec.upto fnChosenTwiceSpec)

/-- 'laws.FnByteRoad', WHERE WHAT IT READS IS OF BULK AT MOST 1048576: true; the input reads as it did. -/
def fnByteRoadUptoRow : OpenClaim := { program := "ytjbjdpahnnkgmaa", sum := "d74e0724cb39f09246a7937df84e82f396b492343de21c1d1158f3967148223b", func := "loop.example/lib-steadybytes/laws.FnByteRoad", spec := "fnByteRoad", inPlace := ["crypto/internal/constanttime.boolToUint8"], apart := false, narrowed := true }
def FnByteRoadUptoSaid : Prop := fnByteRoadUptoRow.holds Try.pinned (OpenSpec.upto fnByteRoadSpec)

/-- 'laws.FnCopyAll', WHERE WHAT IT READS IS OF BULK AT MOST 1048576: true; the input reads as it did. -/
def fnCopyAllUptoRow : OpenClaim := { program := "ytjbjdpahnnkgmaa", sum := "d74e0724cb39f09246a7937df84e82f396b492343de21c1d1158f3967148223b", func := "loop.example/lib-steadybytes/laws.FnCopyAll", spec := "fnCopyAll", inPlace := ["crypto/internal/constanttime.boolToUint8"], apart := false, narrowed := true }
def FnCopyAllUptoSaid : Prop := fnCopyAllUptoRow.holds Try.pinned (OpenSpec.upto fnCopyAllSpec)

/-- 'laws.FnCopyRoad', WHERE WHAT IT READS IS OF BULK AT MOST 1048576: true; the input reads as it did. -/
def fnCopyRoadUptoRow : OpenClaim := { program := "ytjbjdpahnnkgmaa", sum := "d74e0724cb39f09246a7937df84e82f396b492343de21c1d1158f3967148223b", func := "loop.example/lib-steadybytes/laws.FnCopyRoad", spec := "fnCopyRoad", inPlace := ["crypto/internal/constanttime.boolToUint8"], apart := false, narrowed := true }
def FnCopyRoadUptoSaid : Prop := fnCopyRoadUptoRow.holds Try.pinned (OpenSpec.upto fnCopyRoadSpec)

end Rows
end Go.Proofs.Ytjbjdpahnnkgmaa
