/-
  No cell of these rows narrows 'for every input' (looked for: loops, veiled, ifaces, maps, wideKeys, modest, calm, conditions, laid).
  DERIVED. THE GIVEN ROWS OF THIS SEAT. 12 by the template 'for every input the law returns true; each argument reads behind the call as it read before'; 0 by the template 'total and deterministic' (their statements: YtjhidojklcoodaaTotals.lean).
  GIVEN WITH THE SEED: the statements are not yours to turn. If you find one false, say at which input.
  Laid BY PROGRAM, IN A SANDBOX (cutbox-rows.mjs): the forced cells as the released guide's own fill.sh prints them over the translation 8afe4bf66d0463c8… (all of the seat's roots in one cut). By AI agents, Wed Nov 11 2026. No macro, syntax, notation, axiom, sorry.
-/
import Derived.Test.YtjhidojklcoodaaChecked
import GoSem.Claim
import GoSem.ClaimJoined
import GoSem.ClaimMapViews
import Derived.JoinedTies
import Derived.KernelRfl
namespace Go.Proofs.Ytjhidojklcoodaa
/- THE CELL 'sum', in the pinned program and in every row, IS THE sha256 OF THE DUMP (.gsa) THAT YtjhidojklcoodaaProg.lean LOADS. Nothing in Lean hashes anything: it is a label: what it is worth is what the hold of that sum in a sandbox is worth. -/
noncomputable def Try.pinned : Pinned := { name := "ytjhidojklcoodaa", sum := "8afe4bf66d0463c88e96622beef2ea66d8078baee7b5e6d3db40f902e20f3989", checked := Try.checked }
namespace Rows
def none {H : Type} : Left H := { results := [], args := [] }

/-- 'laws.FnByteEither': WHATEVER THE INPUT: true; the input reads as it did. -/
def fnByteEitherSpec : ChangeSpec := { name := "fnByteEither", fn := fun _ => fun
  | [d] => { results := [.lit (.bool true)], args := [d] }
  | _ => none }
def fnByteEitherRow : OpenClaim := { program := "ytjhidojklcoodaa", sum := "8afe4bf66d0463c88e96622beef2ea66d8078baee7b5e6d3db40f902e20f3989", func := "loop.example/lib-steadybytes/laws.FnByteEither", spec := "fnByteEither", inPlace := ["crypto/internal/constanttime.boolToUint8"], apart := false }
def FnByteEitherSaid : Prop := fnByteEitherRow.holds Try.pinned (OpenSpec.ofChange fnByteEitherSpec)

/-- ITS FALSE NEIGHBOUR: 'it returns false'. Refute it at one input. -/
def fnByteEitherWrong : ChangeSpec := { name := "fnByteEither", fn := fun _ => fun
  | [d] => { results := [.lit (.bool false)], args := [d] }
  | _ => none }
def FnByteEitherWrongFalsely : Prop := fnByteEitherRow.holds Try.pinned (OpenSpec.ofChange fnByteEitherWrong)

/-- 'laws.FnByteSelf': WHATEVER THE INPUT: true; the input reads as it did. -/
def fnByteSelfSpec : ChangeSpec := { name := "fnByteSelf", fn := fun _ => fun
  | [d] => { results := [.lit (.bool true)], args := [d] }
  | _ => none }
def fnByteSelfRow : OpenClaim := { program := "ytjhidojklcoodaa", sum := "8afe4bf66d0463c88e96622beef2ea66d8078baee7b5e6d3db40f902e20f3989", func := "loop.example/lib-steadybytes/laws.FnByteSelf", spec := "fnByteSelf", inPlace := ["crypto/internal/constanttime.boolToUint8"], apart := false }
def FnByteSelfSaid : Prop := fnByteSelfRow.holds Try.pinned (OpenSpec.ofChange fnByteSelfSpec)

/-- ITS FALSE NEIGHBOUR: 'it returns false'. Refute it at one input. -/
def fnByteSelfWrong : ChangeSpec := { name := "fnByteSelf", fn := fun _ => fun
  | [d] => { results := [.lit (.bool false)], args := [d] }
  | _ => none }
def FnByteSelfWrongFalsely : Prop := fnByteSelfRow.holds Try.pinned (OpenSpec.ofChange fnByteSelfWrong)

/-- 'laws.FnExactByteEq': WHATEVER THE INPUT: true; the input reads as it did. -/
def fnExactByteEqSpec : ChangeSpec := { name := "fnExactByteEq", fn := fun _ => fun
  | [d1, d2] => { results := [.lit (.bool true)], args := [d1, d2] }
  | _ => none }
def fnExactByteEqRow : OpenClaim := { program := "ytjhidojklcoodaa", sum := "8afe4bf66d0463c88e96622beef2ea66d8078baee7b5e6d3db40f902e20f3989", func := "loop.example/lib-steadybytes/laws.FnExactByteEq", spec := "fnExactByteEq", inPlace := ["crypto/internal/constanttime.boolToUint8"], apart := false }
def FnExactByteEqSaid : Prop := fnExactByteEqRow.holds Try.pinned (OpenSpec.ofChange fnExactByteEqSpec)

/-- ITS FALSE NEIGHBOUR: 'it returns false'. Refute it at one input. -/
def fnExactByteEqWrong : ChangeSpec := { name := "fnExactByteEq", fn := fun _ => fun
  | [d1, d2] => { results := [.lit (.bool false)], args := [d1, d2] }
  | _ => none }
def FnExactByteEqWrongFalsely : Prop := fnExactByteEqRow.holds Try.pinned (OpenSpec.ofChange fnExactByteEqWrong)

/-- 'laws.FnExactEq': WHATEVER THE INPUT: true; the input reads as it did. -/
def fnExactEqSpec : ChangeSpec := { name := "fnExactEq", fn := fun _ => fun
  | [d1, d2] => { results := [.lit (.bool true)], args := [d1, d2] }
  | _ => none }
def fnExactEqRow : OpenClaim := { program := "ytjhidojklcoodaa", sum := "8afe4bf66d0463c88e96622beef2ea66d8078baee7b5e6d3db40f902e20f3989", func := "loop.example/lib-steadybytes/laws.FnExactEq", spec := "fnExactEq", inPlace := ["crypto/internal/constanttime.boolToUint8"], apart := false }
def FnExactEqSaid : Prop := fnExactEqRow.holds Try.pinned (OpenSpec.ofChange fnExactEqSpec)

/-- ITS FALSE NEIGHBOUR: 'it returns false'. Refute it at one input. -/
def fnExactEqWrong : ChangeSpec := { name := "fnExactEq", fn := fun _ => fun
  | [d1, d2] => { results := [.lit (.bool false)], args := [d1, d2] }
  | _ => none }
def FnExactEqWrongFalsely : Prop := fnExactEqRow.holds Try.pinned (OpenSpec.ofChange fnExactEqWrong)

/-- 'laws.FnExactLessOrEq': WHATEVER THE INPUT: true; the input reads as it did. -/
def fnExactLessOrEqSpec : ChangeSpec := { name := "fnExactLessOrEq", fn := fun _ => fun
  | [d1, d2] => { results := [.lit (.bool true)], args := [d1, d2] }
  | _ => none }
def fnExactLessOrEqRow : OpenClaim := { program := "ytjhidojklcoodaa", sum := "8afe4bf66d0463c88e96622beef2ea66d8078baee7b5e6d3db40f902e20f3989", func := "loop.example/lib-steadybytes/laws.FnExactLessOrEq", spec := "fnExactLessOrEq", inPlace := ["crypto/internal/constanttime.boolToUint8"], apart := false }
def FnExactLessOrEqSaid : Prop := fnExactLessOrEqRow.holds Try.pinned (OpenSpec.ofChange fnExactLessOrEqSpec)

/-- ITS FALSE NEIGHBOUR: 'it returns false'. Refute it at one input. -/
def fnExactLessOrEqWrong : ChangeSpec := { name := "fnExactLessOrEq", fn := fun _ => fun
  | [d1, d2] => { results := [.lit (.bool false)], args := [d1, d2] }
  | _ => none }
def FnExactLessOrEqWrongFalsely : Prop := fnExactLessOrEqRow.holds Try.pinned (OpenSpec.ofChange fnExactLessOrEqWrong)

/-- 'laws.FnLessSelf': WHATEVER THE INPUT: true; the input reads as it did. -/
def fnLessSelfSpec : ChangeSpec := { name := "fnLessSelf", fn := fun _ => fun
  | [d] => { results := [.lit (.bool true)], args := [d] }
  | _ => none }
def fnLessSelfRow : OpenClaim := { program := "ytjhidojklcoodaa", sum := "8afe4bf66d0463c88e96622beef2ea66d8078baee7b5e6d3db40f902e20f3989", func := "loop.example/lib-steadybytes/laws.FnLessSelf", spec := "fnLessSelf", inPlace := ["crypto/internal/constanttime.boolToUint8"], apart := false }
def FnLessSelfSaid : Prop := fnLessSelfRow.holds Try.pinned (OpenSpec.ofChange fnLessSelfSpec)

/-- ITS FALSE NEIGHBOUR: 'it returns false'. Refute it at one input. -/
def fnLessSelfWrong : ChangeSpec := { name := "fnLessSelf", fn := fun _ => fun
  | [d] => { results := [.lit (.bool false)], args := [d] }
  | _ => none }
def FnLessSelfWrongFalsely : Prop := fnLessSelfRow.holds Try.pinned (OpenSpec.ofChange fnLessSelfWrong)

/-- 'laws.FnNumberSelf': WHATEVER THE INPUT: true; the input reads as it did. -/
def fnNumberSelfSpec : ChangeSpec := { name := "fnNumberSelf", fn := fun _ => fun
  | [d] => { results := [.lit (.bool true)], args := [d] }
  | _ => none }
def fnNumberSelfRow : OpenClaim := { program := "ytjhidojklcoodaa", sum := "8afe4bf66d0463c88e96622beef2ea66d8078baee7b5e6d3db40f902e20f3989", func := "loop.example/lib-steadybytes/laws.FnNumberSelf", spec := "fnNumberSelf", inPlace := ["crypto/internal/constanttime.boolToUint8"], apart := false }
def FnNumberSelfSaid : Prop := fnNumberSelfRow.holds Try.pinned (OpenSpec.ofChange fnNumberSelfSpec)

/-- ITS FALSE NEIGHBOUR: 'it returns false'. Refute it at one input. -/
def fnNumberSelfWrong : ChangeSpec := { name := "fnNumberSelf", fn := fun _ => fun
  | [d] => { results := [.lit (.bool false)], args := [d] }
  | _ => none }
def FnNumberSelfWrongFalsely : Prop := fnNumberSelfRow.holds Try.pinned (OpenSpec.ofChange fnNumberSelfWrong)

/-- 'laws.FnChosen': WHATEVER THE INPUT: true; the input reads as it did. -/
def fnChosenSpec : ChangeSpec := { name := "fnChosen", fn := fun _ => fun
  | [d] => { results := [.lit (.bool true)], args := [d] }
  | _ => none }
def fnChosenRow : OpenClaim := { program := "ytjhidojklcoodaa", sum := "8afe4bf66d0463c88e96622beef2ea66d8078baee7b5e6d3db40f902e20f3989", func := "loop.example/lib-steadybytes/laws.FnChosen", spec := "fnChosen", inPlace := ["crypto/internal/constanttime.boolToUint8"], apart := false }
def FnChosenSaid : Prop := fnChosenRow.holds Try.pinned (OpenSpec.ofChange fnChosenSpec)

/-- ITS FALSE NEIGHBOUR: 'it returns false'. Refute it at one input. -/
def fnChosenWrong : ChangeSpec := { name := "fnChosen", fn := fun _ => fun
  | [d] => { results := [.lit (.bool false)], args := [d] }
  | _ => none }
def FnChosenWrongFalsely : Prop := fnChosenRow.holds Try.pinned (OpenSpec.ofChange fnChosenWrong)

/-- 'laws.FnChosenEither': WHATEVER THE INPUT: true; the input reads as it did. -/
def fnChosenEitherSpec : ChangeSpec := { name := "fnChosenEither", fn := fun _ => fun
  | [d] => { results := [.lit (.bool true)], args := [d] }
  | _ => none }
def fnChosenEitherRow : OpenClaim := { program := "ytjhidojklcoodaa", sum := "8afe4bf66d0463c88e96622beef2ea66d8078baee7b5e6d3db40f902e20f3989", func := "loop.example/lib-steadybytes/laws.FnChosenEither", spec := "fnChosenEither", inPlace := ["crypto/internal/constanttime.boolToUint8"], apart := false }
def FnChosenEitherSaid : Prop := fnChosenEitherRow.holds Try.pinned (OpenSpec.ofChange fnChosenEitherSpec)

/-- ITS FALSE NEIGHBOUR: 'it returns false'. Refute it at one input. -/
def fnChosenEitherWrong : ChangeSpec := { name := "fnChosenEither", fn := fun _ => fun
  | [d] => { results := [.lit (.bool false)], args := [d] }
  | _ => none }
def FnChosenEitherWrongFalsely : Prop := fnChosenEitherRow.holds Try.pinned (OpenSpec.ofChange fnChosenEitherWrong)

/-- 'laws.FnExactSelect': WHATEVER THE INPUT: true; the input reads as it did. -/
def fnExactSelectSpec : ChangeSpec := { name := "fnExactSelect", fn := fun _ => fun
  | [d1, d2, d3] => { results := [.lit (.bool true)], args := [d1, d2, d3] }
  | _ => none }
def fnExactSelectRow : OpenClaim := { program := "ytjhidojklcoodaa", sum := "8afe4bf66d0463c88e96622beef2ea66d8078baee7b5e6d3db40f902e20f3989", func := "loop.example/lib-steadybytes/laws.FnExactSelect", spec := "fnExactSelect", inPlace := ["crypto/internal/constanttime.boolToUint8"], apart := false }
def FnExactSelectSaid : Prop := fnExactSelectRow.holds Try.pinned (OpenSpec.ofChange fnExactSelectSpec)

/-- ITS FALSE NEIGHBOUR: 'it returns false'. Refute it at one input. -/
def fnExactSelectWrong : ChangeSpec := { name := "fnExactSelect", fn := fun _ => fun
  | [d1, d2, d3] => { results := [.lit (.bool false)], args := [d1, d2, d3] }
  | _ => none }
def FnExactSelectWrongFalsely : Prop := fnExactSelectRow.holds Try.pinned (OpenSpec.ofChange fnExactSelectWrong)

/-- 'laws.FnExactSelectBoth': WHATEVER THE INPUT: true; the input reads as it did. -/
def fnExactSelectBothSpec : ChangeSpec := { name := "fnExactSelectBoth", fn := fun _ => fun
  | [d1, d2] => { results := [.lit (.bool true)], args := [d1, d2] }
  | _ => none }
def fnExactSelectBothRow : OpenClaim := { program := "ytjhidojklcoodaa", sum := "8afe4bf66d0463c88e96622beef2ea66d8078baee7b5e6d3db40f902e20f3989", func := "loop.example/lib-steadybytes/laws.FnExactSelectBoth", spec := "fnExactSelectBoth", inPlace := ["crypto/internal/constanttime.boolToUint8"], apart := false }
def FnExactSelectBothSaid : Prop := fnExactSelectBothRow.holds Try.pinned (OpenSpec.ofChange fnExactSelectBothSpec)

/-- ITS FALSE NEIGHBOUR: 'it returns false'. Refute it at one input. -/
def fnExactSelectBothWrong : ChangeSpec := { name := "fnExactSelectBoth", fn := fun _ => fun
  | [d1, d2] => { results := [.lit (.bool false)], args := [d1, d2] }
  | _ => none }
def FnExactSelectBothWrongFalsely : Prop := fnExactSelectBothRow.holds Try.pinned (OpenSpec.ofChange fnExactSelectBothWrong)

/-- 'laws.FnLessEnds': WHATEVER THE INPUT: true; the input reads as it did. -/
def fnLessEndsSpec : ChangeSpec := { name := "fnLessEnds", fn := fun _ => fun
  | [d] => { results := [.lit (.bool true)], args := [d] }
  | _ => none }
def fnLessEndsRow : OpenClaim := { program := "ytjhidojklcoodaa", sum := "8afe4bf66d0463c88e96622beef2ea66d8078baee7b5e6d3db40f902e20f3989", func := "loop.example/lib-steadybytes/laws.FnLessEnds", spec := "fnLessEnds", inPlace := ["crypto/internal/constanttime.boolToUint8"], apart := false }
def FnLessEndsSaid : Prop := fnLessEndsRow.holds Try.pinned (OpenSpec.ofChange fnLessEndsSpec)

/-- ITS FALSE NEIGHBOUR: 'it returns false'. Refute it at one input. -/
def fnLessEndsWrong : ChangeSpec := { name := "fnLessEnds", fn := fun _ => fun
  | [d] => { results := [.lit (.bool false)], args := [d] }
  | _ => none }
def FnLessEndsWrongFalsely : Prop := fnLessEndsRow.holds Try.pinned (OpenSpec.ofChange fnLessEndsWrong)

/- THE SECOND FORM. 'bulk': how many values and letters a reading holds, each counted each time it is reached (what is shared counts as often as it is met; a slice's spare places count too). A statement '..UptoSaid' is the law's where the arguments, and the package variables that the reading takes, are together of bulk at most 1048576: NARROWER than '..Said'. Prove '..Said' where nothing that the law and all that it calls make is longer than what came in: it says more and counts as full. Else prove '..UptoSaid'. A law counts once. -/
mutual
def uptoBulk {H : Type} : DataW H → Nat
  | .lit (.string bytes) => bytes.length + 1
  | .lit _ => 1
  | .nil => 1
  | .ptr d => uptoBulk d + 1
  | .slice elems spare => uptoBulkAll elems + uptoBulkAll spare + 1
  | .agg parts => uptoBulkAll parts + 1
  | .iface _ d => uptoBulk d + 1
  | .map entries => uptoBulkEntries entries + 1
  | .held _ => 1
def uptoBulkAll {H : Type} : List (DataW H) → Nat
  | [] => 0
  | d :: r => uptoBulk d + uptoBulkAll r
def uptoBulkEntries {H : Type} : List (Lit × DataW H) → Nat
  | [] => 0
  | x :: r => uptoBulkEntry x + uptoBulkEntries r
def uptoBulkEntry {H : Type} : Lit × DataW H → Nat
  | (.string bytes, d) => bytes.length + uptoBulk d + 1
  | (_, d) => uptoBulk d + 1
 end
def uptoSmall : (H : Type) → List (DataW H) → Bool := fun _ ds => decide (uptoBulkAll ds ≤ 1048576)
def OpenSpec.upto (s : _root_.Go.ChangeSpec) : _root_.Go.OpenSpec := { _root_.Go.OpenSpec.ofChange s with cond := some uptoSmall }

/-- 'laws.FnByteEither', WHERE WHAT IT READS IS OF BULK AT MOST 1048576: true; the input reads as it did. -/
def fnByteEitherUptoRow : OpenClaim := { program := "ytjhidojklcoodaa", sum := "8afe4bf66d0463c88e96622beef2ea66d8078baee7b5e6d3db40f902e20f3989", func := "loop.example/lib-steadybytes/laws.FnByteEither", spec := "fnByteEither", inPlace := ["crypto/internal/constanttime.boolToUint8"], apart := false, narrowed := true }
def FnByteEitherUptoSaid : Prop := fnByteEitherUptoRow.holds Try.pinned (OpenSpec.upto fnByteEitherSpec)

/-- 'laws.FnByteSelf', WHERE WHAT IT READS IS OF BULK AT MOST 1048576: true; the input reads as it did. -/
def fnByteSelfUptoRow : OpenClaim := { program := "ytjhidojklcoodaa", sum := "8afe4bf66d0463c88e96622beef2ea66d8078baee7b5e6d3db40f902e20f3989", func := "loop.example/lib-steadybytes/laws.FnByteSelf", spec := "fnByteSelf", inPlace := ["crypto/internal/constanttime.boolToUint8"], apart := false, narrowed := true }
def FnByteSelfUptoSaid : Prop := fnByteSelfUptoRow.holds Try.pinned (OpenSpec.upto fnByteSelfSpec)

/-- 'laws.FnExactByteEq', WHERE WHAT IT READS IS OF BULK AT MOST 1048576: true; the input reads as it did. -/
def fnExactByteEqUptoRow : OpenClaim := { program := "ytjhidojklcoodaa", sum := "8afe4bf66d0463c88e96622beef2ea66d8078baee7b5e6d3db40f902e20f3989", func := "loop.example/lib-steadybytes/laws.FnExactByteEq", spec := "fnExactByteEq", inPlace := ["crypto/internal/constanttime.boolToUint8"], apart := false, narrowed := true }
def FnExactByteEqUptoSaid : Prop := fnExactByteEqUptoRow.holds Try.pinned (OpenSpec.upto fnExactByteEqSpec)

/-- 'laws.FnExactEq', WHERE WHAT IT READS IS OF BULK AT MOST 1048576: true; the input reads as it did. -/
def fnExactEqUptoRow : OpenClaim := { program := "ytjhidojklcoodaa", sum := "8afe4bf66d0463c88e96622beef2ea66d8078baee7b5e6d3db40f902e20f3989", func := "loop.example/lib-steadybytes/laws.FnExactEq", spec := "fnExactEq", inPlace := ["crypto/internal/constanttime.boolToUint8"], apart := false, narrowed := true }
def FnExactEqUptoSaid : Prop := fnExactEqUptoRow.holds Try.pinned (OpenSpec.upto fnExactEqSpec)

/-- 'laws.FnExactLessOrEq', WHERE WHAT IT READS IS OF BULK AT MOST 1048576: true; the input reads as it did. -/
def fnExactLessOrEqUptoRow : OpenClaim := { program := "ytjhidojklcoodaa", sum := "8afe4bf66d0463c88e96622beef2ea66d8078baee7b5e6d3db40f902e20f3989", func := "loop.example/lib-steadybytes/laws.FnExactLessOrEq", spec := "fnExactLessOrEq", inPlace := ["crypto/internal/constanttime.boolToUint8"], apart := false, narrowed := true }
def FnExactLessOrEqUptoSaid : Prop := fnExactLessOrEqUptoRow.holds Try.pinned (OpenSpec.upto fnExactLessOrEqSpec)

/-- 'laws.FnLessSelf', WHERE WHAT IT READS IS OF BULK AT MOST 1048576: true; the input reads as it did. -/
def fnLessSelfUptoRow : OpenClaim := { program := "ytjhidojklcoodaa", sum := "8afe4bf66d0463c88e96622beef2ea66d8078baee7b5e6d3db40f902e20f3989", func := "loop.example/lib-steadybytes/laws.FnLessSelf", spec := "fnLessSelf", inPlace := ["crypto/internal/constanttime.boolToUint8"], apart := false, narrowed := true }
def FnLessSelfUptoSaid : Prop := fnLessSelfUptoRow.holds Try.pinned (OpenSpec.upto fnLessSelfSpec)

/-- 'laws.FnNumberSelf', WHERE WHAT IT READS IS OF BULK AT MOST 1048576: true; the input reads as it did. -/
def fnNumberSelfUptoRow : OpenClaim := { program := "ytjhidojklcoodaa", sum := "8afe4bf66d0463c88e96622beef2ea66d8078baee7b5e6d3db40f902e20f3989", func := "loop.example/lib-steadybytes/laws.FnNumberSelf", spec := "fnNumberSelf", inPlace := ["crypto/internal/constanttime.boolToUint8"], apart := false, narrowed := true }
def FnNumberSelfUptoSaid : Prop := fnNumberSelfUptoRow.holds Try.pinned (OpenSpec.upto fnNumberSelfSpec)

/-- 'laws.FnChosen', WHERE WHAT IT READS IS OF BULK AT MOST 1048576: true; the input reads as it did. -/
def fnChosenUptoRow : OpenClaim := { program := "ytjhidojklcoodaa", sum := "8afe4bf66d0463c88e96622beef2ea66d8078baee7b5e6d3db40f902e20f3989", func := "loop.example/lib-steadybytes/laws.FnChosen", spec := "fnChosen", inPlace := ["crypto/internal/constanttime.boolToUint8"], apart := false, narrowed := true }
def FnChosenUptoSaid : Prop := fnChosenUptoRow.holds Try.pinned (OpenSpec.upto fnChosenSpec)

/-- 'laws.FnChosenEither', WHERE WHAT IT READS IS OF BULK AT MOST 1048576: true; the input reads as it did. -/
def fnChosenEitherUptoRow : OpenClaim := { program := "ytjhidojklcoodaa", sum := "8afe4bf66d0463c88e96622beef2ea66d8078baee7b5e6d3db40f902e20f3989", func := "loop.example/lib-steadybytes/laws.FnChosenEither", spec := "fnChosenEither", inPlace := ["crypto/internal/constanttime.boolToUint8"], apart := false, narrowed := true }
def FnChosenEitherUptoSaid : Prop := fnChosenEitherUptoRow.holds Try.pinned (OpenSpec.upto fnChosenEitherSpec)

/-- 'laws.FnExactSelect', WHERE WHAT IT READS IS OF BULK AT MOST 1048576: true; the input reads as it did. -/
def fnExactSelectUptoRow : OpenClaim := { program := "ytjhidojklcoodaa", sum := "8afe4bf66d0463c88e96622beef2ea66d8078baee7b5e6d3db40f902e20f3989", func := "loop.example/lib-steadybytes/laws.FnExactSelect", spec := "fnExactSelect", inPlace := ["crypto/internal/constanttime.boolToUint8"], apart := false, narrowed := true }
def FnExactSelectUptoSaid : Prop := fnExactSelectUptoRow.holds Try.pinned (OpenSpec.upto fnExactSelectSpec)

/-- 'laws.FnExactSelectBoth', WHERE WHAT IT READS IS OF BULK AT MOST 1048576: true; the input reads as it did. -/
def fnExactSelectBothUptoRow : OpenClaim := { program := "ytjhidojklcoodaa", sum := "8afe4bf66d0463c88e96622beef2ea66d8078baee7b5e6d3db40f902e20f3989", func := "loop.example/lib-steadybytes/laws.FnExactSelectBoth", spec := "fnExactSelectBoth", inPlace := ["crypto/internal/constanttime.boolToUint8"], apart := false, narrowed := true }
def FnExactSelectBothUptoSaid : Prop := fnExactSelectBothUptoRow.holds Try.pinned (OpenSpec.upto fnExactSelectBothSpec)

/-- 'laws.FnLessEnds', WHERE WHAT IT READS IS OF BULK AT MOST 1048576: true; the input reads as it did. -/
def fnLessEndsUptoRow : OpenClaim := { program := "ytjhidojklcoodaa", sum := "8afe4bf66d0463c88e96622beef2ea66d8078baee7b5e6d3db40f902e20f3989", func := "loop.example/lib-steadybytes/laws.FnLessEnds", spec := "fnLessEnds", inPlace := ["crypto/internal/constanttime.boolToUint8"], apart := false, narrowed := true }
def FnLessEndsUptoSaid : Prop := fnLessEndsUptoRow.holds Try.pinned (OpenSpec.upto fnLessEndsSpec)

end Rows
end Go.Proofs.Ytjhidojklcoodaa
