/-
  No cell of these rows narrows 'for every input' (looked for: loops, veiled, ifaces, maps, wideKeys, modest, calm, conditions, laid).
  DERIVED. THE GIVEN ROWS OF THIS SEAT. 12 by the template 'for every input the law returns true; each argument reads behind the call as it read before'; 0 by the template 'total and deterministic' (their statements: YtldaklchbdfomaaTotals.lean).
  GIVEN WITH THE SEED: the statements are not yours to turn. If you find one false, say at which input.
  Laid BY PROGRAM, IN A SANDBOX (cutbox-rows.mjs): the forced cells as the released guide's own fill.sh prints them over the translation 802d098030d85ad2… (all of the seat's roots in one cut). By AI agents, Wed Nov 11 2026. No macro, syntax, notation, axiom, sorry.
-/
import Derived.Test.YtldaklchbdfomaaChecked
import GoSem.Claim
import GoSem.ClaimJoined
import GoSem.ClaimMapViews
import Derived.JoinedTies
import Derived.KernelRfl
namespace Go.Proofs.Ytldaklchbdfomaa
/- THE CELL 'sum', in the pinned program and in every row, IS THE sha256 OF THE DUMP (.gsa) THAT YtldaklchbdfomaaProg.lean LOADS. Nothing in Lean hashes anything: it is a label: what it is worth is what the hold of that sum in a sandbox is worth. -/
noncomputable def Try.pinned : Pinned := { name := "ytldaklchbdfomaa", sum := "802d098030d85ad28c900a1f78baab1d2f2bedfbc5848b95ae6493e7a96e97ae", checked := Try.checked }
namespace Rows
def none {H : Type} : Left H := { results := [], args := [] }

/-- 'laws.FnCopyIfEqual': WHATEVER THE INPUT: true; the input reads as it did. -/
def fnCopyIfEqualSpec : ChangeSpec := { name := "fnCopyIfEqual", fn := fun _ => fun
  | [d] => { results := [.lit (.bool true)], args := [d] }
  | _ => none }
def fnCopyIfEqualRow : OpenClaim := { program := "ytldaklchbdfomaa", sum := "802d098030d85ad28c900a1f78baab1d2f2bedfbc5848b95ae6493e7a96e97ae", func := "loop.example/lib-steadybytes/laws.FnCopyIfEqual", spec := "fnCopyIfEqual", inPlace := ["crypto/internal/constanttime.boolToUint8"], apart := false }
def FnCopyIfEqualSaid : Prop := fnCopyIfEqualRow.holds Try.pinned (OpenSpec.ofChange fnCopyIfEqualSpec)

/-- ITS FALSE NEIGHBOUR: 'it returns false'. Refute it at one input. -/
def fnCopyIfEqualWrong : ChangeSpec := { name := "fnCopyIfEqual", fn := fun _ => fun
  | [d] => { results := [.lit (.bool false)], args := [d] }
  | _ => none }
def FnCopyIfEqualWrongFalsely : Prop := fnCopyIfEqualRow.holds Try.pinned (OpenSpec.ofChange fnCopyIfEqualWrong)

/-- 'laws.FnExactCopy': WHATEVER THE INPUT: true; the input reads as it did. -/
def fnExactCopySpec : ChangeSpec := { name := "fnExactCopy", fn := fun _ => fun
  | [d1, d2] => { results := [.lit (.bool true)], args := [d1, d2] }
  | _ => none }
def fnExactCopyRow : OpenClaim := { program := "ytldaklchbdfomaa", sum := "802d098030d85ad28c900a1f78baab1d2f2bedfbc5848b95ae6493e7a96e97ae", func := "loop.example/lib-steadybytes/laws.FnExactCopy", spec := "fnExactCopy", apart := false }
def FnExactCopySaid : Prop := fnExactCopyRow.holds Try.pinned (OpenSpec.ofChange fnExactCopySpec)

/-- ITS FALSE NEIGHBOUR: 'it returns false'. Refute it at one input. -/
def fnExactCopyWrong : ChangeSpec := { name := "fnExactCopy", fn := fun _ => fun
  | [d1, d2] => { results := [.lit (.bool false)], args := [d1, d2] }
  | _ => none }
def FnExactCopyWrongFalsely : Prop := fnExactCopyRow.holds Try.pinned (OpenSpec.ofChange fnExactCopyWrong)

/-- 'laws.FnExactCompare': WHATEVER THE INPUT: true; the input reads as it did. -/
def fnExactCompareSpec : ChangeSpec := { name := "fnExactCompare", fn := fun _ => fun
  | [d1, d2] => { results := [.lit (.bool true)], args := [d1, d2] }
  | _ => none }
def fnExactCompareRow : OpenClaim := { program := "ytldaklchbdfomaa", sum := "802d098030d85ad28c900a1f78baab1d2f2bedfbc5848b95ae6493e7a96e97ae", func := "loop.example/lib-steadybytes/laws.FnExactCompare", spec := "fnExactCompare", inPlace := ["crypto/internal/constanttime.boolToUint8"], apart := false }
def FnExactCompareSaid : Prop := fnExactCompareRow.holds Try.pinned (OpenSpec.ofChange fnExactCompareSpec)

/-- ITS FALSE NEIGHBOUR: 'it returns false'. Refute it at one input. -/
def fnExactCompareWrong : ChangeSpec := { name := "fnExactCompare", fn := fun _ => fun
  | [d1, d2] => { results := [.lit (.bool false)], args := [d1, d2] }
  | _ => none }
def FnExactCompareWrongFalsely : Prop := fnExactCompareRow.holds Try.pinned (OpenSpec.ofChange fnExactCompareWrong)

/-- 'laws.FnListLength': WHATEVER THE INPUT: true; the input reads as it did. -/
def fnListLengthSpec : ChangeSpec := { name := "fnListLength", fn := fun _ => fun
  | [d] => { results := [.lit (.bool true)], args := [d] }
  | _ => none }
def fnListLengthRow : OpenClaim := { program := "ytldaklchbdfomaa", sum := "802d098030d85ad28c900a1f78baab1d2f2bedfbc5848b95ae6493e7a96e97ae", func := "loop.example/lib-steadybytes/laws.FnListLength", spec := "fnListLength", inPlace := ["crypto/internal/constanttime.boolToUint8"], apart := false }
def FnListLengthSaid : Prop := fnListLengthRow.holds Try.pinned (OpenSpec.ofChange fnListLengthSpec)

/-- ITS FALSE NEIGHBOUR: 'it returns false'. Refute it at one input. -/
def fnListLengthWrong : ChangeSpec := { name := "fnListLength", fn := fun _ => fun
  | [d] => { results := [.lit (.bool false)], args := [d] }
  | _ => none }
def FnListLengthWrongFalsely : Prop := fnListLengthRow.holds Try.pinned (OpenSpec.ofChange fnListLengthWrong)

/-- 'laws.FnListSelf': WHATEVER THE INPUT: true; the input reads as it did. -/
def fnListSelfSpec : ChangeSpec := { name := "fnListSelf", fn := fun _ => fun
  | [d] => { results := [.lit (.bool true)], args := [d] }
  | _ => none }
def fnListSelfRow : OpenClaim := { program := "ytldaklchbdfomaa", sum := "802d098030d85ad28c900a1f78baab1d2f2bedfbc5848b95ae6493e7a96e97ae", func := "loop.example/lib-steadybytes/laws.FnListSelf", spec := "fnListSelf", inPlace := ["crypto/internal/constanttime.boolToUint8"], apart := false }
def FnListSelfSaid : Prop := fnListSelfRow.holds Try.pinned (OpenSpec.ofChange fnListSelfSpec)

/-- ITS FALSE NEIGHBOUR: 'it returns false'. Refute it at one input. -/
def fnListSelfWrong : ChangeSpec := { name := "fnListSelf", fn := fun _ => fun
  | [d] => { results := [.lit (.bool false)], args := [d] }
  | _ => none }
def FnListSelfWrongFalsely : Prop := fnListSelfRow.holds Try.pinned (OpenSpec.ofChange fnListSelfWrong)

/-- 'laws.FnCopyKeeps': WHATEVER THE INPUT: true; the input reads as it did. -/
def fnCopyKeepsSpec : ChangeSpec := { name := "fnCopyKeeps", fn := fun _ => fun
  | [d] => { results := [.lit (.bool true)], args := [d] }
  | _ => none }
def fnCopyKeepsRow : OpenClaim := { program := "ytldaklchbdfomaa", sum := "802d098030d85ad28c900a1f78baab1d2f2bedfbc5848b95ae6493e7a96e97ae", func := "loop.example/lib-steadybytes/laws.FnCopyKeeps", spec := "fnCopyKeeps", inPlace := ["crypto/internal/constanttime.boolToUint8"], apart := false }
def FnCopyKeepsSaid : Prop := fnCopyKeepsRow.holds Try.pinned (OpenSpec.ofChange fnCopyKeepsSpec)

/-- ITS FALSE NEIGHBOUR: 'it returns false'. Refute it at one input. -/
def fnCopyKeepsWrong : ChangeSpec := { name := "fnCopyKeeps", fn := fun _ => fun
  | [d] => { results := [.lit (.bool false)], args := [d] }
  | _ => none }
def FnCopyKeepsWrongFalsely : Prop := fnCopyKeepsRow.holds Try.pinned (OpenSpec.ofChange fnCopyKeepsWrong)

/-- 'laws.FnCopyNone': WHATEVER THE INPUT: true; the input reads as it did. -/
def fnCopyNoneSpec : ChangeSpec := { name := "fnCopyNone", fn := fun _ => fun
  | [d] => { results := [.lit (.bool true)], args := [d] }
  | _ => none }
def fnCopyNoneRow : OpenClaim := { program := "ytldaklchbdfomaa", sum := "802d098030d85ad28c900a1f78baab1d2f2bedfbc5848b95ae6493e7a96e97ae", func := "loop.example/lib-steadybytes/laws.FnCopyNone", spec := "fnCopyNone", inPlace := ["crypto/internal/constanttime.boolToUint8"], apart := false }
def FnCopyNoneSaid : Prop := fnCopyNoneRow.holds Try.pinned (OpenSpec.ofChange fnCopyNoneSpec)

/-- ITS FALSE NEIGHBOUR: 'it returns false'. Refute it at one input. -/
def fnCopyNoneWrong : ChangeSpec := { name := "fnCopyNone", fn := fun _ => fun
  | [d] => { results := [.lit (.bool false)], args := [d] }
  | _ => none }
def FnCopyNoneWrongFalsely : Prop := fnCopyNoneRow.holds Try.pinned (OpenSpec.ofChange fnCopyNoneWrong)

/-- 'laws.FnCopyTwice': WHATEVER THE INPUT: true; the input reads as it did. -/
def fnCopyTwiceSpec : ChangeSpec := { name := "fnCopyTwice", fn := fun _ => fun
  | [d] => { results := [.lit (.bool true)], args := [d] }
  | _ => none }
def fnCopyTwiceRow : OpenClaim := { program := "ytldaklchbdfomaa", sum := "802d098030d85ad28c900a1f78baab1d2f2bedfbc5848b95ae6493e7a96e97ae", func := "loop.example/lib-steadybytes/laws.FnCopyTwice", spec := "fnCopyTwice", inPlace := ["crypto/internal/constanttime.boolToUint8"], apart := false }
def FnCopyTwiceSaid : Prop := fnCopyTwiceRow.holds Try.pinned (OpenSpec.ofChange fnCopyTwiceSpec)

/-- ITS FALSE NEIGHBOUR: 'it returns false'. Refute it at one input. -/
def fnCopyTwiceWrong : ChangeSpec := { name := "fnCopyTwice", fn := fun _ => fun
  | [d] => { results := [.lit (.bool false)], args := [d] }
  | _ => none }
def FnCopyTwiceWrongFalsely : Prop := fnCopyTwiceRow.holds Try.pinned (OpenSpec.ofChange fnCopyTwiceWrong)

/-- 'laws.FnListEither': WHATEVER THE INPUT: true; the input reads as it did. -/
def fnListEitherSpec : ChangeSpec := { name := "fnListEither", fn := fun _ => fun
  | [d] => { results := [.lit (.bool true)], args := [d] }
  | _ => none }
def fnListEitherRow : OpenClaim := { program := "ytldaklchbdfomaa", sum := "802d098030d85ad28c900a1f78baab1d2f2bedfbc5848b95ae6493e7a96e97ae", func := "loop.example/lib-steadybytes/laws.FnListEither", spec := "fnListEither", inPlace := ["crypto/internal/constanttime.boolToUint8"], apart := false }
def FnListEitherSaid : Prop := fnListEitherRow.holds Try.pinned (OpenSpec.ofChange fnListEitherSpec)

/-- ITS FALSE NEIGHBOUR: 'it returns false'. Refute it at one input. -/
def fnListEitherWrong : ChangeSpec := { name := "fnListEither", fn := fun _ => fun
  | [d] => { results := [.lit (.bool false)], args := [d] }
  | _ => none }
def FnListEitherWrongFalsely : Prop := fnListEitherRow.holds Try.pinned (OpenSpec.ofChange fnListEitherWrong)

/-- 'laws.FnListKeeps': WHATEVER THE INPUT: true; the input reads as it did. -/
def fnListKeepsSpec : ChangeSpec := { name := "fnListKeeps", fn := fun _ => fun
  | [d] => { results := [.lit (.bool true)], args := [d] }
  | _ => none }
def fnListKeepsRow : OpenClaim := { program := "ytldaklchbdfomaa", sum := "802d098030d85ad28c900a1f78baab1d2f2bedfbc5848b95ae6493e7a96e97ae", func := "loop.example/lib-steadybytes/laws.FnListKeeps", spec := "fnListKeeps", inPlace := ["crypto/internal/constanttime.boolToUint8"], apart := false }
def FnListKeepsSaid : Prop := fnListKeepsRow.holds Try.pinned (OpenSpec.ofChange fnListKeepsSpec)

/-- ITS FALSE NEIGHBOUR: 'it returns false'. Refute it at one input. -/
def fnListKeepsWrong : ChangeSpec := { name := "fnListKeeps", fn := fun _ => fun
  | [d] => { results := [.lit (.bool false)], args := [d] }
  | _ => none }
def FnListKeepsWrongFalsely : Prop := fnListKeepsRow.holds Try.pinned (OpenSpec.ofChange fnListKeepsWrong)

/-- 'laws.FnListParts': WHATEVER THE INPUT: true; the input reads as it did. -/
def fnListPartsSpec : ChangeSpec := { name := "fnListParts", fn := fun _ => fun
  | [d] => { results := [.lit (.bool true)], args := [d] }
  | _ => none }
def fnListPartsRow : OpenClaim := { program := "ytldaklchbdfomaa", sum := "802d098030d85ad28c900a1f78baab1d2f2bedfbc5848b95ae6493e7a96e97ae", func := "loop.example/lib-steadybytes/laws.FnListParts", spec := "fnListParts", inPlace := ["crypto/internal/constanttime.boolToUint8"], apart := false }
def FnListPartsSaid : Prop := fnListPartsRow.holds Try.pinned (OpenSpec.ofChange fnListPartsSpec)

/-- ITS FALSE NEIGHBOUR: 'it returns false'. Refute it at one input. -/
def fnListPartsWrong : ChangeSpec := { name := "fnListParts", fn := fun _ => fun
  | [d] => { results := [.lit (.bool false)], args := [d] }
  | _ => none }
def FnListPartsWrongFalsely : Prop := fnListPartsRow.holds Try.pinned (OpenSpec.ofChange fnListPartsWrong)

/-- 'laws.FnListRoad': WHATEVER THE INPUT: true; the input reads as it did. -/
def fnListRoadSpec : ChangeSpec := { name := "fnListRoad", fn := fun _ => fun
  | [d] => { results := [.lit (.bool true)], args := [d] }
  | _ => none }
def fnListRoadRow : OpenClaim := { program := "ytldaklchbdfomaa", sum := "802d098030d85ad28c900a1f78baab1d2f2bedfbc5848b95ae6493e7a96e97ae", func := "loop.example/lib-steadybytes/laws.FnListRoad", spec := "fnListRoad", inPlace := ["crypto/internal/constanttime.boolToUint8"], apart := false }
def FnListRoadSaid : Prop := fnListRoadRow.holds Try.pinned (OpenSpec.ofChange fnListRoadSpec)

/-- ITS FALSE NEIGHBOUR: 'it returns false'. Refute it at one input. -/
def fnListRoadWrong : ChangeSpec := { name := "fnListRoad", fn := fun _ => fun
  | [d] => { results := [.lit (.bool false)], args := [d] }
  | _ => none }
def FnListRoadWrongFalsely : Prop := fnListRoadRow.holds Try.pinned (OpenSpec.ofChange fnListRoadWrong)

/- THE SECOND FORM. 'bulk': how many values and letters a reading holds, each counted each time it is reached (what is shared counts as often as it is met; a slice's spare places count too). A statement '..UptoSaid' is the law's where the arguments, and the package variables that the reading takes, are together of bulk at most 1048576: NARROWER than '..Said'. Prove '..Said' where nothing that the law and all that it calls make is longer than what came in: it says more and counts as full. Else prove '..UptoSaid'. A law counts once. -/
mutual
def uptoBulk {H : Type} : DataW H → Nat
  | .lit (.string bytes) => bytes.length + 1
  | .lit _ => 1
  | .nil => 1
  | .ptr d => uptoBulk d + 1
  | .slice elems spare => uptoBulkAll elems + uptoBulkAll spare + 1
  | .agg parts => uptoBulkAll parts + 1
  | .iface _ d => uptoBulk d + 1
  | .map entries => uptoBulkEntries entries + 1
  | .held _ => 1
def uptoBulkAll {H : Type} : List (DataW H) → Nat
  | [] => 0
  | d :: r => uptoBulk d + uptoBulkAll r
def uptoBulkEntries {H : Type} : List (Lit × DataW H) → Nat
  | [] => 0
  | x :: r => uptoBulkEntry x + uptoBulkEntries r
def uptoBulkEntry {H : Type} : Lit × DataW H → Nat
  | (.string bytes, d) => bytes.length + uptoBulk d + 1
  | (_, d) => uptoBulk d + 1
 end
def uptoSmall : (H : Type) → List (DataW H) → Bool := fun _ ds => decide (uptoBulkAll ds ≤ 1048576)
def OpenSpec.upto (s : _root_.Go.ChangeSpec) : _root_.Go.OpenSpec := { _root_.Go.OpenSpec.ofChange s with cond := some uptoSmall }

/-- 'laws.FnCopyIfEqual', WHERE WHAT IT READS IS OF BULK AT MOST 1048576: true; the input reads as it did. -/
def fnCopyIfEqualUptoRow : OpenClaim := { program := "ytldaklchbdfomaa", sum := "802d098030d85ad28c900a1f78baab1d2f2bedfbc5848b95ae6493e7a96e97ae", func := "loop.example/lib-steadybytes/laws.FnCopyIfEqual", spec := "fnCopyIfEqual", inPlace := ["crypto/internal/constanttime.boolToUint8"], apart := false, narrowed := true }
def FnCopyIfEqualUptoSaid : Prop := fnCopyIfEqualUptoRow.holds Try.pinned (OpenSpec.upto fnCopyIfEqualSpec)

/-- 'laws.FnExactCopy', WHERE WHAT IT READS IS OF BULK AT MOST 1048576: true; the input reads as it did. -/
def fnExactCopyUptoRow : OpenClaim := { program := "ytldaklchbdfomaa", sum := "802d098030d85ad28c900a1f78baab1d2f2bedfbc5848b95ae6493e7a96e97ae", func := "loop.example/lib-steadybytes/laws.FnExactCopy", spec := "fnExactCopy", apart := false, narrowed := true }
def FnExactCopyUptoSaid : Prop := fnExactCopyUptoRow.holds Try.pinned (OpenSpec.upto fnExactCopySpec)

/-- 'laws.FnExactCompare', WHERE WHAT IT READS IS OF BULK AT MOST 1048576: true; the input reads as it did. -/
def fnExactCompareUptoRow : OpenClaim := { program := "ytldaklchbdfomaa", sum := "802d098030d85ad28c900a1f78baab1d2f2bedfbc5848b95ae6493e7a96e97ae", func := "loop.example/lib-steadybytes/laws.FnExactCompare", spec := "fnExactCompare", inPlace := ["crypto/internal/constanttime.boolToUint8"], apart := false, narrowed := true }
def FnExactCompareUptoSaid : Prop := fnExactCompareUptoRow.holds Try.pinned (OpenSpec.upto fnExactCompareSpec)

/-- 'laws.FnListLength', WHERE WHAT IT READS IS OF BULK AT MOST 1048576: true; the input reads as it did. -/
def fnListLengthUptoRow : OpenClaim := { program := "ytldaklchbdfomaa", sum := "802d098030d85ad28c900a1f78baab1d2f2bedfbc5848b95ae6493e7a96e97ae", func := "loop.example/lib-steadybytes/laws.FnListLength", spec := "fnListLength", inPlace := ["crypto/internal/constanttime.boolToUint8"], apart := false, narrowed := true }
def FnListLengthUptoSaid : Prop := fnListLengthUptoRow.holds Try.pinned (OpenSpec.upto fnListLengthSpec)

/-- 'laws.FnListSelf', WHERE WHAT IT READS IS OF BULK AT MOST 1048576: true; the input reads as it did. -/
def fnListSelfUptoRow : OpenClaim := { program := "ytldaklchbdfomaa", sum := "802d098030d85ad28c900a1f78baab1d2f2bedfbc5848b95ae6493e7a96e97ae", func := "loop.example/lib-steadybytes/laws.FnListSelf", spec := "fnListSelf", inPlace := ["crypto/internal/constanttime.boolToUint8"], apart := false, narrowed := true }
def FnListSelfUptoSaid : Prop := fnListSelfUptoRow.holds Try.pinned (OpenSpec.upto fnListSelfSpec)

/-- 'laws.FnCopyKeeps', WHERE WHAT IT READS IS OF BULK AT MOST 1048576: true; the input reads as it did. -/
def fnCopyKeepsUptoRow : OpenClaim := { program := "ytldaklchbdfomaa", sum := "802d098030d85ad28c900a1f78baab1d2f2bedfbc5848b95ae6493e7a96e97ae", func := "loop.example/lib-steadybytes/laws.FnCopyKeeps", spec := "fnCopyKeeps", inPlace := ["crypto/internal/constanttime.boolToUint8"], apart := false, narrowed := true }
def FnCopyKeepsUptoSaid : Prop := fnCopyKeepsUptoRow.holds Try.pinned (OpenSpec.upto fnCopyKeepsSpec)

/-- 'laws.FnCopyNone', WHERE WHAT IT READS IS OF BULK AT MOST 1048576: true; the input reads as it did. -/
def fnCopyNoneUptoRow : OpenClaim := { program := "ytldaklchbdfomaa", sum := "802d098030d85ad28c900a1f78baab1d2f2bedfbc5848b95ae6493e7a96e97ae", func := "loop.example/lib-steadybytes/laws.FnCopyNone", spec := "fnCopyNone", inPlace := ["crypto/internal/constanttime.boolToUint8"], apart := false, narrowed := true }
def FnCopyNoneUptoSaid : Prop := fnCopyNoneUptoRow.holds Try.pinned (OpenSpec.upto fnCopyNoneSpec)

/-- 'laws.FnCopyTwice', WHERE WHAT IT READS IS OF BULK AT MOST 1048576: true; the input reads as it did. -/
def fnCopyTwiceUptoRow : OpenClaim := { program := "ytldaklchbdfomaa", sum := "802d098030d85ad28c900a1f78baab1d2f2bedfbc5848b95ae6493e7a96e97ae", func := "loop.example/lib-steadybytes/laws.FnCopyTwice", spec := "fnCopyTwice", inPlace := ["crypto/internal/constanttime.boolToUint8"], apart := false, narrowed := true }
def FnCopyTwiceUptoSaid : Prop := fnCopyTwiceUptoRow.holds Try.pinned (OpenSpec.upto fnCopyTwiceSpec)

/-- 'laws.FnListEither', WHERE WHAT IT READS IS OF BULK AT MOST 1048576: true; the input reads as it did. -/
def fnListEitherUptoRow : OpenClaim := { program := "ytldaklchbdfomaa", sum := "802d098030d85ad28c900a1f78baab1d2f2bedfbc5848b95ae6493e7a96e97ae", func := "loop.example/lib-steadybytes/laws.FnListEither", spec := "fnListEither", inPlace := ["crypto/internal/constanttime.boolToUint8"], apart := false, narrowed := true }
def FnListEitherUptoSaid : Prop := fnListEitherUptoRow.holds Try.pinned (OpenSpec.upto fnListEitherSpec)

/-- 'laws.FnListKeeps', WHERE WHAT IT READS IS OF BULK AT MOST 1048576: true; the input reads as it did. -/
def fnListKeepsUptoRow : OpenClaim := { program := "ytldaklchbdfomaa", sum := "802d098030d85ad28c900a1f78baab1d2f2bedfbc5848b95ae6493e7a96e97ae", func := "loop.example/lib-steadybytes/laws.FnListKeeps", spec := "fnListKeeps", inPlace := ["crypto/internal/constanttime.boolToUint8"], apart := false, narrowed := true }
def FnListKeepsUptoSaid : Prop := fnListKeepsUptoRow.holds Try.pinned (OpenSpec.upto fnListKeepsSpec)

/-- 'laws.FnListParts', WHERE WHAT IT READS IS OF BULK AT MOST 1048576: true; the input reads as it did. -/
def fnListPartsUptoRow : OpenClaim := { program := "ytldaklchbdfomaa", sum := "802d098030d85ad28c900a1f78baab1d2f2bedfbc5848b95ae6493e7a96e97ae", func := "loop.example/lib-steadybytes/laws.FnListParts", spec := "fnListParts", inPlace := ["crypto/internal/constanttime.boolToUint8"], apart := false, narrowed := true }
def FnListPartsUptoSaid : Prop := fnListPartsUptoRow.holds Try.pinned (OpenSpec.upto fnListPartsSpec)

/-- 'laws.FnListRoad', WHERE WHAT IT READS IS OF BULK AT MOST 1048576: true; the input reads as it did. -/
def fnListRoadUptoRow : OpenClaim := { program := "ytldaklchbdfomaa", sum := "802d098030d85ad28c900a1f78baab1d2f2bedfbc5848b95ae6493e7a96e97ae", func := "loop.example/lib-steadybytes/laws.FnListRoad", spec := "fnListRoad", inPlace := ["crypto/internal/constanttime.boolToUint8"], apart := false, narrowed := true }
def FnListRoadUptoSaid : Prop := fnListRoadUptoRow.holds Try.pinned (OpenSpec.upto fnListRoadSpec)

end Rows
end Go.Proofs.Ytldaklchbdfomaa
