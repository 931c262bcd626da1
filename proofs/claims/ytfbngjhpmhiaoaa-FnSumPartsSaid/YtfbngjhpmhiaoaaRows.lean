/-
  No cell of these rows narrows 'for every input' (looked for: loops, veiled, ifaces, maps, wideKeys, modest, calm, conditions, laid).
  DERIVED. THE GIVEN ROWS OF THIS SEAT. 11 by the template 'for every input the law returns true; each argument reads behind the call as it read before'; 0 by the template 'total and deterministic' (their statements: YtfbngjhpmhiaoaaTotals.lean).
  GIVEN WITH THE SEED: the statements are not yours to turn. If you find one false, say at which input.
  Laid BY PROGRAM, IN A SANDBOX (cutbox-rows.mjs): the forced cells as the released guide's own fill.sh prints them over the translation bf8a2ec962fb5c23… (all of the seat's roots in one cut). By AI agents, Wed Nov 11 2026. No macro, syntax, notation, axiom, sorry.
-/
import Derived.Test.YtfbngjhpmhiaoaaChecked
import GoSem.Claim
import GoSem.ClaimJoined
import GoSem.ClaimMapViews
import Derived.JoinedTies
import Derived.KernelRfl
namespace Go.Proofs.Ytfbngjhpmhiaoaa
/- THE CELL 'sum', in the pinned program and in every row, IS THE sha256 OF THE DUMP (.gsa) THAT YtfbngjhpmhiaoaaProg.lean LOADS. Nothing in Lean hashes anything: it is a label: what it is worth is what the hold of that sum in a sandbox is worth. -/
noncomputable def Try.pinned : Pinned := { name := "ytfbngjhpmhiaoaa", sum := "bf8a2ec962fb5c23edf6ab195b4561d7556bd6b06974f1cc592f95db6709156f", checked := Try.checked }
namespace Rows
def none {H : Type} : Left H := { results := [], args := [] }

/-- 'laws.FnSumInto': WHATEVER THE INPUT: true; the input reads as it did. -/
def fnSumIntoSpec : ChangeSpec := { name := "fnSumInto", fn := fun _ => fun
  | [d] => { results := [.lit (.bool true)], args := [d] }
  | _ => none }
def fnSumIntoRow : OpenClaim := { program := "ytfbngjhpmhiaoaa", sum := "bf8a2ec962fb5c23edf6ab195b4561d7556bd6b06974f1cc592f95db6709156f", func := "loop.example/lib-steadybytes/laws.FnSumInto", spec := "fnSumInto", inPlace := ["crypto/internal/fips140/alias.AnyOverlap", "crypto/internal/fips140/subtle.xorBytes", "crypto/internal/constanttime.boolToUint8"], unfollowed := true, recurses := true, apart := false }
def FnSumIntoSaid : Prop := fnSumIntoRow.holds Try.pinned (OpenSpec.ofChange fnSumIntoSpec)

/-- ITS FALSE NEIGHBOUR: 'it returns false'. Refute it at one input. -/
def fnSumIntoWrong : ChangeSpec := { name := "fnSumInto", fn := fun _ => fun
  | [d] => { results := [.lit (.bool false)], args := [d] }
  | _ => none }
def FnSumIntoWrongFalsely : Prop := fnSumIntoRow.holds Try.pinned (OpenSpec.ofChange fnSumIntoWrong)

/-- 'laws.FnSumEqual': WHATEVER THE INPUT: true; the input reads as it did. -/
def fnSumEqualSpec : ChangeSpec := { name := "fnSumEqual", fn := fun _ => fun
  | [d] => { results := [.lit (.bool true)], args := [d] }
  | _ => none }
def fnSumEqualRow : OpenClaim := { program := "ytfbngjhpmhiaoaa", sum := "bf8a2ec962fb5c23edf6ab195b4561d7556bd6b06974f1cc592f95db6709156f", func := "loop.example/lib-steadybytes/laws.FnSumEqual", spec := "fnSumEqual", inPlace := ["crypto/internal/fips140/alias.AnyOverlap", "crypto/internal/fips140/subtle.xorBytes", "crypto/internal/constanttime.boolToUint8"], unfollowed := true, recurses := true, apart := false }
def FnSumEqualSaid : Prop := fnSumEqualRow.holds Try.pinned (OpenSpec.ofChange fnSumEqualSpec)

/-- ITS FALSE NEIGHBOUR: 'it returns false'. Refute it at one input. -/
def fnSumEqualWrong : ChangeSpec := { name := "fnSumEqual", fn := fun _ => fun
  | [d] => { results := [.lit (.bool false)], args := [d] }
  | _ => none }
def FnSumEqualWrongFalsely : Prop := fnSumEqualRow.holds Try.pinned (OpenSpec.ofChange fnSumEqualWrong)

/-- 'laws.FnExactXorInto': WHATEVER THE INPUT: true; the input reads as it did. -/
def fnExactXorIntoSpec : ChangeSpec := { name := "fnExactXorInto", fn := fun _ => fun
  | [d1, d2] => { results := [.lit (.bool true)], args := [d1, d2] }
  | _ => none }
def fnExactXorIntoRow : OpenClaim := { program := "ytfbngjhpmhiaoaa", sum := "bf8a2ec962fb5c23edf6ab195b4561d7556bd6b06974f1cc592f95db6709156f", func := "loop.example/lib-steadybytes/laws.FnExactXorInto", spec := "fnExactXorInto", inPlace := ["crypto/internal/fips140/alias.AnyOverlap", "crypto/internal/fips140/subtle.xorBytes"], apart := false }
def FnExactXorIntoSaid : Prop := fnExactXorIntoRow.holds Try.pinned (OpenSpec.ofChange fnExactXorIntoSpec)

/-- ITS FALSE NEIGHBOUR: 'it returns false'. Refute it at one input. -/
def fnExactXorIntoWrong : ChangeSpec := { name := "fnExactXorInto", fn := fun _ => fun
  | [d1, d2] => { results := [.lit (.bool false)], args := [d1, d2] }
  | _ => none }
def FnExactXorIntoWrongFalsely : Prop := fnExactXorIntoRow.holds Try.pinned (OpenSpec.ofChange fnExactXorIntoWrong)

/-- 'laws.FnExactXorBytes': WHATEVER THE INPUT: true; the input reads as it did. -/
def fnExactXorBytesSpec : ChangeSpec := { name := "fnExactXorBytes", fn := fun _ => fun
  | [d1, d2, d3] => { results := [.lit (.bool true)], args := [d1, d2, d3] }
  | _ => none }
def fnExactXorBytesRow : OpenClaim := { program := "ytfbngjhpmhiaoaa", sum := "bf8a2ec962fb5c23edf6ab195b4561d7556bd6b06974f1cc592f95db6709156f", func := "loop.example/lib-steadybytes/laws.FnExactXorBytes", spec := "fnExactXorBytes", inPlace := ["crypto/internal/fips140/alias.AnyOverlap", "crypto/internal/fips140/subtle.xorBytes"], unfollowed := true, recurses := true, apart := false }
def FnExactXorBytesSaid : Prop := fnExactXorBytesRow.holds Try.pinned (OpenSpec.ofChange fnExactXorBytesSpec)

/-- ITS FALSE NEIGHBOUR: 'it returns false'. Refute it at one input. -/
def fnExactXorBytesWrong : ChangeSpec := { name := "fnExactXorBytes", fn := fun _ => fun
  | [d1, d2, d3] => { results := [.lit (.bool false)], args := [d1, d2, d3] }
  | _ => none }
def FnExactXorBytesWrongFalsely : Prop := fnExactXorBytesRow.holds Try.pinned (OpenSpec.ofChange fnExactXorBytesWrong)

/-- 'laws.FnSumMany': WHATEVER THE INPUT: true; the input reads as it did. -/
def fnSumManySpec : ChangeSpec := { name := "fnSumMany", fn := fun _ => fun
  | [d] => { results := [.lit (.bool true)], args := [d] }
  | _ => none }
def fnSumManyRow : OpenClaim := { program := "ytfbngjhpmhiaoaa", sum := "bf8a2ec962fb5c23edf6ab195b4561d7556bd6b06974f1cc592f95db6709156f", func := "loop.example/lib-steadybytes/laws.FnSumMany", spec := "fnSumMany", inPlace := ["crypto/internal/fips140/alias.AnyOverlap", "crypto/internal/fips140/subtle.xorBytes"], unfollowed := true, recurses := true, apart := false }
def FnSumManySaid : Prop := fnSumManyRow.holds Try.pinned (OpenSpec.ofChange fnSumManySpec)

/-- ITS FALSE NEIGHBOUR: 'it returns false'. Refute it at one input. -/
def fnSumManyWrong : ChangeSpec := { name := "fnSumMany", fn := fun _ => fun
  | [d] => { results := [.lit (.bool false)], args := [d] }
  | _ => none }
def FnSumManyWrongFalsely : Prop := fnSumManyRow.holds Try.pinned (OpenSpec.ofChange fnSumManyWrong)

/-- 'laws.FnSumIntoBack': WHATEVER THE INPUT: true; the input reads as it did. -/
def fnSumIntoBackSpec : ChangeSpec := { name := "fnSumIntoBack", fn := fun _ => fun
  | [d] => { results := [.lit (.bool true)], args := [d] }
  | _ => none }
def fnSumIntoBackRow : OpenClaim := { program := "ytfbngjhpmhiaoaa", sum := "bf8a2ec962fb5c23edf6ab195b4561d7556bd6b06974f1cc592f95db6709156f", func := "loop.example/lib-steadybytes/laws.FnSumIntoBack", spec := "fnSumIntoBack", inPlace := ["crypto/internal/fips140/alias.AnyOverlap", "crypto/internal/fips140/subtle.xorBytes", "crypto/internal/constanttime.boolToUint8"], apart := false }
def FnSumIntoBackSaid : Prop := fnSumIntoBackRow.holds Try.pinned (OpenSpec.ofChange fnSumIntoBackSpec)

/-- ITS FALSE NEIGHBOUR: 'it returns false'. Refute it at one input. -/
def fnSumIntoBackWrong : ChangeSpec := { name := "fnSumIntoBack", fn := fun _ => fun
  | [d] => { results := [.lit (.bool false)], args := [d] }
  | _ => none }
def FnSumIntoBackWrongFalsely : Prop := fnSumIntoBackRow.holds Try.pinned (OpenSpec.ofChange fnSumIntoBackWrong)

/-- 'laws.FnSumBack': WHATEVER THE INPUT: true; the input reads as it did. -/
def fnSumBackSpec : ChangeSpec := { name := "fnSumBack", fn := fun _ => fun
  | [d] => { results := [.lit (.bool true)], args := [d] }
  | _ => none }
def fnSumBackRow : OpenClaim := { program := "ytfbngjhpmhiaoaa", sum := "bf8a2ec962fb5c23edf6ab195b4561d7556bd6b06974f1cc592f95db6709156f", func := "loop.example/lib-steadybytes/laws.FnSumBack", spec := "fnSumBack", inPlace := ["crypto/internal/fips140/alias.AnyOverlap", "crypto/internal/fips140/subtle.xorBytes", "crypto/internal/constanttime.boolToUint8"], unfollowed := true, recurses := true, apart := false }
def FnSumBackSaid : Prop := fnSumBackRow.holds Try.pinned (OpenSpec.ofChange fnSumBackSpec)

/-- ITS FALSE NEIGHBOUR: 'it returns false'. Refute it at one input. -/
def fnSumBackWrong : ChangeSpec := { name := "fnSumBack", fn := fun _ => fun
  | [d] => { results := [.lit (.bool false)], args := [d] }
  | _ => none }
def FnSumBackWrongFalsely : Prop := fnSumBackRow.holds Try.pinned (OpenSpec.ofChange fnSumBackWrong)

/-- 'laws.FnSumEither': WHATEVER THE INPUT: true; the input reads as it did. -/
def fnSumEitherSpec : ChangeSpec := { name := "fnSumEither", fn := fun _ => fun
  | [d] => { results := [.lit (.bool true)], args := [d] }
  | _ => none }
def fnSumEitherRow : OpenClaim := { program := "ytfbngjhpmhiaoaa", sum := "bf8a2ec962fb5c23edf6ab195b4561d7556bd6b06974f1cc592f95db6709156f", func := "loop.example/lib-steadybytes/laws.FnSumEither", spec := "fnSumEither", inPlace := ["crypto/internal/fips140/alias.AnyOverlap", "crypto/internal/fips140/subtle.xorBytes", "crypto/internal/constanttime.boolToUint8"], unfollowed := true, recurses := true, apart := false }
def FnSumEitherSaid : Prop := fnSumEitherRow.holds Try.pinned (OpenSpec.ofChange fnSumEitherSpec)

/-- ITS FALSE NEIGHBOUR: 'it returns false'. Refute it at one input. -/
def fnSumEitherWrong : ChangeSpec := { name := "fnSumEither", fn := fun _ => fun
  | [d] => { results := [.lit (.bool false)], args := [d] }
  | _ => none }
def FnSumEitherWrongFalsely : Prop := fnSumEitherRow.holds Try.pinned (OpenSpec.ofChange fnSumEitherWrong)

/-- 'laws.FnSumNone': WHATEVER THE INPUT: true; the input reads as it did. -/
def fnSumNoneSpec : ChangeSpec := { name := "fnSumNone", fn := fun _ => fun
  | [d] => { results := [.lit (.bool true)], args := [d] }
  | _ => none }
def fnSumNoneRow : OpenClaim := { program := "ytfbngjhpmhiaoaa", sum := "bf8a2ec962fb5c23edf6ab195b4561d7556bd6b06974f1cc592f95db6709156f", func := "loop.example/lib-steadybytes/laws.FnSumNone", spec := "fnSumNone", inPlace := ["crypto/internal/fips140/alias.AnyOverlap", "crypto/internal/fips140/subtle.xorBytes", "crypto/internal/constanttime.boolToUint8"], unfollowed := true, recurses := true, apart := false }
def FnSumNoneSaid : Prop := fnSumNoneRow.holds Try.pinned (OpenSpec.ofChange fnSumNoneSpec)

/-- ITS FALSE NEIGHBOUR: 'it returns false'. Refute it at one input. -/
def fnSumNoneWrong : ChangeSpec := { name := "fnSumNone", fn := fun _ => fun
  | [d] => { results := [.lit (.bool false)], args := [d] }
  | _ => none }
def FnSumNoneWrongFalsely : Prop := fnSumNoneRow.holds Try.pinned (OpenSpec.ofChange fnSumNoneWrong)

/-- 'laws.FnSumPanics': WHATEVER THE INPUT: true; the input reads as it did. -/
def fnSumPanicsSpec : ChangeSpec := { name := "fnSumPanics", fn := fun _ => fun
  | [d] => { results := [.lit (.bool true)], args := [d] }
  | _ => none }
def fnSumPanicsRow : OpenClaim := { program := "ytfbngjhpmhiaoaa", sum := "bf8a2ec962fb5c23edf6ab195b4561d7556bd6b06974f1cc592f95db6709156f", func := "loop.example/lib-steadybytes/laws.FnSumPanics", spec := "fnSumPanics", inPlace := ["crypto/internal/fips140/alias.AnyOverlap", "crypto/internal/fips140/subtle.xorBytes", "crypto/internal/constanttime.boolToUint8"], unfollowed := true, recurses := true, apart := false }
def FnSumPanicsSaid : Prop := fnSumPanicsRow.holds Try.pinned (OpenSpec.ofChange fnSumPanicsSpec)

/-- ITS FALSE NEIGHBOUR: 'it returns false'. Refute it at one input. -/
def fnSumPanicsWrong : ChangeSpec := { name := "fnSumPanics", fn := fun _ => fun
  | [d] => { results := [.lit (.bool false)], args := [d] }
  | _ => none }
def FnSumPanicsWrongFalsely : Prop := fnSumPanicsRow.holds Try.pinned (OpenSpec.ofChange fnSumPanicsWrong)

/-- 'laws.FnSumParts': WHATEVER THE INPUT: true; the input reads as it did. -/
def fnSumPartsSpec : ChangeSpec := { name := "fnSumParts", fn := fun _ => fun
  | [d] => { results := [.lit (.bool true)], args := [d] }
  | _ => none }
def fnSumPartsRow : OpenClaim := { program := "ytfbngjhpmhiaoaa", sum := "bf8a2ec962fb5c23edf6ab195b4561d7556bd6b06974f1cc592f95db6709156f", func := "loop.example/lib-steadybytes/laws.FnSumParts", spec := "fnSumParts", inPlace := ["crypto/internal/fips140/alias.AnyOverlap", "crypto/internal/fips140/subtle.xorBytes", "crypto/internal/constanttime.boolToUint8"], unfollowed := true, recurses := true, apart := false }
def FnSumPartsSaid : Prop := fnSumPartsRow.holds Try.pinned (OpenSpec.ofChange fnSumPartsSpec)

/-- ITS FALSE NEIGHBOUR: 'it returns false'. Refute it at one input. -/
def fnSumPartsWrong : ChangeSpec := { name := "fnSumParts", fn := fun _ => fun
  | [d] => { results := [.lit (.bool false)], args := [d] }
  | _ => none }
def FnSumPartsWrongFalsely : Prop := fnSumPartsRow.holds Try.pinned (OpenSpec.ofChange fnSumPartsWrong)

/- THE SECOND FORM. 'bulk': how many values and letters a reading holds, each counted each time it is reached (what is shared counts as often as it is met; a slice's spare places count too). A statement '..UptoSaid' is the law's where the arguments, and the package variables that the reading takes, are together of bulk at most 1048576: NARROWER than '..Said'. Prove '..Said' where nothing that the law and all that it calls make is longer than what came in: it says more and counts as full. Else prove '..UptoSaid'. A law counts once. -/
mutual
def uptoBulk {H : Type} : DataW H → Nat
  | .lit (.string bytes) => bytes.length + 1
  | .lit _ => 1
  | .nil => 1
  | .ptr d => uptoBulk d + 1
  | .slice elems spare => uptoBulkAll elems + uptoBulkAll spare + 1
  | .agg parts => uptoBulkAll parts + 1
  | .iface _ d => uptoBulk d + 1
  | .map entries => uptoBulkEntries entries + 1
  | .held _ => 1
def uptoBulkAll {H : Type} : List (DataW H) → Nat
  | [] => 0
  | d :: r => uptoBulk d + uptoBulkAll r
def uptoBulkEntries {H : Type} : List (Lit × DataW H) → Nat
  | [] => 0
  | x :: r => uptoBulkEntry x + uptoBulkEntries r
def uptoBulkEntry {H : Type} : Lit × DataW H → Nat
  | (.string bytes, d) => bytes.length + uptoBulk d + 1
  | (_, d) => uptoBulk d + 1
 end
def uptoSmall : (H : Type) → List (DataW H) → Bool := fun _ ds => decide (uptoBulkAll ds ≤ 1048576)
def OpenSpec.upto (s : _root_.Go.ChangeSpec) : _root_.Go.OpenSpec := { _root_.Go.OpenSpec.ofChange s with cond := some uptoSmall }

/-- 'laws.FnSumInto', WHERE WHAT IT READS IS OF BULK AT MOST 1048576: true; the input reads as it did. -/
def fnSumIntoUptoRow : OpenClaim := { program := "ytfbngjhpmhiaoaa", sum := "bf8a2ec962fb5c23edf6ab195b4561d7556bd6b06974f1cc592f95db6709156f", func := "loop.example/lib-steadybytes/laws.FnSumInto", spec := "fnSumInto", inPlace := ["crypto/internal/fips140/alias.AnyOverlap", "crypto/internal/fips140/subtle.xorBytes", "crypto/internal/constanttime.boolToUint8"], unfollowed := true, recurses := true, apart := false, narrowed := true }
def FnSumIntoUptoSaid : Prop := fnSumIntoUptoRow.holds Try.pinned (OpenSpec.upto fnSumIntoSpec)

/-- 'laws.FnSumEqual', WHERE WHAT IT READS IS OF BULK AT MOST 1048576: true; the input reads as it did. -/
def fnSumEqualUptoRow : OpenClaim := { program := "ytfbngjhpmhiaoaa", sum := "bf8a2ec962fb5c23edf6ab195b4561d7556bd6b06974f1cc592f95db6709156f", func := "loop.example/lib-steadybytes/laws.FnSumEqual", spec := "fnSumEqual", inPlace := ["crypto/internal/fips140/alias.AnyOverlap", "crypto/internal/fips140/subtle.xorBytes", "crypto/internal/constanttime.boolToUint8"], unfollowed := true, recurses := true, apart := false, narrowed := true }
def FnSumEqualUptoSaid : Prop := fnSumEqualUptoRow.holds Try.pinned (OpenSpec.upto fnSumEqualSpec)

/-- 'laws.FnExactXorInto', WHERE WHAT IT READS IS OF BULK AT MOST 1048576: true; the input reads as it did. -/
def fnExactXorIntoUptoRow : OpenClaim := { program := "ytfbngjhpmhiaoaa", sum := "bf8a2ec962fb5c23edf6ab195b4561d7556bd6b06974f1cc592f95db6709156f", func := "loop.example/lib-steadybytes/laws.FnExactXorInto", spec := "fnExactXorInto", inPlace := ["crypto/internal/fips140/alias.AnyOverlap", "crypto/internal/fips140/subtle.xorBytes"], apart := false, narrowed := true }
def FnExactXorIntoUptoSaid : Prop := fnExactXorIntoUptoRow.holds Try.pinned (OpenSpec.upto fnExactXorIntoSpec)

/-- 'laws.FnExactXorBytes', WHERE WHAT IT READS IS OF BULK AT MOST 1048576: true; the input reads as it did. -/
def fnExactXorBytesUptoRow : OpenClaim := { program := "ytfbngjhpmhiaoaa", sum := "bf8a2ec962fb5c23edf6ab195b4561d7556bd6b06974f1cc592f95db6709156f", func := "loop.example/lib-steadybytes/laws.FnExactXorBytes", spec := "fnExactXorBytes", inPlace := ["crypto/internal/fips140/alias.AnyOverlap", "crypto/internal/fips140/subtle.xorBytes"], unfollowed := true, recurses := true, apart := false, narrowed := true }
def FnExactXorBytesUptoSaid : Prop := fnExactXorBytesUptoRow.holds Try.pinned (OpenSpec.upto fnExactXorBytesSpec)

/-- 'laws.FnSumMany', WHERE WHAT IT READS IS OF BULK AT MOST 1048576: true; the input reads as it did. -/
def fnSumManyUptoRow : OpenClaim := { program := "ytfbngjhpmhiaoaa", sum := "bf8a2ec962fb5c23edf6ab195b4561d7556bd6b06974f1cc592f95db6709156f", func := "loop.example/lib-steadybytes/laws.FnSumMany", spec := "fnSumMany", inPlace := ["crypto/internal/fips140/alias.AnyOverlap", "crypto/internal/fips140/subtle.xorBytes"], unfollowed := true, recurses := true, apart := false, narrowed := true }
def FnSumManyUptoSaid : Prop := fnSumManyUptoRow.holds Try.pinned (OpenSpec.upto fnSumManySpec)

/-- 'laws.FnSumIntoBack', WHERE WHAT IT READS IS OF BULK AT MOST 1048576: true; the input reads as it did. -/
def fnSumIntoBackUptoRow : OpenClaim := { program := "ytfbngjhpmhiaoaa", sum := "bf8a2ec962fb5c23edf6ab195b4561d7556bd6b06974f1cc592f95db6709156f", func := "loop.example/lib-steadybytes/laws.FnSumIntoBack", spec := "fnSumIntoBack", inPlace := ["crypto/internal/fips140/alias.AnyOverlap", "crypto/internal/fips140/subtle.xorBytes", "crypto/internal/constanttime.boolToUint8"], apart := false, narrowed := true }
def FnSumIntoBackUptoSaid : Prop := fnSumIntoBackUptoRow.holds Try.pinned (OpenSpec.upto fnSumIntoBackSpec)

/-- 'laws.FnSumBack', WHERE WHAT IT READS IS OF BULK AT MOST 1048576: true; the input reads as it did. -/
def fnSumBackUptoRow : OpenClaim := { program := "ytfbngjhpmhiaoaa", sum := "bf8a2ec962fb5c23edf6ab195b4561d7556bd6b06974f1cc592f95db6709156f", func := "loop.example/lib-steadybytes/laws.FnSumBack", spec := "fnSumBack", inPlace := ["crypto/internal/fips140/alias.AnyOverlap", "crypto/internal/fips140/subtle.xorBytes", "crypto/internal/constanttime.boolToUint8"], unfollowed := true, recurses := true, apart := false, narrowed := true }
def FnSumBackUptoSaid : Prop := fnSumBackUptoRow.holds Try.pinned (OpenSpec.upto fnSumBackSpec)

/-- 'laws.FnSumEither', WHERE WHAT IT READS IS OF BULK AT MOST 1048576: true; the input reads as it did. -/
def fnSumEitherUptoRow : OpenClaim := { program := "ytfbngjhpmhiaoaa", sum := "bf8a2ec962fb5c23edf6ab195b4561d7556bd6b06974f1cc592f95db6709156f", func := "loop.example/lib-steadybytes/laws.FnSumEither", spec := "fnSumEither", inPlace := ["crypto/internal/fips140/alias.AnyOverlap", "crypto/internal/fips140/subtle.xorBytes", "crypto/internal/constanttime.boolToUint8"], unfollowed := true, recurses := true, apart := false, narrowed := true }
def FnSumEitherUptoSaid : Prop := fnSumEitherUptoRow.holds Try.pinned (OpenSpec.upto fnSumEitherSpec)

/-- 'laws.FnSumNone', WHERE WHAT IT READS IS OF BULK AT MOST 1048576: true; the input reads as it did. -/
def fnSumNoneUptoRow : OpenClaim := { program := "ytfbngjhpmhiaoaa", sum := "bf8a2ec962fb5c23edf6ab195b4561d7556bd6b06974f1cc592f95db6709156f", func := "loop.example/lib-steadybytes/laws.FnSumNone", spec := "fnSumNone", inPlace := ["crypto/internal/fips140/alias.AnyOverlap", "crypto/internal/fips140/subtle.xorBytes", "crypto/internal/constanttime.boolToUint8"], unfollowed := true, recurses := true, apart := false, narrowed := true }
def FnSumNoneUptoSaid : Prop := fnSumNoneUptoRow.holds Try.pinned (OpenSpec.upto fnSumNoneSpec)

/-- 'laws.FnSumPanics', WHERE WHAT IT READS IS OF BULK AT MOST 1048576: true; the input reads as it did. -/
def fnSumPanicsUptoRow : OpenClaim := { program := "ytfbngjhpmhiaoaa", sum := "bf8a2ec962fb5c23edf6ab195b4561d7556bd6b06974f1cc592f95db6709156f", func := "loop.example/lib-steadybytes/laws.FnSumPanics", spec := "fnSumPanics", inPlace := ["crypto/internal/fips140/alias.AnyOverlap", "crypto/internal/fips140/subtle.xorBytes", "crypto/internal/constanttime.boolToUint8"], unfollowed := true, recurses := true, apart := false, narrowed := true }
def FnSumPanicsUptoSaid : Prop := fnSumPanicsUptoRow.holds Try.pinned (OpenSpec.upto fnSumPanicsSpec)

/-- 'laws.FnSumParts', WHERE WHAT IT READS IS OF BULK AT MOST 1048576: true; the input reads as it did. -/
def fnSumPartsUptoRow : OpenClaim := { program := "ytfbngjhpmhiaoaa", sum := "bf8a2ec962fb5c23edf6ab195b4561d7556bd6b06974f1cc592f95db6709156f", func := "loop.example/lib-steadybytes/laws.FnSumParts", spec := "fnSumParts", inPlace := ["crypto/internal/fips140/alias.AnyOverlap", "crypto/internal/fips140/subtle.xorBytes", "crypto/internal/constanttime.boolToUint8"], unfollowed := true, recurses := true, apart := false, narrowed := true }
def FnSumPartsUptoSaid : Prop := fnSumPartsUptoRow.holds Try.pinned (OpenSpec.upto fnSumPartsSpec)

end Rows
end Go.Proofs.Ytfbngjhpmhiaoaa
