/- Plain facts on bit operations: what the library's Select computes by masks; a number with one bit flipped is another number; sums without carry of bytes. No program in sight; each number fits its kind. -/
import Derived.Test.YtfbngjhpmhiaoaaBase
import Derived.OpenShut
import Derived.Laws.BitsAllLaws
import Derived.Laws.BitsLemmas
import Derived.Laws.DeepBits32
namespace Go.Proofs.Ytfbngjhpmhiaoaa
open Go.RowKit

theorem i64_back (y : Int) (wy : (Lit.int .i64 y).wf = true) : IntKind.i64.wrap ((BitVec.ofInt 64 y).toNat : Int) = y := by
  have := bounds_i64 wy
  rw [BitVec.toNat_ofInt, IntKind.wrap_i64]
  omega

theorem and_ones (y : Int) (wy : (Lit.int .i64 y).wf = true) : bits .and .i64 (-1) y = y := by
  show IntKind.i64.wrap ((BitVec.ofInt 64 (-1) &&& BitVec.ofInt 64 y).toNat : Int) = _
  rw [show BitVec.ofInt 64 (-1) = BitVec.allOnes 64 from by decide, BitVec.allOnes_and]
  exact i64_back y wy

theorem and_zero (y : Int) : bits .and .i64 0 y = 0 := by
  show IntKind.i64.wrap ((BitVec.ofInt 64 0 &&& BitVec.ofInt 64 y).toNat : Int) = _
  rw [show BitVec.ofInt 64 0 = 0#64 from by decide, BitVec.zero_and]
  decide

theorem or_zero_left (y : Int) (wy : (Lit.int .i64 y).wf = true) : bits .or .i64 0 y = y := by
  show IntKind.i64.wrap ((BitVec.ofInt 64 0 ||| BitVec.ofInt 64 y).toNat : Int) = _
  rw [show BitVec.ofInt 64 0 = 0#64 from by decide, BitVec.zero_or]
  exact i64_back y wy

theorem or_zero_right (y : Int) (wy : (Lit.int .i64 y).wf = true) : bits .or .i64 y 0 = y := by
  show IntKind.i64.wrap ((BitVec.ofInt 64 y ||| BitVec.ofInt 64 0).toNat : Int) = _
  rw [show BitVec.ofInt 64 0 = 0#64 from by decide, BitVec.or_zero]
  exact i64_back y wy

/-- The masks of Select for 0. -/
theorem sel0 (x y : Int) (wy : (Lit.int .i64 y).wf = true) : bits .or .i64 (bits .and .i64 (bits .xor .i64 (-1) (-1)) x) (bits .and .i64 (-1) y) = y := by
  rw [show bits .xor .i64 (-1) (-1) = 0 from by decide, and_zero, and_ones y wy, or_zero_left y wy]

/-- The masks of Select for 1. -/
theorem sel1 (x y : Int) (wx : (Lit.int .i64 x).wf = true) : bits .or .i64 (bits .and .i64 (bits .xor .i64 (-1) 0) x) (bits .and .i64 0 y) = x := by
  rw [show bits .xor .i64 (-1) 0 = -1 from by decide, and_zero, and_ones x wx, or_zero_right x wx]

theorem pow_bounds (k m : Nat) (h : k ≤ m) : 1 ≤ (2 : Int) ^ k ∧ (2 : Int) ^ k ≤ (2 : Int) ^ m := by
  have h1 : 1 ≤ 2 ^ k := Nat.one_le_two_pow
  have h2 : 2 ^ k ≤ 2 ^ m := Nat.pow_le_pow_right (by omega) h
  have e1 : ((2 ^ k : Nat) : Int) = (2 : Int) ^ k := by simp
  have e2 : ((2 ^ m : Nat) : Int) = (2 : Int) ^ m := by simp
  rw [← e1, ← e2]
  omega

theorem xor_self_ne {n : Nat} (X M : BitVec n) (hM : M ≠ 0#n) : X ≠ X ^^^ M := by
  intro h
  apply hM
  have h2 : X ^^^ X = X ^^^ (X ^^^ M) := congrArg (X ^^^ ·) h
  rw [← BitVec.xor_assoc, BitVec.xor_self, BitVec.zero_xor] at h2
  exact h2.symm

/-- A number of 32 bits, some bits of which are flipped, is another number. -/
theorem flip_i32 (x m : Int) (hm : m % 4294967296 ≠ 0) : x ≠ bits .xor .i32 x m := by
  intro h
  have h1 : x = IntKind.i32.wrap ((BitVec.ofInt 32 x ^^^ BitVec.ofInt 32 m).toNat : Int) := h
  refine xor_self_ne (BitVec.ofInt 32 x) (BitVec.ofInt 32 m) ?_ ?_
  · intro e
    have := congrArg BitVec.toNat e
    rw [BitVec.toNat_ofInt] at this
    simp at this
    omega
  · apply BitVec.eq_of_toNat_eq
    have hlt := (BitVec.ofInt 32 x ^^^ BitVec.ofInt 32 m).isLt
    generalize (BitVec.ofInt 32 x ^^^ BitVec.ofInt 32 m).toNat = n at h1 hlt ⊢
    rw [IntKind.wrap_i32] at h1
    rw [BitVec.toNat_ofInt]
    omega

/-- A byte, some bits of which are flipped, is another byte. -/
theorem flip_u8 (x m : Int) (hm : m % 256 ≠ 0) : x ≠ bits .xor .u8 x m := by
  intro h
  have h1 : x = IntKind.u8.wrap ((BitVec.ofInt 8 x ^^^ BitVec.ofInt 8 m).toNat : Int) := h
  refine xor_self_ne (BitVec.ofInt 8 x) (BitVec.ofInt 8 m) ?_ ?_
  · intro e
    have := congrArg BitVec.toNat e
    rw [BitVec.toNat_ofInt] at this
    simp at this
    omega
  · apply BitVec.eq_of_toNat_eq
    have hlt := (BitVec.ofInt 8 x ^^^ BitVec.ofInt 8 m).isLt
    generalize (BitVec.ofInt 8 x ^^^ BitVec.ofInt 8 m).toNat = n at h1 hlt ⊢
    rw [IntKind.wrap_u8'] at h1
    rw [BitVec.toNat_ofInt]
    omega

theorem flip_bit_u8 (x : Int) (k : Nat) (hk : k < 8) : x ≠ bits .xor .u8 x (2 ^ k % 256) := by
  have := pow_bounds k 7 (by omega)
  refine flip_u8 x _ ?_
  omega

theorem flip_bit_i32 (x : Int) (k : Nat) (hk : k < 31) : x ≠ bits .xor .i32 x (wrap32 (2 ^ k)) := by
  have := pow_bounds k 30 (by omega)
  refine flip_i32 x _ ?_
  unfold wrap32
  omega

theorem xor_u8_range (a b : Int) : 0 ≤ bits .xor .u8 a b ∧ bits .xor .u8 a b ≤ 255 := by
  show 0 ≤ IntKind.u8.wrap _ ∧ IntKind.u8.wrap _ ≤ 255
  rw [IntKind.wrap_u8']; omega
theorem xor_i32_range (a b : Int) : -2147483648 ≤ bits .xor .i32 a b ∧ bits .xor .i32 a b ≤ 2147483647 := by
  show -2147483648 ≤ IntKind.i32.wrap _ ∧ IntKind.i32.wrap _ ≤ 2147483647
  rw [IntKind.wrap_i32]; omega

end Go.Proofs.Ytfbngjhpmhiaoaa
