/- The walks of the laws over single bytes and numbers, drawn from a list of bytes: each returns true, and nothing that was there before the call has changed. Condition: the list reads as bytes. -/
import Derived.Test.YtjhidojklcoodaaChoice
import Derived.Test.YtjhidojklcoodaaExactA
import Derived.Test.YtjhidojklcoodaaEq
namespace Go.Proofs.Ytjhidojklcoodaa
open Go.RowKit

theorem xor_comm_i64 (x y : Int) : bits .xor .i64 x y = bits .xor .i64 y x := by
  show IntKind.i64.wrap ((BitVec.ofInt 64 x ^^^ BitVec.ofInt 64 y).toNat : Int) = IntKind.i64.wrap ((BitVec.ofInt 64 y ^^^ BitVec.ofInt 64 x).toNat : Int)
  rw [BitVec.xor_comm]

section
variable {w : World} {A : Option Addr} {len cap : Nat} {zs : List Int}
set_option maxHeartbeats 1000000 in
theorem byteEither (h : IsRow .u8 w A len cap zs) : Calls Try.prog 3 #[.slice A len cap] w fun e w' => e = .returned (.bool true) ∧ Below w.heap.size w w' := by
  go_enter Try.func3, Try.ntmps3
  go_wp2_with fail
  refine (dBytes_any h).mono ?_
  rintro e w1 ⟨x, y, rfl, x0, x1, y0, y1, hb⟩
  clear h
  have ht := b2u_true
  have hf := b2u_false
  by_cases hxy : x = y
  · subst hxy
    go_wp2
    go_ret
    exact ⟨rfl, hb⟩
  · have e1 : (x == y) = false := beq_eq_false_iff_ne.2 hxy
    have e2 : (y == x) = false := beq_eq_false_iff_ne.2 (Ne.symm hxy)
    clear hxy
    go_wp2
    go_ret
    exact ⟨rfl, hb⟩

set_option maxHeartbeats 1000000 in
theorem lessSelf (h : IsRow .u8 w A len cap zs) : Calls Try.prog 8 #[.slice A len cap] w fun e w' => e = .returned (.bool true) ∧ Below w.heap.size w w' := by
  go_enter Try.func8, Try.ntmps8
  go_wp2_with fail
  refine (dTold_any h).mono ?_
  rintro e w1 ⟨x, y, z, rfl, x0, x1, y0, y1, z0, z1, hb⟩
  clear h
  have ht := b2u_true
  have hf := b2u_false
  by_cases hx : x = 2147483647
  · subst hx
    go_wp2
    go_ret
    exact ⟨rfl, hb⟩
  · have e1 : (x == 2147483647) = false := beq_eq_false_iff_ne.2 hx
    have e2 : decide (x + 1 ≤ x) = false := by simp; omega
    have e3 : decide (x ≤ x + 1) = true := by simp; omega
    clear hx
    go_wp2
    go_ret
    exact ⟨rfl, hb⟩

set_option maxHeartbeats 1000000 in
theorem lessEnds (h : IsRow .u8 w A len cap zs) : Calls Try.prog 14 #[.slice A len cap] w fun e w' => e = .returned (.bool true) ∧ Below w.heap.size w w' := by
  go_enter Try.func14, Try.ntmps14
  go_wp2_with fail
  refine (dTold_any h).mono ?_
  rintro e w1 ⟨x, y, z, rfl, x0, x1, y0, y1, z0, z1, hb⟩
  clear h
  have ht := b2u_true
  have hf := b2u_false
  by_cases hy : y = 0
  · subst hy
    go_wp2
    go_ret
    exact ⟨rfl, hb⟩
  · have e1 : (y == 0) = false := beq_eq_false_iff_ne.2 hy
    have e2 : decide (y ≤ 0) = false := by simp; omega
    clear hy
    go_wp2
    go_ret
    exact ⟨rfl, hb⟩

set_option maxHeartbeats 1000000 in
theorem chosen (h : IsRow .u8 w A len cap zs) : Calls Try.prog 10 #[.slice A len cap] w fun e w' => e = .returned (.bool true) ∧ Below w.heap.size w w' := by
  go_enter Try.func10, Try.ntmps10
  go_wp2_with fail
  refine (dChoice_any h).mono ?_
  rintro e w1 ⟨v, x, y, rfl, v0, v1, wx, wy, hb⟩
  clear h
  have WX := Lib.hid wx; have WY := Lib.hid wy
  clear wx wy
  go_wp2_with fail
  refine (imSelect1 x y WX.out _).mono ?_
  rintro e w' ⟨rfl, rfl⟩
  go_wp2_with fail
  refine (imSelect0 x y WY.out _).mono ?_
  rintro e w' ⟨rfl, rfl⟩
  rcases (show v = 0 ∨ v = 1 by omega) with rfl | rfl
  · go_wp2_with fail
    refine (imSelect0 x x WX.out _).mono ?_
    rintro e w' ⟨rfl, rfl⟩
    go_wp2
    go_ret
    exact ⟨rfl, hb⟩
  · go_wp2_with fail
    refine (imSelect1 x x WX.out _).mono ?_
    rintro e w' ⟨rfl, rfl⟩
    go_wp2
    go_ret
    exact ⟨rfl, hb⟩

set_option maxHeartbeats 1000000 in
theorem chosenEither (h : IsRow .u8 w A len cap zs) : Calls Try.prog 11 #[.slice A len cap] w fun e w' => e = .returned (.bool true) ∧ Below w.heap.size w w' := by
  go_enter Try.func11, Try.ntmps11
  go_wp2_with fail
  refine (dChoice_any h).mono ?_
  rintro e w1 ⟨v, x, y, rfl, v0, v1, wx, wy, hb⟩
  clear h
  have WX := Lib.hid wx; have WY := Lib.hid wy
  clear wx wy
  have hx : (bits .xor .i64 y x == bits .xor .i64 x y) = true := by rw [xor_comm_i64 y x]; simp
  have ha : (wrap64 (y + x) == wrap64 (x + y)) = true := by rw [Int.add_comm]; simp
  rcases (show v = 0 ∨ v = 1 by omega) with rfl | rfl
  · go_wp2_with fail
    refine (imSelect0 x y WY.out _).mono ?_
    rintro e w' ⟨rfl, rfl⟩
    go_wp2_with fail
    refine (imSelect1 x y WX.out _).mono ?_
    rintro e w' ⟨rfl, rfl⟩
    go_wp2_with fail
    refine (imSelect1 y x WY.out _).mono ?_
    rintro e w' ⟨rfl, rfl⟩
    go_wp2
    go_ret
    exact ⟨rfl, hb⟩
  · go_wp2_with fail
    refine (imSelect1 x y WX.out _).mono ?_
    rintro e w' ⟨rfl, rfl⟩
    go_wp2_with fail
    refine (imSelect0 x y WY.out _).mono ?_
    rintro e w' ⟨rfl, rfl⟩
    go_wp2_with fail
    refine (imSelect0 y x WX.out _).mono ?_
    rintro e w' ⟨rfl, rfl⟩
    go_wp2
    go_ret
    exact ⟨rfl, hb⟩

set_option maxHeartbeats 1000000 in
theorem byteSelf (h : IsRow .u8 w A len cap zs) : Calls Try.prog 4 #[.slice A len cap] w fun e w' => e = .returned (.bool true) ∧ Below w.heap.size w w' := by
  go_enter Try.func4, Try.ntmps4
  go_wp2_with fail
  refine (dBytes_any h).mono ?_
  rintro e w1 ⟨x, y, rfl, x0, x1, y0, y1, hb⟩
  clear h
  go_wp2_with fail
  go_loop [5] (fun i => ∃ k : Nat, k ≤ 8 ∧ i = .int .i64 k) (fun i => 8 - (intOf i).toNat)
  case atStart => exact ⟨0, by omega, rfl⟩
  case round =>
    obtain ⟨k, hk, rfl⟩ := hrel
    by_cases hlt : k < 8
    · go_wp2_with fail
      refine (imByteEq_ne _ _ (flip_bit_u8 x k hlt) _).mono ?_
      rintro e w' ⟨rfl, rfl⟩
      go_wp2
      go_round
      case rel => exact ⟨k + 1, by omega, by go_num⟩
      case measure => simp [intOf]; omega
    · go_wp2_with fail
      refine (imByteEq_eq _ _).mono ?_
      rintro e w' ⟨rfl, rfl⟩
      go_wp2
      go_ret
      exact ⟨rfl, hb⟩

set_option maxHeartbeats 1000000 in
theorem numberSelf (h : IsRow .u8 w A len cap zs) : Calls Try.prog 9 #[.slice A len cap] w fun e w' => e = .returned (.bool true) ∧ Below w.heap.size w w' := by
  go_enter Try.func9, Try.ntmps9
  go_wp2_with fail
  refine (dNumbers_any h).mono ?_
  rintro e w1 ⟨x, y, z, rfl, x0, x1, y0, y1, z0, z1, hb⟩
  clear h
  go_wp2_with fail
  go_loop [6] (fun i => ∃ k : Nat, k ≤ 31 ∧ i = .int .i64 k) (fun i => 31 - (intOf i).toNat)
  case atStart => exact ⟨0, by omega, rfl⟩
  case round =>
    obtain ⟨k, hk, rfl⟩ := hrel
    by_cases hlt : k < 31
    · go_wp2_with fail
      refine (imEq_ne _ _ (flip_bit_i32 x k hlt) _).mono ?_
      rintro e w' ⟨rfl, rfl⟩
      go_wp2
      go_round
      case rel => exact ⟨k + 1, by omega, by go_num⟩
      case measure => simp [intOf]; omega
    · go_wp2_with fail
      refine (imEq_eq _ _).mono ?_
      rintro e w' ⟨rfl, rfl⟩
      go_wp2_with fail
      refine (imEq_ne _ _ (flip_i32 x _ (by omega)) _).mono ?_
      rintro e w' ⟨rfl, rfl⟩
      go_wp2
      go_ret
      exact ⟨rfl, hb⟩
end
end Go.Proofs.Ytjhidojklcoodaa
