/- The contracts of ByteEq, Eq and LessOrEq, from the library's own text up to the thin package: 1 if the test holds and 0 otherwise; the world stays. No condition. -/
import Derived.Test.YtjbjdpahnnkgmaaBase
namespace Go.Proofs.Ytjbjdpahnnkgmaa
open Go.RowKit

theorem imByteEq_eq (x : Int) (w : World) : Calls Try.prog 19 #[.int .u8 x, .int .u8 x] w fun e w' => e = .returned (.int .i64 1) ∧ w = w' := by
  have ht := b2u_true
  go_enter Try.func19, Try.ntmps19
  go_wp2
  go_ret
  exact ⟨rfl, rfl⟩
theorem imByteEq_ne (x y : Int) (h : x ≠ y) (w : World) : Calls Try.prog 19 #[.int .u8 x, .int .u8 y] w fun e w' => e = .returned (.int .i64 0) ∧ w = w' := by
  have hf := b2u_false
  have h1 : (x == y) = false := beq_eq_false_iff_ne.2 h
  clear h
  go_enter Try.func19, Try.ntmps19
  go_wp2
  go_ret
  exact ⟨rfl, rfl⟩
theorem imEq_eq (x : Int) (w : World) : Calls Try.prog 14 #[.int .i32 x, .int .i32 x] w fun e w' => e = .returned (.int .i64 1) ∧ w = w' := by
  have ht := b2u_true
  go_enter Try.func14, Try.ntmps14
  go_wp2
  go_ret
  exact ⟨rfl, rfl⟩
theorem imEq_ne (x y : Int) (h : x ≠ y) (w : World) : Calls Try.prog 14 #[.int .i32 x, .int .i32 y] w fun e w' => e = .returned (.int .i64 0) ∧ w = w' := by
  have hf := b2u_false
  have h1 : (x == y) = false := beq_eq_false_iff_ne.2 h
  clear h
  go_enter Try.func14, Try.ntmps14
  go_wp2
  go_ret
  exact ⟨rfl, rfl⟩
theorem imLess_yes (x y : Int) (h : x ≤ y) (w : World) : Calls Try.prog 12 #[.int .i64 x, .int .i64 y] w fun e w' => e = .returned (.int .i64 1) ∧ w = w' := by
  have ht := b2u_true
  have h1 : decide (x ≤ y) = true := by simpa using h
  go_enter Try.func12, Try.ntmps12
  go_wp2
  go_ret
  exact ⟨rfl, rfl⟩
theorem imLess_no (x y : Int) (h : y < x) (w : World) : Calls Try.prog 12 #[.int .i64 x, .int .i64 y] w fun e w' => e = .returned (.int .i64 0) ∧ w = w' := by
  have hf := b2u_false
  have h1 : decide (x ≤ y) = false := by simpa using h
  go_enter Try.func12, Try.ntmps12
  go_wp2
  go_ret
  exact ⟨rfl, rfl⟩
theorem alive_any (w : World) : Calls Try.prog 13 #[] w fun e w' => e = .returned (.bool true) ∧ w = w' := by
  go_enter Try.func13, Try.ntmps13
  go_wp2_with fail
  refine (imByteEq_eq 7 _).mono ?_
  rintro e w' ⟨rfl, rfl⟩
  go_wp2
  go_ret
  exact ⟨rfl, rfl⟩
end Go.Proofs.Ytjbjdpahnnkgmaa
