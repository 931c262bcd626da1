/- The contracts of ByteEq, Eq and LessOrEq, from the library's own text up to the thin package: 1 if the test holds and 0 otherwise; the world stays. No condition. -/
import Derived.Test.YtfbngjhpmhiaoaaBase
namespace Go.Proofs.Ytfbngjhpmhiaoaa
open Go.RowKit

theorem imByteEq_eq (x : Int) (w : World) : Calls Try.prog 26 #[.int .u8 x, .int .u8 x] w fun e w' => e = .returned (.int .i64 1) ∧ w = w' := by
  have ht := b2u_true
  go_enter Try.func26, Try.ntmps26
  go_wp2
  go_ret
  exact ⟨rfl, rfl⟩
theorem imByteEq_ne (x y : Int) (h : x ≠ y) (w : World) : Calls Try.prog 26 #[.int .u8 x, .int .u8 y] w fun e w' => e = .returned (.int .i64 0) ∧ w = w' := by
  have hf := b2u_false
  have h1 : (x == y) = false := beq_eq_false_iff_ne.2 h
  clear h
  go_enter Try.func26, Try.ntmps26
  go_wp2
  go_ret
  exact ⟨rfl, rfl⟩
theorem alive_any (w : World) : Calls Try.prog 18 #[] w fun e w' => e = .returned (.bool true) ∧ w = w' := by
  go_enter Try.func18, Try.ntmps18
  go_wp2_with fail
  refine (imByteEq_eq 7 _).mono ?_
  rintro e w' ⟨rfl, rfl⟩
  go_wp2
  go_ret
  exact ⟨rfl, rfl⟩
end Go.Proofs.Ytfbngjhpmhiaoaa
