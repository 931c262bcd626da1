/- The walks of the exact laws over ByteEq, Eq, LessOrEq and Select: each returns true and leaves the world as it was. No condition but that each number fits its kind. -/
import Derived.Test.YtjhidojklcoodaaBits
namespace Go.Proofs.Ytjhidojklcoodaa
open Go.RowKit

theorem exactByteEq (x y : Int) (w : World) : Calls Try.prog 5 #[.int .u8 x, .int .u8 y] w fun e w' => e = .returned (.bool true) ∧ w = w' := by
  have ht := b2u_true
  have hf := b2u_false
  cases h : x == y
  all_goals
    go_enter Try.func5, Try.ntmps5
    go_wp2
    go_ret
    exact ⟨rfl, rfl⟩

theorem exactEq (x y : Int) (w : World) : Calls Try.prog 6 #[.int .i32 x, .int .i32 y] w fun e w' => e = .returned (.bool true) ∧ w = w' := by
  have ht := b2u_true
  have hf := b2u_false
  cases h : x == y
  all_goals
    go_enter Try.func6, Try.ntmps6
    go_wp2
    go_ret
    exact ⟨rfl, rfl⟩

theorem exactLess (x y : Int) (w : World) : Calls Try.prog 7 #[.int .i64 x, .int .i64 y] w fun e w' => e = .returned (.bool true) ∧ w = w' := by
  have ht := b2u_true
  have hf := b2u_false
  rcases (show x < 0 ∨ 2147483647 < x ∨ (0 ≤ x ∧ x ≤ 2147483647) by omega) with h | h | ⟨h1, h2⟩
  · go_enter Try.func7, Try.ntmps7
    go_wp2
    go_ret
    exact ⟨rfl, rfl⟩
  · go_enter Try.func7, Try.ntmps7
    go_wp2
    go_ret
    exact ⟨rfl, rfl⟩
  rcases (show y < 0 ∨ 2147483647 < y ∨ (0 ≤ y ∧ y ≤ 2147483647) by omega) with h | h | ⟨h3, h4⟩
  · go_enter Try.func7, Try.ntmps7
    go_wp2
    go_ret
    exact ⟨rfl, rfl⟩
  · go_enter Try.func7, Try.ntmps7
    go_wp2
    go_ret
    exact ⟨rfl, rfl⟩
  by_cases h : x ≤ y
  all_goals
    go_enter Try.func7, Try.ntmps7
    go_wp2
    go_ret
    exact ⟨rfl, rfl⟩

/-- impl.Select for 0: the second number. -/
theorem imSelect0 (x y : Int) (wy : (Lit.int .i64 y).wf = true) (w : World) : Calls Try.prog 27 #[.int .i64 0, .int .i64 x, .int .i64 y] w fun e w' => e = .returned (.int .i64 y) ∧ w = w' := by
  have hf := b2u_false
  have hs := Lib.hid (sel0 x y wy)
  go_enter Try.func27, Try.ntmps27
  go_wp2
  go_ret
  exact ⟨congrArg (fun n => Ending.returned (.int .i64 n)) hs.out, rfl⟩

/-- impl.Select for 1: the first number. -/
theorem imSelect1 (x y : Int) (wx : (Lit.int .i64 x).wf = true) (w : World) : Calls Try.prog 27 #[.int .i64 1, .int .i64 x, .int .i64 y] w fun e w' => e = .returned (.int .i64 x) ∧ w = w' := by
  have hf := b2u_true
  have hs := Lib.hid (sel1 x y wx)
  go_enter Try.func27, Try.ntmps27
  go_wp2
  go_ret
  exact ⟨congrArg (fun n => Ending.returned (.int .i64 n)) hs.out, rfl⟩

theorem exactSelect (v x y : Int) (wx : (Lit.int .i64 x).wf = true) (wy : (Lit.int .i64 y).wf = true) (w : World) : Calls Try.prog 12 #[.int .i64 v, .int .i64 x, .int .i64 y] w fun e w' => e = .returned (.bool true) ∧ w = w' := by
  by_cases h0 : v = 0
  · subst h0
    go_enter Try.func12, Try.ntmps12
    go_wp2_with (first | (go_at_call 27; refine (imSelect0 x y wy _).mono ?_; rintro e w' ⟨rfl, rfl⟩) | go_in)
    go_ret
    exact ⟨rfl, rfl⟩
  · by_cases h1 : v = 1
    · subst h1
      go_enter Try.func12, Try.ntmps12
      go_wp2_with (first | (go_at_call 27; refine (imSelect1 x y wx _).mono ?_; rintro e w' ⟨rfl, rfl⟩) | go_in)
      go_ret
      exact ⟨rfl, rfl⟩
    · have g0 : (v != 0) = true := by rw [bne_iff_ne]; exact h0
      have g1 : (v != 1) = true := by rw [bne_iff_ne]; exact h1
      go_enter Try.func12, Try.ntmps12
      go_wp2
      go_ret
      exact ⟨rfl, rfl⟩

theorem exactSelectBoth (x y : Int) (wx : (Lit.int .i64 x).wf = true) (wy : (Lit.int .i64 y).wf = true) (w : World) : Calls Try.prog 13 #[.int .i64 x, .int .i64 y] w fun e w' => e = .returned (.bool true) ∧ w = w' := by
  go_enter Try.func13, Try.ntmps13
  go_wp2_with fail
  refine (imSelect0 x y wy _).mono ?_
  rintro e w' ⟨rfl, rfl⟩
  go_wp2_with (first | (go_at_call 27; refine (imSelect1 x y wx _).mono ?_; rintro e w' ⟨rfl, rfl⟩) | go_in)
  go_ret
  exact ⟨rfl, rfl⟩
end Go.Proofs.Ytjhidojklcoodaa
