/- The contract of Select, from the library's own text up to the thin package: for 0 the second number, for 1 the first one; the world stays. Condition: the number that is given back fits 64 bits. -/
import Derived.Test.YtjbjdpahnnkgmaaBits
namespace Go.Proofs.Ytjbjdpahnnkgmaa
open Go.RowKit

/-- impl.Select for 0: the second number. -/
theorem imSelect0 (x y : Int) (wy : (Lit.int .i64 y).wf = true) (w : World) : Calls Try.prog 16 #[.int .i64 0, .int .i64 x, .int .i64 y] w fun e w' => e = .returned (.int .i64 y) ∧ w = w' := by
  have hf := b2u_false
  have hs := Lib.hid (sel0 x y wy)
  go_enter Try.func16, Try.ntmps16
  go_wp2
  go_ret
  exact ⟨congrArg (fun n => Ending.returned (.int .i64 n)) hs.out, rfl⟩

/-- impl.Select for 1: the first number. -/
theorem imSelect1 (x y : Int) (wx : (Lit.int .i64 x).wf = true) (w : World) : Calls Try.prog 16 #[.int .i64 1, .int .i64 x, .int .i64 y] w fun e w' => e = .returned (.int .i64 x) ∧ w = w' := by
  have hf := b2u_true
  have hs := Lib.hid (sel1 x y wx)
  go_enter Try.func16, Try.ntmps16
  go_wp2
  go_ret
  exact ⟨congrArg (fun n => Ending.returned (.int .i64 n)) hs.out, rfl⟩

end Go.Proofs.Ytjbjdpahnnkgmaa
