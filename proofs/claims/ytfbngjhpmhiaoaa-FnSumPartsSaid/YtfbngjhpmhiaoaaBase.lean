/- What the compiler's intrinsic boolToUint8 gives in the model: 1 for true and 0 for false, whatever the world. No condition. -/
import Derived.Test.YtfbngjhpmhiaoaaRows
import Derived.WalkKit
import Derived.WalkSpells
import Derived.WalkLawsBesides
import Derived.Laws.Externs
import Derived.Lib.Hide
namespace Go.Proofs.Ytfbngjhpmhiaoaa
open Go.RowKit

theorem b2u_entry : ∃ e : Array Value → Sem Value, Extern.find Try.f37 = some e ∧ (∀ w, (e #[.bool true]).run Try.prog w = .ok (.int .u8 1) w) ∧ ∀ w, (e #[.bool false]).run Try.prog w = .ok (.int .u8 0) w :=
  ⟨(Extern.find Try.f37).getD fun _ => pure noResult, by kernel_rfl, fun w => by kernel_rfl, fun w => by kernel_rfl⟩

theorem b2u_true (w : World) : (callFunc 37 #[.bool true]).run Try.prog w = .ok (.value (.int .u8 1)) w := by
  obtain ⟨e, he, ht, _⟩ := b2u_entry
  rw [run_callFunc_extern Try.func37 (by kernel_rfl) (by kernel_rfl) (by kernel_rfl) he, ht]
  rfl

theorem b2u_false (w : World) : (callFunc 37 #[.bool false]).run Try.prog w = .ok (.value (.int .u8 0)) w := by
  obtain ⟨e, he, _, hf⟩ := b2u_entry
  rw [run_callFunc_extern Try.func37 (by kernel_rfl) (by kernel_rfl) (by kernel_rfl) he, hf]
  rfl

end Go.Proofs.Ytfbngjhpmhiaoaa
