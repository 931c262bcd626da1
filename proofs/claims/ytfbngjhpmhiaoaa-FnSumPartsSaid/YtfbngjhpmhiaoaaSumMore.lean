/- The contract of the reference's Same for lists without bytes, whatever their addresses. No condition. -/
import Derived.Test.YtfbngjhpmhiaoaaSumLaws
namespace Go.Proofs.Ytfbngjhpmhiaoaa
open Go.RowKit

theorem same_zero (A1 A2 : Option Addr) (c1 c2 : Nat) (w : World) : Calls Try.prog 17 #[.slice A1 0 c1, .slice A2 0 c2] w fun e w' => e = .returned (.bool true) ∧ w = w' := by
  go_enter Try.func17, Try.ntmps17
  go_wp2_with fail
  go_loopw [5] (fun i wr => i = .int .i64 0 ∧ w = wr) (fun _ _ => 0)
  case atStart => exact ⟨rfl, rfl⟩
  case round =>
    obtain ⟨rfl, rfl⟩ := hrel
    go_wp2
    go_ret
    exact ⟨rfl, rfl⟩

section
variable {w : World} {A : Option Addr} {len cap : Nat} {zs : List Int}
set_option maxHeartbeats 2000000 in
theorem sumPanics (h : IsRow .u8 w A len cap zs) : Calls Try.prog 12 #[.slice A len cap] w fun e w' => e = .returned (.bool true) ∧ Below w.heap.size w w' := by
  go_enter Try.func12, Try.ntmps12
  go_wp2_with fail
  refine (dLists_any h).mono ?_
  rintro e w1 ⟨A1, n1, c1, xs, A2, n2, c2, ys, A3, n3, c3, zs, rfl, hO1, hO2, hO3, hn1, hn2, hn3, hb1⟩
  have x1 := hO1.bs; have y1 := hO2.bs; have z1 := hO3.bs
  have hs1 := hb1.size
  clear h hO1 hO2 hO3
  rcases Nat.lt_or_ge n3 (min n1 n2) with hlt | hge
  · have l1 : n3 < n1 := by omega
    have l2 : n3 < n2 := by omega
    have HLT := Lib.hid hlt
    clear hlt
    go_wp2_with fail
    refine (imXor_panic z1 (Nat.le_refl _) HLT.out (by omega)).mono ?_
    rintro e w2 ⟨A4, c4, rfl, hO4, b2⟩
    have z2 := (z1.below b2).more b2.size; have o2 := hO4.bs; have hb2 := hb1.trans (b2.mono hs1)
    clear x1 y1 z1 hb1 b2 hO4
    go_wp2_with fail
    refine (same_eq o2 z2 rfl).mono ?_
    rintro e w3 ⟨rfl, q3⟩
    have hb3 := below_quiet hb2 q3
    clear o2 z2 hb2 q3
    go_wp2_with fail
    refine (alive_any _).mono ?_
    rintro e w' ⟨rfl, rfl⟩
    go_wp2
    go_ret
    exact ⟨rfl, hb3⟩
  · have HGE := Lib.hid hge
    have hcase : n1 ≤ n3 ∨ (n3 < n1 ∧ decide (n3 < n2) = false) := by
      rcases Nat.lt_or_ge n3 n1 with l1 | l1
      · exact .inr ⟨l1, by simp; omega⟩
      · exact .inl l1
    rcases hcase with l1 | ⟨l1, l2⟩
    all_goals
      clear hge
      go_wp2_with fail
      refine (imXor_ok z1 x1 y1 (Nat.le_refl _) HGE.out (by omega)).mono ?_
      rintro e w2 ⟨A4, c4, rfl, hO4, b2⟩
      have hb2 := hb1.trans (b2.mono hs1)
      clear x1 y1 z1 hb1 b2 hO4
      go_wp2_with fail
      refine (alive_any _).mono ?_
      rintro e w' ⟨rfl, rfl⟩
      go_wp2
      go_ret
      exact ⟨rfl, hb2⟩
end
end Go.Proofs.Ytfbngjhpmhiaoaa
