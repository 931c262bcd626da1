/- The contract of the statements' own draw DrawEven: three lists of bytes of one length, in new memory; nothing that was there before the call has changed. Condition: the slice of the code reads as bytes. -/
import Derived.Test.YtfbngjhpmhiaoaaLists
import Derived.Deep.QuietTactic
import Derived.BigQuiet
namespace Go.Proofs.Ytfbngjhpmhiaoaa
open Go.RowKit

theorem below_drewN' {B : Nat} {a w : World} (h : Below B a w) (n : Nat) : Below B a (w.drewN n) := ⟨h.os, h.tape, h.output, h.size, h.block⟩

set_option maxHeartbeats 1000000 in
theorem dEven_any {w : World} {A : Option Addr} {len cap : Nat} {zs : List Int} (h : IsRow .u8 w A len cap zs) :
    Calls Try.prog 19 #[.slice A len cap] w fun e w' => ∃ A1 c1 xs A2 c2 ys A3 c3 zs n, e = .returned (.tuple #[.slice A1 n c1, .slice A2 n c2, .slice A3 n c3]) ∧
      Own w' w.heap.size A1 n c1 xs ∧ Own w' w.heap.size A2 n c2 ys ∧ Own w' w.heap.size A3 n c3 zs ∧ n ≤ 200 ∧ Below w.heap.size w w' := by
  go_enter Try.func19, Try.ntmps19
  go_wp2_with fail
  refine (dLists_any h).mono ?_
  rintro e w1 ⟨A1, n1, c1, xs, A2, n2, c2, ys, A3, n3, c3, zs, rfl, hO1, hO2, hO3, hn1, hn2, hn3, hb⟩
  have p1 := hO1.bs.cap
  have p2 := hO2.bs.cap
  have p3 := hO3.bs.cap
  clear h
  rcases (show (n3 < n1 ∧ n3 < n2) ∨ (n1 ≤ n2 ∧ n1 ≤ n3) ∨ (n2 < n1 ∧ n2 ≤ n3) by omega) with ⟨q1, q2⟩ | ⟨q1, q2⟩ | ⟨q1, q2⟩
  · have r1 : (n3 : Int) ≤ c1 := by omega
    have r2 : (n3 : Int) ≤ c2 := by omega
    have r3 : (n3 : Int) ≤ c3 := by omega
    go_wp2_with fail
    go_quiet (fail)
    go_wp2
    go_ret3
    exact ⟨A1, c1, xs.take n3, A2, c2, ys.take n3, A3, c3, zs.take n3, n3, rfl, (hO1.front (k := n3) (by omega)).drewN _, (hO2.front (k := n3) (by omega)).drewN _, (hO3.front (k := n3) (by omega)).drewN _, by omega, below_drewN' hb _⟩
  · have r1 : (n1 : Int) ≤ c1 := by omega
    have r2 : (n1 : Int) ≤ c2 := by omega
    have r3 : (n1 : Int) ≤ c3 := by omega
    go_wp2_with fail
    go_quiet (fail)
    go_wp2
    go_ret3
    exact ⟨A1, c1, xs.take n1, A2, c2, ys.take n1, A3, c3, zs.take n1, n1, rfl, (hO1.front (k := n1) (by omega)).drewN _, (hO2.front (k := n1) (by omega)).drewN _, (hO3.front (k := n1) (by omega)).drewN _, by omega, below_drewN' hb _⟩
  · have r1 : (n2 : Int) ≤ c1 := by omega
    have r2 : (n2 : Int) ≤ c2 := by omega
    have r3 : (n2 : Int) ≤ c3 := by omega
    go_wp2_with fail
    go_quiet (fail)
    go_wp2
    go_ret3
    exact ⟨A1, c1, xs.take n2, A2, c2, ys.take n2, A3, c3, zs.take n2, n2, rfl, (hO1.front (k := n2) (by omega)).drewN _, (hO2.front (k := n2) (by omega)).drewN _, (hO3.front (k := n2) (by omega)).drewN _, by omega, below_drewN' hb _⟩
end Go.Proofs.Ytfbngjhpmhiaoaa
