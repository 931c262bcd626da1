/- The walks of the laws over Copy: each returns true, and nothing that was there before the call has changed. Condition: the list from which is drawn reads as bytes. -/
import Derived.Test.YtjbjdpahnnkgmaaEven
import Derived.Test.YtjbjdpahnnkgmaaCmp
import Derived.Test.YtjbjdpahnnkgmaaCopy
import Derived.Test.YtjbjdpahnnkgmaaSel
namespace Go.Proofs.Ytjbjdpahnnkgmaa
open Go.RowKit

section
variable {w : World} {A : Option Addr} {len cap : Nat} {zs : List Int}

set_option maxHeartbeats 2000000 in
theorem copyAll (h : IsRow .u8 w A len cap zs) : Calls Try.prog 9 #[.slice A len cap] w fun e w' => e = .returned (.bool true) ∧ Below w.heap.size w w' := by
  go_enter Try.func9, Try.ntmps9
  go_wp2_with fail
  refine (dEven_any h).mono ?_
  rintro e w1 ⟨A1, c1, xs, A2, c2, ys, A3, c3, zs, n, rfl, hO1, hO2, hO3, hn, hb1⟩
  have x1 := hO1.bs; have y1 := hO2.bs
  have hs1 := hb1.size
  clear h hO1 hO2 hO3
  go_wp2_with fail
  refine (imCopy1 x1 y1 (Nat.le_refl _) (by omega)).mono ?_
  rintro e w2 ⟨A4, c4, rfl, hO4, b2⟩
  have y2 := (y1.below b2).more b2.size; have hb2 := hb1.trans (b2.mono hs1); have v2 := hO4.bs
  clear x1 y1 hb1 b2 hO4
  go_wp2_with fail
  refine (same_eq v2 y2 rfl).mono ?_
  rintro e w3 ⟨rfl, q3⟩
  have y3 := y2.quiet q3; have v3 := v2.quiet q3; have hb3 := below_quiet hb2 q3
  clear y2 v2 hb2 q3
  go_wp2_with fail
  refine (imCompare_eq v3 y3 rfl).mono ?_
  rintro e w4 ⟨rfl, q4⟩
  have hb4 := below_quiet hb3 q4
  clear y3 v3 hb3 q4
  go_wp2
  go_ret
  exact ⟨rfl, hb4⟩
theorem wf_byte (x : Int) (h0 : 0 ≤ x) (h1 : x ≤ 255) : (Lit.int .i64 x).wf = true := WalkArith.wf_i64 (by omega)
set_option maxHeartbeats 4000000 in
theorem copyRoad (h : IsRow .u8 w A len cap zs) : Calls Try.prog 10 #[.slice A len cap] w fun e w' => e = .returned (.bool true) ∧ Below w.heap.size w w' := by
  go_enter Try.func10, Try.ntmps10
  go_wp2_with fail
  refine (dEven_any h).mono ?_
  rintro e w1 ⟨A1, c1, xs, A2, c2, ys, A3, c3, zs, n, rfl, hO1, hO2, hO3, hn, hb1⟩
  have x1 := hO1.bs; have y1 := hO2.bs
  have hs1 := hb1.size
  clear h hO1 hO2 hO3
  go_wp2_with fail
  go_loopw [6] (fun i wr => ∃ k : Nat, k ≤ 2 ∧ i = .int .i64 k ∧ Bs wr w1.heap.size A1 n c1 xs ∧ Bs wr w1.heap.size A2 n c2 ys ∧ Below w.heap.size w wr ∧ w1.heap.size ≤ wr.heap.size) (fun i _ => 2 - (intOf i).toNat)
  case atStart => exact ⟨0, by omega, rfl, x1, y1, hb1, Nat.le_refl _⟩
  case round =>
    obtain ⟨k, hk, rfl, xr, yr, hbr, hsr⟩ := hrel
    clear x1 y1 hb1
    rcases (show k = 0 ∨ k = 1 ∨ k = 2 by omega) with rfl | rfl | rfl
    · go_wp2_with fail
      refine (imCopy0 xr yr hsr (by omega)).mono ?_
      rintro e w2 ⟨A4, c4, rfl, hO4, b2⟩
      have x2 := xr.below (b2.mono hsr); have y2 := yr.below (b2.mono hsr); have hb2 := hbr.trans (b2.mono (by omega)); have v2 := hO4.bs; have hs2 := b2.size
      have hs2' : w1.heap.size ≤ w2.heap.size := by omega
      clear xr yr hbr b2 hO4
      go_wp2_with fail
      go_loopw [8] (fun i wq => ∃ j : Nat, j ≤ n ∧ i = .int .i64 j ∧ Quiet w2 wq) (fun i _ => n - (intOf i).toNat)
      case atStart => exact ⟨0, by omega, rfl, 0, rfl⟩
      case round =>
        obtain ⟨j, hj, rfl, qr⟩ := hrel
        by_cases hlt : j < n
        · obtain ⟨b4, o4, rfl, hbb4, hc4, f0, f1⟩ := (v2.quiet qr).at_ hlt
          obtain ⟨b1, o1, rfl, hbb1, hc1, a0, a1⟩ := (x2.quiet qr).at_ hlt
          obtain ⟨bb2, o2, rfl, hbb2, hc2, e0, e1⟩ := (y2.quiet qr).at_ hlt
          generalize xs.getD j 0 = x at hc1 a0 a1 hc4 f0 f1
          generalize ys.getD j 0 = y at hc2 e0 e1 hc4 f0 f1
          have i1 : (j : Int) < n := by omega
          have hsel : ∀ W : World, Hid (Calls Try.prog 16 #[.int .i64 0, .int .i64 y, .int .i64 x] W fun e w' => e = .returned (.int .i64 x) ∧ W = w') := fun W => imSelect0 y x (wf_byte x a0 a1) W
          have HSEL := Lib.hid hsel
          clear hsel
          go_wp2_with fail
          go_quiet ((go_at_call 16; exact Calls.quiet_of_same ((HSEL.out _).out.mono fun _ _ hh => ⟨hh.1, hh.2.symm⟩)))
          go_wp2
          go_roundw
          case rel => exact ⟨j + 1, by omega, by go_num, qr.drewN _⟩
          case measure => simp [intOf]; omega
        · have x3 := x2.quiet qr; have y3 := y2.quiet qr; have hb3 := below_quiet hb2 qr; have hz3 := quiet_size qr
          have hs3 : w1.heap.size ≤ wr.heap.size := by omega
          go_wp2
          go_roundw
          case rel => exact ⟨1, by omega, rfl, x3, y3, hb3, hs3⟩
          case measure => simp [intOf]
    · go_wp2_with fail
      refine (imCopy1 xr yr hsr (by omega)).mono ?_
      rintro e w2 ⟨A4, c4, rfl, hO4, b2⟩
      have x2 := xr.below (b2.mono hsr); have y2 := yr.below (b2.mono hsr); have hb2 := hbr.trans (b2.mono (by omega)); have v2 := hO4.bs; have hs2 := b2.size
      have hs2' : w1.heap.size ≤ w2.heap.size := by omega
      clear xr yr hbr b2 hO4
      go_wp2_with fail
      go_loopw [8] (fun i wq => ∃ j : Nat, j ≤ n ∧ i = .int .i64 j ∧ Quiet w2 wq) (fun i _ => n - (intOf i).toNat)
      case atStart => exact ⟨0, by omega, rfl, 0, rfl⟩
      case round =>
        obtain ⟨j, hj, rfl, qr⟩ := hrel
        by_cases hlt : j < n
        · obtain ⟨b4, o4, rfl, hbb4, hc4, f0, f1⟩ := (v2.quiet qr).at_ hlt
          obtain ⟨b1, o1, rfl, hbb1, hc1, a0, a1⟩ := (x2.quiet qr).at_ hlt
          obtain ⟨bb2, o2, rfl, hbb2, hc2, e0, e1⟩ := (y2.quiet qr).at_ hlt
          generalize xs.getD j 0 = x at hc1 a0 a1 hc4 f0 f1
          generalize ys.getD j 0 = y at hc2 e0 e1 hc4 f0 f1
          have i1 : (j : Int) < n := by omega
          have hsel : ∀ W : World, Hid (Calls Try.prog 16 #[.int .i64 1, .int .i64 y, .int .i64 x] W fun e w' => e = .returned (.int .i64 y) ∧ W = w') := fun W => imSelect1 y x (wf_byte y e0 e1) W
          have HSEL := Lib.hid hsel
          clear hsel
          go_wp2_with fail
          go_quiet ((go_at_call 16; exact Calls.quiet_of_same ((HSEL.out _).out.mono fun _ _ hh => ⟨hh.1, hh.2.symm⟩)))
          go_wp2
          go_roundw
          case rel => exact ⟨j + 1, by omega, by go_num, qr.drewN _⟩
          case measure => simp [intOf]; omega
        · have x3 := x2.quiet qr; have y3 := y2.quiet qr; have hb3 := below_quiet hb2 qr; have hz3 := quiet_size qr
          have hs3 : w1.heap.size ≤ wr.heap.size := by omega
          go_wp2
          go_roundw
          case rel => exact ⟨2, by omega, rfl, x3, y3, hb3, hs3⟩
          case measure => simp [intOf]
    · go_wp2_with fail
      refine (alive_any _).mono ?_
      rintro e w' ⟨rfl, rfl⟩
      go_wp2
      go_ret
      exact ⟨rfl, hbr⟩
end
end Go.Proofs.Ytjbjdpahnnkgmaa
