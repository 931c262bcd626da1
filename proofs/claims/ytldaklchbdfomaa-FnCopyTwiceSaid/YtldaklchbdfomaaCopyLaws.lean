/- The walks of the laws over Copy: each returns true, and nothing that was there before the call has changed. Condition: the list from which is drawn reads as bytes. -/
import Derived.Test.YtldaklchbdfomaaEven
import Derived.Test.YtldaklchbdfomaaCmp
import Derived.Test.YtldaklchbdfomaaCopy
namespace Go.Proofs.Ytldaklchbdfomaa
open Go.RowKit

section
variable {w : World} {A : Option Addr} {len cap : Nat} {zs : List Int}

set_option maxHeartbeats 2000000 in
theorem copyNone (h : IsRow .u8 w A len cap zs) : Calls Try.prog 9 #[.slice A len cap] w fun e w' => e = .returned (.bool true) ∧ Below w.heap.size w w' := by
  go_enter Try.func9, Try.ntmps9
  go_wp2_with fail
  refine (dEven_any h).mono ?_
  rintro e w1 ⟨A1, c1, xs, A2, c2, ys, A3, c3, zs, n, rfl, hO1, hO2, hO3, hn, hb1⟩
  have x1 := hO1.bs; have y1 := hO2.bs
  have hs1 := hb1.size
  clear h hO1 hO2 hO3
  go_wp2_with fail
  refine (imCopy0 x1 y1 (Nat.le_refl _) (by omega)).mono ?_
  rintro e w2 ⟨A4, c4, rfl, hO4, b2⟩
  have x2 := x1.below b2; have hs2 := b2.size; have hb2 := hb1.trans (b2.mono hs1)
  clear x1 y1 hb1 b2
  go_wp2_with fail
  refine (same_eq hO4.bs (x2.more hs2) rfl).mono ?_
  rintro e w3 ⟨rfl, q3⟩
  have hb3 := below_quiet hb2 q3
  clear x2 hb2 q3 hO4
  go_wp2_with fail
  refine (alive_any _).mono ?_
  rintro e w' ⟨rfl, rfl⟩
  go_wp2
  go_ret
  exact ⟨rfl, hb3⟩
set_option maxHeartbeats 2000000 in
theorem copyIfEqual (h : IsRow .u8 w A len cap zs) : Calls Try.prog 3 #[.slice A len cap] w fun e w' => e = .returned (.bool true) ∧ Below w.heap.size w w' := by
  go_enter Try.func3, Try.ntmps3
  go_wp2_with fail
  refine (dEven_any h).mono ?_
  rintro e w1 ⟨A1, c1, xs, A2, c2, ys, A3, c3, zs, n, rfl, hO1, hO2, hO3, hn, hb1⟩
  have x1 := hO1.bs; have y1 := hO2.bs; have z1 := hO3.bs
  have hs1 := hb1.size
  clear h hO1 hO2 hO3
  by_cases hxz : xs = zs
  · have H := Lib.hid hxz
    clear hxz
    go_wp2_with fail
    refine (imCompare_eq x1 z1 H.out).mono ?_
    rintro e w2 ⟨rfl, q2⟩
    have x2 := x1.quiet q2; have y2 := y1.quiet q2; have z2 := z1.quiet q2; have hb2 := below_quiet hb1 q2
    have hz2 := quiet_size q2
    rw [← hz2] at x2 y2 z2 hs1
    clear x1 y1 z1 hb1 q2 hz2
    go_wp2_with fail
    refine (imCopy1 y2 z2 (Nat.le_refl _) (by omega)).mono ?_
    rintro e w3 ⟨A4, c4, rfl, hO4, b3⟩
    have x3 := (x2.below b3).more b3.size; have hb3 := hb2.trans (b3.mono hs1); have v3 := hO4.bs
    clear x2 y2 z2 hb2 b3 hO4
    go_wp2_with fail
    refine (imCompare_eq v3 x3 H.out.symm).mono ?_
    rintro e w4 ⟨rfl, q4⟩
    have hb4 := below_quiet hb3 q4
    clear x3 v3 hb3 q4
    go_wp2_with fail
    refine (alive_any _).mono ?_
    rintro e w' ⟨rfl, rfl⟩
    go_wp2
    go_ret
    exact ⟨rfl, hb4⟩
  · have H := Lib.hid hxz
    clear hxz
    go_wp2_with fail
    refine (imCompare_ne x1 z1 H.out).mono ?_
    rintro e w2 ⟨rfl, q2⟩
    have y2 := y1.quiet q2; have z2 := z1.quiet q2; have hb2 := below_quiet hb1 q2
    have hz2 := quiet_size q2
    rw [← hz2] at y2 z2 hs1
    clear x1 y1 z1 hb1 q2 hz2
    go_wp2_with fail
    refine (imCopy0 y2 z2 (Nat.le_refl _) (by omega)).mono ?_
    rintro e w3 ⟨A4, c4, rfl, hO4, b3⟩
    have y3 := (y2.below b3).more b3.size; have hb3 := hb2.trans (b3.mono hs1); have v3 := hO4.bs
    clear y2 z2 hb2 b3 hO4
    go_wp2_with fail
    refine (imCompare_eq v3 y3 rfl).mono ?_
    rintro e w4 ⟨rfl, q4⟩
    have hb4 := below_quiet hb3 q4
    clear y3 v3 hb3 q4
    go_wp2_with fail
    refine (alive_any _).mono ?_
    rintro e w' ⟨rfl, rfl⟩
    go_wp2
    go_ret
    exact ⟨rfl, hb4⟩
set_option maxHeartbeats 2000000 in
theorem copyTwice (h : IsRow .u8 w A len cap zs) : Calls Try.prog 10 #[.slice A len cap] w fun e w' => e = .returned (.bool true) ∧ Below w.heap.size w w' := by
  go_enter Try.func10, Try.ntmps10
  go_wp2_with fail
  refine (dEven_any h).mono ?_
  rintro e w1 ⟨A1, c1, xs, A2, c2, ys, A3, c3, zs, n, rfl, hO1, hO2, hO3, hn, hb1⟩
  have x1 := hO1.bs; have y1 := hO2.bs
  have hs1 := hb1.size
  clear h hO1 hO2 hO3
  go_wp2_with fail
  go_loopw [6] (fun i wr => ∃ k : Nat, k ≤ 2 ∧ i = .int .i64 k ∧ Bs wr w1.heap.size A1 n c1 xs ∧ Bs wr w1.heap.size A2 n c2 ys ∧ Below w.heap.size w wr ∧ w1.heap.size ≤ wr.heap.size) (fun i _ => 2 - (intOf i).toNat)
  case atStart => exact ⟨0, by omega, rfl, x1, y1, hb1, Nat.le_refl _⟩
  case round =>
    obtain ⟨k, hk, rfl, xr, yr, hbr, hsr⟩ := hrel
    clear x1 y1 hb1
    rcases (show k = 0 ∨ k = 1 ∨ k = 2 by omega) with rfl | rfl | rfl
    · go_wp2_with fail
      refine (imCopy0 xr yr hsr (by omega)).mono ?_
      rintro e w2 ⟨A4, c4, rfl, hO4, b2⟩
      have x2 := xr.below (b2.mono hsr); have y2 := yr.below (b2.mono hsr); have hb2 := hbr.trans (b2.mono (by omega)); have v2 := hO4.bs; have hs2 := b2.size
      clear xr yr hbr b2 hO4
      go_wp2_with fail
      refine (imCopy0 v2 (y2.more (show w1.heap.size ≤ w2.heap.size by omega)) (Nat.le_refl _) (by omega)).mono ?_
      rintro e w3 ⟨A5, c5, rfl, hO5, b3⟩
      have x3 := x2.below (b3.mono (by omega)); have y3 := y2.below (b3.mono (by omega)); have hb3 := hb2.trans (b3.mono (by omega)); have v3 := (v2.below b3).more b3.size; have u3 := hO5.bs; have hs3 := b3.size
      clear x2 y2 hb2 b3 hO5 v2
      go_wp2_with fail
      refine (same_eq u3 v3 rfl).mono ?_
      rintro e w4 ⟨rfl, q4⟩
      have x4 := x3.quiet q4; have y4 := y3.quiet q4; have hb4 := below_quiet hb3 q4; have hs4 := quiet_size q4
      have hs5 : w1.heap.size ≤ w4.heap.size := by omega
      clear x3 y3 u3 v3 hb3 q4 hs4
      go_wp2
      go_roundw
      case rel => exact ⟨1, by omega, rfl, x4, y4, hb4, hs5⟩
      case measure => simp [intOf]
    · go_wp2_with fail
      refine (imCopy1 xr yr hsr (by omega)).mono ?_
      rintro e w2 ⟨A4, c4, rfl, hO4, b2⟩
      have x2 := xr.below (b2.mono hsr); have y2 := yr.below (b2.mono hsr); have hb2 := hbr.trans (b2.mono (by omega)); have v2 := hO4.bs; have hs2 := b2.size
      clear xr yr hbr b2 hO4
      go_wp2_with fail
      refine (imCopy1 v2 (y2.more (show w1.heap.size ≤ w2.heap.size by omega)) (Nat.le_refl _) (by omega)).mono ?_
      rintro e w3 ⟨A5, c5, rfl, hO5, b3⟩
      have x3 := x2.below (b3.mono (by omega)); have y3 := y2.below (b3.mono (by omega)); have hb3 := hb2.trans (b3.mono (by omega)); have v3 := (v2.below b3).more b3.size; have u3 := hO5.bs; have hs3 := b3.size
      clear x2 y2 hb2 b3 hO5 v2
      go_wp2_with fail
      refine (same_eq u3 v3 rfl).mono ?_
      rintro e w4 ⟨rfl, q4⟩
      have x4 := x3.quiet q4; have y4 := y3.quiet q4; have hb4 := below_quiet hb3 q4; have hs4 := quiet_size q4
      have hs5 : w1.heap.size ≤ w4.heap.size := by omega
      clear x3 y3 u3 v3 hb3 q4 hs4
      go_wp2
      go_roundw
      case rel => exact ⟨2, by omega, rfl, x4, y4, hb4, hs5⟩
      case measure => simp [intOf]
    · go_wp2_with fail
      refine (alive_any _).mono ?_
      rintro e w' ⟨rfl, rfl⟩
      go_wp2
      go_ret
      exact ⟨rfl, hbr⟩
set_option maxHeartbeats 2000000 in
theorem copyKeeps (h : IsRow .u8 w A len cap zs) : Calls Try.prog 8 #[.slice A len cap] w fun e w' => e = .returned (.bool true) ∧ Below w.heap.size w w' := by
  go_enter Try.func8, Try.ntmps8
  go_wp2_with fail
  refine (dEven_any h).mono ?_
  rintro e w1 ⟨A1, c1, xs, A2, c2, ys, A3, c3, zs, n, rfl, hO1, hO2, hO3, hn, hb1⟩
  have x1 := hO1.bs; have y1 := hO2.bs
  have hs1 := hb1.size
  clear h hO1 hO2 hO3
  go_wp2_with fail
  go_loopw [6] (fun i wr => ∃ k : Nat, k ≤ 2 ∧ i = .int .i64 k ∧ Bs wr w1.heap.size A1 n c1 xs ∧ Bs wr w1.heap.size A2 n c2 ys ∧ Below w.heap.size w wr ∧ w1.heap.size ≤ wr.heap.size) (fun i _ => 2 - (intOf i).toNat)
  case atStart => exact ⟨0, by omega, rfl, x1, y1, hb1, Nat.le_refl _⟩
  case round =>
    obtain ⟨k, hk, rfl, xr, yr, hbr, hsr⟩ := hrel
    clear x1 y1 hb1
    rcases (show k = 0 ∨ k = 1 ∨ k = 2 by omega) with rfl | rfl | rfl
    · go_wp2_with (first
        | (at_builtin; refine wpList_clone rfl (.tmp 19) (.tmp 20) rfl rfl rfl xr hsr (by omega) ?_; intro A4 c4 w2 hO4 b2; have x2 := xr.below (b2.mono hsr); have y2 := yr.below (b2.mono hsr); have hs2 := b2.size; have hb2 := hbr.trans (b2.mono (by omega)); have hs2' : w1.heap.size ≤ w2.heap.size := (by omega); clear xr yr hbr b2)
        | (at_builtin; refine wpList_clone rfl (.tmp 22) (.tmp 23) rfl rfl rfl y2 hs2' (by omega) ?_; intro A5 c5 w3 hO5 b3; have x3 := x2.below (b3.mono hs2'); have y3 := y2.below (b3.mono hs2'); have hs3 := b3.size; have hb3 := hb2.trans (b3.mono (by omega)); have a3 := hO4.bs.below b3; have d3 := hO5.bs; clear x2 y2 hb2 b3 hO4 hO5))
      have a3' := a3.more hs3
      refine (imCopy0 a3' d3 (Nat.le_refl _) (by omega)).mono ?_
      rintro e w4 ⟨A6, c6, rfl, hO6, b4⟩
      have hs4 := b4.size
      have x4 := x3.below (b4.mono (by omega)); have y4 := y3.below (b4.mono (by omega)); have a4 := a3'.below b4; have d4 := d3.below b4; have hb4 := hb3.trans (b4.mono (by omega))
      have hs4' : w1.heap.size ≤ w4.heap.size := by omega
      clear x3 y3 a3 a3' d3 hb3 b4 hO6
      go_wp2_with fail
      refine (same_eq (a4.more hs4) (x4.more hs4') rfl).mono ?_
      rintro e w5 ⟨rfl, q5⟩
      have x5 := x4.quiet q5; have y5 := y4.quiet q5; have d5 := d4.quiet q5; have hb5 := below_quiet hb4 q5; have hz5 := quiet_size q5
      have hs5 : w1.heap.size ≤ w5.heap.size := by omega
      clear x4 y4 a4 d4 hb4 q5
      go_wp2_with fail
      refine (same_eq (B := w5.heap.size) (d5.more (by omega)) (y5.more hs5) rfl).mono ?_
      rintro e w6 ⟨rfl, q6⟩
      have x6 := x5.quiet q6; have y6 := y5.quiet q6; have hb6 := below_quiet hb5 q6; have hz6 := quiet_size q6
      have hs6 : w1.heap.size ≤ w6.heap.size := by omega
      clear x5 y5 d5 hb5 q6 hz5 hz6
      go_wp2
      go_roundw
      case rel => exact ⟨1, by omega, rfl, x6, y6, hb6, hs6⟩
      case measure => simp [intOf]
    · go_wp2_with (first
        | (at_builtin; refine wpList_clone rfl (.tmp 19) (.tmp 20) rfl rfl rfl xr hsr (by omega) ?_; intro A4 c4 w2 hO4 b2; have x2 := xr.below (b2.mono hsr); have y2 := yr.below (b2.mono hsr); have hs2 := b2.size; have hb2 := hbr.trans (b2.mono (by omega)); have hs2' : w1.heap.size ≤ w2.heap.size := (by omega); clear xr yr hbr b2)
        | (at_builtin; refine wpList_clone rfl (.tmp 22) (.tmp 23) rfl rfl rfl y2 hs2' (by omega) ?_; intro A5 c5 w3 hO5 b3; have x3 := x2.below (b3.mono hs2'); have y3 := y2.below (b3.mono hs2'); have hs3 := b3.size; have hb3 := hb2.trans (b3.mono (by omega)); have a3 := hO4.bs.below b3; have d3 := hO5.bs; clear x2 y2 hb2 b3 hO4 hO5))
      have a3' := a3.more hs3
      refine (imCopy1 a3' d3 (Nat.le_refl _) (by omega)).mono ?_
      rintro e w4 ⟨A6, c6, rfl, hO6, b4⟩
      have hs4 := b4.size
      have x4 := x3.below (b4.mono (by omega)); have y4 := y3.below (b4.mono (by omega)); have a4 := a3'.below b4; have d4 := d3.below b4; have hb4 := hb3.trans (b4.mono (by omega))
      have hs4' : w1.heap.size ≤ w4.heap.size := by omega
      clear x3 y3 a3 a3' d3 hb3 b4 hO6
      go_wp2_with fail
      refine (same_eq (a4.more hs4) (x4.more hs4') rfl).mono ?_
      rintro e w5 ⟨rfl, q5⟩
      have x5 := x4.quiet q5; have y5 := y4.quiet q5; have d5 := d4.quiet q5; have hb5 := below_quiet hb4 q5; have hz5 := quiet_size q5
      have hs5 : w1.heap.size ≤ w5.heap.size := by omega
      clear x4 y4 a4 d4 hb4 q5
      go_wp2_with fail
      refine (same_eq (B := w5.heap.size) (d5.more (by omega)) (y5.more hs5) rfl).mono ?_
      rintro e w6 ⟨rfl, q6⟩
      have x6 := x5.quiet q6; have y6 := y5.quiet q6; have hb6 := below_quiet hb5 q6; have hz6 := quiet_size q6
      have hs6 : w1.heap.size ≤ w6.heap.size := by omega
      clear x5 y5 d5 hb5 q6 hz5 hz6
      go_wp2
      go_roundw
      case rel => exact ⟨2, by omega, rfl, x6, y6, hb6, hs6⟩
      case measure => simp [intOf]
    · go_wp2_with fail
      refine (alive_any _).mono ?_
      rintro e w' ⟨rfl, rfl⟩
      go_wp2
      go_ret
      exact ⟨rfl, hbr⟩
end
end Go.Proofs.Ytldaklchbdfomaa
