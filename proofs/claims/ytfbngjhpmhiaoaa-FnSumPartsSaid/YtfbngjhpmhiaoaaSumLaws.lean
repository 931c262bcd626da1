/- The walks of the laws over XorBytes and XorInto: each returns true, and nothing that was there before the call has changed. Condition: the list from which is drawn reads as bytes. -/
import Derived.Test.YtfbngjhpmhiaoaaEven
import Derived.Test.YtfbngjhpmhiaoaaSumPlain
namespace Go.Proofs.Ytfbngjhpmhiaoaa
open Go.RowKit

theorem min_of_le {a b : Nat} (h : a ≤ b) : min a b = a := Nat.min_eq_left h

section
variable {w : World} {A : Option Addr} {len cap : Nat} {zs : List Int}

set_option maxHeartbeats 2000000 in
theorem sumBack (h : IsRow .u8 w A len cap zs) : Calls Try.prog 9 #[.slice A len cap] w fun e w' => e = .returned (.bool true) ∧ Below w.heap.size w w' := by
  go_enter Try.func9, Try.ntmps9
  go_wp2_with fail
  refine (dEven_any h).mono ?_
  rintro e w1 ⟨A1, c1, xs, A2, c2, ys, A3, c3, zs, n, rfl, hO1, hO2, hO3, hn, hb1⟩
  have x1 := hO1.bs; have y1 := hO2.bs
  have hs1 := hb1.size
  have hback := Lib.hid (xorL_back xs ys hO1.rng (by rw [hO1.len, hO2.len]; exact Nat.le_refl _))
  clear h hO1 hO2 hO3
  have hmk := run_mk n (by omega)
  have z2 := (zeros_own w1 n (by omega) (Nat.le_refl _)).bs
  have b2 : Below w1.heap.size w1 (w1.alloc (.cells (zeroRow n) 5)) := (Below.refl _ _).alloc (Nat.le_refl _) _
  have x2 := (x1.below b2).more b2.size; have y2 := (y1.below b2).more b2.size; have hb2 := hb1.trans (b2.mono hs1); have hs2 := hb2.size
  clear x1 y1 b2 hb1
  go_wp2_with fail
  refine (imXor_even z2 x2 y2 (Nat.le_refl _) (by omega)).mono ?_
  rintro e w3 ⟨A4, c4, rfl, hO4, b3⟩
  have x3 := (x2.below b3).more b3.size; have y3 := (y2.below b3).more b3.size; have o3 := hO4.bs; have hb3 := hb2.trans (b3.mono hs2); have hs3 := hb3.size
  clear x2 y2 z2 hb2 b3 hO4 hs2
  have z4 := (zeros_own w3 n (by omega) (Nat.le_refl _)).bs
  have b4 : Below w3.heap.size w3 (w3.alloc (.cells (zeroRow n) 5)) := (Below.refl _ _).alloc (Nat.le_refl _) _
  have x4 := (x3.below b4).more b4.size; have y4 := (y3.below b4).more b4.size; have o4 := (o3.below b4).more b4.size; have hb4 := hb3.trans (b4.mono hs3); have hs4 := hb4.size
  clear x3 y3 o3 b4 hb3
  go_wp2_with fail
  refine (imXor_even z4 o4 y4 (Nat.le_refl _) (by omega)).mono ?_
  rintro e w5 ⟨A5, c5, rfl, hO5, b5⟩
  have x5 := (x4.below b5).more b5.size; have o5 := hO5.bs; have hb5 := hb4.trans (b5.mono hs4)
  clear x4 y4 z4 o4 hb4 b5 hO5 hs4 hmk
  go_wp2_with fail
  refine (same_eq o5 x5 hback.out).mono ?_
  rintro e w6 ⟨rfl, q6⟩
  have hb6 := below_quiet hb5 q6
  clear o5 x5 hb5 q6
  go_wp2_with fail
  refine (alive_any _).mono ?_
  rintro e w' ⟨rfl, rfl⟩
  go_wp2
  go_ret
  exact ⟨rfl, hb6⟩

--BEGIN
set_option maxHeartbeats 4000000 in
theorem sumEither (h : IsRow .u8 w A len cap zs) : Calls Try.prog 10 #[.slice A len cap] w fun e w' => e = .returned (.bool true) ∧ Below w.heap.size w w' := by
  go_enter Try.func10, Try.ntmps10
  go_wp2_with fail
  refine (dEven_any h).mono ?_
  rintro e w1 ⟨A1, c1, xs, A2, c2, ys, A3, c3, zs, n, rfl, hO1, hO2, hO3, hn, hb1⟩
  have x1 := hO1.bs; have y1 := hO2.bs; have z1 := hO3.bs
  have hs1 := hb1.size
  have hcomm := Lib.hid (xorL_comm xs ys); have hassoc := Lib.hid (xorL_assoc xs ys zs)
  clear h hO1 hO2 hO3
  have hmk := run_mk n (by omega)
  have d2 := (zeros_own w1 n (by omega) (Nat.le_refl _)).bs
  have bb2 : Below w1.heap.size w1 (w1.alloc (.cells (zeroRow n) 5)) := (Below.refl _ _).alloc (Nat.le_refl _) _
  have x2 := (x1.below bb2).more bb2.size
  have y2 := (y1.below bb2).more bb2.size
  have z2 := (z1.below bb2).more bb2.size
  have hb2 := hb1.trans (bb2.mono hs1); have hs2 := hb2.size
  clear x1 y1 z1 hb1 bb2
  go_wp2_with fail
  refine (imXor_even d2 x2 y2 (Nat.le_refl _) (by omega)).mono ?_
  rintro e w3 ⟨Aa, ca, rfl, hOa, bb3⟩
  have a3 := hOa.bs
  clear hOa
  have x3 := (x2.below bb3).more bb3.size
  have y3 := (y2.below bb3).more bb3.size
  have z3 := (z2.below bb3).more bb3.size
  have hb3 := hb2.trans (bb3.mono hs2); have hs3 := hb3.size
  clear x2 y2 z2 d2 hb2 bb3
  have d4 := (zeros_own w3 n (by omega) (Nat.le_refl _)).bs
  have bb4 : Below w3.heap.size w3 (w3.alloc (.cells (zeroRow n) 5)) := (Below.refl _ _).alloc (Nat.le_refl _) _
  have x4 := (x3.below bb4).more bb4.size
  have y4 := (y3.below bb4).more bb4.size
  have z4 := (z3.below bb4).more bb4.size
  have a4 := (a3.below bb4).more bb4.size
  have hb4 := hb3.trans (bb4.mono hs3); have hs4 := hb4.size
  clear x3 y3 z3 a3 hb3 bb4
  go_wp2_with fail
  refine (imXor_even d4 y4 x4 (Nat.le_refl _) (by omega)).mono ?_
  rintro e w5 ⟨Ab, cb, rfl, hOb, bb5⟩
  have b5 := hOb.bs
  clear hOb
  have x5 := (x4.below bb5).more bb5.size
  have y5 := (y4.below bb5).more bb5.size
  have z5 := (z4.below bb5).more bb5.size
  have a5 := (a4.below bb5).more bb5.size
  have hb5 := hb4.trans (bb5.mono hs4); have hs5 := hb5.size
  clear x4 y4 z4 a4 d4 hb4 bb5
  have d6 := (zeros_own w5 n (by omega) (Nat.le_refl _)).bs
  have bb6 : Below w5.heap.size w5 (w5.alloc (.cells (zeroRow n) 5)) := (Below.refl _ _).alloc (Nat.le_refl _) _
  have x6 := (x5.below bb6).more bb6.size
  have y6 := (y5.below bb6).more bb6.size
  have z6 := (z5.below bb6).more bb6.size
  have a6 := (a5.below bb6).more bb6.size
  have b6 := (b5.below bb6).more bb6.size
  have hb6 := hb5.trans (bb6.mono hs5); have hs6 := hb6.size
  clear x5 y5 z5 a5 b5 hb5 bb6
  go_wp2_with fail
  refine (imXor_even d6 y6 z6 (Nat.le_refl _) (by omega)).mono ?_
  rintro e w7 ⟨Ac, cc, rfl, hOc, bb7⟩
  have c7 := hOc.bs
  clear hOc
  have x7 := (x6.below bb7).more bb7.size
  have z7 := (z6.below bb7).more bb7.size
  have a7 := (a6.below bb7).more bb7.size
  have b7 := (b6.below bb7).more bb7.size
  have hb7 := hb6.trans (bb7.mono hs6); have hs7 := hb7.size
  clear x6 z6 a6 b6 d6 y6 hb6 bb7
  have d8 := (zeros_own w7 n (by omega) (Nat.le_refl _)).bs
  have bb8 : Below w7.heap.size w7 (w7.alloc (.cells (zeroRow n) 5)) := (Below.refl _ _).alloc (Nat.le_refl _) _
  have x8 := (x7.below bb8).more bb8.size
  have z8 := (z7.below bb8).more bb8.size
  have a8 := (a7.below bb8).more bb8.size
  have b8 := (b7.below bb8).more bb8.size
  have c8 := (c7.below bb8).more bb8.size
  have hb8 := hb7.trans (bb8.mono hs7); have hs8 := hb8.size
  clear x7 z7 a7 b7 c7 hb7 bb8
  go_wp2_with fail
  refine (imXor_even d8 a8 z8 (Nat.le_refl _) (by omega)).mono ?_
  rintro e w9 ⟨Al, cl, rfl, hOl, bb9⟩
  have l9 := hOl.bs
  clear hOl
  have x9 := (x8.below bb9).more bb9.size
  have a9 := (a8.below bb9).more bb9.size
  have b9 := (b8.below bb9).more bb9.size
  have c9 := (c8.below bb9).more bb9.size
  have hb9 := hb8.trans (bb9.mono hs8); have hs9 := hb9.size
  clear x8 a8 b8 c8 d8 z8 hb8 bb9
  have d10 := (zeros_own w9 n (by omega) (Nat.le_refl _)).bs
  have bb10 : Below w9.heap.size w9 (w9.alloc (.cells (zeroRow n) 5)) := (Below.refl _ _).alloc (Nat.le_refl _) _
  have x10 := (x9.below bb10).more bb10.size
  have a10 := (a9.below bb10).more bb10.size
  have b10 := (b9.below bb10).more bb10.size
  have c10 := (c9.below bb10).more bb10.size
  have l10 := (l9.below bb10).more bb10.size
  have hb10 := hb9.trans (bb10.mono hs9); have hs10 := hb10.size
  clear x9 a9 b9 c9 l9 hb9 bb10
  go_wp2_with fail
  refine (imXor_even d10 x10 c10 (Nat.le_refl _) (by omega)).mono ?_
  rintro e w11 ⟨Ar, cr, rfl, hOr, bb11⟩
  have r11 := hOr.bs
  clear hOr
  have x11 := (x10.below bb11).more bb11.size
  have a11 := (a10.below bb11).more bb11.size
  have b11 := (b10.below bb11).more bb11.size
  have l11 := (l10.below bb11).more bb11.size
  have hb11 := hb10.trans (bb11.mono hs10); have hs11 := hb11.size
  clear x10 a10 b10 l10 d10 c10 hb10 bb11
  go_wp2_with fail
  refine (same_eq a11 b11 hcomm.out).mono ?_
  rintro e w12 ⟨rfl, q12⟩
  have x12 := x11.quiet q12
  have a12 := a11.quiet q12
  have b12 := b11.quiet q12
  have l12 := l11.quiet q12
  have r12 := r11.quiet q12
  have hb12 := below_quiet hb11 q12; have hs12 := hb12.size; have hz12 := quiet_size q12
  rw [← hz12] at x12 a12 b12 l12 r12
  clear x11 a11 b11 l11 r11 hb11 q12 hz12
  go_wp2_with fail
  refine (same_eq l12 r12 hassoc.out).mono ?_
  rintro e w13 ⟨rfl, q13⟩
  have x13 := x12.quiet q13
  have a13 := a12.quiet q13
  have b13 := b12.quiet q13
  have l13 := l12.quiet q13
  have r13 := r12.quiet q13
  have hb13 := below_quiet hb12 q13; have hs13 := hb13.size; have hz13 := quiet_size q13
  rw [← hz13] at x13 a13 b13 l13 r13
  clear x12 a12 b12 l12 r12 hb12 q13 hz13
  go_wp2_with fail
  refine (alive_any _).mono ?_
  rintro e w' ⟨rfl, rfl⟩
  go_wp2
  go_ret
  exact ⟨rfl, hb13⟩

set_option maxHeartbeats 2000000 in
theorem sumNone (h : IsRow .u8 w A len cap zs) : Calls Try.prog 11 #[.slice A len cap] w fun e w' => e = .returned (.bool true) ∧ Below w.heap.size w w' := by
  go_enter Try.func11, Try.ntmps11
  go_wp2_with fail
  refine (dEven_any h).mono ?_
  rintro e w1 ⟨A1, c1, xs, A2, c2, ys, A3, c3, zs, n, rfl, hO1, hO2, hO3, hn, hb1⟩
  have x1 := hO1.bs; have y1 := hO2.bs; have z1 := hO3.bs
  have hs1 := hb1.size
  have hz0 := Lib.hid (show xorL xs (List.replicate n 0) = xs by have := xorL_zeros xs hO1.rng; rwa [hO1.len] at this)
  have hz1 := Lib.hid (show xorL xs xs = List.replicate n 0 by rw [xorL_self, hO1.len])
  clear h hO1 hO2 hO3 y1 z1
  have hmk := run_mk n (by omega)
  have d2 := (zeros_own w1 n (by omega) (Nat.le_refl _)).bs
  have bb2 : Below w1.heap.size w1 (w1.alloc (.cells (zeroRow n) 5)) := (Below.refl _ _).alloc (Nat.le_refl _) _
  have x2 := (x1.below bb2).more bb2.size
  have hb2 := hb1.trans (bb2.mono hs1); have hs2 := hb2.size
  clear x1 hb1 bb2
  go_wp2_with fail
  refine (imXor_even d2 x2 d2 (Nat.le_refl _) (by omega)).mono ?_
  rintro e w3 ⟨Aa, ca, rfl, hOa, bb3⟩
  have a3 := hOa.bs
  clear hOa
  have x3 := (x2.below bb3).more bb3.size
  have d3 := (d2.below bb3).more bb3.size
  have hb3 := hb2.trans (bb3.mono hs2); have hs3 := hb3.size
  clear x2 d2 hb2 bb3
  go_wp2_with fail
  refine (imXor_even x3 x3 x3 (Nat.le_refl _) (by omega)).mono ?_
  rintro e w4 ⟨Ab, cb, rfl, hOb, bb4⟩
  have b4 := hOb.bs
  clear hOb
  have x4 := (x3.below bb4).more bb4.size
  have d4 := (d3.below bb4).more bb4.size
  have a4 := (a3.below bb4).more bb4.size
  have hb4 := hb3.trans (bb4.mono hs3); have hs4 := hb4.size
  clear x3 d3 a3 hb3 bb4
  go_wp2_with fail
  refine (same_eq a4 x4 hz0.out).mono ?_
  rintro e w5 ⟨rfl, q5⟩
  have x5 := x4.quiet q5
  have d5 := d4.quiet q5
  have a5 := a4.quiet q5
  have b5 := b4.quiet q5
  have hb5 := below_quiet hb4 q5; have hs5 := hb5.size; have hz5 := quiet_size q5
  rw [← hz5] at x5 d5 a5 b5
  clear x4 d4 a4 b4 hb4 q5 hz5
  go_wp2_with fail
  refine (same_eq b5 d5 hz1.out).mono ?_
  rintro e w6 ⟨rfl, q6⟩
  have x6 := x5.quiet q6
  have d6 := d5.quiet q6
  have a6 := a5.quiet q6
  have b6 := b5.quiet q6
  have hb6 := below_quiet hb5 q6; have hs6 := hb6.size; have hz6 := quiet_size q6
  rw [← hz6] at x6 d6 a6 b6
  clear x5 d5 a5 b5 hb5 q6 hz6
  go_wp2_with fail
  refine (alive_any _).mono ?_
  rintro e w' ⟨rfl, rfl⟩
  go_wp2
  go_ret
  exact ⟨rfl, hb6⟩

set_option maxHeartbeats 2000000 in
theorem sumInto (h : IsRow .u8 w A len cap zs) : Calls Try.prog 3 #[.slice A len cap] w fun e w' => e = .returned (.bool true) ∧ Below w.heap.size w w' := by
  go_enter Try.func3, Try.ntmps3
  go_wp2_with fail
  refine (dLists_any h).mono ?_
  rintro e w1 ⟨A1, n1, c1, xs, A2, n2, c2, ys, A3, n3, c3, zs, rfl, hO1, hO2, hO3, hn1, hn2, hn3, hb1⟩
  have x1 := hO1.bs; have y1 := hO2.bs; have z1 := hO3.bs
  have hs1 := hb1.size
  have hf := Lib.hid (show sumL xs xs ys = sumL xs xs ys from rfl)
  clear h hO1 hO2 hO3 z1 hf
  go_wp2_with fail
  refine (imInto_any x1 y1 (Nat.le_refl _) (by omega)).mono ?_
  rintro e w2 ⟨Ao, co, rfl, hOo, bb2⟩
  have o2 := hOo.bs
  clear hOo
  have x2 := (x1.below bb2).more bb2.size
  have y2 := (y1.below bb2).more bb2.size
  have hb2 := hb1.trans (bb2.mono hs1); have hs2 := hb2.size
  clear x1 y1 hb1 bb2
  go_wp2_with fail
  refine (imXor_ok x2 x2 y2 (Nat.le_refl _) (by omega) (by omega)).mono ?_
  rintro e w3 ⟨Au, cu, rfl, hOu, bb3⟩
  have u3 := hOu.bs
  clear hOu
  have x3 := (x2.below bb3).more bb3.size
  have o3 := (o2.below bb3).more bb3.size
  have hb3 := hb2.trans (bb3.mono hs2); have hs3 := hb3.size
  clear x2 o2 y2 hb2 bb3
  go_wp2_with fail
  refine (same_eq o3 u3 rfl).mono ?_
  rintro e w4 ⟨rfl, q4⟩
  have x4 := x3.quiet q4
  have o4 := o3.quiet q4
  have u4 := u3.quiet q4
  have hb4 := below_quiet hb3 q4; have hs4 := hb4.size; have hz4 := quiet_size q4
  rw [← hz4] at x4 o4 u4
  clear x3 o3 u3 hb3 q4 hz4
  go_wp2_with fail
  refine (alive_any _).mono ?_
  rintro e w' ⟨rfl, rfl⟩
  go_wp2
  go_ret
  exact ⟨rfl, hb4⟩

set_option maxHeartbeats 2000000 in
theorem sumIntoBack (h : IsRow .u8 w A len cap zs) : Calls Try.prog 8 #[.slice A len cap] w fun e w' => e = .returned (.bool true) ∧ Below w.heap.size w w' := by
  go_enter Try.func8, Try.ntmps8
  go_wp2_with fail
  refine (dLists_any h).mono ?_
  rintro e w1 ⟨A1, n1, c1, xs, A2, n2, c2, ys, A3, n3, c3, zs, rfl, hO1, hO2, hO3, hn1, hn2, hn3, hb1⟩
  have x1 := hO1.bs; have y1 := hO2.bs; have z1 := hO3.bs
  have hs1 := hb1.size
  have hf := Lib.hid (sum_into_back xs ys hO1.rng)
  clear h hO1 hO2 hO3 z1
  rcases Nat.lt_or_ge n2 n1 with hlt | hlt
  · have em : Hid (min n1 n2 = n2) := Lib.hid (by omega)
    go_wp2_with fail
    refine (imInto_any x1 y1 (Nat.le_refl _) (by omega)).mono ?_
    rintro e w2 ⟨Ao, co, rfl, hOo, bb2⟩
    rw [em.out]
    have o2 := hOo.bs
    clear hOo
    have x2 := (x1.below bb2).more bb2.size
    have y2 := (y1.below bb2).more bb2.size
    have hb2 := hb1.trans (bb2.mono hs1); have hs2 := hb2.size
    clear x1 y1 hb1 bb2
    go_wp2_with fail
    refine (imInto_any o2 y2 (Nat.le_refl _) (by omega)).mono ?_
    rintro e w3 ⟨Au, cu, rfl, hOu, bb3⟩
    rw [em.out]
    have u3 := hOu.bs
    clear hOu
    have x3 := (x2.below bb3).more bb3.size
    have hb3 := hb2.trans (bb3.mono hs2); have hs3 := hb3.size
    clear x2 y2 o2 hb2 bb3
    go_wp2_with fail
    refine (same_eq u3 x3 hf.out).mono ?_
    rintro e w4 ⟨rfl, q4⟩
    have x4 := x3.quiet q4
    have u4 := u3.quiet q4
    have hb4 := below_quiet hb3 q4; have hs4 := hb4.size; have hz4 := quiet_size q4
    rw [← hz4] at x4 u4
    clear x3 u3 hb3 q4 hz4
    go_wp2_with fail
    refine (alive_any _).mono ?_
    rintro e w' ⟨rfl, rfl⟩
    go_wp2
    go_ret
    exact ⟨rfl, hb4⟩
  · have em : Hid (min n1 n2 = n1) := Lib.hid (by omega)
    go_wp2_with fail
    refine (imInto_any x1 y1 (Nat.le_refl _) (by omega)).mono ?_
    rintro e w2 ⟨Ao, co, rfl, hOo, bb2⟩
    rw [em.out]
    have o2 := hOo.bs
    clear hOo
    have x2 := (x1.below bb2).more bb2.size
    have y2 := (y1.below bb2).more bb2.size
    have hb2 := hb1.trans (bb2.mono hs1); have hs2 := hb2.size
    clear x1 y1 hb1 bb2
    go_wp2_with fail
    refine (imInto_any o2 y2 (Nat.le_refl _) (by omega)).mono ?_
    rintro e w3 ⟨Au, cu, rfl, hOu, bb3⟩
    rw [em.out]
    have u3 := hOu.bs
    clear hOu
    have x3 := (x2.below bb3).more bb3.size
    have hb3 := hb2.trans (bb3.mono hs2); have hs3 := hb3.size
    clear x2 y2 o2 hb2 bb3
    go_wp2_with fail
    refine (same_eq u3 x3 hf.out).mono ?_
    rintro e w4 ⟨rfl, q4⟩
    have x4 := x3.quiet q4
    have u4 := u3.quiet q4
    have hb4 := below_quiet hb3 q4; have hs4 := hb4.size; have hz4 := quiet_size q4
    rw [← hz4] at x4 u4
    clear x3 u3 hb3 q4 hz4
    go_wp2_with fail
    refine (alive_any _).mono ?_
    rintro e w' ⟨rfl, rfl⟩
    go_wp2
    go_ret
    exact ⟨rfl, hb4⟩
end
end Go.Proofs.Ytfbngjhpmhiaoaa
