/- The walk of the law FnSumEqual over XorBytes and Compare: it returns true, and nothing that was there before the call has changed. Condition: the list from which is drawn reads as bytes. -/
import Derived.Test.YtfbngjhpmhiaoaaSumMore
namespace Go.Proofs.Ytfbngjhpmhiaoaa
open Go.RowKit

section
variable {w w' : World} {B B' n c base : Nat} {A : Option Addr} {xs : List Int}
theorem Bs.alloc' (h : Bs w B A n c xs) (hB : B ≤ w.heap.size) (o : Obj) : Bs (w.alloc o) B A n c xs := h.below ((Below.refl _ _).alloc hB o)
theorem zeros_bs' (w : World) (n : Nat) (hn : n ≤ 140737488351232) : Bs (w.alloc (.cells (zeroRow n) 5)) (w.heap.size + 1) (some ⟨w.heap.size, 0, none⟩) n n (List.replicate n 0) := by
  have h := (zeros_own w n hn (Nat.le_refl _)).bs
  rwa [show (w.alloc (.cells (zeroRow n) 5)).heap.size = w.heap.size + 1 by simp] at h
theorem Bs.drew' (h : Bs w B A n c xs) : Bs w.drew B A n c xs := ⟨h.len, h.cap, h.top, h.rng, h.nil, h.cells⟩
theorem zeros_bs (w : World) (n : Nat) (hn : n ≤ 140737488351232) : Bs (w.alloc (.cells (zeroRow n) 5)).drew (w.heap.size + 1) (some ⟨w.heap.size, 0, none⟩) n n (List.replicate n 0) := (zeros_bs' w n hn).drew'
end

section
variable {w : World} {A : Option Addr} {len cap : Nat} {zs : List Int}
set_option maxHeartbeats 4000000 in
theorem sumEqual (h : IsRow .u8 w A len cap zs) : Calls Try.prog 4 #[.slice A len cap] w fun e w' => e = .returned (.bool true) ∧ Below w.heap.size w w' := by
  go_enter Try.func4, Try.ntmps4
  go_wp2_with fail
  refine (dEven_any h).mono ?_
  rintro e w1 ⟨A1, c1, xs, A2, c2, ys, A3, c3, zs, n, rfl, hO1, hO2, hO3, hn, hb1⟩
  have x1 := hO1.bs; have y1 := hO2.bs
  have hs1 := hb1.size
  have hiff := Lib.hid (show xorL xs ys = List.replicate n 0 ↔ xs = ys by have := xorL_eq_zeros xs ys hO1.rng hO2.rng (by rw [hO1.len, hO2.len]); rwa [hO1.len] at this)
  clear h hO1 hO2 hO3
  have hmk := run_mk n (by omega)
  have z2 := (zeros_own w1 n (by omega) (Nat.le_refl _)).bs
  have b2 : Below w1.heap.size w1 (w1.alloc (.cells (zeroRow n) 5)) := (Below.refl _ _).alloc (Nat.le_refl _) _
  have x2 := (x1.below b2).more b2.size; have y2 := (y1.below b2).more b2.size; have hb2 := hb1.trans (b2.mono hs1); have hs2 := hb2.size
  clear x1 y1 b2 hb1
  go_wp2_with fail
  refine (imXor_even z2 x2 y2 (Nat.le_refl _) (by omega)).mono ?_
  rintro e w3 ⟨A4, c4, rfl, hO4, b3⟩
  have x3 := (x2.below b3).more b3.size; have y3 := (y2.below b3).more b3.size; have a3 := hO4.bs; have hb3 := hb2.trans (b3.mono hs2); have hs3 := hb3.size
  clear x2 y2 z2 hb2 b3 hO4 hs2
  by_cases hxy : xs = ys
  · have H := Lib.hid hxy
    have HZ := Lib.hid (hiff.out.2 hxy)
    clear hxy hiff
    go_wp2_with fail
    go_region_with (first
      | (go_at_call_of 20 (Value.slice A1 n c1); refine (imCompare_eq (B := w3.heap.size) ?_ ?_ H.out).mono ?_; (first | exact x3.drew' | exact (x3.alloc' (Nat.le_refl _) _).drew'); (first | exact y3.drew' | exact (y3.alloc' (Nat.le_refl _) _).drew'); rintro e w5 ⟨rfl, q5⟩; have a5 : Bs w5 w3.heap.size A4 n c4 (xorL xs ys) := Bs.quiet (by first | exact a3.drew' | exact (a3.alloc' (Nat.le_refl _) _).drew') q5; have hb5 : Below w.heap.size w w5 := below_quiet (by first | exact hb3.drew | exact (hb3.alloc hs3 _).drew) q5; have hs5 : w3.heap.size ≤ w5.heap.size := (by have := quiet_size q5; simp at this; omega); (try have z5 : Bs w5 (w3.heap.size + 1) (some ⟨w3.heap.size, 0, none⟩) n n (List.replicate n 0) := Bs.quiet (show Bs (w3.alloc (.cells (zeroRow n) 5)).drew (w3.heap.size + 1) (some ⟨w3.heap.size, 0, none⟩) n n (List.replicate n 0) from zeros_bs w3 n (by omega)) q5); clear q5)
      | (go_at_call_of 20 (Value.slice A4 n c4); refine (imCompare_eq (B := w5.heap.size + 1) ?_ ?_ HZ.out).mono ?_; (first | exact a5.more (by omega) | exact ((a5.more hs5).alloc' (Nat.le_refl _) _).more (by omega)); (first | exact z5.more (by omega) | exact zeros_bs' w5 n (by omega)); rintro e w6 ⟨rfl, q6⟩; have hb6 : Below w.heap.size w w6 := below_quiet (by first | exact hb5 | exact hb5.alloc (by omega) _) q6; clear q6)
      | (go_at_call 18; refine (alive_any _).mono ?_; rintro e w' ⟨rfl, rfl⟩))
    all_goals
      go_wp2
      go_ret
      exact ⟨rfl, hb6⟩
  · have H := Lib.hid hxy
    have HZ : Hid (¬ xorL xs ys = List.replicate n 0) := Lib.hid (fun e => hxy (hiff.out.1 e))
    clear hxy hiff
    go_wp2_with fail
    go_region_with (first
      | (go_at_call_of 20 (Value.slice A1 n c1); refine (imCompare_ne (B := w3.heap.size) ?_ ?_ H.out).mono ?_; (first | exact x3.drew' | exact (x3.alloc' (Nat.le_refl _) _).drew'); (first | exact y3.drew' | exact (y3.alloc' (Nat.le_refl _) _).drew'); rintro e w5 ⟨rfl, q5⟩; have a5 : Bs w5 w3.heap.size A4 n c4 (xorL xs ys) := Bs.quiet (by first | exact a3.drew' | exact (a3.alloc' (Nat.le_refl _) _).drew') q5; have hb5 : Below w.heap.size w w5 := below_quiet (by first | exact hb3.drew | exact (hb3.alloc hs3 _).drew) q5; have hs5 : w3.heap.size ≤ w5.heap.size := (by have := quiet_size q5; simp at this; omega); (try have z5 : Bs w5 (w3.heap.size + 1) (some ⟨w3.heap.size, 0, none⟩) n n (List.replicate n 0) := Bs.quiet (show Bs (w3.alloc (.cells (zeroRow n) 5)).drew (w3.heap.size + 1) (some ⟨w3.heap.size, 0, none⟩) n n (List.replicate n 0) from zeros_bs w3 n (by omega)) q5); clear q5)
      | (go_at_call_of 20 (Value.slice A4 n c4); refine (imCompare_ne (B := w5.heap.size + 1) ?_ ?_ HZ.out).mono ?_; (first | exact a5.more (by omega) | exact ((a5.more hs5).alloc' (Nat.le_refl _) _).more (by omega)); (first | exact z5.more (by omega) | exact zeros_bs' w5 n (by omega)); rintro e w6 ⟨rfl, q6⟩; have hb6 : Below w.heap.size w w6 := below_quiet (by first | exact hb5 | exact hb5.alloc (by omega) _) q6; clear q6)
      | (go_at_call 18; refine (alive_any _).mono ?_; rintro e w' ⟨rfl, rfl⟩))
    all_goals
      go_wp2
      go_ret
      exact ⟨rfl, hb6⟩
end
end Go.Proofs.Ytfbngjhpmhiaoaa
