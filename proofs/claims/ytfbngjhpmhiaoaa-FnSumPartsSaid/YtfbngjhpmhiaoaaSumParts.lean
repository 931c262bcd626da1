/- The walk of the law FnSumParts over XorBytes: it returns true, and nothing that was there before the call has changed. Condition: the list from which is drawn reads as bytes. -/
import Derived.Test.YtfbngjhpmhiaoaaSumEqual
namespace Go.Proofs.Ytfbngjhpmhiaoaa
open Go.RowKit

theorem Bs.zero (w : World) (B : Nat) (A : Option Addr) (c : Nat) (ht : c ≤ maxLen) (hn : A = none → c = 0) : Bs w B A 0 c [] := ⟨rfl, Nat.zero_le _, ht, by simp, hn, fun h => absurd h (by omega)⟩

section
variable {w : World} {A : Option Addr} {len cap : Nat} {zs : List Int}
set_option maxHeartbeats 8000000 in
theorem sumParts (h : IsRow .u8 w A len cap zs) : Calls Try.prog 13 #[.slice A len cap] w fun e w' => e = .returned (.bool true) ∧ Below w.heap.size w w' := by
  go_enter Try.func13, Try.ntmps13
  go_wp2_with fail
  refine (dEven_any h).mono ?_
  rintro e w1 ⟨A1, c1, xs, A2, c2, ys, A3, c3, zs, n, rfl, hO1, hO2, hO3, hn, hb1⟩
  have x1 := hO1.bs; have y1 := hO2.bs
  have hs1 := hb1.size
  obtain ⟨k, hk⟩ : ∃ k, k = n / 2 := ⟨_, rfl⟩
  have hparts := Lib.hid (xorL_parts xs ys k)
  have hmk := run_mk n (by omega)
  have z2 := (zeros_own w1 n (by omega) (Nat.le_refl _)).bs
  have b2 : Below w1.heap.size w1 (w1.alloc (.cells (zeroRow n) 5)) := (Below.refl _ _).alloc (Nat.le_refl _) _
  have x2 := (x1.below b2).more b2.size; have y2 := (y1.below b2).more b2.size; have hb2 := hb1.trans (b2.mono hs1); have hs2 := hb2.size
  rcases Nat.eq_zero_or_pos n with hz | hz
  · subst hz
    have k0 : k = 0 := by omega
    subst k0
    have hmk0 : ∀ w : World, (Instr.makeSlice 22 (.int .i64 0) (.int .i64 0)).run Try.prog w = .ok (.slice (some ⟨w.heap.size, 0, none⟩) 0 0) (w.alloc (.cells (zeroRow 0) 5)) := fun w => run_mk 0 (by omega) w
    clear h hO1 hO2 hO3 hk x1 y1 b2 hb1
    go_wp2_with fail
    refine (imXor_even z2 x2 y2 (Nat.le_refl _) (by omega)).mono ?_
    rintro e w3 ⟨A4, c4, rfl, hO4, b3⟩
    have x3 := (x2.below b3).more b3.size; have y3 := (y2.below b3).more b3.size; have a3 := hO4.bs; have hb3 := hb2.trans (b3.mono hs2); have hs3 := hb3.size
    clear x2 y2 z2 hb2 b3 hO4 hs2 hmk
    have t1 := x3.top; have t2 := y3.top; have n1 := x3.nil; have n2 := y3.nil
    have hz0 : Hid (xorL xs ys = xorL [] [] ++ xorL [] []) := Lib.hid (by rw [List.eq_nil_of_length_eq_zero x3.len]; rfl)
    clear x3 y3 hparts
    go_wp2_with fail
    by_cases d1 : c1 = 0 <;> by_cases d2 : c2 = 0
    all_goals
      go_region_with (go_at_call 16; refine (imXor_even (B := w3.heap.size + 1) (zeros_bs w3 0 (by omega)) (Bs.zero _ _ _ _ (by first | exact Nat.zero_le _ | exact t1 | exact t2 | (first | (have := t1; omega) | (have := t2; omega))) (by intro hh; first | rfl | exact n1 hh | exact n2 hh | (simp at hh; done) | (simp at hh; first | exact n1 hh | exact n2 hh))) (Bs.zero _ _ _ _ (by first | exact Nat.zero_le _ | exact t1 | exact t2 | (first | (have := t1; omega) | (have := t2; omega))) (by intro hh; first | rfl | exact n1 hh | exact n2 hh | (simp at hh; done) | (simp at hh; first | exact n1 hh | exact n2 hh))) (by simp) (by omega)).mono ?_; rintro e w4 ⟨A5, c5, rfl, hO5, b4⟩; have b4' : Below w3.heap.size w3 w4 := (((Below.refl _ _).alloc (Nat.le_refl _) _).drew).trans (b4.mono (by simp)); have a4 := (a3.below b4').more b4'.size; have hb4 := hb3.trans (b4'.mono hs3); have hs4 := hb4.size; have o4 := hO5.bs; clear hO5 b4 b4')
      clear a3 hb3
      have ew0 : IntKind.i64.wrap 0 = 0 := by rw [IntKind.wrap_i64]; rfl
      go_wp2_with fail
      go_region_with (go_at_call 16; refine (imXor_even (B := w4.heap.size + 1) (zeros_bs w4 0 (by omega)) (Bs.zero _ _ _ _ (by first | exact Nat.zero_le _ | exact t1 | exact t2 | (first | (have := t1; omega) | (have := t2; omega))) (by intro hh; first | rfl | exact n1 hh | exact n2 hh | (simp at hh; done) | (simp at hh; first | exact n1 hh | exact n2 hh))) (Bs.zero _ _ _ _ (by first | exact Nat.zero_le _ | exact t1 | exact t2 | (first | (have := t1; omega) | (have := t2; omega))) (by intro hh; first | rfl | exact n1 hh | exact n2 hh | (simp at hh; done) | (simp at hh; first | exact n1 hh | exact n2 hh))) (by simp) (by omega)).mono ?_; rintro e w5 ⟨A6, c6, rfl, hO6, b5⟩; have b5' : Below w4.heap.size w4 w5 := (((Below.refl _ _).alloc (Nat.le_refl _) _).drew).trans (b5.mono (by simp)); have a5 := (a4.below b5').more b5'.size; have o5 := (o4.below b5').more b5'.size; have hb5 := hb4.trans (b5'.mono hs4); have hs5 := hb5.size; have r5 := hO6.bs; clear hO6 b5 b5')
      clear a4 o4 hb4
      go_wp2_with (first
        | (at_builtin; refine wpList_clone rfl (.tmp 76) (.tmp 77) rfl rfl rfl o5 (Nat.le_refl _) (by omega) ?_; intro A7 c7 w6 hO7 b6; have a6 := a5.below b6; have r6 := r5.below b6; have hb6 := hb5.trans (b6.mono hs5); have hs6 := b6.size; clear a5 r5 hb5 o5 b6)
        | (at_builtin; refine wpList_appAll rfl (.tmp 78) (.tmp 79) rfl rfl hO7 rfl r6 (by omega) hs6 ?_; intro A8 c8 w7 hO8 g7; have a7 := a6.grown g7 hs6 (fun g hg => (hO7.lt g hg).1); have hb7 := hb6.grown g7 hb6.size (fun g hg => Nat.le_trans hs5 (hO7.lt g hg).1); have hs7 := g7.size; clear a6 r6 hb6 hO7 g7))
      refine (same_eq (a7.more (by omega)) hO8.bs hz0.out).mono ?_
      rintro e w8 ⟨rfl, q8⟩
      have hb8 := below_quiet hb7 q8
      clear a7 hO8 q8 hb7
      go_wp2_with fail
      refine (alive_any _).mono ?_
      rintro e w9 ⟨rfl, rfl⟩
      go_wp2
      go_ret
      exact ⟨rfl, hb8⟩
  · obtain ⟨g1, rfl, -⟩ := hO1.at_ hz
    obtain ⟨g2, rfl, -⟩ := hO2.at_ hz
    have p1 := x1.cap; have p2 := y1.cap
    have ek : (n : Int) / 2 = (k : Int) := by omega
    have k1 : (k : Int) ≤ c1 := by omega
    have k2 : (k : Int) ≤ c2 := by omega
    have k3 : (k : Int) ≤ n := by omega
    have k4 : k < n := by omega
    have k5 : ¬ c1 = k := by omega
    have k6 : ¬ c2 = k := by omega
    clear h hO1 hO2 hO3 hk x1 y1 b2 hb1
    go_wp2_with fail
    refine (imXor_even z2 x2 y2 (Nat.le_refl _) (by omega)).mono ?_
    rintro e w3 ⟨A4, c4, rfl, hO4, b3⟩
    have x3 := (x2.below b3).more b3.size; have y3 := (y2.below b3).more b3.size; have a3 := hO4.bs; have hb3 := hb2.trans (b3.mono hs2); have hs3 := hb3.size
    clear x2 y2 z2 hb2 b3 hO4 hs2 hmk
    have xf := x3.front (k := k) (by omega); have yf := y3.front (k := k) (by omega)
    have xb := x3.back (k := k) (by omega); have yb := y3.back (k := k) (by omega)
    rw [Nat.zero_add] at xb yb
    have hmk := run_mk k (by omega)
    go_wp2_with fail
    go_region_with (go_at_call 16; refine (imXor_even (B := w3.heap.size + 1) (zeros_bs w3 k (by omega)) ((xf.alloc' (Nat.le_refl _) _).drew'.more (by omega)) ((yf.alloc' (Nat.le_refl _) _).drew'.more (by omega)) (by simp) (by omega)).mono ?_; rintro e w4 ⟨A5, c5, rfl, hO5, b4⟩; have b4' : Below w3.heap.size w3 w4 := (((Below.refl _ _).alloc (Nat.le_refl _) _).drew).trans (b4.mono (by simp)); have a4 := (a3.below b4').more b4'.size; have xb4 := (xb.below b4').more b4'.size; have yb4 := (yb.below b4').more b4'.size; have hb4 := hb3.trans (b4'.mono hs3); have hs4 := hb4.size; have o4 := hO5.bs; clear hO5 b4 b4')
    clear hmk xf yf xb yb x3 y3 a3 hb3
    have ew : IntKind.i64.wrap ((n - k : Nat) : Int) = ((n - k : Nat) : Int) := by rw [IntKind.wrap_i64]; omega
    have ew2 : (n : Int) - (k : Int) = ((n - k : Nat) : Int) := by omega
    have hmk := run_mk (n - k) (by omega)
    go_wp2_with fail
    go_region_with (go_at_call 16; refine (imXor_even (B := w4.heap.size + 1) (zeros_bs w4 (n - k) (by omega)) ((xb4.alloc' (Nat.le_refl _) _).drew'.more (by omega)) ((yb4.alloc' (Nat.le_refl _) _).drew'.more (by omega)) (by simp) (by omega)).mono ?_; rintro e w5 ⟨A6, c6, rfl, hO6, b5⟩; have b5' : Below w4.heap.size w4 w5 := (((Below.refl _ _).alloc (Nat.le_refl _) _).drew).trans (b5.mono (by simp)); have a5 := (a4.below b5').more b5'.size; have o5 := (o4.below b5').more b5'.size; have hb5 := hb4.trans (b5'.mono hs4); have hs5 := hb5.size; have r5 := hO6.bs; clear hO6 b5 b5')
    clear hmk xb4 yb4 a4 o4 hb4 ew ew2
    go_wp2_with (first
      | (at_builtin; refine wpList_clone rfl (.tmp 76) (.tmp 77) rfl rfl rfl o5 (Nat.le_refl _) (by omega) ?_; intro A7 c7 w6 hO7 b6; have a6 := a5.below b6; have r6 := r5.below b6; have hb6 := hb5.trans (b6.mono hs5); have hs6 := b6.size; clear a5 r5 hb5 o5 b6)
      | (at_builtin; refine wpList_appAll rfl (.tmp 78) (.tmp 79) rfl rfl hO7 rfl r6 (by omega) hs6 ?_; intro A8 c8 w7 hO8 g7; have a7 := a6.grown g7 hs6 (fun g hg => (hO7.lt g hg).1); have hb7 := hb6.grown g7 hb6.size (fun g hg => Nat.le_trans hs5 (hO7.lt g hg).1); have hs7 := g7.size; clear a6 r6 hb6 hO7 g7))
    refine (same_eq (a7.more (by omega)) hO8.bs hparts.out.symm).mono ?_
    rintro e w8 ⟨rfl, q8⟩
    have hb8 := below_quiet hb7 q8
    clear a7 hO8 q8 hb7
    go_wp2_with fail
    refine (alive_any _).mono ?_
    rintro e w9 ⟨rfl, rfl⟩
    go_wp2
    go_ret
    exact ⟨rfl, hb8⟩
end
end Go.Proofs.Ytfbngjhpmhiaoaa
