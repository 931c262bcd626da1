/- The contracts of the statements' own draws of numbers: (*rd).number, told, DrawBytes, DrawNumbers, DrawTold, DrawChoice: each gives some numbers of its range; nothing that was there before the call has changed. Conditions: the slice of the code reads as bytes; for a method the counter has not passed 900000. -/
import Derived.Test.YtjbjdpahnnkgmaaRds
import Derived.Deep.RegionWith
namespace Go.Proofs.Ytjbjdpahnnkgmaa
open Go.RowKit

theorem numTab (k : Nat) (hk : k < 9) : ∃ t : Int, (#[Value.int .i32 0, .int .i32 1, .int .i32 (-1), .int .i32 2147483647, .int .i32 (-2147483648), .int .i32 65536, .int .i32 (-65536), .int .i32 255, .int .i32 256] : Array Value)[k]? = some (.int .i32 t) ∧ -2147483648 ≤ t ∧ t ≤ 2147483647 := by
  rcases (show k = 0 ∨ k = 1 ∨ k = 2 ∨ k = 3 ∨ k = 4 ∨ k = 5 ∨ k = 6 ∨ k = 7 ∨ k = 8 by omega) with rfl | rfl | rfl | rfl | rfl | rfl | rfl | rfl | rfl
  all_goals exact ⟨_, rfl, by omega, by omega⟩

theorem wrap32_range (n : Int) : -2147483648 ≤ wrap32 n ∧ wrap32 n ≤ 2147483647 := by
  unfold wrap32; omega

set_option maxHeartbeats 1000000 in
/-- (*rd).number: some number of 32 bits. -/
theorem number_any {R len cap p : Nat} {A : Option Addr} {w : World} (h : Rd w R A len cap p) (hp : p ≤ 900000) :
    Calls Try.prog 27 #[.pointer (some ⟨R, 0, none⟩)] w fun e w' => ∃ v : Int, e = .returned (.int .i32 v) ∧ -2147483648 ≤ v ∧ v ≤ 2147483647 ∧ ∃ q, q ≤ p + 10 ∧ Rd w' R A len cap q ∧ w.grownBy w' (some R) := by
  go_enter Try.func27, Try.ntmps27
  go_wp2_with fail
  refine (pick_any _ h (by omega) (by omega)).mono ?_
  rintro e w1 ⟨v, rfl, v0, v1, h1, g1⟩
  rcases (show v = 0 ∨ v = 1 ∨ 2 ≤ v by omega) with hv | hv | hv
  · subst hv
    go_wp2_with fail
    refine (pick_any _ (h1.alloc _) (by omega) (by omega)).mono ?_
    rintro e w2 ⟨v, rfl, v0, v1, h2, g2⟩
    obtain ⟨k, rfl⟩ := Int.eq_ofNat_of_zero_le v0
    have hk : k < 9 := by omega
    obtain ⟨t, ht, t0, t1⟩ := numTab k hk
    have hc := (tab_cell g2 h1.lt k).trans ht
    have G := grown_alloc_trans g1 g2
    clear ht g1 g2
    go_wp2
    go_ret
    exact ⟨t, rfl, t0, t1, p + 2, by omega, h2, G⟩
  · subst hv
    go_wp2_with fail
    refine (pick_any _ h1 (by omega) (by omega)).mono ?_
    rintro e w2 ⟨v, rfl, v0, v1, h2, g2⟩
    go_wp2
    go_ret
    exact ⟨_, rfl, by omega, by omega, p + 2, by omega, h2, g1.trans g2⟩
  · have e0 : (v == 0) = false := beq_eq_false_iff_ne.2 (by omega)
    have e1 : (v == 1) = false := beq_eq_false_iff_ne.2 (by omega)
    go_wp2_with fail
    go_loopw [3, 4] (fun s i wr => ∃ (k : Nat) (u : Int), k ≤ 4 ∧ i = .int .i64 k ∧ s = .int .u32 u ∧ Rd wr R A len cap (p + 1 + k) ∧ w.grownBy wr (some R)) (fun _ i _ => 4 - (intOf i).toNat)
    case atStart => exact ⟨0, 0, by omega, rfl, rfl, h1, g1⟩
    case round =>
      obtain ⟨k, u, hk, rfl, rfl, hr, hgr⟩ := hrel
      by_cases hlt : k < 4
      · go_wp2_with fail
        refine (pick_any _ hr (by omega) (by omega)).mono ?_
        rintro e w2 ⟨v, rfl, v0, v1, h2, g2⟩
        go_wp2
        go_roundw
        case rel => exact ⟨k + 1, _, by omega, by go_num, rfl, h2, hgr.trans g2⟩
        case measure => simp [intOf]; omega
      · go_wp2
        go_ret
        exact ⟨_, rfl, (wrap32_range u).1, (wrap32_range u).2, _, by omega, hr, hgr⟩

/-- told: a number from 0 on and at most 2147483647. -/
theorem told_any (x : Int) (h0 : -2147483648 ≤ x) (h1 : x ≤ 2147483647) (w : World) :
    Calls Try.prog 24 #[.int .i32 x] w fun e w' => ∃ v : Int, e = .returned (.int .i64 v) ∧ 0 ≤ v ∧ v ≤ 2147483647 ∧ w = w' := by
  by_cases h : x < 0
  all_goals
    go_enter Try.func24, Try.ntmps24
    go_wp2
    go_ret
    exact ⟨_, rfl, by omega, by omega, rfl⟩
set_option maxHeartbeats 1000000 in
/-- DrawBytes: some two bytes. -/
theorem dBytes_any {w : World} {A : Option Addr} {len cap : Nat} {zs : List Int} (h : IsRow .u8 w A len cap zs) :
    Calls Try.prog 18 #[.slice A len cap] w fun e w' => ∃ x y : Int, e = .returned (.tuple #[.int .u8 x, .int .u8 y]) ∧ 0 ≤ x ∧ x ≤ 255 ∧ 0 ≤ y ∧ y ≤ 255 ∧ Below w.heap.size w w' := by
  have hr := rd_new h
  go_enter Try.func18, Try.ntmps18
  go_wp2_with fail
  refine (pick_any _ hr (by omega) (by omega)).mono ?_
  rintro e w1 ⟨x, rfl, x0, x1, h1, g1⟩
  go_wp2_with fail
  refine (pick_any _ h1 (by omega) (by omega)).mono ?_
  rintro e w2 ⟨v, rfl, v0, v1, h2, g2⟩
  rcases (show v = 0 ∨ v = 1 ∨ 2 ≤ v by omega) with hv | hv | hv
  · subst hv
    go_wp2
    go_ret2
    exact ⟨x, x, rfl, x0, by omega, x0, by omega, below_draw (g1.trans g2)⟩
  · subst hv
    go_wp2_with fail
    go_region_with (go_at_call 28; refine (pick_any _ h2.drew (by omega) (by omega)).mono ?_; rintro e w3 ⟨y, rfl, y0, y1, h3, g3⟩)
    all_goals
      go_wp2
      go_ret2
      exact ⟨x, _, rfl, x0, by omega, (xor_u8_range _ _).1, (xor_u8_range _ _).2, below_draw ((g1.trans g2).trans ((grown_drew _).trans g3))⟩
  · have e0 : (v == 0) = false := beq_eq_false_iff_ne.2 (by omega)
    have e1 : (v == 1) = false := beq_eq_false_iff_ne.2 (by omega)
    go_wp2_with fail
    refine (pick_any _ h2 (by omega) (by omega)).mono ?_
    rintro e w3 ⟨y, rfl, y0, y1, h3, g3⟩
    go_wp2
    go_ret2
    exact ⟨x, y, rfl, x0, by omega, y0, by omega, below_draw ((g1.trans g2).trans g3)⟩
set_option maxHeartbeats 1000000 in
/-- DrawNumbers: some three numbers of 32 bits. -/
theorem dNumbers_any {w : World} {A : Option Addr} {len cap : Nat} {zs : List Int} (h : IsRow .u8 w A len cap zs) :
    Calls Try.prog 15 #[.slice A len cap] w fun e w' => ∃ x y z : Int, e = .returned (.tuple #[.int .i32 x, .int .i32 y, .int .i32 z]) ∧ -2147483648 ≤ x ∧ x ≤ 2147483647 ∧ -2147483648 ≤ y ∧ y ≤ 2147483647 ∧ -2147483648 ≤ z ∧ z ≤ 2147483647 ∧ Below w.heap.size w w' := by
  have hr := rd_new h
  go_enter Try.func15, Try.ntmps15
  go_wp2_with fail
  refine (number_any hr (by omega)).mono ?_
  rintro e w1 ⟨x, rfl, x0, x1, q1, hq1, h1, g1⟩
  go_wp2_with fail
  refine (number_any h1 (by omega)).mono ?_
  rintro e w2 ⟨y, rfl, y0, y1, q2, hq2, h2, g2⟩
  go_wp2_with fail
  refine (pick_any _ h2 (by omega) (by omega)).mono ?_
  rintro e w3 ⟨v, rfl, v0, v1, h3, g3⟩
  rcases (show v = 0 ∨ v = 1 ∨ 2 ≤ v by omega) with hv | hv | hv
  · subst hv
    go_wp2_with fail
    refine (number_any h3 (by omega)).mono ?_
    rintro e w4 ⟨z, rfl, z0, z1, q4, hq4, h4, g4⟩
    go_wp2
    go_ret3
    exact ⟨x, x, z, rfl, x0, x1, x0, x1, z0, z1, below_draw (((g1.trans g2).trans g3).trans g4)⟩
  · subst hv
    go_wp2_with fail
    refine (pick_any _ h3 (by omega) (by omega)).mono ?_
    rintro e w4 ⟨s, rfl, s0, s1, h4, g4⟩
    go_wp2_with fail
    refine (number_any h4 (by omega)).mono ?_
    rintro e w5 ⟨z, rfl, z0, z1, q5, hq5, h5, g5⟩
    go_wp2
    go_ret3
    exact ⟨x, _, z, rfl, x0, x1, (xor_i32_range _ _).1, (xor_i32_range _ _).2, z0, z1, below_draw ((((g1.trans g2).trans g3).trans g4).trans g5)⟩
  · have e0 : (v == 0) = false := beq_eq_false_iff_ne.2 (by omega)
    have e1 : (v == 1) = false := beq_eq_false_iff_ne.2 (by omega)
    go_wp2_with fail
    refine (number_any h3 (by omega)).mono ?_
    rintro e w4 ⟨z, rfl, z0, z1, q4, hq4, h4, g4⟩
    go_wp2
    go_ret3
    exact ⟨x, y, z, rfl, x0, x1, y0, y1, z0, z1, below_draw (((g1.trans g2).trans g3).trans g4)⟩
/-- DrawTold: some three numbers from 0 on and at most 2147483647. -/
theorem dTold_any {w : World} {A : Option Addr} {len cap : Nat} {zs : List Int} (h : IsRow .u8 w A len cap zs) :
    Calls Try.prog 11 #[.slice A len cap] w fun e w' => ∃ x y z : Int, e = .returned (.tuple #[.int .i64 x, .int .i64 y, .int .i64 z]) ∧ 0 ≤ x ∧ x ≤ 2147483647 ∧ 0 ≤ y ∧ y ≤ 2147483647 ∧ 0 ≤ z ∧ z ≤ 2147483647 ∧ Below w.heap.size w w' := by
  go_enter Try.func11, Try.ntmps11
  go_wp2_with fail
  refine (dNumbers_any h).mono ?_
  rintro e w1 ⟨x, y, z, rfl, x0, x1, y0, y1, z0, z1, hb⟩
  go_wp2_with fail
  refine (told_any x x0 x1 _).mono ?_
  rintro e w1 ⟨a, rfl, a0, a1, rfl⟩
  go_wp2_with fail
  refine (told_any y y0 y1 _).mono ?_
  rintro e w1 ⟨b, rfl, b0, b1, rfl⟩
  go_wp2_with fail
  refine (told_any z z0 z1 _).mono ?_
  rintro e w1 ⟨c, rfl, c0, c1, rfl⟩
  go_wp2
  go_ret3
  exact ⟨a, b, c, rfl, a0, a1, b0, b1, c0, c1, hb⟩
end Go.Proofs.Ytjbjdpahnnkgmaa
