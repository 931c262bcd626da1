/- The contract of the statements' own draw DrawChoice: 0 or 1, and some two numbers of 64 bits; nothing that was there before the call has changed. Condition: the slice of the code reads as bytes. -/
import Derived.Test.YtjbjdpahnnkgmaaNumbers
namespace Go.Proofs.Ytjbjdpahnnkgmaa
open Go.RowKit

theorem choiceTab (k : Nat) (hk : k < 4) : ∃ t : Int, (#[Value.int .i64 9223372036854775807, .int .i64 (-9223372036854775808), .int .i64 (-1), .int .i64 0] : Array Value)[k]? = some (.int .i64 t) ∧ (Lit.int .i64 t).wf = true := by
  rcases (show k = 0 ∨ k = 1 ∨ k = 2 ∨ k = 3 by omega) with rfl | rfl | rfl | rfl
  all_goals exact ⟨_, rfl, by decide⟩

theorem wf_wrap64 (n : Int) : (Lit.int .i64 (wrap64 n)).wf = true := wrap64_wf n
theorem wf_of_i32 (n : Int) (h0 : -2147483648 ≤ n) (h1 : n ≤ 2147483647) : (Lit.int .i64 n).wf = true := WalkArith.wf_i64 (by omega)

set_option maxHeartbeats 2000000 in
/-- DrawChoice: 0 or 1, and some two numbers. -/
theorem dChoice_any {w : World} {A : Option Addr} {len cap : Nat} {zs : List Int} (h : IsRow .u8 w A len cap zs) :
    Calls Try.prog 17 #[.slice A len cap] w fun e w' => ∃ v x y : Int, e = .returned (.tuple #[.int .i64 v, .int .i64 x, .int .i64 y]) ∧ 0 ≤ v ∧ v < 2 ∧ (Lit.int .i64 x).wf = true ∧ (Lit.int .i64 y).wf = true ∧ Below w.heap.size w w' := by
  have hr := rd_new h
  go_enter Try.func17, Try.ntmps17
  go_wp2_with fail
  refine (pick_any _ hr (by omega) (by omega)).mono ?_
  rintro e w1 ⟨v, rfl, v0, v1, h1, g1⟩
  go_wp2_with fail
  refine (number_any h1 (by omega)).mono ?_
  rintro e w2 ⟨x, rfl, x0, x1, q2, hq2, h2, g2⟩
  go_wp2_with fail
  refine (number_any h2 (by omega)).mono ?_
  rintro e w3 ⟨y, rfl, y0, y1, q3, hq3, h3, g3⟩
  go_wp2_with fail
  refine (pick_any _ h3 (by omega) (by omega)).mono ?_
  rintro e w4 ⟨s, rfl, s0, s1, h4, g4⟩
  rcases (show s = 0 ∨ 1 ≤ s by omega) with hs | hs
  · subst hs
    go_wp2_with fail
    refine (pick_any _ h4 (by omega) (by omega)).mono ?_
    rintro e w5 ⟨t, rfl, t0, t1, h5, g5⟩
    rcases (show t = 0 ∨ 1 ≤ t by omega) with ht | ht
    · subst ht
      go_wp2_with fail
      refine (pick_any _ (h5.alloc _) (by omega) (by omega)).mono ?_
      rintro e w6 ⟨u, rfl, u0, u1, h6, g6⟩
      obtain ⟨k, rfl⟩ := Int.eq_ofNat_of_zero_le u0
      obtain ⟨n, hn, wn⟩ := choiceTab k (by omega)
      have hc := (tab_cell g6 h5.lt k).trans hn
      have G := grown_alloc_trans ((((g1.trans g2).trans g3).trans g4).trans g5) g6
      clear hn g1 g2 g3 g4 g5 g6
      go_wp2
      go_ret3
      exact ⟨v, _, n, rfl, v0, v1, wf_wrap64 _, wn, below_draw G⟩
    · have e1 : (t == 0) = false := beq_eq_false_iff_ne.2 (by omega)
      go_wp2
      go_ret3
      exact ⟨v, _, y, rfl, v0, v1, wf_wrap64 _, wf_of_i32 y y0 y1, below_draw ((((g1.trans g2).trans g3).trans g4).trans g5)⟩
  · have e0 : (s == 0) = false := beq_eq_false_iff_ne.2 (by omega)
    go_wp2_with fail
    refine (pick_any _ h4 (by omega) (by omega)).mono ?_
    rintro e w5 ⟨t, rfl, t0, t1, h5, g5⟩
    rcases (show t = 0 ∨ 1 ≤ t by omega) with ht | ht
    · subst ht
      go_wp2_with fail
      refine (pick_any _ (h5.alloc _) (by omega) (by omega)).mono ?_
      rintro e w6 ⟨u, rfl, u0, u1, h6, g6⟩
      obtain ⟨k, rfl⟩ := Int.eq_ofNat_of_zero_le u0
      obtain ⟨n, hn, wn⟩ := choiceTab k (by omega)
      have hc := (tab_cell g6 h5.lt k).trans hn
      have G := grown_alloc_trans ((((g1.trans g2).trans g3).trans g4).trans g5) g6
      clear hn g1 g2 g3 g4 g5 g6
      go_wp2
      go_ret3
      exact ⟨v, x, n, rfl, v0, v1, wf_of_i32 x x0 x1, wn, below_draw G⟩
    · have e1 : (t == 0) = false := beq_eq_false_iff_ne.2 (by omega)
      go_wp2
      go_ret3
      exact ⟨v, x, y, rfl, v0, v1, wf_of_i32 x x0 x1, wf_of_i32 y y0 y1, below_draw ((((g1.trans g2).trans g3).trans g4).trans g5)⟩
end Go.Proofs.Ytjbjdpahnnkgmaa
