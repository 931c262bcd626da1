/- The contracts of the statements' own draws of lists: (*rd).list, (*rd).beside, DrawLists, DrawEven: each gives lists of bytes in new memory, of at most 101 bytes; what they hold is left open; nothing that was there before the call has changed. Conditions: the slice of the code reads as bytes; for a method the counter has not passed 800000. -/
import Derived.Test.YtfbngjhpmhiaoaaBytes
import Derived.Deep.RegionWith
namespace Go.Proofs.Ytfbngjhpmhiaoaa
open Go.RowKit

theorem listTab (k : Nat) (hk : k < 14) : ∃ t : Nat, (#[Value.int .i64 0, .int .i64 1, .int .i64 2, .int .i64 3, .int .i64 7, .int .i64 8, .int .i64 9, .int .i64 15, .int .i64 16, .int .i64 17, .int .i64 31, .int .i64 33, .int .i64 64, .int .i64 100] : Array Value)[k]? = some (.int .i64 (t : Int)) ∧ t ≤ 100 := by
  rcases (show k = 0 ∨ k = 1 ∨ k = 2 ∨ k = 3 ∨ k = 4 ∨ k = 5 ∨ k = 6 ∨ k = 7 ∨ k = 8 ∨ k = 9 ∨ k = 10 ∨ k = 11 ∨ k = 12 ∨ k = 13 by omega) with rfl | rfl | rfl | rfl | rfl | rfl | rfl | rfl | rfl | rfl | rfl | rfl | rfl | rfl
  · exact ⟨0, rfl, by omega⟩
  · exact ⟨1, rfl, by omega⟩
  · exact ⟨2, rfl, by omega⟩
  · exact ⟨3, rfl, by omega⟩
  · exact ⟨7, rfl, by omega⟩
  · exact ⟨8, rfl, by omega⟩
  · exact ⟨9, rfl, by omega⟩
  · exact ⟨15, rfl, by omega⟩
  · exact ⟨16, rfl, by omega⟩
  · exact ⟨17, rfl, by omega⟩
  · exact ⟨31, rfl, by omega⟩
  · exact ⟨33, rfl, by omega⟩
  · exact ⟨64, rfl, by omega⟩
  · exact ⟨100, rfl, by omega⟩

theorem byteTab (k : Nat) (hk : k < 6) : ∃ t : Int, (#[Value.int .u8 0, .int .u8 1, .int .u8 127, .int .u8 128, .int .u8 254, .int .u8 255] : Array Value)[k]? = some (.int .u8 t) ∧ 0 ≤ t ∧ t ≤ 255 := by
  rcases (show k = 0 ∨ k = 1 ∨ k = 2 ∨ k = 3 ∨ k = 4 ∨ k = 5 by omega) with rfl | rfl | rfl | rfl | rfl | rfl
  all_goals exact ⟨_, rfl, by omega, by omega⟩

set_option maxHeartbeats 2000000 in
/-- (*rd).list: some list of at most 100 bytes, in new memory. -/
theorem list_any {R len cap p : Nat} {A : Option Addr} {w : World} (h : Rd w R A len cap p) (hp : p ≤ 900000) :
    Calls Try.prog 22 #[.pointer (some ⟨R, 0, none⟩)] w fun e w' => ∃ A' n c xs q, e = .returned (.slice A' n c) ∧ Own w' w.heap.size A' n c xs ∧ n ≤ 100 ∧ q ≤ p + 102 ∧ Rd w' R A len cap q ∧ w.grownBy w' (some R) := by
  have hRlt := h.lt
  go_enter Try.func22, Try.ntmps22
  go_wp2_with fail
  refine (pick_any _ (h.alloc _) (by omega) (by omega)).mono ?_
  rintro e w1 ⟨v, rfl, v0, v1, h1, g1⟩
  obtain ⟨k, rfl⟩ := Int.eq_ofNat_of_zero_le v0
  obtain ⟨n, ht, hn⟩ := listTab k (by omega)
  have hc := (tab_cell g1 h.lt k).trans ht
  have G1 := grown_alloc_trans (World.grownBy.refl w (some R)) g1
  clear ht g1
  go_wp2_with fail
  refine (pick_any _ (h1.alloc _) (by omega) (by omega)).mono ?_
  rintro e w2 ⟨kind, rfl, k0, k1, h2, g2⟩
  have hsz1 := G1.size
  have hO : Own w2 w.heap.size (some ⟨w1.heap.size, 0, none⟩) 0 0 [] := (Own.made w1 hsz1).keep g2 (fun g hg e => by simp [blockOf] at hg; injection e with e; omega)
  have G2 := grown_alloc_trans G1 g2
  clear hc g2 G1 h1 hsz1
  go_wp2_with fail
  go_loopw [4, 6] (fun v i wr => ∃ (j c : Nat) (A' : Option Addr) (xs : List Int), j ≤ n ∧ i = .int .i64 j ∧ v = .slice A' j c ∧ Own wr w.heap.size A' j c xs ∧ Rd wr R A len cap (p + 2 + j) ∧ w.grownBy wr (some R)) (fun _ i _ => n - (intOf i).toNat)
  case atStart => exact ⟨0, 0, _, [], by omega, rfl, rfl, hO, h2, G2⟩
  case round =>
    obtain ⟨j, c, A', xs, hj, rfl, rfl, hown, hr, hgr⟩ := hrel
    have hsz := hgr.size
    by_cases hlt : j < n
    · rcases (show kind = 0 ∨ kind = 1 ∨ 2 ≤ kind by omega) with hk | hk | hk
      · have e0 : (kind == 0) = true := beq_iff_eq.2 hk
        clear hk
        go_wp2_with fail
        refine (pick_any _ hr (by omega) (by omega)).mono ?_
        rintro e w3 ⟨y, rfl, y0, y1, h3, g3⟩
        have hO3 := hown.keep g3 (fun g hg e => by have := (hown.lt g hg).1; injection e with e; omega)
        have G3 := hgr.trans g3
        have hs3 := G3.size
        clear g3
        go_wp2_with (at_builtin; refine wpList_app1 rfl _ _ rfl rfl hO3 y y0 (by omega) rfl (by omega) hs3 ?_; intro A2 c2 w4 hO4 g4)
        have hr4 := h3.keep g4 (fun g hg => by have := (hO3.lt g hg).1; omega)
        have G4 := grown_own G3 g4 (fun g hg => (hO3.lt g hg).1)
        go_roundw
        case rel => exact ⟨j + 1, c2, A2, xs ++ [y], by omega, by go_num, rfl, hO4, hr4, G4⟩
        case measure => simp [intOf]; omega
      · have e0 : (kind == 0) = false := beq_eq_false_iff_ne.2 (by omega)
        have e1 : (kind == 1) = true := beq_iff_eq.2 hk
        clear hk
        go_wp2_with fail
        refine (pick_any _ hr (by omega) (by omega)).mono ?_
        rintro e w3 ⟨y, rfl, y0, y1, h3, g3⟩
        have hO3 := hown.keep g3 (fun g hg e => by have := (hown.lt g hg).1; injection e with e; omega)
        have G3 := hgr.trans g3
        have hs3 := G3.size
        clear g3
        go_wp2_with (at_builtin; refine wpList_app1 rfl _ _ rfl rfl hO3 y y0 (by omega) rfl (by omega) hs3 ?_; intro A2 c2 w4 hO4 g4)
        have hr4 := h3.keep g4 (fun g hg => by have := (hO3.lt g hg).1; omega)
        have G4 := grown_own G3 g4 (fun g hg => (hO3.lt g hg).1)
        go_roundw
        case rel => exact ⟨j + 1, c2, A2, xs ++ [y], by omega, by go_num, rfl, hO4, hr4, G4⟩
        case measure => simp [intOf]; omega
      · have e0 : (kind == 0) = false := beq_eq_false_iff_ne.2 (by omega)
        have e1 : (kind == 1) = false := beq_eq_false_iff_ne.2 (by omega)
        go_wp2_with fail
        refine (pick_any _ (hr.alloc _) (by omega) (by omega)).mono ?_
        rintro e w3 ⟨u, rfl, u0, u1, h3, g3⟩
        obtain ⟨m, rfl⟩ := Int.eq_ofNat_of_zero_le u0
        obtain ⟨y, ht, y0, y1⟩ := byteTab m (by omega)
        have hc := (tab_cell g3 hr.lt m).trans ht
        have hO3 := (hown.alloc _).keep g3 (fun g hg e => by have := (hown.lt g hg).1; injection e with e; omega)
        have G3 := grown_alloc_trans hgr g3
        have hs3 := G3.size
        clear g3 ht
        go_wp2_with (at_builtin; refine wpList_app1 rfl _ _ rfl rfl hO3 y y0 (by omega) rfl (by omega) hs3 ?_; intro A2 c2 w4 hO4 g4)
        have hr4 := h3.keep g4 (fun g hg => by have := (hO3.lt g hg).1; omega)
        have G4 := grown_own G3 g4 (fun g hg => (hO3.lt g hg).1)
        go_roundw
        case rel => exact ⟨j + 1, c2, A2, xs ++ [y], by omega, by go_num, rfl, hO4, hr4, G4⟩
        case measure => simp [intOf]; omega
    · go_wp2
      go_ret
      exact ⟨A', j, c, xs, _, rfl, hown, by omega, by omega, hr, hgr⟩
theorem spotTab (k n : Nat) (v : Int) (hk : k < 3) (hn : 0 < n) (v0 : 0 ≤ v) (v1 : v < n) : ∃ t : Int, (#[Value.int .i64 0, .int .i64 ((n : Int) - 1), .int .i64 v] : Array Value)[k]? = some (.int .i64 t) ∧ 0 ≤ t ∧ t < n := by
  rcases (show k = 0 ∨ k = 1 ∨ k = 2 by omega) with rfl | rfl | rfl
  all_goals exact ⟨_, rfl, by omega, by omega⟩

set_option maxHeartbeats 2000000 in
/-- (*rd).beside: some list of bytes, in new memory, at most one byte longer than the given one, or of at most 100 bytes. -/
theorem beside_any {R len cap p n1 c1 : Nat} {A A1 : Option Addr} {xs : List Int} {w : World} (h : Rd w R A len cap p) (hp : p ≤ 800000) (hx : Bs w w.heap.size A1 n1 c1 xs) (hn1 : n1 ≤ 1000) :
    Calls Try.prog 23 #[.pointer (some ⟨R, 0, none⟩), .slice A1 n1 c1] w fun e w' => ∃ A' n c ys q, e = .returned (.slice A' n c) ∧ Own w' w.heap.size A' n c ys ∧ (n ≤ n1 + 1 ∨ n ≤ 100) ∧ q ≤ p + 110 ∧ Rd w' R A len cap q ∧ w.grownBy w' (some R) := by
  have hRlt := h.lt
  go_enter Try.func23, Try.ntmps23
  go_wp2_with (at_builtin; refine wpList_clone rfl _ _ rfl rfl rfl hx (Nat.le_refl _) (by omega) ?_; intro A2 c2 w1 hO1 b1)
  have G1 := grown_of_below b1 (some R)
  have h1 := h.keep (grown_of_below b1 none) (by simp)
  clear b1 hx h
  refine (pick_any _ h1 (by omega) (by omega)).mono ?_
  rintro e w2 ⟨v, rfl, v0, v1, h2, g2⟩
  have hO2 := hO1.keep g2 (fun g hg e => by have := (hO1.lt g hg).1; injection e with e; omega)
  have G2 := G1.trans g2
  have hs2 := G2.size
  clear g2 G1 h1 hO1
  rcases (show v = 0 ∨ v = 1 ∨ v = 2 ∨ v = 3 ∨ v = 4 ∨ v = 5 by omega) with rfl | rfl | rfl | rfl | rfl | rfl
  · go_wp2
    go_ret
    exact ⟨A2, n1, c2, xs, _, rfl, hO2, by omega, by omega, h2, G2⟩
  · go_wp2
    go_ret
    exact ⟨A2, n1, c2, xs, _, rfl, hO2, by omega, by omega, h2, G2⟩
  · rcases Nat.eq_zero_or_pos n1 with hz | hz
    · subst hz
      go_wp2
      go_ret
      exact ⟨A2, 0, c2, xs, _, rfl, hO2, by omega, by omega, h2, G2⟩
    · go_wp2_with fail
      refine (pick_any _ h2 (by omega) (by omega)).mono ?_
      rintro e w3 ⟨u, rfl, u0, u1, h3, g3⟩
      have hO3 := hO2.keep g3 (fun g hg e => by have := (hO2.lt g hg).1; injection e with e; omega)
      have G3 := G2.trans g3
      clear g3 G2 h2 hO2 hs2
      have hs3 := G3.size
      go_wp2_with fail
      refine (pick_any _ (h3.alloc _) (by omega) (by omega)).mono ?_
      rintro e w4 ⟨k, rfl, k0, k1, h4, g4⟩
      obtain ⟨k, rfl⟩ := Int.eq_ofNat_of_zero_le k0
      obtain ⟨t, ht, t0, t1⟩ := spotTab k n1 u (by omega) hz u0 u1
      have hc := (tab_cell g4 h3.lt k).trans ht
      have hO4 := (hO3.alloc _).keep g4 (fun g hg e => by have := (hO3.lt g hg).1; injection e with e; omega)
      have G4 := grown_alloc_trans G3 g4
      have hs4 := G4.size
      clear g4 G3 h3 hO3 ht hs3
      obtain ⟨i, rfl⟩ := Int.eq_ofNat_of_zero_le t0
      have hi : i < n1 := by omega
      obtain ⟨g, rfl, hg0, hg1, hcell, hfree, x0, x1⟩ := hO4.at_ hi
      generalize xs.getD i 0 = x at hcell x0 x1
      have hgR : ¬ g = R := by omega
      go_wp2_with fail
      go_region_with (go_at_call 29; refine (pick_any _ h4.drew (by omega) (by omega)).mono ?_; rintro e w5 ⟨y, rfl, y0, y1, h5, g5⟩; have hc5 : w5.cell? ⟨g, i, none⟩ = some (.int .u8 x) := g5.cell hcell (fun e => hgR (by injection e)); have hf5 : w5.frozen? ⟨g, i, none⟩ = false := (World.frozen?_of_block (g5.block g hg1 (fun e => hgR (by injection e)))).trans hfree)
      all_goals
        have hO5 := (hO4.drew.keep g5 (fun q hq e => by simp [blockOf] at hq; injection e with e; omega)).store i (bits .xor .u8 x (IntKind.u8.wrap (2 ^ y.toNat))) (xor_u8_range _ _).1 (xor_u8_range _ _).2
        have G5 := G4.trans ((grown_drew _).trans g5)
        have G6 := grown_own G5 (grown_set w5 g i (.int .u8 (bits .xor .u8 x (IntKind.u8.wrap (2 ^ y.toNat))))) (fun q hq => by injection hq with hq; omega)
        have h6 := h5.keep (grown_set w5 g i (.int .u8 (bits .xor .u8 x (IntKind.u8.wrap (2 ^ y.toNat))))) (fun q hq => by injection hq with hq; omega)
        clear hc5 hf5 hc hcell hfree
        go_wp2
        go_ret
        exact ⟨_, n1, c2, _, _, rfl, hO5, by omega, by omega, h6, G6⟩
  · go_wp2_with fail
    refine (pick_any _ h2 (by omega) (by omega)).mono ?_
    rintro e w3 ⟨y, rfl, y0, y1, h3, g3⟩
    have hO3 := hO2.keep g3 (fun g hg e => by have := (hO2.lt g hg).1; injection e with e; omega)
    have G3 := G2.trans g3
    have hs3 := G3.size
    clear g3 G2 h2 hO2 hs2
    go_wp2_with (at_builtin; refine wpList_app1 rfl _ _ rfl rfl hO3 y y0 (by omega) rfl (by omega) hs3 ?_; intro A4 c4 w4 hO4 g4)
    have hr4 := h3.keep g4 (fun g hg => by have := (hO3.lt g hg).1; omega)
    have G4 := grown_own G3 g4 (fun g hg => (hO3.lt g hg).1)
    go_wp2
    go_ret
    exact ⟨A4, n1 + 1, c4, _, _, rfl, hO4, by omega, by omega, hr4, G4⟩
  · have hcap := hO2.bs.cap
    go_wp2
    go_ret
    exact ⟨A2, n1 / 2, c2, xs.take (n1 / 2), _, rfl, hO2.front (k := n1 / 2) (by omega), .inl (by omega), by omega, h2, G2⟩
  · go_wp2_with fail
    refine (list_any h2 (by omega)).mono ?_
    rintro e w3 ⟨A3, n3, c3, ys, q, rfl, hO3, hn3, hq, h3, g3⟩
    go_wp2
    go_ret
    exact ⟨A3, n3, c3, ys, q, rfl, hO3.less hs2, by omega, by omega, h3, G2.trans g3⟩

set_option maxHeartbeats 1000000 in
/-- DrawLists: some three lists of bytes, in new memory. -/
theorem dLists_any {w : World} {A : Option Addr} {len cap : Nat} {zs : List Int} (h : IsRow .u8 w A len cap zs) :
    Calls Try.prog 14 #[.slice A len cap] w fun e w' => ∃ A1 n1 c1 xs A2 n2 c2 ys A3 n3 c3 zs, e = .returned (.tuple #[.slice A1 n1 c1, .slice A2 n2 c2, .slice A3 n3 c3]) ∧
      Own w' w.heap.size A1 n1 c1 xs ∧ Own w' w.heap.size A2 n2 c2 ys ∧ Own w' w.heap.size A3 n3 c3 zs ∧ n1 ≤ 200 ∧ n2 ≤ 200 ∧ n3 ≤ 200 ∧ Below w.heap.size w w' := by
  have hr := rd_new h
  go_enter Try.func14, Try.ntmps14
  go_wp2_with fail
  refine (list_any hr (by omega)).mono ?_
  rintro e w1 ⟨A1, n1, c1, xs, q1, rfl, hO1, hn1, hq1, h1, g1⟩
  have hs1 := g1.size
  simp at hs1
  go_wp2_with fail
  refine (beside_any h1 (by omega) hO1.bs (by omega)).mono ?_
  rintro e w2 ⟨A2, n2, c2, ys, q2, rfl, hO2, hn2, hq2, h2, g2⟩
  have hs2 := g2.size
  have hO1' := hO1.keep g2 (fun g hg e => by have := (hO1.lt g hg).1; simp at this; injection e with e; omega)
  clear hO1
  go_wp2_with fail
  refine (beside_any h2 (by omega) hO2.bs (by omega)).mono ?_
  rintro e w3 ⟨A3, n3, c3, zs, q3, rfl, hO3, hn3, hq3, h3, g3⟩
  have hO1 := hO1'.keep g3 (fun g hg e => by have := (hO1'.lt g hg).1; simp at this; injection e with e; omega)
  have hO2' := hO2.keep g3 (fun g hg e => by have := (hO2.lt g hg).1; injection e with e; omega)
  have hb := below_draw ((g1.trans g2).trans g3)
  clear hO1' hO2 g1 g2 g3 h1 h2 h3
  go_wp2
  go_ret3
  exact ⟨A1, n1, c1, xs, A2, n2, c2, ys, A3, n3, c3, zs, rfl, hO1.less (by simp), hO2'.less (by omega), hO3.less (by omega), by omega, by omega, by omega, hb⟩
end Go.Proofs.Ytfbngjhpmhiaoaa
