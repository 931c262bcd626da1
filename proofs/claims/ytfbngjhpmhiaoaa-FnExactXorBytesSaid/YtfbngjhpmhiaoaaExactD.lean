/- The walks of the exact laws over XorBytes and XorInto: each returns true, and nothing that was there before the call has changed. Conditions: the lists read as bytes; the one written to is of at most 140737488351232 bytes. -/
import Derived.Test.YtfbngjhpmhiaoaaXorSpec
namespace Go.Proofs.Ytfbngjhpmhiaoaa
open Go.RowKit

section
variable {w : World} {B nd c0 nx cx ny cy : Nat} {A0 A1 A2 : Option Addr} {ds xs ys : List Int}
set_option maxHeartbeats 4000000 in
/-- The reference's XORBytes where the copy is too short, m being the lesser length. -/
theorem spXORBytes_panic (m : Nat) (hm : (m = nx ∧ nx ≤ ny) ∨ (m = ny ∧ ny < nx)) (hd : Bs w B A0 nd c0 ds) (hB : B ≤ w.heap.size) (hn : nd < m) (h31 : nd ≤ 140737488351232) :
    Calls Try.prog 21 #[.slice A0 nd c0, .slice A1 nx cx, .slice A2 ny cy] w fun e w' => ∃ A' c', e = .returned (.tuple #[.int .i64 0, .slice A' nd c', .bool true]) ∧ Own w' w.heap.size A' nd c' ds ∧ Below w.heap.size w w' := by
  rcases hm with ⟨rfl, hle⟩ | ⟨rfl, hle⟩
  all_goals
    go_enter Try.func21, Try.ntmps21
    go_wp2_with (at_builtin; refine wpList_clone rfl _ _ rfl rfl rfl hd hB h31 ?_; intro A' c' w1 hO1 b1)
    go_ret3
    exact ⟨A', c', rfl, hO1, b1⟩
end

section
variable {w : World} {A0 A1 A2 : Option Addr} {n0 c0 n1 c1 n2 c2 : Nat} {z0 z1 z2 : List Int}
set_option maxHeartbeats 4000000 in
theorem exactXorInto (h1 : IsRow .u8 w A1 n1 c1 z1) (h2 : IsRow .u8 w A2 n2 c2 z2) (h31 : c1 ≤ 140737488351232) :
    Calls Try.prog 5 #[.slice A1 n1 c1, .slice A2 n2 c2] w fun e w' => e = .returned (.bool true) ∧ Below w.heap.size w w' := by
  have x1 := Bs.of_row h1; have y1 := Bs.of_row h2
  have hc := x1.cap
  have hn : n1 ≤ 140737488351232 := by omega
  clear h1 h2 hc h31
  generalize z1.take n1 = xs at x1
  generalize z2.take n2 = ys at y1
  obtain ⟨m, hm⟩ : ∃ m, m = min n1 n2 := ⟨_, rfl⟩
  have hm' : Hid ((m = n1 ∧ n1 ≤ n2) ∨ (m = n2 ∧ n2 < n1)) := Lib.hid (by omega)
  have hmn : m ≤ n1 := by omega
  go_enter Try.func5, Try.ntmps5
  go_wp2_with fail
  refine (imInto_any x1 y1 (Nat.le_refl _) hn).mono ?_
  rintro e w2 ⟨A', c', rfl, hO, b2⟩
  rw [← hm]
  have x2 := x1.below b2; have y2 := y1.below b2; have hs2 := b2.size
  clear x1 y1 hm
  go_wp2_with fail
  refine (spXORBytes_core m hm'.out x2 x2 y2 hs2 hmn hn).mono ?_
  rintro e w3 ⟨A3, c3, rfl, hO3, b3⟩
  have a3 := hO.bs.below b3; have hb3 := b2.trans (b3.mono hs2); have o3 := hO3.bs; have hs3 := b3.size
  clear x2 y2 hO hO3
  go_wp2_with fail
  refine (same_eq (a3.more b3.size) o3 rfl).mono ?_
  rintro e w4 ⟨rfl, q4⟩
  have hb4 := below_quiet hb3 q4
  clear a3 o3 hb3 q4
  go_wp2
  go_ret
  exact ⟨rfl, hb4⟩

set_option maxHeartbeats 4000000 in
theorem exactXorBytes (h0 : IsRow .u8 w A0 n0 c0 z0) (h1 : IsRow .u8 w A1 n1 c1 z1) (h2 : IsRow .u8 w A2 n2 c2 z2) (h31 : c0 ≤ 140737488351232) :
    Calls Try.prog 6 #[.slice A0 n0 c0, .slice A1 n1 c1, .slice A2 n2 c2] w fun e w' => e = .returned (.bool true) ∧ Below w.heap.size w w' := by
  have d1 := Bs.of_row h0; have x1 := Bs.of_row h1; have y1 := Bs.of_row h2
  have hc := d1.cap
  have hn : n0 ≤ 140737488351232 := by omega
  clear h0 h1 h2 hc h31
  generalize z0.take n0 = ds at d1
  generalize z1.take n1 = xs at x1
  generalize z2.take n2 = ys at y1
  obtain ⟨m, hm⟩ : ∃ m, m = min n1 n2 := ⟨_, rfl⟩
  have hm' : Hid ((m = n1 ∧ n1 ≤ n2) ∨ (m = n2 ∧ n2 < n1)) := Lib.hid (by omega)
  by_cases hmn : m ≤ n0
  · go_enter Try.func6, Try.ntmps6
    go_wp2_with fail
    refine (imXor_ok d1 x1 y1 (Nat.le_refl _) (by omega) hn).mono ?_
    rintro e w2 ⟨A', c', rfl, hO, b2⟩
    rw [← hm]
    have d2 := d1.below b2; have x2 := x1.below b2; have y2 := y1.below b2; have hs2 := b2.size
    clear d1 x1 y1 hm
    go_wp2_with fail
    refine (spXORBytes_core m hm'.out d2 x2 y2 hs2 hmn hn).mono ?_
    rintro e w3 ⟨A3, c3, rfl, hO3, b3⟩
    have a3 := hO.bs.below b3; have hb3 := b2.trans (b3.mono hs2); have o3 := hO3.bs; have hs3 := b3.size
    clear d2 x2 y2 hO hO3
    go_wp2_with fail
    refine (same_eq (a3.more b3.size) o3 rfl).mono ?_
    rintro e w4 ⟨rfl, q4⟩
    have hb4 := below_quiet hb3 q4
    clear a3 o3 hb3 q4
    go_wp2
    go_ret
    exact ⟨rfl, hb4⟩
  · have hmn' : n0 < m := by omega
    go_enter Try.func6, Try.ntmps6
    go_wp2_with fail
    refine (imXor_panic d1 (Nat.le_refl _) (by omega) hn).mono ?_
    rintro e w2 ⟨A', c', rfl, hO, b2⟩
    have d2 := d1.below b2; have hs2 := b2.size
    clear d1 x1 y1 hm
    go_wp2_with fail
    refine (spXORBytes_panic m hm'.out d2 hs2 hmn' hn).mono ?_
    rintro e w3 ⟨A3, c3, rfl, hO3, b3⟩
    have a3 := hO.bs.below b3; have hb3 := b2.trans (b3.mono hs2); have o3 := hO3.bs; have hs3 := b3.size
    clear d2 hO hO3
    go_wp2_with fail
    refine (same_eq (a3.more b3.size) o3 rfl).mono ?_
    rintro e w4 ⟨rfl, q4⟩
    have hb4 := below_quiet hb3 q4
    clear a3 o3 hb3 q4
    go_wp2
    go_ret
    exact ⟨rfl, hb4⟩
end
end Go.Proofs.Ytfbngjhpmhiaoaa
