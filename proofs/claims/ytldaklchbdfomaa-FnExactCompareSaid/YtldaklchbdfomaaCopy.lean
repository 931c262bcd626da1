/- The contract of Copy, from the library's own text up to the thin package: for 0 the first list, for 1 the second one, in new memory; nothing that was there before the call has changed. Conditions: both slices read as bytes, and have one length of at most 140737488351232. -/
import Derived.Test.YtldaklchbdfomaaBytes
import Derived.RegionTactic
namespace Go.Proofs.Ytldaklchbdfomaa
open Go.RowKit

theorem and_255 (x : Int) (h0 : 0 ≤ x) (h1 : x ≤ 255) : bits .and .u8 x 255 = x := by
  obtain ⟨x, rfl⟩ := Int.eq_ofNat_of_zero_le h0
  show bits .and .u8 (x : Int) ((255 : Nat) : Int) = _
  rw [u8_and_nat x 255 (by omega) (by omega)]
  have := Nat.and_two_pow_sub_one_eq_mod x 8
  simp at this
  omega
theorem and_0 (x : Int) (h0 : 0 ≤ x) (h1 : x ≤ 255) : bits .and .u8 x 0 = 0 := by
  obtain ⟨x, rfl⟩ := Int.eq_ofNat_of_zero_le h0
  show bits .and .u8 (x : Int) ((0 : Nat) : Int) = _
  rw [u8_and_nat x 0 (by omega) (by omega)]
  simp
theorem or_0l (x : Int) (h0 : 0 ≤ x) (h1 : x ≤ 255) : bits .or .u8 0 x = x := by
  obtain ⟨x, rfl⟩ := Int.eq_ofNat_of_zero_le h0
  show bits .or .u8 ((0 : Nat) : Int) (x : Int) = _
  rw [u8_or_nat 0 x (by omega) (by omega)]
  simp
theorem or_0r (x : Int) (h0 : 0 ≤ x) (h1 : x ≤ 255) : bits .or .u8 x 0 = x := by
  obtain ⟨x, rfl⟩ := Int.eq_ofNat_of_zero_le h0
  show bits .or .u8 (x : Int) ((0 : Nat) : Int) = _
  rw [u8_or_nat x 0 (by omega) (by omega)]
  simp

theorem set_same (xs : List Int) (k : Nat) (hk : k < xs.length) : xs.set k (xs.getD k 0) = xs := by
  rw [List.getD_eq_getElem?_getD, List.getElem?_eq_getElem hk]
  simp
theorem set_next (xs ys : List Int) (k : Nat) (hk : k < xs.length) (hk' : k < ys.length) : (ys.take k ++ xs.drop k).set k (ys.getD k 0) = ys.take (k + 1) ++ xs.drop (k + 1) := by
  rw [List.set_append_right _ _ (by rw [List.length_take]; omega)]
  rw [List.length_take, Nat.min_eq_left (by omega), Nat.sub_self, List.drop_eq_getElem_cons hk, List.set_cons_zero, List.take_succ_eq_append_getElem hk', List.getD_eq_getElem?_getD, List.getElem?_eq_getElem hk', List.append_assoc]
  rfl

set_option maxHeartbeats 2000000 in
theorem fiCopy0 {w : World} {base B n c c2 : Nat} {A A2 : Option Addr} {xs ys : List Int} (hx : Own w base A n c xs) (hy : Bs w B A2 n c2 ys) (hB : B ≤ w.heap.size) (hb : B ≤ base) (hn : n ≤ 140737488351232) :
    Calls Try.prog 31 #[.int .i64 0, .slice A n c, .slice A2 n c2] w fun e w' => e = .returned (.tuple #[]) ∧ Own w' base A n c xs ∧ w.grownBy w' (blockOf A) := by
  have hR := Lib.hid hx.len
  have hm : bits .xor .i64 (-1) (-1) = 0 := by decide
  go_enter Try.func31, Try.ntmps31
  go_wp2_with fail
  go_loopw [8] (fun i wr => ∃ k : Nat, k ≤ n ∧ i = .int .i64 k ∧ Own wr base A n c xs ∧ w.grownBy wr (blockOf A)) (fun i _ => n - (intOf i).toNat)
  case atStart => exact ⟨0, by omega, rfl, hx, World.grownBy.refl _ _⟩
  case round =>
    obtain ⟨k, hk, rfl, hown, hgr⟩ := hrel
    by_cases hlt : k < n
    · obtain ⟨b2, o2, rfl, hb2, hc2, y0, y1⟩ := (hy.grown hgr hB (fun g hg => by have := (hx.lt g hg).1; omega)).at_ hlt
      obtain ⟨g, rfl, hg0, hg1, hc1, hf1, x0, x1⟩ := hown.at_ hlt
      have hset := Lib.hid (set_same xs k (by rw [hR.out]; exact hlt))
      generalize xs.getD k 0 = x at hc1 x0 x1 hset
      generalize ys.getD k 0 = y at hc2 y0 y1
      have e1 := and_255 x x0 x1
      have e2 := and_0 y y0 y1
      have e3 := or_0r x x0 x1
      have i1 : (k : Int) < n := by omega
      go_wp2_with fail
      go_region
      all_goals
        have hO := (hown.store k x x0 x1).drew
        rw [hset.out] at hO
        have hG := hgr.trans ((grown_set wr g k (.int .u8 x)).trans (grown_drew _))
        clear hc1 hf1 hc2
        go_wp2
        go_roundw
        case rel => exact ⟨k + 1, by omega, by go_num, hO, hG⟩
        case measure => simp [intOf]; omega
    · go_wp2
      go_end0
      exact ⟨rfl, hown, hgr⟩

set_option maxHeartbeats 2000000 in
theorem fiCopy1 {w : World} {base B n c c2 : Nat} {A A2 : Option Addr} {xs ys : List Int} (hx : Own w base A n c xs) (hy : Bs w B A2 n c2 ys) (hB : B ≤ w.heap.size) (hb : B ≤ base) (hn : n ≤ 140737488351232) :
    Calls Try.prog 31 #[.int .i64 1, .slice A n c, .slice A2 n c2] w fun e w' => e = .returned (.tuple #[]) ∧ Own w' base A n c ys ∧ w.grownBy w' (blockOf A) := by
  have hR := Lib.hid hx.len
  have hS := Lib.hid hy.len
  have hm : bits .xor .i64 (-1) 0 = -1 := by decide
  go_enter Try.func31, Try.ntmps31
  go_wp2_with fail
  go_loopw [8] (fun i wr => ∃ k : Nat, k ≤ n ∧ i = .int .i64 k ∧ Own wr base A n c (ys.take k ++ xs.drop k) ∧ w.grownBy wr (blockOf A)) (fun i _ => n - (intOf i).toNat)
  case atStart => exact ⟨0, by omega, rfl, by simpa using hx, World.grownBy.refl _ _⟩
  case round =>
    obtain ⟨k, hk, rfl, hown, hgr⟩ := hrel
    by_cases hlt : k < n
    · obtain ⟨b2, o2, rfl, hb2, hc2, y0, y1⟩ := (hy.grown hgr hB (fun g hg => by have := (hx.lt g hg).1; omega)).at_ hlt
      obtain ⟨g, rfl, hg0, hg1, hc1, hf1, x0, x1⟩ := hown.at_ hlt
      have hset := Lib.hid (set_next xs ys k (by rw [hR.out]; exact hlt) (by rw [hS.out]; exact hlt))
      generalize (ys.take k ++ xs.drop k).getD k 0 = x at hc1 x0 x1
      generalize ys.getD k 0 = y at hc2 y0 y1 hset
      have e1 := and_255 y y0 y1
      have e2 := and_0 x x0 x1
      have e3 := or_0l y y0 y1
      have i1 : (k : Int) < n := by omega
      go_wp2_with fail
      go_region
      all_goals
        have hO := (hown.store k y y0 y1).drew
        rw [hset.out] at hO
        have hG := hgr.trans ((grown_set wr g k (.int .u8 y)).trans (grown_drew _))
        clear hc1 hf1 hc2
        go_wp2
        go_roundw
        case rel => exact ⟨k + 1, by omega, by go_num, hO, hG⟩
        case measure => simp [intOf]; omega
    · have hO : Own wr base A n c ys := by
        rw [List.take_of_length_le (by rw [hS.out]; omega), List.drop_eq_nil_of_le (by rw [hR.out]; omega), List.append_nil] at hown
        exact hown
      clear hown
      go_wp2
      go_end0
      exact ⟨rfl, hO, hgr⟩

/-- impl.Copy for 0: a copy of the first list. -/
theorem imCopy0 {w : World} {B n c1 c2 : Nat} {A1 A2 : Option Addr} {xs ys : List Int} (hx : Bs w B A1 n c1 xs) (hy : Bs w B A2 n c2 ys) (hB : B ≤ w.heap.size) (hn : n ≤ 140737488351232) :
    Calls Try.prog 17 #[.int .i64 0, .slice A1 n c1, .slice A2 n c2] w fun e w' => ∃ A' c', e = .returned (.slice A' n c') ∧ Own w' w.heap.size A' n c' xs ∧ Below w.heap.size w w' := by
  go_enter Try.func17, Try.ntmps17
  go_wp2_with (first
    | (at_builtin; refine wpList_clone rfl _ _ rfl rfl rfl hx hB hn ?_; intro A' c' w1 hO1 b1)
    | (go_at_call 25; go_in))
  refine (fiCopy0 hO1 ((hy.more hB).below b1) b1.size (Nat.le_refl _) hn).mono ?_
  rintro e w2 ⟨rfl, hO2, g2⟩
  have b2 := b1.grown g2 b1.size (fun k hk => (hO1.lt k hk).1)
  go_wp2
  go_end0
  go_wp2
  go_ret
  exact ⟨A', c', rfl, hO2, b2⟩

/-- impl.Copy for 1: a copy of the second list. -/
theorem imCopy1 {w : World} {B n c1 c2 : Nat} {A1 A2 : Option Addr} {xs ys : List Int} (hx : Bs w B A1 n c1 xs) (hy : Bs w B A2 n c2 ys) (hB : B ≤ w.heap.size) (hn : n ≤ 140737488351232) :
    Calls Try.prog 17 #[.int .i64 1, .slice A1 n c1, .slice A2 n c2] w fun e w' => ∃ A' c', e = .returned (.slice A' n c') ∧ Own w' w.heap.size A' n c' ys ∧ Below w.heap.size w w' := by
  go_enter Try.func17, Try.ntmps17
  go_wp2_with (first
    | (at_builtin; refine wpList_clone rfl _ _ rfl rfl rfl hx hB hn ?_; intro A' c' w1 hO1 b1)
    | (go_at_call 25; go_in))
  refine (fiCopy1 hO1 ((hy.more hB).below b1) b1.size (Nat.le_refl _) hn).mono ?_
  rintro e w2 ⟨rfl, hO2, g2⟩
  have b2 := b1.grown g2 b1.size (fun k hk => (hO1.lt k hk).1)
  go_wp2
  go_end0
  go_wp2
  go_ret
  exact ⟨A', c', rfl, hO2, b2⟩

end Go.Proofs.Ytldaklchbdfomaa
