/- The walks of further laws over single bytes and numbers, drawn from a list of bytes: each returns true, and nothing that was there before the call has changed. Condition: the list reads as bytes. -/
import Derived.Test.YtjbjdpahnnkgmaaChoice
import Derived.Test.YtjbjdpahnnkgmaaSel
import Derived.Test.YtjbjdpahnnkgmaaEq
namespace Go.Proofs.Ytjbjdpahnnkgmaa
open Go.RowKit

section
variable {w : World} {A : Option Addr} {len cap : Nat} {zs : List Int}

set_option maxHeartbeats 1000000 in
theorem lessOn (h : IsRow .u8 w A len cap zs) : Calls Try.prog 3 #[.slice A len cap] w fun e w' => e = .returned (.bool true) ∧ Below w.heap.size w w' := by
  go_enter Try.func3, Try.ntmps3
  go_wp2_with fail
  refine (dTold_any h).mono ?_
  rintro e w1 ⟨x, y, z, rfl, x0, x1, y0, y1, z0, z1, hb⟩
  clear h
  have ht := b2u_true
  have hf := b2u_false
  by_cases hxy : x ≤ y
  · have e1 : decide (x ≤ y) = true := by simpa using hxy
    by_cases hyz : y ≤ z
    · have e2 : decide (y ≤ z) = true := by simpa using hyz
      have e3 : decide (x ≤ z) = true := by simp; omega
      go_wp2
      go_ret
      exact ⟨rfl, hb⟩
    · have e2 : decide (y ≤ z) = false := by simpa using hyz
      go_wp2
      go_ret
      exact ⟨rfl, hb⟩
  · have e1 : decide (x ≤ y) = false := by simpa using hxy
    go_wp2
    go_ret
    exact ⟨rfl, hb⟩

set_option maxHeartbeats 1000000 in
theorem lessTotal (h : IsRow .u8 w A len cap zs) : Calls Try.prog 4 #[.slice A len cap] w fun e w' => e = .returned (.bool true) ∧ Below w.heap.size w w' := by
  go_enter Try.func4, Try.ntmps4
  go_wp2_with fail
  refine (dTold_any h).mono ?_
  rintro e w1 ⟨x, y, z, rfl, x0, x1, y0, y1, z0, z1, hb⟩
  clear h
  have ht := b2u_true
  have hf := b2u_false
  rcases (show x = y ∨ x < y ∨ y < x by omega) with hxy | hxy | hxy
  · subst hxy
    go_wp2
    go_ret
    exact ⟨rfl, hb⟩
  · have e1 : decide (x ≤ y) = true := by simp; omega
    have e2 : decide (y ≤ x) = false := by simp; omega
    have e3 : (x == y) = false := beq_eq_false_iff_ne.2 (by omega)
    go_wp2
    go_ret
    exact ⟨rfl, hb⟩
  · have e1 : decide (x ≤ y) = false := by simp; omega
    have e2 : decide (y ≤ x) = true := by simp; omega
    have e3 : (x == y) = false := beq_eq_false_iff_ne.2 (by omega)
    go_wp2
    go_ret
    exact ⟨rfl, hb⟩

set_option maxHeartbeats 1000000 in
theorem numberEither (h : IsRow .u8 w A len cap zs) : Calls Try.prog 5 #[.slice A len cap] w fun e w' => e = .returned (.bool true) ∧ Below w.heap.size w w' := by
  go_enter Try.func5, Try.ntmps5
  go_wp2_with fail
  refine (dNumbers_any h).mono ?_
  rintro e w1 ⟨x, y, z, rfl, x0, x1, y0, y1, z0, z1, hb⟩
  clear h
  have ht := b2u_true
  have hf := b2u_false
  by_cases hxy : x = y
  · subst hxy
    by_cases hxz : x = z
    · subst hxz
      go_wp2
      go_ret
      exact ⟨rfl, hb⟩
    · have e3 : (x == z) = false := beq_eq_false_iff_ne.2 hxz
      go_wp2
      go_ret
      exact ⟨rfl, hb⟩
  · have e1 : (x == y) = false := beq_eq_false_iff_ne.2 hxy
    have e2 : (y == x) = false := beq_eq_false_iff_ne.2 (Ne.symm hxy)
    go_wp2
    go_ret
    exact ⟨rfl, hb⟩

set_option maxHeartbeats 1000000 in
theorem chosenLeast (h : IsRow .u8 w A len cap zs) : Calls Try.prog 6 #[.slice A len cap] w fun e w' => e = .returned (.bool true) ∧ Below w.heap.size w w' := by
  go_enter Try.func6, Try.ntmps6
  go_wp2_with fail
  refine (dTold_any h).mono ?_
  rintro e w1 ⟨x, y, z, rfl, x0, x1, y0, y1, z0, z1, hb⟩
  clear h
  have WX := Lib.hid (wf_of_i32 x (by omega) x1); have WY := Lib.hid (wf_of_i32 y (by omega) y1)
  rcases (show x = y ∨ x < y ∨ y < x by omega) with hxy | hxy | hxy
  · subst hxy
    go_wp2_with fail
    refine (imLess_yes x x (by omega) _).mono ?_
    rintro e w' ⟨rfl, rfl⟩
    go_wp2_with fail
    refine (imSelect1 x x WX.out _).mono ?_
    rintro e w' ⟨rfl, rfl⟩
    go_wp2_with fail
    refine (imSelect1 x x WX.out _).mono ?_
    rintro e w' ⟨rfl, rfl⟩
    go_wp2
    go_ret
    exact ⟨rfl, hb⟩
  · go_wp2_with fail
    refine (imLess_yes x y (by omega) _).mono ?_
    rintro e w' ⟨rfl, rfl⟩
    go_wp2_with fail
    refine (imSelect1 x y WX.out _).mono ?_
    rintro e w' ⟨rfl, rfl⟩
    go_wp2_with fail
    refine (imSelect1 y x WY.out _).mono ?_
    rintro e w' ⟨rfl, rfl⟩
    go_wp2
    go_ret
    exact ⟨rfl, hb⟩
  · go_wp2_with fail
    refine (imLess_no x y hxy _).mono ?_
    rintro e w' ⟨rfl, rfl⟩
    go_wp2_with fail
    refine (imSelect0 x y WY.out _).mono ?_
    rintro e w' ⟨rfl, rfl⟩
    go_wp2_with fail
    refine (imSelect0 y x WX.out _).mono ?_
    rintro e w' ⟨rfl, rfl⟩
    go_wp2
    go_ret
    exact ⟨rfl, hb⟩

set_option maxHeartbeats 1000000 in
theorem chosenTwice (h : IsRow .u8 w A len cap zs) : Calls Try.prog 7 #[.slice A len cap] w fun e w' => e = .returned (.bool true) ∧ Below w.heap.size w w' := by
  go_enter Try.func7, Try.ntmps7
  go_wp2_with fail
  refine (dChoice_any h).mono ?_
  rintro e w1 ⟨v, x, y, rfl, v0, v1, wx, wy, hb⟩
  clear h
  have WX := Lib.hid wx; have WY := Lib.hid wy
  clear wx wy
  rcases (show v = 0 ∨ v = 1 by omega) with rfl | rfl
  · go_wp2_with fail
    refine (imSelect0 x y WY.out _).mono ?_
    rintro e w' ⟨rfl, rfl⟩
    go_wp2_with fail
    refine (imSelect0 y y WY.out _).mono ?_
    rintro e w' ⟨rfl, rfl⟩
    go_wp2_with fail
    refine (imSelect0 x y WY.out _).mono ?_
    rintro e w' ⟨rfl, rfl⟩
    go_wp2_with fail
    refine (alive_any _).mono ?_
    rintro e w' ⟨rfl, rfl⟩
    go_wp2
    go_ret
    exact ⟨rfl, hb⟩
  · go_wp2_with fail
    refine (imSelect1 x y WX.out _).mono ?_
    rintro e w' ⟨rfl, rfl⟩
    go_wp2_with fail
    refine (imSelect1 x y WX.out _).mono ?_
    rintro e w' ⟨rfl, rfl⟩
    go_wp2_with fail
    refine (imSelect1 x x WX.out _).mono ?_
    rintro e w' ⟨rfl, rfl⟩
    go_wp2_with fail
    refine (alive_any _).mono ?_
    rintro e w' ⟨rfl, rfl⟩
    go_wp2
    go_ret
    exact ⟨rfl, hb⟩
end
end Go.Proofs.Ytjbjdpahnnkgmaa
