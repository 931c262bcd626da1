/- The walks of the laws over Compare: each returns true, and nothing that was there before the call has changed. Condition: the list from which is drawn reads as bytes. -/
import Derived.Test.YtldaklchbdfomaaEven
import Derived.Test.YtldaklchbdfomaaCmp
namespace Go.Proofs.Ytldaklchbdfomaa
open Go.RowKit

section
variable {w : World} {A : Option Addr} {len cap : Nat} {zs : List Int}

set_option maxHeartbeats 2000000 in
theorem listEither (h : IsRow .u8 w A len cap zs) : Calls Try.prog 11 #[.slice A len cap] w fun e w' => e = .returned (.bool true) ∧ Below w.heap.size w w' := by
  go_enter Try.func11, Try.ntmps11
  go_wp2_with fail
  refine (dLists_any h).mono ?_
  rintro e w1 ⟨A1, n1, c1, xs, A2, n2, c2, ys, A3, n3, c3, zs, rfl, hO1, hO2, hO3, hn1, hn2, hn3, hb1⟩
  have x1 := hO1.bs; have y1 := hO2.bs; have z1 := hO3.bs
  clear h hO1 hO2 hO3
  generalize w1.heap.size = B at x1 y1 z1
  by_cases hxy : xs = ys
  · have H := Lib.hid hxy
    clear hxy
    go_wp2_with fail
    refine (imCompare_eq x1 y1 H.out).mono ?_
    rintro e w2 ⟨rfl, q2⟩
    have x2 := x1.quiet q2; have y2 := y1.quiet q2; have z2 := z1.quiet q2; have hb2 := below_quiet hb1 q2
    clear x1 y1 z1 hb1 q2
    go_wp2_with fail
    refine (imCompare_eq y2 x2 H.out.symm).mono ?_
    rintro e w3 ⟨rfl, q3⟩
    have x3 := x2.quiet q3; have y3 := y2.quiet q3; have z3 := z2.quiet q3; have hb3 := below_quiet hb2 q3
    clear x2 y2 z2 hb2 q3
    by_cases hxz : xs = zs
    · have H2 := Lib.hid hxz
      clear hxz
      go_wp2_with fail
      refine (imCompare_eq x3 z3 H2.out).mono ?_
      rintro e w4 ⟨rfl, q4⟩
      have y4 := y3.quiet q4; have z4 := z3.quiet q4; have hb4 := below_quiet hb3 q4
      clear x3 y3 z3 hb3 q4
      go_wp2_with fail
      refine (imCompare_eq y4 z4 (H.out.symm.trans H2.out)).mono ?_
      rintro e w5 ⟨rfl, q5⟩
      have hb5 := below_quiet hb4 q5
      clear y4 z4 hb4 q5
      go_wp2_with fail
      refine (alive_any _).mono ?_
      rintro e w' ⟨rfl, rfl⟩
      go_wp2
      go_ret
      exact ⟨rfl, hb5⟩
    · have H2 := Lib.hid hxz
      clear hxz
      go_wp2_with fail
      refine (imCompare_ne x3 z3 H2.out).mono ?_
      rintro e w4 ⟨rfl, q4⟩
      have y4 := y3.quiet q4; have z4 := z3.quiet q4; have hb4 := below_quiet hb3 q4
      clear x3 y3 z3 hb3 q4
      go_wp2_with fail
      refine (imCompare_ne y4 z4 (fun e => H2.out (H.out.trans e))).mono ?_
      rintro e w5 ⟨rfl, q5⟩
      have hb5 := below_quiet hb4 q5
      clear y4 z4 hb4 q5
      go_wp2_with fail
      refine (alive_any _).mono ?_
      rintro e w' ⟨rfl, rfl⟩
      go_wp2
      go_ret
      exact ⟨rfl, hb5⟩
  · have H := Lib.hid hxy
    clear hxy
    go_wp2_with fail
    refine (imCompare_ne x1 y1 H.out).mono ?_
    rintro e w2 ⟨rfl, q2⟩
    have x2 := x1.quiet q2; have y2 := y1.quiet q2; have hb2 := below_quiet hb1 q2
    clear x1 y1 z1 hb1 q2
    go_wp2_with fail
    refine (imCompare_ne y2 x2 (fun e => H.out e.symm)).mono ?_
    rintro e w3 ⟨rfl, q3⟩
    have hb3 := below_quiet hb2 q3
    clear x2 y2 hb2 q3
    go_wp2_with fail
    refine (alive_any _).mono ?_
    rintro e w' ⟨rfl, rfl⟩
    go_wp2
    go_ret
    exact ⟨rfl, hb3⟩

set_option maxHeartbeats 2000000 in
theorem listKeeps (h : IsRow .u8 w A len cap zs) : Calls Try.prog 12 #[.slice A len cap] w fun e w' => e = .returned (.bool true) ∧ Below w.heap.size w w' := by
  go_enter Try.func12, Try.ntmps12
  go_wp2_with fail
  refine (dLists_any h).mono ?_
  rintro e w1 ⟨A1, n1, c1, xs, A2, n2, c2, ys, A3, n3, c3, zs, rfl, hO1, hO2, hO3, hn1, hn2, hn3, hb1⟩
  have x1 := hO1.bs; have y1 := hO2.bs; have z1 := hO3.bs
  have hs1 := hb1.size
  clear h hO1 hO2 hO3
  go_wp2_with (first
    | (at_builtin; refine wpList_clone rfl (.tmp 14) (.tmp 15) rfl rfl rfl x1 (Nat.le_refl _) (by omega) ?_; intro A4 c4 w2 hO4 b2; have x2 := x1.below b2; have y2 := y1.below b2; have hs2 := b2.size; have hb2 := hb1.trans (b2.mono hs1); clear x1 y1 z1 hb1 b2)
    | (at_builtin; refine wpList_clone rfl (.tmp 17) (.tmp 18) rfl rfl rfl y2 hs2 (by omega) ?_; intro A5 c5 w3 hO5 b3; have x3 := x2.below (b3.mono hs2); have y3 := y2.below (b3.mono hs2); have hs3 := b3.size; have hb3 := hb2.trans (b3.mono (by omega)); have a3 := hO4.bs.below b3; have d3 := hO5.bs; clear x2 y2 hb2 b3 hO4 hO5))
  have a3' := a3.more hs3
  refine (imCompare_any a3' d3).mono ?_
  rintro e w4 ⟨rfl, q4⟩
  have x4 := (x3.more (show w1.heap.size ≤ w3.heap.size by omega)).quiet q4; have y4 := (y3.more (show w1.heap.size ≤ w3.heap.size by omega)).quiet q4; have a4 := a3'.quiet q4; have d4 := d3.quiet q4; have hb4 := below_quiet hb3 q4
  clear x3 y3 a3 a3' d3 hb3 q4
  go_wp2_with fail
  refine (same_eq a4 x4 rfl).mono ?_
  rintro e w5 ⟨rfl, q5⟩
  have y5 := y4.quiet q5; have d5 := d4.quiet q5; have hb5 := below_quiet hb4 q5
  clear x4 y4 a4 d4 hb4 q5
  go_wp2_with fail
  refine (same_eq d5 y5 rfl).mono ?_
  rintro e w6 ⟨rfl, q6⟩
  have hb6 := below_quiet hb5 q6
  clear y5 d5 hb5 q6
  go_wp2_with fail
  refine (alive_any _).mono ?_
  rintro e w' ⟨rfl, rfl⟩
  go_wp2
  go_ret
  exact ⟨rfl, hb6⟩

set_option maxHeartbeats 2000000 in
theorem listLength (h : IsRow .u8 w A len cap zs) : Calls Try.prog 6 #[.slice A len cap] w fun e w' => e = .returned (.bool true) ∧ Below w.heap.size w w' := by
  go_enter Try.func6, Try.ntmps6
  go_wp2_with fail
  refine (dLists_any h).mono ?_
  rintro e w1 ⟨A1, n1, c1, xs, A2, n2, c2, ys, A3, n3, c3, zs, rfl, hO1, hO2, hO3, hn1, hn2, hn3, hb1⟩
  have x1 := hO1.bs; have y1 := hO2.bs; have z1 := hO3.bs
  have hs1 := hb1.size
  clear h hO1 hO2 hO3
  by_cases h12 : n1 = n2
  · have e1 : ((n1 : Int) == (n2 : Int)) = true := by simp [h12]
    by_cases h23 : n2 = n3
    · have e2 : ((n2 : Int) == (n3 : Int)) = true := by simp [h23]
      clear h12 h23
      go_wp2_with fail
      refine (imCompare_eq (Bs.empty _ _) (Own.made w1 (Nat.le_refl _)).bs rfl).mono ?_
      rintro e w9 ⟨rfl, q9⟩
      have hb9 := below_quiet (hb1.alloc hs1 (.cells #[] 5)) q9
      clear q9
      go_wp2
      go_ret
      exact ⟨rfl, hb9⟩
    · have e2 : ((n2 : Int) == (n3 : Int)) = false := beq_eq_false_iff_ne.2 (by omega)
      have H := Lib.hid (show ys ≠ zs from fun e => h23 (by rw [← y1.len, ← z1.len, e]))
      clear h12 h23
      go_wp2_with fail
      refine (imCompare_ne y1 z1 H.out).mono ?_
      rintro e w2 ⟨rfl, q2⟩
      have hb2 := below_quiet hb1 q2
      have hs2 := hb2.size
      clear x1 y1 z1 hb1 q2
      go_wp2_with fail
      refine (imCompare_eq (Bs.empty _ _) (Own.made w2 (Nat.le_refl _)).bs rfl).mono ?_
      rintro e w9 ⟨rfl, q9⟩
      have hb9 := below_quiet (hb2.alloc hs2 (.cells #[] 5)) q9
      clear q9
      go_wp2
      go_ret
      exact ⟨rfl, hb9⟩
  · have e1 : ((n1 : Int) == (n2 : Int)) = false := beq_eq_false_iff_ne.2 (by omega)
    have H1 := Lib.hid (show xs ≠ ys from fun e => h12 (by rw [← x1.len, ← y1.len, e]))
    by_cases h23 : n2 = n3
    · have e2 : ((n2 : Int) == (n3 : Int)) = true := by simp [h23]
      clear h12 h23
      go_wp2_with fail
      refine (imCompare_ne x1 y1 H1.out).mono ?_
      rintro e w2 ⟨rfl, q2⟩
      have hb2 := below_quiet hb1 q2
      have hs2 := hb2.size
      clear x1 y1 z1 hb1 q2
      go_wp2_with fail
      refine (imCompare_eq (Bs.empty _ _) (Own.made w2 (Nat.le_refl _)).bs rfl).mono ?_
      rintro e w9 ⟨rfl, q9⟩
      have hb9 := below_quiet (hb2.alloc hs2 (.cells #[] 5)) q9
      clear q9
      go_wp2
      go_ret
      exact ⟨rfl, hb9⟩
    · have e2 : ((n2 : Int) == (n3 : Int)) = false := beq_eq_false_iff_ne.2 (by omega)
      have H := Lib.hid (show ys ≠ zs from fun e => h23 (by rw [← y1.len, ← z1.len, e]))
      clear h12 h23
      go_wp2_with fail
      refine (imCompare_ne x1 y1 H1.out).mono ?_
      rintro e w2 ⟨rfl, q2⟩
      have y2 := y1.quiet q2; have z2 := z1.quiet q2; have hb2 := below_quiet hb1 q2
      clear x1 y1 z1 hb1 q2
      go_wp2_with fail
      refine (imCompare_ne y2 z2 H.out).mono ?_
      rintro e w3 ⟨rfl, q3⟩
      have hb3 := below_quiet hb2 q3
      have hs3 := hb3.size
      clear y2 z2 hb2 q3
      go_wp2_with fail
      refine (imCompare_eq (Bs.empty _ _) (Own.made w3 (Nat.le_refl _)).bs rfl).mono ?_
      rintro e w9 ⟨rfl, q9⟩
      have hb9 := below_quiet (hb3.alloc hs3 (.cells #[] 5)) q9
      clear q9
      go_wp2
      go_ret
      exact ⟨rfl, hb9⟩

theorem sameI_step (xs ys : List Int) (k : Nat) (hk : k < xs.length) (hk' : k < ys.length) (x y : Int) (hx : xs.getD k 0 = x) (hy : ys.getD k 0 = y) :
    (x = y → sameI (xs.take k) (ys.take k) * 1 = sameI (xs.take (k + 1)) (ys.take (k + 1))) ∧ (x ≠ y → sameI (xs.take k) (ys.take k) * 0 = sameI (xs.take (k + 1)) (ys.take (k + 1))) := by
  have h := take_next xs ys k hk hk'
  rw [hx, hy] at h
  constructor
  · intro e
    by_cases ht : xs.take k = ys.take k
    · rw [sameI_yes ht, sameI_yes (h.2 ⟨ht, e⟩)]; rfl
    · rw [sameI_no ht, sameI_no (fun e2 => ht (h.1 e2).1)]; rfl
  · intro e
    rw [sameI_no (fun e2 => e (h.1 e2).2)]; simp
theorem sameI_range (xs ys : List Int) : 0 ≤ sameI xs ys ∧ sameI xs ys ≤ 1 := by
  by_cases h : xs = ys
  · rw [sameI_yes h]; omega
  · rw [sameI_no h]; omega

set_option maxHeartbeats 2000000 in
theorem listRoad (h : IsRow .u8 w A len cap zs) : Calls Try.prog 14 #[.slice A len cap] w fun e w' => e = .returned (.bool true) ∧ Below w.heap.size w w' := by
  go_enter Try.func14, Try.ntmps14
  go_wp2_with fail
  refine (dEven_any h).mono ?_
  rintro e w1 ⟨A1, c1, xs, A2, c2, ys, A3, c3, zs, n, rfl, hO1, hO2, hO3, hn, hb1⟩
  have x1 := hO1.bs; have y1 := hO2.bs
  clear h hO1 hO2 hO3
  have hR := Lib.hid x1.len; have hS := Lib.hid y1.len
  go_wp2_with fail
  go_loopw [6, 7] (fun s i wr => ∃ (k : Nat) (a : Int), k ≤ n ∧ i = .int .i64 k ∧ s = .int .i64 a ∧ Hid (a = sameI (xs.take k) (ys.take k)) ∧ 0 ≤ a ∧ a ≤ 1 ∧ Quiet w1 wr) (fun _ i _ => n - (intOf i).toNat)
  case atStart => exact ⟨0, 1, by omega, rfl, rfl, (sameI_yes rfl).symm, by omega, by omega, 0, rfl⟩
  case round =>
    obtain ⟨k, a, hk, rfl, rfl, ha, a0, a1, qr⟩ := hrel
    by_cases hlt : k < n
    · obtain ⟨b1, o1, rfl, hbb1, hc1, u0, u1⟩ := (x1.quiet qr).at_ hlt
      obtain ⟨b2, o2, rfl, hbb2, hc2, v0, v1⟩ := (y1.quiet qr).at_ hlt
      have hst := Lib.hid (sameI_step xs ys k (by rw [hR.out]; exact hlt) (by rw [hS.out]; exact hlt) _ _ rfl rfl)
      generalize xs.getD k 0 = x at hc1 u0 u1 hst
      generalize ys.getD k 0 = y at hc2 v0 v1 hst
      have i1 : (k : Int) < n := by omega
      by_cases hxy : x = y
      · have hk1 := Lib.hid (hst.out.1 hxy)
        subst hxy
        clear hst
        go_wp2_with fail
        go_quiet ((go_at_call 23; exact Calls.quiet_of_same ((imByteEq_eq _ _).mono fun _ _ hh => ⟨hh.1, hh.2.symm⟩)))
        go_wp2
        go_roundw
        case rel => exact ⟨k + 1, _, by omega, by go_num, rfl, by unfold Hid; rw [← hk1.out, ← ha.out]; simp, by omega, by omega, qr.drewN _⟩
        case measure => simp [intOf]; omega
      · have hk1 := Lib.hid (hst.out.2 hxy)
        have H := Lib.hid hxy
        clear hst hxy
        go_wp2_with fail
        go_quiet ((go_at_call 23; exact Calls.quiet_of_same ((imByteEq_ne _ _ H.out _).mono fun _ _ hh => ⟨hh.1, hh.2.symm⟩)))
        go_wp2
        go_roundw
        case rel => exact ⟨k + 1, _, by omega, by go_num, rfl, by unfold Hid; rw [← hk1.out, ← ha.out]; simp, by omega, by omega, qr.drewN _⟩
        case measure => simp [intOf]; omega
    · have hkn : k = n := by omega
      have hfin := Lib.hid (show a = sameI xs ys by
        have := ha.out
        rwa [List.take_of_length_le (by rw [hR.out]; omega), List.take_of_length_le (by rw [hS.out]; omega)] at this)
      clear hkn ha
      have x2 := x1.quiet qr; have y2 := y1.quiet qr; have hb2 := below_quiet hb1 qr
      clear x1 y1 hb1 qr
      by_cases hxy : xs = ys
      · have H := Lib.hid hxy
        have ha1 : a = 1 := by rw [hfin.out, sameI_yes hxy]
        subst ha1
        clear hxy hfin
        go_wp2_with fail
        refine (imCompare_eq x2 y2 H.out).mono ?_
        rintro e w3 ⟨rfl, q3⟩
        have hb3 := below_quiet hb2 q3
        clear x2 y2 hb2 q3
        go_wp2_with fail
        refine (alive_any _).mono ?_
        rintro e w' ⟨rfl, rfl⟩
        go_wp2
        go_ret
        exact ⟨rfl, hb3⟩
      · have H := Lib.hid hxy
        have ha1 : a = 0 := by rw [hfin.out, sameI_no hxy]
        subst ha1
        clear hxy hfin
        go_wp2_with fail
        refine (imCompare_ne x2 y2 H.out).mono ?_
        rintro e w3 ⟨rfl, q3⟩
        have hb3 := below_quiet hb2 q3
        clear x2 y2 hb2 q3
        go_wp2_with fail
        refine (alive_any _).mono ?_
        rintro e w' ⟨rfl, rfl⟩
        go_wp2
        go_ret
        exact ⟨rfl, hb3⟩
end
end Go.Proofs.Ytldaklchbdfomaa
