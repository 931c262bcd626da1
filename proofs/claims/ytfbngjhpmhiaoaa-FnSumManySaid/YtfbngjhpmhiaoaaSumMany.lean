/- The walk of the law FnSumMany over XorBytes: it returns true, and nothing that was there before the call has changed. Condition: the list from which is drawn reads as bytes. -/
import Derived.Test.YtfbngjhpmhiaoaaSumMore
namespace Go.Proofs.Ytfbngjhpmhiaoaa
open Go.RowKit

/-- Behind the sum the first list stays. -/
theorem sumL_drop {ds xs ys : List Int} : (sumL ds xs ys).drop (min xs.length ys.length) = ds.drop (min xs.length ys.length) := by
  unfold sumL
  rw [xorL_len, List.drop_append_of_le_length (by rw [xorL_len]; omega), List.drop_of_length_le (by rw [xorL_len]; omega), List.nil_append]

section
variable {w : World} {A : Option Addr} {len cap : Nat} {zs : List Int}
set_option maxHeartbeats 8000000 in
theorem sumMany (h : IsRow .u8 w A len cap zs) : Calls Try.prog 7 #[.slice A len cap] w fun e w' => e = .returned (.bool true) ∧ Below w.heap.size w w' := by
  go_enter Try.func7, Try.ntmps7
  go_wp2_with fail
  refine (dLists_any h).mono ?_
  rintro e w1 ⟨A1, n1, c1, xs, A2, n2, c2, ys, A3, n3, c3, zs, rfl, hO1, hO2, hO3, hn1, hn2, hn3, hb1⟩
  have x1 := hO1.bs; have y1 := hO2.bs; have z1 := hO3.bs
  have hs1 := hb1.size
  have hdrop := Lib.hid (show (sumL zs xs ys).drop (min n1 n2) = zs.drop (min n1 n2) by rw [← hO1.len, ← hO2.len]; exact sumL_drop)
  clear h hO1 hO2
  go_wp2_with (first
    | (at_builtin; refine wpList_clone rfl (.tmp 17) (.tmp 18) rfl rfl rfl x1 (Nat.le_refl _) (by omega) ?_; intro A4 c4 w2 hO4 b2; have x2 := x1.below b2; have y2 := y1.below b2; have z2 := z1.below b2; have hs2 := b2.size; have hb2 := hb1.trans (b2.mono hs1); clear x1 y1 z1 hb1 b2)
    | (at_builtin; refine wpList_clone rfl (.tmp 20) (.tmp 21) rfl rfl rfl y2 hs2 (by omega) ?_; intro A5 c5 w3 hO5 b3; have x3 := x2.below (b3.mono hs2); have y3 := y2.below (b3.mono hs2); have z3 := z2.below (b3.mono hs2); have hs3 := b3.size; have hb3 := hb2.trans (b3.mono (by omega)); have a3 := hO4.bs.below b3; have d3 := hO5.bs; clear x2 y2 z2 hb2 b3 hO4 hO5))
  have hs13 : w1.heap.size ≤ w3.heap.size := by omega
  have hs03 := hb3.size
  have X3 := x3.more hs13; have Y3 := y3.more hs13; have Z3 := z3.more hs13; have A3' := a3.more hs3
  clear x3 y3 z3 a3
  rcases Nat.lt_or_ge n3 (min n1 n2) with hlt | hge
  · have HLT := Lib.hid hlt
    rcases Nat.lt_or_ge n2 n1 with hmn | hmn
    · have l1 : n3 < n2 := by omega
      clear hlt
      refine (imXor_panic Z3 (Nat.le_refl _) HLT.out (by omega)).mono ?_
      rintro e w4 ⟨A6, c6, rfl, hO6, b4⟩
      have hs4 := b4.size
      have x4 := (X3.below b4).more hs4; have y4 := (Y3.below b4).more hs4; have z4 := (Z3.below b4).more hs4; have a4 := (A3'.below b4).more hs4; have d4 := (d3.below b4).more hs4; have o4 := hO6.bs; have hb4 := hb3.trans (b4.mono hs03)
      clear X3 Y3 Z3 A3' d3 hb3 b4
      go_wp2_with fail
      refine (same_eq a4 x4 rfl).mono ?_
      rintro e w5 ⟨rfl, q5⟩
      have y5 := y4.quiet q5; have z5 := z4.quiet q5; have d5 := d4.quiet q5; have o5 := o4.quiet q5; have O5 := hO6.quiet q5; have hb5 := below_quiet hb4 q5
      clear x4 y4 z4 a4 d4 o4 hb4 q5 hO6
      go_wp2_with fail
      refine (same_eq d5 y5 rfl).mono ?_
      rintro e w6 ⟨rfl, q6⟩
      have z6 := z5.quiet q6; have o6 := o5.quiet q6; have O6 := O5.quiet q6; have hb6 := below_quiet hb5 q6
      clear y5 z5 d5 o5 hb5 q6 O5
      go_wp2_with fail
      refine (same_eq o6 z6 rfl).mono ?_
      rintro e w7 ⟨rfl, q7⟩
      have hb7 := below_quiet hb6 q7
      clear o6 z6 hb6 q7
      go_wp2
      go_ret
      exact ⟨rfl, hb7⟩
    · have l1 : n3 < n1 := by omega
      clear hlt
      refine (imXor_panic Z3 (Nat.le_refl _) HLT.out (by omega)).mono ?_
      rintro e w4 ⟨A6, c6, rfl, hO6, b4⟩
      have hs4 := b4.size
      have x4 := (X3.below b4).more hs4; have y4 := (Y3.below b4).more hs4; have z4 := (Z3.below b4).more hs4; have a4 := (A3'.below b4).more hs4; have d4 := (d3.below b4).more hs4; have o4 := hO6.bs; have hb4 := hb3.trans (b4.mono hs03)
      clear X3 Y3 Z3 A3' d3 hb3 b4
      go_wp2_with fail
      refine (same_eq a4 x4 rfl).mono ?_
      rintro e w5 ⟨rfl, q5⟩
      have y5 := y4.quiet q5; have z5 := z4.quiet q5; have d5 := d4.quiet q5; have o5 := o4.quiet q5; have O5 := hO6.quiet q5; have hb5 := below_quiet hb4 q5
      clear x4 y4 z4 a4 d4 o4 hb4 q5 hO6
      go_wp2_with fail
      refine (same_eq d5 y5 rfl).mono ?_
      rintro e w6 ⟨rfl, q6⟩
      have z6 := z5.quiet q6; have o6 := o5.quiet q6; have O6 := O5.quiet q6; have hb6 := below_quiet hb5 q6
      clear y5 z5 d5 o5 hb5 q6 O5
      go_wp2_with fail
      refine (same_eq o6 z6 rfl).mono ?_
      rintro e w7 ⟨rfl, q7⟩
      have hb7 := below_quiet hb6 q7
      clear o6 z6 hb6 q7
      go_wp2
      go_ret
      exact ⟨rfl, hb7⟩
  · have HGE := Lib.hid hge
    rcases Nat.lt_or_ge n2 n1 with hmn | hmn
    · have em : Hid (min n1 n2 = n2) := Lib.hid (by omega)
      have l1 : n2 ≤ n3 := by omega
      clear hge
      refine (imXor_ok Z3 A3' d3 (Nat.le_refl _) HGE.out (by omega)).mono ?_
      rintro e w4 ⟨A6, c6, rfl, hO6, b4⟩
      rw [em.out]
      have hs4 := b4.size
      have x4 := (X3.below b4).more hs4; have y4 := (Y3.below b4).more hs4; have z4 := (Z3.below b4).more hs4; have a4 := (A3'.below b4).more hs4; have d4 := (d3.below b4).more hs4; have o4 := hO6.bs; have hb4 := hb3.trans (b4.mono hs03)
      clear X3 Y3 Z3 A3' d3 hb3 b4
      go_wp2_with fail
      refine (same_eq a4 x4 rfl).mono ?_
      rintro e w5 ⟨rfl, q5⟩
      have y5 := y4.quiet q5; have z5 := z4.quiet q5; have d5 := d4.quiet q5; have o5 := o4.quiet q5; have O5 := hO6.quiet q5; have hb5 := below_quiet hb4 q5
      clear x4 y4 z4 a4 d4 o4 hb4 q5 hO6
      go_wp2_with fail
      refine (same_eq d5 y5 rfl).mono ?_
      rintro e w6 ⟨rfl, q6⟩
      have z6 := z5.quiet q6; have o6 := o5.quiet q6; have O6 := O5.quiet q6; have hb6 := below_quiet hb5 q6
      clear y5 z5 d5 o5 hb5 q6 O5
      rcases Nat.lt_or_ge n2 n3 with hin | hin
      · obtain ⟨g, rfl, -⟩ := O6.at_ (show 0 < n3 by omega)
        obtain ⟨g3, rfl, -⟩ := hO3.at_ (show 0 < n3 by omega)
        have p1 := o6.cap; have p2 := z6.cap
        have ob := o6.back (k := n2) (by omega); have zb := z6.back (k := n2) (by omega)
        rw [Nat.zero_add] at ob zb
        have k1 : (n2 : Int) ≤ c6 := by omega
        have k2 : (n2 : Int) ≤ c3 := by omega
        have k3 : (n2 : Int) ≤ n3 := by omega
        have k5 : ¬ c6 = n2 := by omega
        have k6 : ¬ c3 = n2 := by omega
        clear o6 z6 O6 hO3
        go_wp2_with fail
        go_quiet ((go_at_call 17; exact Calls.quiet_of (same_eq (ob.drewN _) (zb.drewN _) (by have := hdrop.out; rw [em.out] at this; exact this))))
        go_wp2
        go_ret
        exact ⟨rfl, below_drewN' hb6 _⟩
      · have p1 := o6.cap; have p2 := z6.cap
        have e3 : n3 = n2 := by omega
        subst e3
        have k1 : (n3 : Int) ≤ c6 := by omega
        have k2 : (n3 : Int) ≤ c3 := by omega
        clear o6 z6 O6 hO3
        by_cases k5 : c6 = n3 <;> by_cases k6 : c3 = n3
        all_goals
          go_wp2_with fail
          go_quiet ((go_at_call 17; exact Calls.quiet_of_same ((same_zero _ _ _ _ _).mono fun _ _ hh => ⟨hh.1, hh.2.symm⟩)))
          go_wp2
          go_ret
          exact ⟨rfl, below_drewN' hb6 _⟩
    · have em : Hid (min n1 n2 = n1) := Lib.hid (by omega)
      have l1 : n1 ≤ n3 := by omega
      clear hge
      refine (imXor_ok Z3 A3' d3 (Nat.le_refl _) HGE.out (by omega)).mono ?_
      rintro e w4 ⟨A6, c6, rfl, hO6, b4⟩
      rw [em.out]
      have hs4 := b4.size
      have x4 := (X3.below b4).more hs4; have y4 := (Y3.below b4).more hs4; have z4 := (Z3.below b4).more hs4; have a4 := (A3'.below b4).more hs4; have d4 := (d3.below b4).more hs4; have o4 := hO6.bs; have hb4 := hb3.trans (b4.mono hs03)
      clear X3 Y3 Z3 A3' d3 hb3 b4
      go_wp2_with fail
      refine (same_eq a4 x4 rfl).mono ?_
      rintro e w5 ⟨rfl, q5⟩
      have y5 := y4.quiet q5; have z5 := z4.quiet q5; have d5 := d4.quiet q5; have o5 := o4.quiet q5; have O5 := hO6.quiet q5; have hb5 := below_quiet hb4 q5
      clear x4 y4 z4 a4 d4 o4 hb4 q5 hO6
      go_wp2_with fail
      refine (same_eq d5 y5 rfl).mono ?_
      rintro e w6 ⟨rfl, q6⟩
      have z6 := z5.quiet q6; have o6 := o5.quiet q6; have O6 := O5.quiet q6; have hb6 := below_quiet hb5 q6
      clear y5 z5 d5 o5 hb5 q6 O5
      rcases Nat.lt_or_ge n1 n3 with hin | hin
      · obtain ⟨g, rfl, -⟩ := O6.at_ (show 0 < n3 by omega)
        obtain ⟨g3, rfl, -⟩ := hO3.at_ (show 0 < n3 by omega)
        have p1 := o6.cap; have p2 := z6.cap
        have ob := o6.back (k := n1) (by omega); have zb := z6.back (k := n1) (by omega)
        rw [Nat.zero_add] at ob zb
        have k1 : (n1 : Int) ≤ c6 := by omega
        have k2 : (n1 : Int) ≤ c3 := by omega
        have k3 : (n1 : Int) ≤ n3 := by omega
        have k5 : ¬ c6 = n1 := by omega
        have k6 : ¬ c3 = n1 := by omega
        clear o6 z6 O6 hO3
        go_wp2_with fail
        go_quiet ((go_at_call 17; exact Calls.quiet_of (same_eq (ob.drewN _) (zb.drewN _) (by have := hdrop.out; rw [em.out] at this; exact this))))
        go_wp2
        go_ret
        exact ⟨rfl, below_drewN' hb6 _⟩
      · have p1 := o6.cap; have p2 := z6.cap
        have e3 : n3 = n1 := by omega
        subst e3
        have k1 : (n3 : Int) ≤ c6 := by omega
        have k2 : (n3 : Int) ≤ c3 := by omega
        clear o6 z6 O6 hO3
        by_cases k5 : c6 = n3 <;> by_cases k6 : c3 = n3
        all_goals
          go_wp2_with fail
          go_quiet ((go_at_call 17; exact Calls.quiet_of_same ((same_zero _ _ _ _ _).mono fun _ _ hh => ⟨hh.1, hh.2.symm⟩)))
          go_wp2
          go_ret
          exact ⟨rfl, below_drewN' hb6 _⟩
end
end Go.Proofs.Ytfbngjhpmhiaoaa
