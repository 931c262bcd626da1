/- The walk of the law FnListSelf over Compare: it returns true, and nothing that was there before the call has changed. Condition: the list from which is drawn reads as bytes. -/
import Derived.Test.YtldaklchbdfomaaListLaws
namespace Go.Proofs.Ytldaklchbdfomaa
open Go.RowKit
theorem set_differs (xs : List Int) (k : Nat) (y : Int) (hk : k < xs.length) (h : xs.getD k 0 ≠ y) : xs ≠ xs.set k y := by
  intro e
  apply h
  have : (xs.set k y).getD k 0 = y := by simp [List.getD_eq_getElem?_getD, hk]
  rw [← e] at this
  exact this

section
variable {w : World} {A : Option Addr} {len cap : Nat} {zs : List Int}
set_option maxHeartbeats 2000000 in
theorem listSelf (h : IsRow .u8 w A len cap zs) : Calls Try.prog 7 #[.slice A len cap] w fun e w' => e = .returned (.bool true) ∧ Below w.heap.size w w' := by
  go_enter Try.func7, Try.ntmps7
  go_wp2_with fail
  refine (dLists_any h).mono ?_
  rintro e w1 ⟨A1, n1, c1, xs, A2, n2, c2, ys, A3, n3, c3, zs, rfl, hO1, hO2, hO3, hn1, hn2, hn3, hb1⟩
  have x1 := hO1.bs
  have hs1 := hb1.size
  clear h hO1 hO2 hO3
  go_wp2_with fail
  refine (imCompare_eq x1 x1 rfl).mono ?_
  rintro e w2 ⟨rfl, q2⟩
  have x2 := x1.quiet q2; have hb2 := below_quiet hb1 q2
  have hz2 := quiet_size q2
  rw [← hz2] at x2 hs1
  clear x1 hb1 q2 hz2
  go_wp2_with (first
    | (at_builtin; refine wpList_clone rfl (.tmp 20) (.tmp 21) rfl rfl rfl x2 (Nat.le_refl _) (by omega) ?_; intro A4 c4 w3 hO4 b3; have x3 := x2.below b3; have hs3 := b3.size; have hb3 := hb2.trans (b3.mono hs1); clear x2 hb2 b3)
    | (at_builtin; refine wpList_app1 rfl (.tmp 22) (.tmp 23) rfl rfl hO4 0 (by omega) (by omega) rfl (by omega) hs3 ?_; intro A5 c5 w4 hO5 g4; have hb4' : Below w2.heap.size w3 w4 := (Below.refl _ _).grown g4 hs3 (fun k hk => (hO4.lt k hk).1); have x4 := x3.below hb4'; have hb4 := hb3.trans (hb4'.mono hs1); have hs4 := hb4'.size; clear x3 hb3 hb4' g4 hO4))
  have l1 := x4.len
  refine (imCompare_ne (x4.more (show w2.heap.size ≤ w4.heap.size by omega)) hO5.bs (fun e => by have := congrArg List.length e; simp at this)).mono ?_
  rintro e w5 ⟨rfl, q5⟩
  have x5 := x4.quiet q5; have hb5 := below_quiet hb4 q5
  have hz5 := quiet_size q5
  have hs5 : w2.heap.size ≤ w5.heap.size := by omega
  clear x4 hb4 q5 hO5 hz5
  have hR := Lib.hid l1
  clear l1
  go_wp2_with fail
  go_loopw [6] (fun i wr => ∃ k : Nat, k ≤ n1 ∧ i = .int .i64 k ∧ Bs wr w2.heap.size A1 n1 c1 xs ∧ Below w.heap.size w wr ∧ w2.heap.size ≤ wr.heap.size) (fun i _ => n1 - (intOf i).toNat)
  case atStart => exact ⟨0, by omega, rfl, x5, hb5, hs5⟩
  case round =>
    obtain ⟨k, hk, rfl, xr, hbr, hsr⟩ := hrel
    by_cases hlt : k < n1
    · go_wp2_with (at_builtin; refine wpList_clone rfl (.tmp 34) (.tmp 35) rfl rfl rfl xr hsr (by omega) ?_; intro A6 c6 w6 hO6 b6)
      have x6 := xr.below (b6.mono hsr); have hs6 := b6.size; have hb6 := hbr.trans (b6.mono (by omega))
      obtain ⟨g, rfl, hg0, hg1, hc, hf, v0, v1⟩ := hO6.at_ hlt
      generalize hval : xs.getD k 0 = x at hc v0 v1
      have HV := Lib.hid hval
      clear hval
      have i1 : (k : Int) < n1 := by omega
      go_region
      all_goals
        have hne := Lib.hid (flip_bit_u8 x (k % 8) (by omega))
        have y0 := xor_u8_range x (2 ^ (k % 8) % 256)
        generalize bits .xor .u8 x (2 ^ (k % 8) % 256) = y at hne y0
        have hO7 := (hO6.store k y y0.1 y0.2).drew
        have G7 := (grown_set w6 g k (.int .u8 y)).trans (grown_drew (w := w6.setCell ⟨g, k, none⟩ (.int .u8 y)) (some g))
        have x7 := x6.grown G7 (by omega) (fun q hq => by injection hq with hq; omega)
        have hb7 := hb6.grown G7 hb6.size (fun q hq => by injection hq with hq; have := hbr.size; omega)
        have hs7 := G7.size
        have hdiff := Lib.hid (set_differs xs k y (by rw [hR.out]; exact hlt) (by rw [HV.out]; exact hne.out))
        generalize (w6.setCell ⟨g, k, none⟩ (.int .u8 y)).drew = w7 at hO7 x7 hb7 hs7 ⊢
        clear hc hf G7 x6 hb6 hO6 b6 xr hbr hne HV
        go_wp2_with fail
        refine (imCompare_ne (x7.more (show w2.heap.size ≤ w7.heap.size by omega)) hO7.bs hdiff.out).mono ?_
        rintro e w8 ⟨rfl, q8⟩
        have x8 := x7.quiet q8; have hb8 := below_quiet hb7 q8
        have hz8 := quiet_size q8
        have hs8 : w2.heap.size ≤ w8.heap.size := by omega
        clear x7 hb7 q8 hO7 hz8
        go_wp2
        go_roundw
        case rel => exact ⟨k + 1, by omega, by go_num, x8, hb8, hs8⟩
        case measure => simp [intOf]; omega
    · go_wp2
      go_ret
      exact ⟨rfl, hbr⟩
end
end Go.Proofs.Ytldaklchbdfomaa
