/- The walks of the exact laws over Compare and Copy: each returns true, and nothing that was there before the call has changed. Conditions: the lists read as bytes; for Copy, of at most 140737488351232 bytes each. -/
import Derived.Test.YtldaklchbdfomaaCmp
import Derived.Test.YtldaklchbdfomaaCopy
namespace Go.Proofs.Ytldaklchbdfomaa
open Go.RowKit

theorem spCompare_any {w : World} {B n1 c1 n2 c2 : Nat} {A1 A2 : Option Addr} {xs ys : List Int} (hx : Bs w B A1 n1 c1 xs) (hy : Bs w B A2 n2 c2 ys) :
    Calls Try.prog 21 #[.slice A1 n1 c1, .slice A2 n2 c2] w fun e w' => e = .returned (.int .i64 (sameI xs ys)) ∧ Quiet w w' := by
  by_cases h : xs = ys
  · have H := Lib.hid h
    have HF := Lib.hid (sameI_yes h)
    clear h
    go_enter Try.func21, Try.ntmps21
    go_wp2_with fail
    refine (same_eq hx hy H.out).mono ?_
    rintro e w2 ⟨rfl, q2⟩
    go_wp2
    go_ret
    exact ⟨by rw [HF.out]; rfl, q2⟩
  · have H := Lib.hid h
    have HF := Lib.hid (sameI_no h)
    clear h
    go_enter Try.func21, Try.ntmps21
    go_wp2_with fail
    refine (same_ne hx hy H.out).mono ?_
    rintro e w2 ⟨rfl, q2⟩
    go_wp2
    go_ret
    exact ⟨by rw [HF.out]; rfl, q2⟩

theorem exactCompare {w : World} {A1 A2 : Option Addr} {n1 c1 n2 c2 : Nat} {z1 z2 : List Int} (h1 : IsRow .u8 w A1 n1 c1 z1) (h2 : IsRow .u8 w A2 n2 c2 z2) :
    Calls Try.prog 5 #[.slice A1 n1 c1, .slice A2 n2 c2] w fun e w' => e = .returned (.bool true) ∧ Below w.heap.size w w' := by
  have x1 := Bs.of_row h1; have y1 := Bs.of_row h2
  clear h1 h2
  generalize z1.take n1 = xs at x1
  generalize z2.take n2 = ys at y1
  have hb1 := Below.refl w.heap.size w
  go_enter Try.func5, Try.ntmps5
  go_wp2_with fail
  refine (imCompare_any x1 y1).mono ?_
  rintro e w2 ⟨rfl, q2⟩
  have x2 := x1.quiet q2; have y2 := y1.quiet q2; have hb2 := below_quiet hb1 q2
  clear x1 y1 hb1 q2
  go_wp2_with fail
  refine (spCompare_any x2 y2).mono ?_
  rintro e w3 ⟨rfl, q3⟩
  have hb3 := below_quiet hb2 q3
  clear x2 y2 hb2 q3
  go_wp2
  go_ret
  exact ⟨rfl, hb3⟩

set_option maxHeartbeats 2000000 in
/-- The reference's Copy: for 1 the second list, else the first one, in new memory. -/
theorem spCopy_any {w : World} {B n c1 c2 : Nat} {A1 A2 : Option Addr} {xs ys : List Int} (v : Int) (hv : v = 0 ∨ v = 1) (hx : Bs w B A1 n c1 xs) (hy : Bs w B A2 n c2 ys) (hB : B ≤ w.heap.size) (hn : n ≤ 140737488351232) (us : List Int) (hu : us = if v = 1 then ys else xs) :
    Calls Try.prog 20 #[.int .i64 v, .slice A1 n c1, .slice A2 n c2] w fun e w' => ∃ A' c', e = .returned (.slice A' n c') ∧ Own w' w.heap.size A' n c' us ∧ Below w.heap.size w w' := by
  have hR := Lib.hid hx.len; have hS := Lib.hid hy.len
  have hO : Own (w.alloc (.cells #[] 5)) w.heap.size (some ⟨w.heap.size, 0, none⟩) 0 0 [] := Own.made w (Nat.le_refl _)
  have hb0 : Below w.heap.size w (w.alloc (.cells #[] 5)) := (Below.refl _ _).alloc (Nat.le_refl _) _
  have HU := Lib.hid hu
  clear hu
  go_enter Try.func20, Try.ntmps20
  go_wp2_with fail
  go_loopw [7, 8] (fun s i wr => ∃ (k c' : Nat) (A' : Option Addr), k ≤ n ∧ i = .int .i64 k ∧ s = .slice A' k c' ∧ Own wr w.heap.size A' k c' (us.take k) ∧ Below w.heap.size w wr) (fun _ i _ => n - (intOf i).toNat)
  case atStart => exact ⟨0, 0, _, by omega, rfl, rfl, by simpa using hO, hb0⟩
  case round =>
    obtain ⟨k, c', A', hk, rfl, rfl, hown, hbr⟩ := hrel
    have hsr := hbr.size
    by_cases hlt : k < n
    · obtain ⟨b1, o1, rfl, hb1, hc1, x0, x1⟩ := ((hx.more hB).below hbr).at_ hlt
      obtain ⟨b2, o2, rfl, hb2, hc2, y0, y1⟩ := ((hy.more hB).below hbr).at_ hlt
      have hnx : Hid (us.take k ++ [us.getD k 0] = us.take (k + 1)) := Lib.hid (by
        have hl : k < us.length := by
          rw [HU.out]
          split
          · rw [hS.out]; exact hlt
          · rw [hR.out]; exact hlt
        rw [List.take_succ_eq_append_getElem hl, List.getD_eq_getElem?_getD, List.getElem?_eq_getElem hl]
        rfl)
      have i1 : (k : Int) < n := by omega
      rcases hv with hv | hv
      · subst hv
        have hg : Hid (us.getD k 0 = xs.getD k 0) := Lib.hid (by rw [HU.out]; rfl)
        rw [hg.out] at hnx
        generalize xs.getD k 0 = x at hc1 x0 x1 hnx hg
        go_wp2_with (at_builtin; refine wpList_app1 rfl _ _ rfl rfl hown x x0 x1 rfl (by omega) hsr ?_; intro A4 c4 w4 hO4 g4)
        rw [hnx.out] at hO4
        have hb4 := hbr.grown g4 hsr (fun q hq => (hown.lt q hq).1)
        go_roundw
        case rel => exact ⟨k + 1, c4, A4, by omega, by go_num, rfl, hO4, hb4⟩
        case measure => simp [intOf]; omega
      · subst hv
        have hg : Hid (us.getD k 0 = ys.getD k 0) := Lib.hid (by rw [HU.out]; rfl)
        rw [hg.out] at hnx
        generalize ys.getD k 0 = x at hc2 y0 y1 hnx hg
        go_wp2_with (at_builtin; refine wpList_app1 rfl _ _ rfl rfl hown x y0 y1 rfl (by omega) hsr ?_; intro A4 c4 w4 hO4 g4)
        rw [hnx.out] at hO4
        have hb4 := hbr.grown g4 hsr (fun q hq => (hown.lt q hq).1)
        go_roundw
        case rel => exact ⟨k + 1, c4, A4, by omega, by go_num, rfl, hO4, hb4⟩
        case measure => simp [intOf]; omega
    · have hkn : k = n := by omega
      subst hkn
      have hul : us.length ≤ k := by
        rw [HU.out]
        split
        · rw [hS.out]; omega
        · rw [hR.out]; omega
      rw [List.take_of_length_le hul] at hown
      clear hul
      go_wp2
      go_ret
      exact ⟨A', c', rfl, hown, hbr⟩
set_option maxHeartbeats 2000000 in
theorem exactCopy {w : World} {A1 A2 : Option Addr} {n1 c1 n2 c2 : Nat} {z1 z2 : List Int} (h1 : IsRow .u8 w A1 n1 c1 z1) (h2 : IsRow .u8 w A2 n2 c2 z2) (r1 : c1 ≤ 140737488351232) (r2 : c2 ≤ 140737488351232) :
    Calls Try.prog 4 #[.slice A1 n1 c1, .slice A2 n2 c2] w fun e w' => e = .returned (.bool true) ∧ Below w.heap.size w w' := by
  have x1 := Bs.of_row h1; have y1 := Bs.of_row h2
  have p1 := x1.cap; have p2 := y1.cap
  clear h1 h2
  generalize z1.take n1 = xs at x1
  generalize z2.take n2 = ys at y1
  go_enter Try.func4, Try.ntmps4
  rcases Nat.lt_or_ge n2 n1 with hlt | hlt
  · have f1 := x1.front (k := n2) (by omega); have f2 := y1.front (k := n2) (by omega)
    generalize xs.take n2 = us at f1
    generalize ys.take n2 = vs at f2
    have k1 : ((n2 : Nat) : Int) ≤ c1 := by omega
    have k2 : ((n2 : Nat) : Int) ≤ c2 := by omega
    clear x1 y1
    go_wp2_with fail
    refine (imCopy0 f1 f2 (Nat.le_refl _) (by omega)).mono ?_
    rintro e w2 ⟨A3, c3, rfl, hO3, b2⟩
    have g1 := (f1.below b2).more b2.size; have g2 := (f2.below b2).more b2.size; have o3 := hO3.bs; have hs2 := b2.size
    clear f1 f2 hO3
    go_wp2_with fail
    refine (spCopy_any 0 (.inl rfl) g1 g2 (Nat.le_refl _) (by omega) us rfl).mono ?_
    rintro e w3 ⟨A4, c4, rfl, hO4, b3⟩
    have f1 := (g1.below b3).more b3.size; have f2 := (g2.below b3).more b3.size; have p3 := (o3.below b3).more b3.size; have o4 := hO4.bs; have hb3 := b2.trans (b3.mono hs2); have hs3 := b3.size
    clear g1 g2 o3 hO4 b2 b3
    go_wp2_with fail
    refine (same_eq p3 o4 rfl).mono ?_
    rintro e w4 ⟨rfl, q4⟩
    have g1 := f1.quiet q4; have g2 := f2.quiet q4; have hb4 := below_quiet hb3 q4; have hz4 := quiet_size q4
    rw [← hz4] at g1 g2
    have hs4 : w.heap.size ≤ w4.heap.size := by omega
    clear f1 f2 p3 o4 hb3 q4 hz4
    go_wp2_with fail
    refine (imCopy1 g1 g2 (Nat.le_refl _) (by omega)).mono ?_
    rintro e w5 ⟨A5, c5, rfl, hO5, b5⟩
    have f1 := (g1.below b5).more b5.size; have f2 := (g2.below b5).more b5.size; have o5 := hO5.bs; have hb5 := hb4.trans (b5.mono hs4); have hs5 := b5.size
    clear g1 g2 hO5 b5 hb4
    go_wp2_with fail
    refine (spCopy_any 1 (.inr rfl) f1 f2 (Nat.le_refl _) (by omega) vs rfl).mono ?_
    rintro e w6 ⟨A6, c6, rfl, hO6, b6⟩
    have p5 := (o5.below b6).more b6.size; have o6 := hO6.bs; have hb6 := hb5.trans (b6.mono (by omega))
    clear f1 f2 o5 hO6 b6 hb5
    go_wp2_with fail
    refine (same_eq p5 o6 rfl).mono ?_
    rintro e w7 ⟨rfl, q7⟩
    have hb7 := below_quiet hb6 q7
    clear p5 o6 hb6 q7
    go_wp2
    go_ret
    exact ⟨rfl, hb7⟩
  · have f1 := x1.front (k := n1) (by omega); have f2 := y1.front (k := n1) (by omega)
    generalize xs.take n1 = us at f1
    generalize ys.take n1 = vs at f2
    have k1 : ((n1 : Nat) : Int) ≤ c1 := by omega
    have k2 : ((n1 : Nat) : Int) ≤ c2 := by omega
    clear x1 y1
    go_wp2_with fail
    refine (imCopy0 f1 f2 (Nat.le_refl _) (by omega)).mono ?_
    rintro e w2 ⟨A3, c3, rfl, hO3, b2⟩
    have g1 := (f1.below b2).more b2.size; have g2 := (f2.below b2).more b2.size; have o3 := hO3.bs; have hs2 := b2.size
    clear f1 f2 hO3
    go_wp2_with fail
    refine (spCopy_any 0 (.inl rfl) g1 g2 (Nat.le_refl _) (by omega) us rfl).mono ?_
    rintro e w3 ⟨A4, c4, rfl, hO4, b3⟩
    have f1 := (g1.below b3).more b3.size; have f2 := (g2.below b3).more b3.size; have p3 := (o3.below b3).more b3.size; have o4 := hO4.bs; have hb3 := b2.trans (b3.mono hs2); have hs3 := b3.size
    clear g1 g2 o3 hO4 b2 b3
    go_wp2_with fail
    refine (same_eq p3 o4 rfl).mono ?_
    rintro e w4 ⟨rfl, q4⟩
    have g1 := f1.quiet q4; have g2 := f2.quiet q4; have hb4 := below_quiet hb3 q4; have hz4 := quiet_size q4
    rw [← hz4] at g1 g2
    have hs4 : w.heap.size ≤ w4.heap.size := by omega
    clear f1 f2 p3 o4 hb3 q4 hz4
    go_wp2_with fail
    refine (imCopy1 g1 g2 (Nat.le_refl _) (by omega)).mono ?_
    rintro e w5 ⟨A5, c5, rfl, hO5, b5⟩
    have f1 := (g1.below b5).more b5.size; have f2 := (g2.below b5).more b5.size; have o5 := hO5.bs; have hb5 := hb4.trans (b5.mono hs4); have hs5 := b5.size
    clear g1 g2 hO5 b5 hb4
    go_wp2_with fail
    refine (spCopy_any 1 (.inr rfl) f1 f2 (Nat.le_refl _) (by omega) vs rfl).mono ?_
    rintro e w6 ⟨A6, c6, rfl, hO6, b6⟩
    have p5 := (o5.below b6).more b6.size; have o6 := hO6.bs; have hb6 := hb5.trans (b6.mono (by omega))
    clear f1 f2 o5 hO6 b6 hb5
    go_wp2_with fail
    refine (same_eq p5 o6 rfl).mono ?_
    rintro e w7 ⟨rfl, q7⟩
    have hb7 := below_quiet hb6 q7
    clear p5 o6 hb6 q7
    go_wp2
    go_ret
    exact ⟨rfl, hb7⟩
end Go.Proofs.Ytldaklchbdfomaa
