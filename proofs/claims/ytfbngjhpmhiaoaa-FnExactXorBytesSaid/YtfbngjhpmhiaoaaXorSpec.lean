/- The contracts of the reference's Xor and XORBytes: the sum of two bytes, bit by bit; and what XORBytes leaves in a copy of the first list. Conditions: the numbers are bytes; the slices read as bytes, the first one of at most 140737488351232. -/
import Derived.Test.YtfbngjhpmhiaoaaSumMore
namespace Go.Proofs.Ytfbngjhpmhiaoaa
open Go.RowKit

theorem bit_xor (X Y k : Nat) : (X ^^^ Y) / 2 ^ k % 2 = if X / 2 ^ k % 2 = Y / 2 ^ k % 2 then 0 else 1 := by
  have h := Nat.testBit_xor X Y k
  simp only [Nat.testBit_eq_decide_div_mod_eq] at h
  have a := Nat.mod_two_eq_zero_or_one ((X ^^^ Y) / 2 ^ k)
  have b := Nat.mod_two_eq_zero_or_one (X / 2 ^ k)
  have c := Nat.mod_two_eq_zero_or_one (Y / 2 ^ k)
  rcases a with a | a <;> rcases b with b | b <;> rcases c with c | c <;> simp [a, b, c] at h ⊢
theorem xor_step (X Y k : Nat) : (X ^^^ Y) % 2 ^ (k + 1) = (X ^^^ Y) % 2 ^ k + if X / 2 ^ k % 2 = Y / 2 ^ k % 2 then 0 else 2 ^ k := by
  rw [Nat.mod_pow_succ, bit_xor]
  split <;> simp
theorem bit_test (x y : Int) (k : Nat) (x0 : 0 ≤ x) (y0 : 0 ≤ y) : ((x / 2 ^ k).tmod 2 != (y / 2 ^ k).tmod 2) = !decide (x.toNat / 2 ^ k % 2 = y.toNat / 2 ^ k % 2) := by
  obtain ⟨X, rfl⟩ := Int.eq_ofNat_of_zero_le x0
  obtain ⟨Y, rfl⟩ := Int.eq_ofNat_of_zero_le y0
  have e : ∀ Z : Nat, ((Z : Int) / 2 ^ k).tmod 2 = ((Z / 2 ^ k % 2 : Nat) : Int) := fun Z => by
    have h1 : (Z : Int) / 2 ^ k = ((Z / 2 ^ k : Nat) : Int) := by simp
    rw [h1, Int.tmod_eq_emod_of_nonneg (Int.natCast_nonneg _)]
    rfl
  rw [e, e, Int.toNat_natCast, Int.toNat_natCast]
  generalize X / 2 ^ k % 2 = p
  generalize Y / 2 ^ k % 2 = q
  by_cases hpq : p = q
  · subst hpq; simp
  · have h2 : ¬ (p : Int) = (q : Int) := by omega
    simp [hpq, h2]

/-- The sum as far as its first k bits go. -/
def xorTo (x y : Int) (k : Nat) : Int := (((x.toNat ^^^ y.toNat) % 2 ^ k : Nat) : Int)
theorem xorTo_same (x y : Int) (k : Nat) (h : x.toNat / 2 ^ k % 2 = y.toNat / 2 ^ k % 2) : xorTo x y (k + 1) = xorTo x y k := by
  unfold xorTo
  rw [xor_step, if_pos h]
  rfl
theorem xorTo_other (x y : Int) (k : Nat) (h : ¬ x.toNat / 2 ^ k % 2 = y.toNat / 2 ^ k % 2) : xorTo x y (k + 1) = xorTo x y k + 2 ^ k := by
  unfold xorTo
  rw [xor_step, if_neg h]
  simp
theorem xorTo_8 (x y : Int) (x0 : 0 ≤ x) (x1 : x ≤ 255) (y0 : 0 ≤ y) (y1 : y ≤ 255) : xorTo x y 8 = xorI x y := by
  unfold xorTo xorI
  rw [Nat.mod_eq_of_lt (Nat.xor_lt_two_pow (by omega) (by omega))]
theorem xorTo_range (x y : Int) (k : Nat) (hk : k ≤ 8) : 0 ≤ xorTo x y k ∧ xorTo x y k ≤ 255 := by
  unfold xorTo
  have h1 : (x.toNat ^^^ y.toNat) % 2 ^ k < 2 ^ k := Nat.mod_lt _ (Nat.two_pow_pos k)
  have h2 : 2 ^ k ≤ 2 ^ 8 := Nat.pow_le_pow_right (by omega) hk
  omega

set_option maxHeartbeats 1000000 in
theorem spXor_any (x y : Int) (x0 : 0 ≤ x) (x1 : x ≤ 255) (y0 : 0 ≤ y) (y1 : y ≤ 255) (w : World) :
    Calls Try.prog 28 #[.int .u8 x, .int .u8 y] w fun e w' => e = .returned (.int .u8 (xorI x y)) ∧ Quiet w w' := by
  have h8 := Lib.hid (xorTo_8 x y x0 x1 y0 y1)
  go_enter Try.func28, Try.ntmps28
  go_wp2_with fail
  go_loopw [5, 6] (fun s i wr => ∃ (k : Nat) (a : Int), k ≤ 8 ∧ i = .int .i64 k ∧ s = .int .i64 a ∧ Hid (a = xorTo x y k) ∧ Quiet w wr) (fun _ i _ => 8 - (intOf i).toNat)
  case atStart => exact ⟨0, 0, by omega, rfl, rfl, Lib.hid (by simp [xorTo, Nat.mod_one]), 0, rfl⟩
  case round =>
    obtain ⟨k, a, hk, rfl, rfl, ha, qr⟩ := hrel
    have hr := xorTo_range x y k hk
    rw [← ha.out] at hr
    obtain ⟨a0, a1⟩ := hr
    by_cases hlt : k < 8
    · have hp := pow_bounds k 7 (by omega)
      obtain ⟨p0, p1⟩ := hp
      have p2 : (2 : Int) ^ k ≤ 128 := p1
      clear p1
      by_cases hb : x.toNat / 2 ^ k % 2 = y.toNat / 2 ^ k % 2
      · have ht : ((x / 2 ^ k).tmod 2 != (y / 2 ^ k).tmod 2) = false := by rw [bit_test x y k x0 y0]; simp [hb]
        have hn := Lib.hid (xorTo_same x y k hb)
        clear hb
        go_wp2_with fail
        go_quiet (fail)
        go_wp2
        go_roundw
        case rel => exact ⟨k + 1, _, by omega, by go_num, rfl, Lib.hid (by rw [hn.out, ha.out]), qr.drewN _⟩
        case measure => simp [intOf]; omega
      · have ht : ((x / 2 ^ k).tmod 2 != (y / 2 ^ k).tmod 2) = true := by rw [bit_test x y k x0 y0]; simp [hb]
        have hn := Lib.hid (xorTo_other x y k hb)
        clear hb
        go_wp2_with fail
        go_quiet (fail)
        go_wp2
        go_roundw
        case rel => exact ⟨k + 1, _, by omega, by go_num, rfl, Lib.hid (by rw [hn.out, ha.out]), qr.drewN _⟩
        case measure => simp [intOf]; omega
    · have hk8 : k = 8 := by omega
      subst hk8
      have hv := Lib.hid (ha.out.trans h8.out)
      clear ha
      go_wp2
      go_ret
      exact ⟨congrArg (fun n => Ending.returned (.int .u8 n)) hv.out, qr⟩

theorem xor_set (ds zs : List Int) (k : Nat) (hk : k < zs.length) (hd : zs.length ≤ ds.length) : (zs.take k ++ ds.drop k).set k (zs.getD k 0) = zs.take (k + 1) ++ ds.drop (k + 1) := by
  rw [List.set_append_right _ _ (by rw [List.length_take]; omega)]
  rw [List.length_take, Nat.min_eq_left (by omega), Nat.sub_self, List.drop_eq_getElem_cons (show k < ds.length by omega), List.set_cons_zero, List.take_succ_eq_append_getElem hk, List.getD_eq_getElem?_getD, List.getElem?_eq_getElem hk, List.append_assoc]
  rfl
theorem xorL_at (xs ys : List Int) (k : Nat) (h1 : k < xs.length) (h2 : k < ys.length) : (xorL xs ys).getD k 0 = xorI (xs.getD k 0) (ys.getD k 0) := by
  unfold xorL
  simp [List.getD_eq_getElem?_getD, List.getElem?_zipWith, List.getElem?_eq_getElem h1, List.getElem?_eq_getElem h2]

theorem quiet_cell {w w' : World} (q : Quiet w w') (a : Addr) : w'.cell? a = w.cell? a := by
  obtain ⟨m, rfl⟩ := q
  rfl
theorem quiet_frozen {w w' : World} (q : Quiet w w') (a : Addr) : w'.frozen? a = w.frozen? a := by
  obtain ⟨m, rfl⟩ := q
  rfl

section
variable {w : World} {B nd c0 nx cx ny cy : Nat} {A0 A1 A2 : Option Addr} {ds xs ys : List Int}

set_option maxHeartbeats 4000000 in
/-- The reference's XORBytes where the copy is long enough, m being the lesser length. -/
theorem spXORBytes_core (m : Nat) (hm : (m = nx ∧ nx ≤ ny) ∨ (m = ny ∧ ny < nx)) (hd : Bs w B A0 nd c0 ds) (hx : Bs w B A1 nx cx xs) (hy : Bs w B A2 ny cy ys) (hB : B ≤ w.heap.size) (hn : m ≤ nd) (h31 : nd ≤ 140737488351232) :
    Calls Try.prog 21 #[.slice A0 nd c0, .slice A1 nx cx, .slice A2 ny cy] w fun e w' => ∃ A' c', e = .returned (.tuple #[.int .i64 (m : Int), .slice A' nd c', .bool false]) ∧ Own w' w.heap.size A' nd c' (sumL ds xs ys) ∧ Below w.heap.size w w' := by
  have lx := Lib.hid hx.len; have ly := Lib.hid hy.len; have ld := Lib.hid hd.len
  have lz : Hid ((xorL xs ys).length = m) := Lib.hid (by rw [xorL_len, lx.out, ly.out]; omega)
  have hsum : Hid ((xorL xs ys).take m ++ ds.drop m = sumL ds xs ys) := Lib.hid (by unfold sumL; rw [lz.out, List.take_of_length_le (by rw [lz.out]; exact Nat.le_refl _)])
  have hdm : Hid (decide (nd < m) = false) := Lib.hid (by simp; omega)
  have hmx : m ≤ nx := by omega
  have hmy : m ≤ ny := by omega
  rcases hm with ⟨rfl, hle⟩ | ⟨rfl, hle⟩
  all_goals
    go_enter Try.func21, Try.ntmps21
    go_wp2_with (at_builtin; refine wpList_clone rfl _ _ rfl rfl rfl hd hB h31 ?_; intro A' c' w1 hO1 b1)
    have x1 := (hx.more hB).below b1; have y1 := (hy.more hB).below b1; have hs1 := b1.size
    go_loopw [11] (fun i wr => ∃ k : Nat, k ≤ m ∧ i = .int .i64 k ∧ Own wr w.heap.size A' nd c' ((xorL xs ys).take k ++ ds.drop k) ∧ Below w.heap.size w wr) (fun i _ => m - (intOf i).toNat)
    case atStart => exact ⟨0, by omega, rfl, by simpa using hO1, b1⟩
    case round =>
      obtain ⟨k, hk, rfl, hown, hbr⟩ := hrel
      by_cases hlt : k < m
      · obtain ⟨b1', o1, rfl, hbb1, hc1, u0, u1⟩ := ((hx.more hB).below hbr).at_ (show k < _ by omega)
        obtain ⟨b2', o2, rfl, hbb2, hc2, v0, v1⟩ := ((hy.more hB).below hbr).at_ (show k < _ by omega)
        obtain ⟨g, rfl, hg0, hg1, hc3, hf3, -⟩ := hown.at_ (show k < nd by omega)
        have hset := Lib.hid (xor_set ds (xorL xs ys) k (by rw [lz.out]; exact hlt) (by rw [lz.out, ld.out]; exact hn))
        rw [xorL_at xs ys k (by rw [lx.out]; omega) (by rw [ly.out]; omega)] at hset
        generalize ((xorL xs ys).take k ++ ds.drop k).getD k 0 = t at hc3
        generalize xs.getD k 0 = u at hc1 u0 u1 hset
        generalize ys.getD k 0 = v at hc2 v0 v1 hset
        have i1 : (k : Int) < nd := by omega
        have i2 : (k : Int) < m := by omega
        have HR := Lib.hid (xorI_range u v u0 u1 v0 v1)
        go_wp2_with fail
        go_region_with (go_at_call 28; refine (spXor_any u v u0 u1 v0 v1 _).mono ?_; rintro e w5 ⟨rfl, q5⟩; have hc5 : w5.cell? ⟨g, k, none⟩ = some (.int .u8 t) := (quiet_cell q5 _).trans hc3; have hf5 : w5.frozen? ⟨g, k, none⟩ = false := (quiet_frozen q5 _).trans hf3; have O5 := (hown.drew).quiet q5; have hb5 := below_quiet hbr.drew q5)
        all_goals
          have O6 := O5.store k (xorI u v) HR.out.1 HR.out.2
          rw [hset.out] at O6
          have hb6 := hb5.setCell (p := ⟨g, k, none⟩) hg0 (.int .u8 (xorI u v))
          clear hc5 hf5 hc3 hf3 hc1 hc2
          go_wp2
          go_roundw
          case rel => first | exact ⟨k + 1, by omega, by go_num, O6, hb6⟩ | ((repeat apply Exists.intro); refine ⟨⟨k + 1, by omega, by go_num, O6, hb6⟩, ?_⟩; rw [hdm.out]; rfl)
          case measure => simp [intOf]; omega
      · have hkm : k = m := by omega
        subst hkm
        rw [hsum.out] at hown
        clear hsum
        go_wp2
        go_ret3
        exact ⟨A', c', rfl, hown, hbr⟩
end
end Go.Proofs.Ytfbngjhpmhiaoaa
