/- The contracts of the reference's Same, and of Compare, from the library's own text up to the thin package: they tell whether two lists of bytes are equal; no memory is changed. Condition: both slices read as bytes. -/
import Derived.Test.YtfbngjhpmhiaoaaBytes
import Derived.Test.YtfbngjhpmhiaoaaEq
import Derived.Deep.QuietTactic
import Derived.BigQuiet
namespace Go.Proofs.Ytfbngjhpmhiaoaa
open Go.RowKit

/-- Whether two lists are equal, as a Bool and as a number. -/
def sameB (xs ys : List Int) : Bool := decide (xs = ys)
def sameI (xs ys : List Int) : Int := if xs = ys then 1 else 0
theorem sameB_yes {xs ys : List Int} (h : xs = ys) : sameB xs ys = true := decide_eq_true h
theorem sameB_no {xs ys : List Int} (h : xs ≠ ys) : sameB xs ys = false := decide_eq_false h
theorem sameI_yes {xs ys : List Int} (h : xs = ys) : sameI xs ys = 1 := if_pos h
theorem sameI_no {xs ys : List Int} (h : xs ≠ ys) : sameI xs ys = 0 := if_neg h

theorem take_next (xs ys : List Int) (k : Nat) (hk : k < xs.length) (hk' : k < ys.length) : xs.take (k + 1) = ys.take (k + 1) ↔ xs.take k = ys.take k ∧ xs.getD k 0 = ys.getD k 0 := by
  rw [List.take_succ_eq_append_getElem hk, List.take_succ_eq_append_getElem hk']
  simp only [List.getD_eq_getElem?_getD, List.getElem?_eq_getElem hk, List.getElem?_eq_getElem hk', Option.getD_some]
  constructor
  · intro h
    have := List.append_inj' h rfl
    exact ⟨this.1, by simpa using this.2⟩
  · rintro ⟨h1, h2⟩
    rw [h1, h2]

set_option maxHeartbeats 1000000 in
theorem same_any {w : World} {B n1 c1 n2 c2 : Nat} {A1 A2 : Option Addr} {xs ys : List Int} (hx : Bs w B A1 n1 c1 xs) (hy : Bs w B A2 n2 c2 ys) :
    Calls Try.prog 17 #[.slice A1 n1 c1, .slice A2 n2 c2] w fun e w' => e = .returned (.bool (sameB xs ys)) ∧ ∃ m, w' = w.drewN m := by
  have l1 := hx.len
  have l2 := hy.len
  have t1 := hx.cap
  have t2 := hx.top
  unfold maxLen at t2
  by_cases hne : n1 = n2
  · subst hne
    have hR := Lib.hid l1; have hS := Lib.hid l2
    clear l1 l2
    go_enter Try.func17, Try.ntmps17
    go_wp2_with fail
    go_loopw [5] (fun i wr => ∃ k m : Nat, k ≤ n1 ∧ i = .int .i64 k ∧ xs.take k = ys.take k ∧ wr = w.drewN m) (fun i _ => n1 - (intOf i).toNat)
    case atStart => exact ⟨0, 0, by omega, rfl, rfl, rfl⟩
    case round =>
      obtain ⟨k, m, hk, rfl, heq, rfl⟩ := hrel
      have HEQ := Lib.hid heq
      clear heq
      by_cases hlt : k < n1
      · obtain ⟨b1, o1, rfl, hb1, hc1, x0, x1⟩ := hx.at_ hlt
        obtain ⟨b2, o2, rfl, hb2, hc2, y0, y1⟩ := hy.at_ hlt
        have hnx := Lib.hid (take_next xs ys k (by rw [hR.out]; exact hlt) (by rw [hS.out]; exact hlt))
        generalize xs.getD k 0 = x at hc1 x0 x1 hnx
        generalize ys.getD k 0 = y at hc2 y0 y1 hnx
        have i1 : (k : Int) < n1 := by omega
        by_cases hxy : x = y
        · have hk1 := Lib.hid (hnx.out.2 ⟨HEQ.out, hxy⟩)
          subst hxy
          clear hnx
          go_wp2_with fail
          go_quiet (fail)
          go_wp2
          go_roundw
          case rel => exact ⟨k + 1, _, by omega, by go_num, hk1.out, rfl⟩
          case measure => simp [intOf]; omega
        · have hf : sameB xs ys = false := sameB_no (fun e => hxy (hnx.out.1 (by rw [e])).2)
          have HF := Lib.hid hf
          have e1 : (x != y) = true := by rw [bne_iff_ne]; exact hxy
          clear hf hxy
          go_wp2_with fail
          go_quiet (fail)
          go_wp2
          go_ret
          exact ⟨by rw [HF.out]; rfl, _, World.drewN_drewN w _ _⟩
      · have hkn : k = n1 := by omega
        have hf : sameB xs ys = true := sameB_yes (by
          have := HEQ.out
          rwa [List.take_of_length_le (by rw [hR.out]; omega), List.take_of_length_le (by rw [hS.out]; omega)] at this)
        have HF := Lib.hid hf
        clear hf hkn
        go_wp2
        go_ret
        exact ⟨by rw [HF.out]; rfl, _, rfl⟩
  · have hf : sameB xs ys = false := sameB_no (fun e => hne (by rw [← l1, ← l2, e]))
    have HF := Lib.hid hf
    have e1 : ((n1 : Int) != (n2 : Int)) = true := by rw [bne_iff_ne]; omega
    clear hf l1 l2 hne
    go_enter Try.func17, Try.ntmps17
    go_wp2
    go_ret
    exact ⟨by rw [HF.out]; rfl, 0, rfl⟩

/-- One step of Compare's loop: it stays 0 exactly if it was 0 and both bytes are equal. -/
theorem orXor (v x y : Int) (v0 : 0 ≤ v) (v1 : v ≤ 255) (x0 : 0 ≤ x) (x1 : x ≤ 255) (y0 : 0 ≤ y) (y1 : y ≤ 255) : bits .or .u8 v (bits .xor .u8 x y) = 0 ↔ v = 0 ∧ x = y := by
  obtain ⟨v, rfl⟩ := Int.eq_ofNat_of_zero_le v0
  obtain ⟨x, rfl⟩ := Int.eq_ofNat_of_zero_le x0
  obtain ⟨y, rfl⟩ := Int.eq_ofNat_of_zero_le y0
  rw [u8_xor_nat x y (by omega) (by omega), u8_or_nat v (x ^^^ y) (by omega) (Nat.xor_lt_two_pow (n := 8) (by omega) (by omega))]
  constructor
  · intro h
    have h' : v ||| (x ^^^ y) = 0 := by omega
    obtain ⟨h1, h2⟩ := Nat.or_eq_zero_iff.1 h'
    have h3 : x ^^^ (x ^^^ y) = x ^^^ 0 := by rw [h2]
    rw [← Nat.xor_assoc, Nat.xor_self, Nat.zero_xor, Nat.xor_zero] at h3
    exact ⟨by omega, by rw [h3]⟩
  · rintro ⟨h1, h2⟩
    have e1 : v = 0 := by omega
    have e2 : x = y := by omega
    subst e1 e2
    simp
theorem or_u8_range (a b : Int) : 0 ≤ bits .or .u8 a b ∧ bits .or .u8 a b ≤ 255 := by
  show 0 ≤ IntKind.u8.wrap _ ∧ IntKind.u8.wrap _ ≤ 255
  rw [IntKind.wrap_u8']; omega

theorem ctByteEq_0 (v : Int) (h : v = 0) (w : World) : Calls Try.prog 35 #[.int .u8 v, .int .u8 0] w fun e w' => e = .returned (.int .i64 1) ∧ w = w' := by
  have ht := b2u_true
  subst h
  go_enter Try.func35, Try.ntmps35
  go_wp2
  go_ret
  exact ⟨rfl, rfl⟩
theorem ctByteEq_1 (v : Int) (h : v ≠ 0) (w : World) : Calls Try.prog 35 #[.int .u8 v, .int .u8 0] w fun e w' => e = .returned (.int .i64 0) ∧ w = w' := by
  have hf := b2u_false
  have h1 : (v == 0) = false := beq_eq_false_iff_ne.2 h
  clear h
  go_enter Try.func35, Try.ntmps35
  go_wp2
  go_ret
  exact ⟨rfl, rfl⟩
set_option maxHeartbeats 1000000 in
theorem fiCompare_any {w : World} {B n1 c1 n2 c2 : Nat} {A1 A2 : Option Addr} {xs ys : List Int} (hx : Bs w B A1 n1 c1 xs) (hy : Bs w B A2 n2 c2 ys) :
    Calls Try.prog 32 #[.slice A1 n1 c1, .slice A2 n2 c2] w fun e w' => e = .returned (.int .i64 (sameI xs ys)) ∧ ∃ m, w' = w.drewN m := by
  have l1 := hx.len
  have l2 := hy.len
  have t1 := hx.cap
  have t2 := hx.top
  unfold maxLen at t2
  by_cases hne : n1 = n2
  · subst hne
    have hR := Lib.hid l1; have hS := Lib.hid l2
    clear l1 l2
    go_enter Try.func32, Try.ntmps32
    go_wp2_with fail
    go_loopw [5, 6] (fun s i wr => ∃ (k m : Nat) (v : Int), k ≤ n1 ∧ i = .int .i64 k ∧ s = .int .u8 v ∧ 0 ≤ v ∧ v ≤ 255 ∧ Hid (v = 0 ↔ xs.take k = ys.take k) ∧ wr = w.drewN m) (fun _ i _ => n1 - (intOf i).toNat)
    case atStart => exact ⟨0, 0, 0, by omega, rfl, rfl, by omega, by omega, by simp [Hid], rfl⟩
    case round =>
      obtain ⟨k, m, v, hk, rfl, rfl, v0, v1, HEQ, rfl⟩ := hrel
      by_cases hlt : k < n1
      · obtain ⟨b1, o1, rfl, hb1, hc1, x0, x1⟩ := hx.at_ hlt
        obtain ⟨b2, o2, rfl, hb2, hc2, y0, y1⟩ := hy.at_ hlt
        have hnx := Lib.hid (take_next xs ys k (by rw [hR.out]; exact hlt) (by rw [hS.out]; exact hlt))
        generalize xs.getD k 0 = x at hc1 x0 x1 hnx
        generalize ys.getD k 0 = y at hc2 y0 y1 hnx
        have i1 : (k : Int) < n1 := by omega
        have hv := Lib.hid (orXor v x y v0 v1 x0 x1 y0 y1)
        go_wp2_with fail
        go_quiet (fail)
        go_wp2
        go_roundw
        case rel => exact ⟨k + 1, _, _, by omega, by go_num, rfl, (or_u8_range _ _).1, (or_u8_range _ _).2, by unfold Hid; rw [hv.out, hnx.out, HEQ.out], rfl⟩
        case measure => simp [intOf]; omega
      · have hkn : k = n1 := by omega
        have hiff := Lib.hid (show v = 0 ↔ xs = ys by
          have := HEQ.out
          rwa [List.take_of_length_le (by rw [hR.out]; omega), List.take_of_length_le (by rw [hS.out]; omega)] at this)
        clear hkn HEQ
        by_cases hv : v = 0
        · have HF := Lib.hid (sameI_yes (hiff.out.1 hv))
          have HV := Lib.hid hv
          clear hv
          go_wp2_with fail
          refine (ctByteEq_0 v HV.out _).mono ?_
          rintro e w' ⟨rfl, rfl⟩
          go_wp2
          go_ret
          exact ⟨by rw [HF.out]; rfl, _, rfl⟩
        · have HF := Lib.hid (sameI_no (fun e => hv (hiff.out.2 e)))
          have HV := Lib.hid hv
          clear hv
          go_wp2_with fail
          refine (ctByteEq_1 v HV.out _).mono ?_
          rintro e w' ⟨rfl, rfl⟩
          go_wp2
          go_ret
          exact ⟨by rw [HF.out]; rfl, _, rfl⟩
  · have HF := Lib.hid (sameI_no (xs := xs) (ys := ys) (fun e => hne (by rw [← l1, ← l2, e])))
    have e1 : ((n1 : Int) != (n2 : Int)) = true := by rw [bne_iff_ne]; omega
    clear l1 l2 hne
    go_enter Try.func32, Try.ntmps32
    go_wp2
    go_ret
    exact ⟨by rw [HF.out]; rfl, 0, rfl⟩

/-- impl.Compare: 1 if both lists are equal, and 0 otherwise. -/
theorem imCompare_any {w : World} {B n1 c1 n2 c2 : Nat} {A1 A2 : Option Addr} {xs ys : List Int} (hx : Bs w B A1 n1 c1 xs) (hy : Bs w B A2 n2 c2 ys) :
    Calls Try.prog 20 #[.slice A1 n1 c1, .slice A2 n2 c2] w fun e w' => e = .returned (.int .i64 (sameI xs ys)) ∧ ∃ m, w' = w.drewN m := by
  go_enter Try.func20, Try.ntmps20
  go_wp2_with (first | (go_at_call 32; refine (fiCompare_any hx hy).mono ?_; rintro e w' ⟨rfl, m, rfl⟩) | go_in)
  go_ret
  exact ⟨rfl, _, rfl⟩

/-- impl.Compare of two lists without bytes. -/
theorem imCompare_zero (A1 A2 : Option Addr) (c1 c2 : Nat) (w : World) : Calls Try.prog 20 #[.slice A1 0 c1, .slice A2 0 c2] w fun e w' => e = .returned (.int .i64 1) ∧ w = w' := by
  go_enter Try.func20, Try.ntmps20
  go_wp2_with (go_at_call 27; go_in)
  go_wp2_with (go_at_call 32; go_in)
  go_loopw [5, 6] (fun s i wr => i = .int .i64 0 ∧ s = .int .u8 0 ∧ w = wr) (fun _ _ _ => 0)
  case atStart => exact ⟨rfl, rfl, rfl⟩
  case round =>
    obtain ⟨rfl, rfl, rfl⟩ := hrel
    go_wp2_with (go_at_call 35; refine (ctByteEq_0 0 rfl _).mono ?_; rintro e w' ⟨rfl, rfl⟩)
    go_ret
    exact ⟨rfl, rfl⟩

/-- Nothing but draws of an order lies between two worlds. -/
def Quiet (w w' : World) : Prop := ∃ m, w' = w.drewN m
section
variable {w w' : World} {B n c base : Nat} {A : Option Addr} {xs : List Int}
theorem Bs.drewN (h : Bs w B A n c xs) (m : Nat) : Bs (w.drewN m) B A n c xs := ⟨h.len, h.cap, h.top, h.rng, h.nil, h.cells⟩
theorem Bs.quiet (h : Bs w B A n c xs) (q : Quiet w w') : Bs w' B A n c xs := by
  obtain ⟨m, rfl⟩ := q
  exact ⟨h.len, h.cap, h.top, h.rng, h.nil, h.cells⟩
theorem Own.quiet (h : Own w base A n c xs) (q : Quiet w w') : Own w' base A n c xs := by
  obtain ⟨m, rfl⟩ := q
  exact ⟨h.own, h.rng⟩
theorem below_quiet {a : World} (h : Below B a w) (q : Quiet w w') : Below B a w' := by
  obtain ⟨m, rfl⟩ := q
  exact ⟨h.os, h.tape, h.output, h.size, h.block⟩
theorem Quiet.drewN {a : World} (q : Quiet a w) (m : Nat) : Quiet a (w.drewN m) := by
  obtain ⟨k, rfl⟩ := q
  exact ⟨k + m, World.drewN_drewN a k m⟩
theorem quiet_size (q : Quiet w w') : w'.heap.size = w.heap.size := by
  obtain ⟨m, rfl⟩ := q
  rfl
end

section
variable {w : World} {B n1 c1 n2 c2 : Nat} {A1 A2 : Option Addr} {xs ys : List Int}
theorem same_eq (hx : Bs w B A1 n1 c1 xs) (hy : Bs w B A2 n2 c2 ys) (h : xs = ys) : Calls Try.prog 17 #[.slice A1 n1 c1, .slice A2 n2 c2] w fun e w' => e = .returned (.bool true) ∧ Quiet w w' := by
  refine (same_any hx hy).mono ?_
  rintro e w' ⟨rfl, hm⟩
  exact ⟨by rw [sameB_yes h], hm⟩
theorem same_ne (hx : Bs w B A1 n1 c1 xs) (hy : Bs w B A2 n2 c2 ys) (h : xs ≠ ys) : Calls Try.prog 17 #[.slice A1 n1 c1, .slice A2 n2 c2] w fun e w' => e = .returned (.bool false) ∧ Quiet w w' := by
  refine (same_any hx hy).mono ?_
  rintro e w' ⟨rfl, hm⟩
  exact ⟨by rw [sameB_no h], hm⟩
theorem imCompare_eq (hx : Bs w B A1 n1 c1 xs) (hy : Bs w B A2 n2 c2 ys) (h : xs = ys) : Calls Try.prog 20 #[.slice A1 n1 c1, .slice A2 n2 c2] w fun e w' => e = .returned (.int .i64 1) ∧ Quiet w w' := by
  refine (imCompare_any hx hy).mono ?_
  rintro e w' ⟨rfl, hm⟩
  exact ⟨by rw [sameI_yes h], hm⟩
theorem imCompare_ne (hx : Bs w B A1 n1 c1 xs) (hy : Bs w B A2 n2 c2 ys) (h : xs ≠ ys) : Calls Try.prog 20 #[.slice A1 n1 c1, .slice A2 n2 c2] w fun e w' => e = .returned (.int .i64 0) ∧ Quiet w w' := by
  refine (imCompare_any hx hy).mono ?_
  rintro e w' ⟨rfl, hm⟩
  exact ⟨by rw [sameI_no h], hm⟩
end
end Go.Proofs.Ytfbngjhpmhiaoaa
