/- Plain facts on sums of lists of bytes, and what make([]byte, n) gives. Conditions: the numbers are bytes; n is at most 140737488351232. -/
import Derived.Test.YtfbngjhpmhiaoaaXorIm
import Derived.Deep.OwnRows
namespace Go.Proofs.Ytfbngjhpmhiaoaa
open Go.RowKit

theorem xorI_comm (x y : Int) : xorI x y = xorI y x := by unfold xorI; rw [Nat.xor_comm]
theorem xorI_assoc (x y z : Int) : xorI (xorI x y) z = xorI x (xorI y z) := by unfold xorI; simp only [Int.toNat_natCast, Nat.xor_assoc]
theorem xorI_self (x : Int) : xorI x x = 0 := by unfold xorI; rw [Nat.xor_self]; rfl
theorem xorI_zero (x : Int) (h : 0 ≤ x) : xorI x 0 = x := by
  unfold xorI
  simp
  omega
theorem xorI_back (x y : Int) (h : 0 ≤ x) : xorI (xorI x y) y = x := by rw [xorI_assoc, xorI_self, xorI_zero x h]
theorem xorI_eq_zero (x y : Int) (hx : 0 ≤ x) (hy : 0 ≤ y) : xorI x y = 0 ↔ x = y := by
  constructor
  · intro h
    have h1 := xorI_back x y hx
    rw [h] at h1
    rw [← h1, xorI_comm, xorI_zero y hy]
  · rintro rfl
    exact xorI_self x

def Byt (xs : List Int) : Prop := ∀ x ∈ xs, 0 ≤ x ∧ x ≤ 255

theorem xorL_comm : ∀ (xs ys : List Int), xorL xs ys = xorL ys xs
  | [], [] => rfl
  | [], _ :: _ => rfl
  | _ :: _, [] => rfl
  | x :: xs, y :: ys => by
    have := xorL_comm xs ys
    simp only [xorL, List.zipWith_cons_cons] at this ⊢
    rw [xorI_comm, this]
theorem xorL_assoc : ∀ (xs ys zs : List Int), xorL (xorL xs ys) zs = xorL xs (xorL ys zs)
  | [], _, _ => by simp [xorL]
  | _ :: _, [], _ => by simp [xorL]
  | _ :: _, _ :: _, [] => by simp [xorL]
  | x :: xs, y :: ys, z :: zs => by
    have := xorL_assoc xs ys zs
    simp only [xorL, List.zipWith_cons_cons] at this ⊢
    rw [xorI_assoc, this]
theorem xorL_back : ∀ (xs ys : List Int), Byt xs → xs.length ≤ ys.length → xorL (xorL xs ys) ys = xs
  | [], _, _, _ => by simp [xorL]
  | _ :: _, [], _, h => by simp at h
  | x :: xs, y :: ys, hx, h => by
    have := xorL_back xs ys (fun u hu => hx u (by simp [hu])) (by simpa using h)
    simp only [xorL, List.zipWith_cons_cons] at this ⊢
    rw [xorI_back x y (hx x (by simp)).1, this]
theorem xorL_self : ∀ (xs : List Int), xorL xs xs = List.replicate xs.length 0
  | [] => rfl
  | x :: xs => by
    have := xorL_self xs
    simp only [xorL, List.zipWith_cons_cons, List.length_cons, List.replicate_succ] at this ⊢
    rw [xorI_self, this]
theorem xorL_zeros : ∀ (xs : List Int), Byt xs → xorL xs (List.replicate xs.length 0) = xs
  | [], _ => rfl
  | x :: xs, hx => by
    have := xorL_zeros xs (fun u hu => hx u (by simp [hu]))
    simp only [xorL, List.length_cons, List.replicate_succ, List.zipWith_cons_cons] at this ⊢
    rw [xorI_zero x (hx x (by simp)).1, this]
theorem xorL_eq_zeros : ∀ (xs ys : List Int), Byt xs → Byt ys → xs.length = ys.length → (xorL xs ys = List.replicate xs.length 0 ↔ xs = ys)
  | [], [], _, _, _ => by simp [xorL]
  | [], _ :: _, _, _, h => by simp at h
  | _ :: _, [], _, _, h => by simp at h
  | x :: xs, y :: ys, hx, hy, h => by
    have ih := xorL_eq_zeros xs ys (fun u hu => hx u (by simp [hu])) (fun u hu => hy u (by simp [hu])) (by simpa using h)
    have h0 := xorI_eq_zero x y (hx x (by simp)).1 (hy y (by simp)).1
    simp only [xorL, List.length_cons, List.replicate_succ, List.zipWith_cons_cons, List.cons.injEq] at ih ⊢
    rw [ih, h0]
theorem xorL_parts (xs ys : List Int) (k : Nat) : xorL (xs.take k) (ys.take k) ++ xorL (xs.drop k) (ys.drop k) = xorL xs ys := by
  unfold xorL
  rw [← List.take_zipWith, ← List.drop_zipWith, List.take_append_drop]
theorem sumL_full {ds xs ys : List Int} (h : ds.length ≤ min xs.length ys.length) : sumL ds xs ys = xorL xs ys := by
  unfold sumL
  rw [List.drop_eq_nil_of_le (by rw [xorL_len]; exact h), List.append_nil]

/-- The cells of a new list of noughts. -/
def zeroRow (n : Nat) : Array Value := madeCells #[.int .u8 0] n
theorem zeroRow_list (n : Nat) : (zeroRow n).toList = (List.replicate n (0 : Int)).map (Value.int .u8) := by
  rw [zeroRow, toList_madeCells_one, List.map_replicate]

theorem run_mk (n : Nat) (hn : n ≤ 140737488351232) (w : World) : (Instr.makeSlice 22 (.int .i64 (n : Int)) (.int .i64 (n : Int))).run Try.prog w = .ok (.slice (some ⟨w.heap.size, 0, none⟩) n n) (w.alloc (.cells (zeroRow n) 5)) := by
  exact run_make_row' 22 5 (.int .u8 0) 1 Try.underlying22 Try.info5 rfl .i64 .i64 n (by omega) (by omega) w

theorem zeros_own {base : Nat} (w : World) (n : Nat) (hn : n ≤ 140737488351232) (hb : base ≤ w.heap.size) : Own (w.alloc (.cells (zeroRow n) 5)) base (some ⟨w.heap.size, 0, none⟩) n n (List.replicate n 0) := by
  refine ⟨?_, fun x hx => by rw [List.eq_of_mem_replicate hx]; omega⟩
  rw [← zeroRow_list]
  have hs : (zeroRow n).size = n := by
    have := congrArg List.length (zeroRow_list n)
    simpa using this
  exact World.ownsRow_lit w (zeroRow n) n hb (by unfold maxLen; omega) (by rw [hs, Nat.mul_one])

/-- impl.XorBytes of three lists of one length. -/
theorem imXor_even {w : World} {B n c0 cx cy : Nat} {A0 A1 A2 : Option Addr} {ds xs ys : List Int} (hd : Bs w B A0 n c0 ds) (hx : Bs w B A1 n cx xs) (hy : Bs w B A2 n cy ys) (hB : B ≤ w.heap.size) (h31 : n ≤ 140737488351232) :
    Calls Try.prog 16 #[.slice A0 n c0, .slice A1 n cx, .slice A2 n cy] w fun e w' => ∃ A' c', e = .returned (.tuple #[.int .i64 (n : Int), .slice A' n c', .bool false]) ∧ Own w' w.heap.size A' n c' (xorL xs ys) ∧ Below w.heap.size w w' := by
  have h := imXor_ok hd hx hy hB (by omega) h31
  rw [Nat.min_self, sumL_full (by rw [hd.len, hx.len, hy.len]; omega)] at h
  exact h

theorem sumL_len {ds xs ys : List Int} (h : min xs.length ys.length ≤ ds.length) : (sumL ds xs ys).length = ds.length := by
  unfold sumL
  rw [List.length_append, List.length_drop, xorL_len]
  omega
theorem xorL_append (us vs ys : List Int) : xorL (us ++ vs) ys = xorL us (ys.take us.length) ++ xorL vs (ys.drop us.length) := by
  have := xorL_parts (us ++ vs) ys us.length
  rw [List.take_left, List.drop_left] at this
  exact this.symm
/-- A sum written into its first list twice leaves it as it was. -/
theorem sum_into_back (xs ys : List Int) (hx : Byt xs) : sumL (sumL xs xs ys) (sumL xs xs ys) ys = xs := by
  have hl := xorL_len xs ys
  have hsl : (sumL xs xs ys).length = xs.length := sumL_len (by omega)
  have e1 : (xorL (sumL xs xs ys) ys).length = min xs.length ys.length := by rw [xorL_len, hsl]
  have e2 : xorL (sumL xs xs ys) ys = xs.take (min xs.length ys.length) := by
    unfold sumL
    rw [xorL_append, hl]
    have h1 : xorL (xorL xs ys) (ys.take (min xs.length ys.length)) = xs.take (min xs.length ys.length) := by
      rw [← xorL_take xs ys _ rfl]
      exact xorL_back _ _ (fun x hx' => hx x (List.mem_of_mem_take hx')) (by rw [List.length_take, List.length_take]; omega)
    have h2 : xorL (xs.drop (min xs.length ys.length)) (ys.drop (min xs.length ys.length)) = [] :=
      List.eq_nil_of_length_eq_zero (by rw [xorL_len, List.length_drop, List.length_drop]; omega)
    rw [h1, h2, List.append_nil]
  have e3 : (sumL xs xs ys).drop (min xs.length ys.length) = xs.drop (min xs.length ys.length) := by
    unfold sumL
    rw [hl, List.drop_append_of_le_length (by omega), List.drop_of_length_le (by omega), List.nil_append]
  show xorL (sumL xs xs ys) ys ++ (sumL xs xs ys).drop (xorL (sumL xs xs ys) ys).length = xs
  rw [e1, e2, e3, List.take_append_drop]
end Go.Proofs.Ytfbngjhpmhiaoaa
