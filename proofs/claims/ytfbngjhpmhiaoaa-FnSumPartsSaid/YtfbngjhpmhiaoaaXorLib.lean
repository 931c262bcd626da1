/- The contracts of the library's InexactOverlap and XORBytes: the sums of the bytes are written into the first n bytes of a row of the caller's own, n the lesser length; it panics if the row is shorter. Conditions: the slices read as bytes; the second one lies apart from the row, or is the row itself; the third one lies apart from it. -/
import Derived.Test.YtfbngjhpmhiaoaaXorExt
import Derived.RegionTactic
import Derived.Deep.RegionWith
namespace Go.Proofs.Ytfbngjhpmhiaoaa
open Go.RowKit

theorem inexact_apart {w : World} {g b off n c c2 : Nat} {cur : Array Value} {t : TypeId} (hg : w.heap[g]? = some (.cells cur t (0, 0))) (hne : g ≠ b) (hn : 0 < n) {v : Value} (hb : w.cell? ⟨b, off, none⟩ = some v) :
    Calls Try.prog 33 #[.slice (some ⟨g, 0, none⟩) n c, .slice (some ⟨b, off, none⟩) n c2] w fun e w' => e = .returned (.bool false) ∧ Quiet w w' := by
  have l0 : ((n : Int) == 0) = false := beq_eq_false_iff_ne.2 (by omega)
  have i0 : (0 : Int) < n := by omega
  have i1 : 0 < n := hn
  have he : ∀ m, (binOp .eql 45 (.pointer (some ⟨g, 0, none⟩)) (.pointer (some ⟨b, off, none⟩))).run Try.prog (w.drewN m) = .ok (.bool false) (w.drewN m) := fun m => run_eql_apart (w.drewN m) ⟨g, 0, none⟩ ⟨b, off, none⟩ cur t hg hne hb
  have ho : ∀ m, (callFunc 36 #[.slice (some ⟨g, 0, none⟩) n c, .slice (some ⟨b, off, none⟩) n c2]).run Try.prog (w.drewN m) = .ok (.value (.bool false)) (w.drewN m) := fun m => anyOverlap_run (w.drewN m) ⟨g, 0, none⟩ ⟨b, off, none⟩ n c n c2 cur t hg hne hb
  clear hg hne hb
  go_enter Try.func33, Try.ntmps33
  go_wp2
  go_quiet (fail)
  go_wp2
  go_ret
  exact ⟨rfl, _, rfl⟩

theorem inexact_same {w : World} {g n c : Nat} (hn : 0 < n) :
    Calls Try.prog 33 #[.slice (some ⟨g, 0, none⟩) n c, .slice (some ⟨g, 0, none⟩) n c] w fun e w' => e = .returned (.bool false) ∧ Quiet w w' := by
  have l0 : ((n : Int) == 0) = false := beq_eq_false_iff_ne.2 (by omega)
  have i0 : (0 : Int) < n := by omega
  have i1 : 0 < n := hn
  obtain ⟨j0, hi, _⟩ := info_parts Try.info5
  have he : ∀ w : World, (binOp .eql 45 (.pointer (some ⟨g, 0, none⟩)) (.pointer (some ⟨g, 0, none⟩))).run Try.prog w = .ok (.bool true) w := fun w => run_eql_ptr_same w ⟨g, 0, none⟩ Try.underlying45 hi
  clear hi
  go_enter Try.func33, Try.ntmps33
  go_wp2
  go_quiet (fail)
  go_wp2
  go_ret
  exact ⟨rfl, _, rfl⟩

theorem xorI_range (x y : Int) (x0 : 0 ≤ x) (x1 : x ≤ 255) (y0 : 0 ≤ y) (y1 : y ≤ 255) : 0 ≤ xorI x y ∧ xorI x y ≤ 255 := by
  unfold xorI
  have := Nat.xor_lt_two_pow (n := 8) (x := x.toNat) (y := y.toNat) (by omega) (by omega)
  omega
theorem xorL_len (xs ys : List Int) : (xorL xs ys).length = min xs.length ys.length := by simp [xorL]
theorem xorL_rng : ∀ (xs ys : List Int), (∀ x ∈ xs, 0 ≤ x ∧ x ≤ 255) → (∀ y ∈ ys, 0 ≤ y ∧ y ≤ 255) → ∀ z ∈ xorL xs ys, 0 ≤ z ∧ z ≤ 255
  | [], _, _, _, z, hz => by simp [xorL] at hz
  | _ :: _, [], _, _, z, hz => by simp [xorL] at hz
  | x :: xs, y :: ys, hx, hy, z, hz => by
    simp only [xorL, List.zipWith_cons_cons, List.mem_cons] at hz
    rcases hz with rfl | hz
    · have a := hx x (by simp); have b := hy y (by simp)
      exact xorI_range x y a.1 a.2 b.1 b.2
    · exact xorL_rng xs ys (fun u hu => hx u (by simp [hu])) (fun u hu => hy u (by simp [hu])) z hz
theorem xorL_take (xs ys : List Int) (n : Nat) (h : min xs.length ys.length = n) : xorL (xs.take n) (ys.take n) = xorL xs ys := by
  unfold xorL
  rw [← List.take_zipWith, List.take_of_length_le (by simp [List.length_zipWith]; omega)]

/-- What XORBytes leaves in its first list. -/
def sumL (ds xs ys : List Int) : List Int := xorL xs ys ++ ds.drop (xorL xs ys).length

/-- The first bytes of a row of the call's own are written. -/
theorem Own.setRow {w : World} {base g nd cd : Nat} {ds : List Int} (h : Own w base (some ⟨g, 0, none⟩) nd cd ds) (us : List Int) (hu : us.length ≤ nd) (hr : ∀ u ∈ us, 0 ≤ u ∧ u ≤ 255) (hn : 0 < nd) :
    ∃ cur : Array Value, w.heap[g]? = some (.cells cur 5 (0, 0)) ∧ us.length ≤ cur.size ∧ Own (w.setRow g (us.map (Value.int .u8) ++ cur.toList.drop us.length).toArray) base (some ⟨g, 0, none⟩) nd cd (us ++ ds.drop us.length) ∧
      w.grownBy (w.setRow g (us.map (Value.int .u8) ++ cur.toList.drop us.length).toArray) (some g) := by
  have hl := h.len
  rcases h.own.2 with ⟨hv, rfl⟩ | ⟨g', cap, cur, hv, hb, hh, hnc, hm, hs, ht⟩
  · omega
  · injection hv with h3 h4 h5
    injection h3 with h3
    injection h3 with h6
    subst h6 h5
    have hs' : cur.toList.length = cd := by simpa using hs
    refine ⟨cur, hh, by rw [Nat.mul_one] at hs; omega, ⟨⟨by simp; omega, .inr ⟨g, cd, _, rfl, hb, setRow_heap w g cur _ 5 (0, 0) hh, hnc, hm, ?_, ?_⟩⟩, ?_⟩, ⟨rfl, rfl, rfl, by simp, fun k _ hk => setRow_other w g k _ (fun e => hk (by rw [e]))⟩⟩
    · simp
      simp at hs'
      omega
    · rw [Nat.mul_one] at ht ⊢
      rw [List.toList_toArray, List.take_append, List.length_map, List.take_of_length_le (by simp; omega), List.map_append, List.map_drop, ← ht, List.drop_take]
    · intro x hx
      rcases List.mem_append.1 hx with hx | hx
      · exact hr x hx
      · exact h.rng x (List.mem_of_mem_drop hx)
end Go.Proofs.Ytfbngjhpmhiaoaa
