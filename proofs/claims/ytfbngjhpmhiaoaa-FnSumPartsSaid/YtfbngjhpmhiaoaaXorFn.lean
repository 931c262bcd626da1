/- The contract of the library's XORBytes: the sums of the bytes are written into the first n bytes of a row of the caller's own, n the lesser length of the other two lists. Conditions: the slices read as bytes; the second one lies apart from the row, or is the row itself; the third one lies apart from it. -/
import Derived.Test.YtfbngjhpmhiaoaaXorLib
namespace Go.Proofs.Ytfbngjhpmhiaoaa
open Go.RowKit

set_option maxHeartbeats 2000000 in
theorem fiXor_core {w : World} {base g nd cd bx ox nx cx b3 o3 ny cy n : Nat} {ds xs ys : List Int} (hd : Own w base (some ⟨g, 0, none⟩) nd cd ds)
    (lx : xs.length = nx) (kx : nx ≤ cx) (rx : ∀ x ∈ xs, 0 ≤ x ∧ x ≤ 255) (cellx : ∀ j, j < nx → w.cell? ⟨bx, ox + j, none⟩ = some (.int .u8 (xs.getD j 0)))
    (ly : ys.length = ny) (ky : ny ≤ cy) (ry : ∀ x ∈ ys, 0 ≤ x ∧ x ≤ 255) (celly : ∀ j, j < ny → w.cell? ⟨b3, o3 + j, none⟩ = some (.int .u8 (ys.getD j 0)))
    (hmin : (n = nx ∧ nx ≤ ny) ∨ (n = ny ∧ ny < nx)) (hn : 0 < n) (hnd : n ≤ nd) (h31 : n ≤ 140737488351232)
    (HX : Hid (∀ m, Calls Try.prog 33 #[.slice (some ⟨g, 0, none⟩) n cd, .slice (some ⟨bx, ox, none⟩) n cx] (w.drewN m) fun e w' => e = .returned (.bool false) ∧ Quiet (w.drewN m) w'))
    (HY : Hid (∀ m, Calls Try.prog 33 #[.slice (some ⟨g, 0, none⟩) n cd, .slice (some ⟨b3, o3, none⟩) n cy] (w.drewN m) fun e w' => e = .returned (.bool false) ∧ Quiet (w.drewN m) w')) :
    Calls Try.prog 30 #[.slice (some ⟨g, 0, none⟩) nd cd, .slice (some ⟨bx, ox, none⟩) nx cx, .slice (some ⟨b3, o3, none⟩) ny cy] w fun e w' =>
      e = .returned (.int .i64 (n : Int)) ∧ Own w' base (some ⟨g, 0, none⟩) nd cd (sumL ds xs ys) ∧ w.grownBy w' (some g) := by
  have hlen : Hid ((xorL xs ys).length = n) := Lib.hid (by rw [xorL_len, lx, ly]; omega)
  have htk := Lib.hid (xorL_take xs ys n (by rw [lx, ly]; omega))
  obtain ⟨cur, hh, hcs, hO, hG⟩ := hd.setRow (xorL xs ys) (by rw [hlen.out]; exact hnd) (xorL_rng xs ys rx ry) (by omega)
  have hasm : Hid (∀ m, (callFunc 34 #[.pointer (some ⟨g, 0, none⟩), .pointer (some ⟨bx, ox, none⟩), .pointer (some ⟨b3, o3, none⟩), .int .i64 (n : Int)]).run Try.prog (w.drewN m) =
      .ok (.value (.tuple #[])) ((w.drewN m).setRow g ((xorL xs ys).map (Value.int .u8) ++ cur.toList.drop n).toArray)) := Lib.hid fun m => by
    have := xorAsm_run (w.drewN m) g cur hh ⟨bx, ox, none⟩ ⟨b3, o3, none⟩ (xs.take n) (ys.take n) n (by rw [List.length_take]; omega) (by rw [List.length_take]; omega)
      (fun j hj => by rw [WideShapes.add_plain]; show w.cell? _ = _; rw [cellx j (by omega)]; simp [List.getD_eq_getElem?_getD, hj])
      (fun j hj => by rw [WideShapes.add_plain]; show w.cell? _ = _; rw [celly j (by omega)]; simp [List.getD_eq_getElem?_getD, hj])
      (by rw [← hlen.out]; exact hcs)
    rwa [htk.out] at this
  rw [hlen.out] at hO hG
  have hcd := hd.bs.cap
  have HO := Lib.hid hO; have HG := Lib.hid hG
  clear hO hG hh hcs htk hd cellx celly rx ry lx ly
  have l0 : ((n : Int) == 0) = false := beq_eq_false_iff_ne.2 (by omega)
  have i0 : (0 : Int) < n := by omega
  have j1 : (n : Int) ≤ cd := by omega
  have j2 : (n : Int) ≤ cx := by omega
  have j3 : (n : Int) ≤ cy := by omega
  have j4 : (0 : Int) < nd := by omega
  have j5 : (0 : Int) < nx := by omega
  have j6 : (0 : Int) < ny := by omega
  rcases hmin with ⟨rfl, hle⟩ | ⟨rfl, hle⟩
  all_goals
    go_enter Try.func30, Try.ntmps30
    go_wp2_with fail
    go_quiet ((first | (go_at_call_of 33 (some (Addr.mk bx ox none)); exact Calls.quiet_of (HX.out _)) | (go_at_call_of 33 (some (Addr.mk b3 o3 none)); exact Calls.quiet_of (HY.out _))))
    go_wp2_with fail
    have ha : (callFunc 34 #[.pointer (some ⟨g, 0, none⟩), .pointer (some ⟨bx, ox, none⟩), .pointer (some ⟨b3, o3, none⟩), .int .i64 (n : Int)]).run Try.prog (w.drewN nq).drew =
      .ok (.value (.tuple #[])) ((w.drewN nq).drew.setRow g ((xorL xs ys).map (Value.int .u8) ++ cur.toList.drop n).toArray) := hasm.out (nq + 1)
    have hfin : Hid (Own ((w.drewN nq).drew.setRow g ((xorL xs ys).map (Value.int .u8) ++ cur.toList.drop n).toArray) base (some ⟨g, 0, none⟩) nd cd (sumL ds xs ys) ∧ w.grownBy ((w.drewN nq).drew.setRow g ((xorL xs ys).map (Value.int .u8) ++ cur.toList.drop n).toArray) (some g)) := by
      refine Lib.hid ⟨?_, ?_⟩
      · unfold sumL
        rw [hlen.out]
        exact ⟨HO.out.own, HO.out.rng⟩
      · exact ⟨HG.out.os, HG.out.tape, HG.out.output, HG.out.size, HG.out.block⟩
    generalize (w.drewN nq).drew.setRow g ((xorL xs ys).map (Value.int .u8) ++ cur.toList.drop n).toArray = w3 at ha hfin
    generalize w.drewN nq = w2 at ha ⊢
    go_region
    all_goals
      go_wp2
      go_ret
      exact ⟨rfl, hfin.out.1, hfin.out.2⟩

theorem fiXor_zero {w : World} {Ad Ax Ay : Option Addr} {nd cd nx cx ny cy : Nat} (h : min nx ny = 0) :
    Calls Try.prog 30 #[.slice Ad nd cd, .slice Ax nx cx, .slice Ay ny cy] w fun e w' => e = .returned (.int .i64 0) ∧ w = w' := by
  rcases (show nx = 0 ∨ (0 < nx ∧ ny = 0) by omega) with rfl | ⟨hp, rfl⟩
  all_goals
    clear h
    go_enter Try.func30, Try.ntmps30
    go_wp2
    go_ret
    exact ⟨rfl, rfl⟩

theorem sumL_zero {ds xs ys : List Int} (h : min xs.length ys.length = 0) : sumL ds xs ys = ds := by
  have h1 : xorL xs ys = [] := List.eq_nil_of_length_eq_zero (by rw [xorL_len]; exact h)
  unfold sumL
  rw [h1]
  rfl

section
variable {w : World} {base B nd cd nx cx ny cy : Nat} {A A1 A2 : Option Addr} {ds xs ys : List Int}

/-- XORBytes where all three lists lie apart. -/
theorem fiXor_apart (hd : Own w base A nd cd ds) (hx : Bs w B A1 nx cx xs) (hy : Bs w B A2 ny cy ys) (hB : B ≤ base) (hn : min nx ny ≤ nd) (h31 : nd ≤ 140737488351232) :
    Calls Try.prog 30 #[.slice A nd cd, .slice A1 nx cx, .slice A2 ny cy] w fun e w' =>
      e = .returned (.int .i64 ((min nx ny : Nat) : Int)) ∧ Own w' base A nd cd (sumL ds xs ys) ∧ w.grownBy w' (blockOf A) := by
  rcases Nat.eq_zero_or_pos (min nx ny) with h0 | h0
  · refine (fiXor_zero h0).mono ?_
    rintro e w' ⟨rfl, rfl⟩
    exact ⟨by rw [h0]; rfl, by rw [sumL_zero (by rw [hx.len, hy.len]; exact h0)]; exact hd, World.grownBy.refl _ _⟩
  · obtain ⟨g, rfl, hg0, hg1, hc, _⟩ := hd.at_ (j := 0) (by omega)
    obtain ⟨b1, o1, rfl, hb1, hc1⟩ := hx.cells (by omega)
    obtain ⟨b2, o2, rfl, hb2, hc2⟩ := hy.cells (by omega)
    obtain ⟨cur, hh, _⟩ := hd.setRow [] (by simp) (by simp) (by omega)
    refine (fiXor_core hd hx.len hx.cap hx.rng hc1 hy.len hy.cap hy.rng hc2 (n := min nx ny) (by omega) h0 hn (by omega) (Lib.hid fun m => ?_) (Lib.hid fun m => ?_)).mono ?_
    · exact inexact_apart (w := w.drewN m) hh (by omega) h0 (hc1 0 (by omega))
    · exact inexact_apart (w := w.drewN m) hh (by omega) h0 (hc2 0 (by omega))
    · rintro e w' ⟨rfl, h1, h2⟩
      exact ⟨rfl, h1, h2⟩

/-- XORBytes where the second list is the first one. -/
theorem fiXor_into (hd : Own w base A nd cd ds) (hy : Bs w B A2 ny cy ys) (hB : B ≤ base) (h31 : nd ≤ 140737488351232) :
    Calls Try.prog 30 #[.slice A nd cd, .slice A nd cd, .slice A2 ny cy] w fun e w' =>
      e = .returned (.int .i64 ((min nd ny : Nat) : Int)) ∧ Own w' base A nd cd (sumL ds ds ys) ∧ w.grownBy w' (blockOf A) := by
  rcases Nat.eq_zero_or_pos (min nd ny) with h0 | h0
  · refine (fiXor_zero h0).mono ?_
    rintro e w' ⟨rfl, rfl⟩
    exact ⟨by rw [h0]; rfl, by rw [sumL_zero (by rw [hd.len, hy.len]; exact h0)]; exact hd, World.grownBy.refl _ _⟩
  · obtain ⟨g, rfl, hg0, hg1, hc, _⟩ := hd.at_ (j := 0) (by omega)
    obtain ⟨b2, o2, rfl, hb2, hc2⟩ := hy.cells (by omega)
    obtain ⟨cur, hh, _⟩ := hd.setRow [] (by simp) (by simp) (by omega)
    have hdc : ∀ j, j < nd → w.cell? ⟨g, 0 + j, none⟩ = some (.int .u8 (ds.getD j 0)) := by
      obtain ⟨b', o', e, _, hcc⟩ := hd.bs.cells (by omega)
      injection e with e
      injection e with e1 e2
      subst e1 e2
      exact hcc
    refine (fiXor_core hd hd.len hd.bs.cap hd.rng hdc hy.len hy.cap hy.rng hc2 (n := min nd ny) (by omega) h0 (by omega) (by omega) (Lib.hid fun m => ?_) (Lib.hid fun m => ?_)).mono ?_
    · exact inexact_same (w := w.drewN m) h0
    · exact inexact_apart (w := w.drewN m) hh (by omega) h0 (hc2 0 (by omega))
    · rintro e w' ⟨rfl, h1, h2⟩
      exact ⟨rfl, h1, h2⟩
end

/-- XORBytes where the first list is too short: it panics, and nothing has changed. -/
theorem fiXor_panic {w : World} {Ad Ax Ay : Option Addr} {nd cd nx cx ny cy : Nat} (h : nd < min nx ny) :
    Calls Try.prog 30 #[.slice Ad nd cd, .slice Ax nx cx, .slice Ay ny cy] w fun e w' => ∃ v, e = .panicked [{ v := .iface 9 v, recovered := false }] ∧ w = w' := by
  rcases Nat.lt_or_ge ny nx with hlt | hge
  · have l0 : ((ny : Int) == 0) = false := beq_eq_false_iff_ne.2 (by omega)
    have l1 : nd < ny := by omega
    go_enter Try.func30, Try.ntmps30
    go_wp2
    exact ⟨rfl, ⟨_, rfl, rfl⟩⟩
  · have l0 : ((nx : Int) == 0) = false := beq_eq_false_iff_ne.2 (by omega)
    have l1 : nd < nx := by omega
    go_enter Try.func30, Try.ntmps30
    go_wp2
    exact ⟨rfl, ⟨_, rfl, rfl⟩⟩
end Go.Proofs.Ytfbngjhpmhiaoaa
