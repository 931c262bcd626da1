/- The contract of the statements' own draw (*rd).pick: it gives a number from 0 on and below n, and counts one up; which number it is, is left open. Conditions: n is at least 1, and the counter has not passed 1000000. -/
import Derived.Test.YtfbngjhpmhiaoaaBits
import Derived.Deep.QuietTactic
import Derived.BigQuiet
namespace Go.Proofs.Ytfbngjhpmhiaoaa
open Go.RowKit

/-- What a walk is told of a slice of integers that came in: nil, or a row of cells. -/
def IsRow (k : IntKind) (w : World) (a : Option Addr) (len cap : Nat) (zs : List Int) : Prop :=
  (a = none ∧ len = 0 ∧ cap = 0 ∧ zs = []) ∨
  ∃ x, a = some x ∧ len ≤ cap ∧ cap ≤ maxLen ∧ zs.length = cap ∧ (∀ i, i < zs.length → w.cell? (x.add i) = some (.int k (zs.getD i 0))) ∧ ∀ n ∈ zs, (Lit.int k n).wf = true

theorem xor64_nonneg (X : Int) (h0 : 0 ≤ X) (h1 : X ≤ 1000000000000) : 0 ≤ bits .xor .i64 X (X / 64) := by
  obtain ⟨a, rfl⟩ := Int.eq_ofNat_of_zero_le h0
  have e : (a : Int) / 64 = ((a / 64 : Nat) : Int) := by omega
  rw [e]
  have ha : a < 2 ^ 62 := by omega
  have hx : a ^^^ (a / 64) < 2 ^ 62 := Nat.xor_lt_two_pow ha (by omega)
  show 0 ≤ IntKind.i64.wrap ((BitVec.ofInt 64 (a : Int) ^^^ BitVec.ofInt 64 ((a / 64 : Nat) : Int)).toNat : Int)
  rw [BitVec.toNat_xor, BitVec.ofInt_natCast, BitVec.ofInt_natCast, BitVec.toNat_ofNat, BitVec.toNat_ofNat, Nat.mod_eq_of_lt (by omega), Nat.mod_eq_of_lt (by omega), IntKind.wrap_i64]
  omega

theorem pick0 (R cap : Nat) (A : Option Addr) (p : Nat) (n : Int) (w : World) (h0 : w.cell? ⟨R, 0, none⟩ = some (.slice A 0 cap)) (h1 : w.cell? ⟨R, 1, none⟩ = some (.int .i64 p)) (hf : w.frozen? ⟨R, 1, none⟩ = false)
    (hp : p ≤ 1000000) (hn : 1 ≤ n) :
    Calls Try.prog 29 #[.pointer (some ⟨R, 0, none⟩), .int .i64 n] w fun e w' => e = .returned (.int .i64 0) ∧ w' = w.setCell ⟨R, 1, none⟩ (.int .i64 (↑p + 1)) := by
  go_enter Try.func29, Try.ntmps29
  go_wp2
  go_ret
  exact ⟨rfl, rfl⟩

set_option maxHeartbeats 400000 in
theorem pick1 (R b off len cap : Nat) (p : Nat) (n z : Int) (w : World) (h0 : w.cell? ⟨R, 0, none⟩ = some (.slice (some ⟨b, off, none⟩) len cap)) (h1 : w.cell? ⟨R, 1, none⟩ = some (.int .i64 p)) (hf : w.frozen? ⟨R, 1, none⟩ = false)
    (hp : p ≤ 1000000) (hn : 1 ≤ n) (hl : p < len) (hb : b ≠ R) (hz : w.cell? ⟨b, off + p, none⟩ = some (.int .u8 z)) (z0 : 0 ≤ z) (z1 : z ≤ 255) :
    Calls Try.prog 29 #[.pointer (some ⟨R, 0, none⟩), .int .i64 n] w fun e w' => e = .returned (.int .i64 (z % n)) ∧ w' = w.setCell ⟨R, 1, none⟩ (.int .i64 (↑p + 1)) := by
  have hl0 : ((len : Int) == 0) = false := by simp; omega
  go_enter Try.func29, Try.ntmps29
  go_wp2
  go_ret
  exact ⟨rfl, rfl⟩

set_option maxHeartbeats 1000000 in
theorem pick2 (R b off len cap : Nat) (p : Nat) (n z y : Int) (w : World) (h0 : w.cell? ⟨R, 0, none⟩ = some (.slice (some ⟨b, off, none⟩) len cap)) (h1 : w.cell? ⟨R, 1, none⟩ = some (.int .i64 p)) (hf : w.frozen? ⟨R, 1, none⟩ = false)
    (hp : p ≤ 1000000) (hn : 1 ≤ n) (hl : len ≤ p) (hlen : 0 < len) (hb : b ≠ R) (hz : w.cell? ⟨b, off + p % len, none⟩ = some (.int .u8 z)) (z0 : 0 ≤ z) (z1 : z ≤ 255)
    (hy : w.cell? ⟨b, off + (p * 7 + 3) % len, none⟩ = some (.int .u8 y)) (y0 : 0 ≤ y) (y1 : y ≤ 255) :
    Calls Try.prog 29 #[.pointer (some ⟨R, 0, none⟩), .int .i64 n] w fun e w' => ∃ v : Int, e = .returned (.int .i64 v) ∧ 0 ≤ v ∧ v < n ∧ ∃ m, w' = (w.setCell ⟨R, 1, none⟩ (.int .i64 (↑p + 1))).drewN m := by
  have hl0 : ((len : Int) == 0) = false := by simp; omega
  have hm1 : p % len < len := Nat.mod_lt _ hlen
  have hm2 : (p * 7 + 3) % len < len := Nat.mod_lt _ hlen
  have hd1 : p / len ≤ p := Nat.div_le_self _ _
  have e1 : Int.tmod (p : Int) (len : Int) = ((p % len : Nat) : Int) := by rw [Int.tmod_eq_emod_of_nonneg (by omega)]; rfl
  have e2 : Int.tmod ((p : Int) * 7 + 3) (len : Int) = (((p * 7 + 3) % len : Nat) : Int) := by rw [Int.tmod_eq_emod_of_nonneg (by omega)]; rfl
  have e3 : Int.tdiv (p : Int) (len : Int) = ((p / len : Nat) : Int) := by rw [Int.tdiv_eq_ediv_of_nonneg (by omega)]; rfl
  generalize p % len = k1 at *
  generalize (p * 7 + 3) % len = k2 at *
  generalize p / len = d at *
  have E1 := Lib.hid e1; have E2 := Lib.hid e2; have E3 := Lib.hid e3
  clear e1 e2 e3
  go_enter Try.func29, Try.ntmps29
  go_wp2
  have f1 := IntWalk.i64_in ((p : Int) * 7) (by omega)
  have f2 := IntWalk.i64_in ((p : Int) * 7 + 3) (by omega)
  have f3 := IntWalk.i64_in (z * 131) (by omega)
  have f4 := IntWalk.i64_in (y * 1117) (by omega)
  have f5 := IntWalk.i64_in (z * 131 + y * 1117) (by omega)
  have f6 := IntWalk.i64_in ((p : Int) * 29) (by omega)
  have f7 := IntWalk.i64_in (z * 131 + y * 1117 + (p : Int) * 29) (by omega)
  have f8 := IntWalk.i64_in ((d : Int)) (by omega)
  have f9 := IntWalk.i64_in ((d : Int) * 53) (by omega)
  have f10 := IntWalk.i64_in (z * 131 + y * 1117 + (p : Int) * 29 + (d : Int) * 53) (by omega)
  have g1 := E1.out
  have g2 := E2.out
  have g3 := E3.out
  have i1 : (k1 : Int) < len := by exact_mod_cast hm1
  have i2 : (k2 : Int) < len := by exact_mod_cast hm2
  go_quiet (fail)
  clear f1 f2 f3 f4 f5 f6 f7 f8 f9 f10 g1 g2 g3
  go_wp2
  go_ret
  have hx := xor64_nonneg (z * 131 + y * 1117 + (p : Int) * 29 + (d : Int) * 53) (by omega) (by omega)
  exact ⟨_, rfl, Int.tmod_nonneg _ hx, Int.tmod_lt_of_pos _ (by omega), _, rfl⟩

/-- The state of a draw: block R holds the slice of the code's bytes and the counter p; the code's bytes lie in another block. -/
structure Rd (w : World) (R : Nat) (A : Option Addr) (len cap p : Nat) : Prop where
  blk : w.heap[R]? = some (.cells #[.slice A len cap, .int .i64 p] 36 (0, 0))
  code : 0 < len → ∃ b off, A = some ⟨b, off, none⟩ ∧ b < R ∧ ∀ i, i < len → ∃ z, w.cell? ⟨b, off + i, none⟩ = some (.int .u8 z) ∧ 0 ≤ z ∧ z ≤ 255

section
variable {w w' : World} {R : Nat} {A : Option Addr} {len cap p : Nat}
theorem Rd.lt (h : Rd w R A len cap p) : R < w.heap.size := by
  rcases Nat.lt_or_ge R w.heap.size with hlt | hge
  · exact hlt
  · have := h.blk; rw [Array.getElem?_eq_none hge] at this; cases this
theorem Rd.cell0 (h : Rd w R A len cap p) : w.cell? ⟨R, 0, none⟩ = some (.slice A len cap) := by simp [World.cell?, h.blk]
theorem Rd.cell1 (h : Rd w R A len cap p) : w.cell? ⟨R, 1, none⟩ = some (.int .i64 p) := by simp [World.cell?, h.blk]
theorem Rd.free1 (h : Rd w R A len cap p) : w.frozen? ⟨R, 1, none⟩ = false := by simp [World.frozen?, h.blk]
/-- A draw's state stays where only later blocks are written, and new ones are made. -/
theorem Rd.keep (h : Rd w R A len cap p) {row : Option Nat} (hg : w.grownBy w' row) (hr : ∀ k, row = some k → R < k) : Rd w' R A len cap p := by
  refine ⟨(hg.block R h.lt (fun e => by have := hr R e.symm; omega)).trans h.blk, fun hl => ?_⟩
  obtain ⟨b, off, hA, hb, hz⟩ := h.code hl
  have hlt := h.lt
  exact ⟨b, off, hA, hb, fun i hi => by
    obtain ⟨z, hzc, hz2⟩ := hz i hi
    exact ⟨z, (World.cell?_of_block (hg.block b (by omega) (fun e => by have := hr b e.symm; omega))).trans hzc, hz2⟩⟩
/-- The counter is set. -/
theorem Rd.count (h : Rd w R A len cap p) (q : Nat) (m : Nat) : Rd ((w.setCell ⟨R, 1, none⟩ (.int .i64 (q : Int))).drewN m) R A len cap q := by
  refine ⟨?_, fun hl => ?_⟩
  · show (w.setCell ⟨R, 1, none⟩ (.int .i64 (q : Int))).heap[R]? = _
    simp [World.setCell, Array.getElem?_modify, h.blk]
  · obtain ⟨b, off, hA, hb, hz⟩ := h.code hl
    refine ⟨b, off, hA, hb, fun i hi => ?_⟩
    obtain ⟨z, hzc, hr⟩ := hz i hi
    exact ⟨z, (World.cell?_setCell_other w ⟨R, 1, none⟩ ⟨b, off + i, none⟩ _ (fun e => by have := congrArg Addr.block e; simp at this; omega)).trans hzc, hr⟩
end

theorem grown_count (w : World) (R : Nat) (v : Value) (m : Nat) : w.grownBy ((w.setCell ⟨R, 1, none⟩ v).drewN m) (some R) :=
  ⟨rfl, rfl, rfl, by show _ ≤ (w.setCell ⟨R, 1, none⟩ v).heap.size; simp [World.setCell], fun k _ hk => Below.heap_setCell w ⟨R, 1, none⟩ v k (fun e => hk (by rw [e]))⟩

/-- (*rd).pick: some number from 0 on and below n; the counter is one more; else nothing has changed. -/
theorem pick_any {R len cap p : Nat} {A : Option Addr} (n : Int) {w : World} (h : Rd w R A len cap p) (hp : p ≤ 1000000) (hn : 1 ≤ n) :
    Calls Try.prog 29 #[.pointer (some ⟨R, 0, none⟩), .int .i64 n] w fun e w' => ∃ v : Int, e = .returned (.int .i64 v) ∧ 0 ≤ v ∧ v < n ∧ Rd w' R A len cap (p + 1) ∧ w.grownBy w' (some R) := by
  rcases Nat.eq_zero_or_pos len with h0 | h0
  · subst h0
    refine (pick0 R cap A p n w h.cell0 h.cell1 h.free1 hp hn).mono ?_
    rintro e w' ⟨rfl, rfl⟩
    exact ⟨0, rfl, Int.le_refl _, by omega, h.count (p + 1) 0, grown_count w R _ 0⟩
  · obtain ⟨b, off, rfl, hbR, hz⟩ := h.code h0
    have hb : b ≠ R := by omega
    by_cases hl : p < len
    · obtain ⟨z, hzc, z0, z1⟩ := hz p hl
      refine (pick1 R b off len cap p n z w h.cell0 h.cell1 h.free1 hp hn hl hb hzc z0 z1).mono ?_
      rintro e w' ⟨rfl, rfl⟩
      exact ⟨_, rfl, Int.emod_nonneg _ (by omega), Int.emod_lt_of_pos _ (by omega), h.count (p + 1) 0, grown_count w R _ 0⟩
    · obtain ⟨z, hzc, z0, z1⟩ := hz (p % len) (Nat.mod_lt _ h0)
      obtain ⟨y, hyc, y0, y1⟩ := hz ((p * 7 + 3) % len) (Nat.mod_lt _ h0)
      refine (pick2 R b off len cap p n z y w h.cell0 h.cell1 h.free1 hp hn (by omega) h0 hb hzc z0 z1 hyc y0 y1).mono ?_
      rintro e w' ⟨v, rfl, hv0, hv1, m, rfl⟩
      exact ⟨v, rfl, hv0, hv1, h.count (p + 1) m, grown_count w R _ m⟩
end Go.Proofs.Ytfbngjhpmhiaoaa
