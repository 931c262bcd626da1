/- Small facts on the state of a draw: it stays behind new blocks; a new draw over a slice of bytes; behind a draw nothing that was there before has changed. -/
import Derived.Test.YtfbngjhpmhiaoaaDraw
namespace Go.Proofs.Ytfbngjhpmhiaoaa
open Go.RowKit

theorem Rd.alloc {w : World} {R len cap p : Nat} {A : Option Addr} (h : Rd w R A len cap p) (o : Obj) : Rd (w.alloc o) R A len cap p :=
  h.keep (row := none) (World.grownBy_alloc w o none) (by simp)

theorem Rd.drew {w : World} {R len cap p : Nat} {A : Option Addr} (h : Rd w R A len cap p) : Rd w.drew R A len cap p := ⟨h.blk, h.code⟩
theorem Rd.drewN {w : World} {R len cap p : Nat} {A : Option Addr} (h : Rd w R A len cap p) (n : Nat) : Rd (w.drewN n) R A len cap p := ⟨h.blk, h.code⟩
theorem grown_drew {w : World} (row : Option Nat) : w.grownBy w.drew row := ⟨rfl, rfl, rfl, Nat.le_refl _, fun _ _ _ => rfl⟩
theorem grown_drewN {w : World} (n : Nat) (row : Option Nat) : w.grownBy (w.drewN n) row := ⟨rfl, rfl, rfl, Nat.le_refl _, fun _ _ _ => rfl⟩

/-- A table that was made ahead of a draw reads as it was made. -/
theorem tab_cell {w1 w2 : World} {R : Nat} {cs : Array Value} {t : TypeId} (hg : (w1.alloc (.cells cs t)).grownBy w2 (some R)) (hR : R < w1.heap.size) (k : Nat) : w2.cell? ⟨w1.heap.size, k, none⟩ = cs[k]? := by
  have hb : w2.heap[w1.heap.size]? = some (.cells cs t (0, 0)) := (hg.block w1.heap.size (by simp) (fun e => by injection e with e; omega)).trans (heap_alloc_new w1 _)
  simp [World.cell?, hb]

theorem grown_alloc_trans {w w1 w2 : World} {row : Option Nat} {o : Obj} (h : w.grownBy w1 row) (h2 : (w1.alloc o).grownBy w2 row) : w.grownBy w2 row :=
  h.trans ((World.grownBy_alloc w1 o row).trans h2)

/-- A new draw over a slice of bytes that came in. -/
theorem rd_new {w : World} {A : Option Addr} {len cap : Nat} {zs : List Int} (h : IsRow .u8 w A len cap zs) : Rd (w.alloc (.cells #[.slice A len cap, .int .i64 0] 36)) w.heap.size A len cap 0 := by
  refine ⟨heap_alloc_new w _, fun hl => ?_⟩
  rcases h with ⟨_, h0, _⟩ | ⟨x, rfl, hlc, _, hz, hc, hw⟩
  · omega
  · obtain ⟨b, off, rfl, hcc⟩ := ints_at hc (by omega)
    have hlt : b < w.heap.size := World.block_lt_of_cell? w _ (hcc 0 (by omega))
    refine ⟨b, off, rfl, by omega, fun i hi => ?_⟩
    have hb := bounds_u8 (hw (zs.getD i 0) (by rw [List.getD_eq_getElem?_getD, List.getElem?_eq_getElem (by omega)]; simp))
    exact ⟨zs.getD i 0, (World.cell?_alloc_lt w _ ⟨b, off + i, none⟩ hlt).trans (hcc i (by omega)), hb.1, hb.2⟩

/-- Behind a draw nothing that was there before it has changed. -/
theorem below_draw {w w' : World} {o : Obj} (h : (w.alloc o).grownBy w' (some w.heap.size)) : Below w.heap.size w w' :=
  ((Below.refl _ _).alloc (Nat.le_refl _) o).grown h (by simp) (fun k hk => by injection hk with hk; omega)

end Go.Proofs.Ytfbngjhpmhiaoaa
