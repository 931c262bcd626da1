/- What the model's entries for the library's assembly function xorBytes and for AnyOverlap give: the sums of the bytes are written into a row; two slices in two blocks do not overlap. Conditions: the rows read as bytes; the first slice lies in plain memory. -/
import Derived.Test.YtfbngjhpmhiaoaaCmp
import Derived.Lib.Overlaps
import Derived.Laws.LoneSync
namespace Go.Proofs.Ytfbngjhpmhiaoaa
open Go.RowKit

/-- The sum of two bytes, and of two lists. -/
def xorI (x y : Int) : Int := ((x.toNat ^^^ y.toNat : Nat) : Int)
def xorL (xs ys : List Int) : List Int := List.zipWith xorI xs ys

theorem mapM_ints {P : Program} (w : World) : ∀ (us vs : List Int), (((us.map (Value.int .u8)).zip (vs.map (Value.int .u8))).mapM fun (p : Value × Value) => do pure (Value.int .u8 (Int.ofNat ((← asInt p.1).toNat ^^^ (← asInt p.2).toNat)))).run P w = .ok ((xorL us vs).map (Value.int .u8)) w
  | [], vs => by simp [xorL]
  | u :: us, [] => by simp [xorL]
  | u :: us, v :: vs => by
    have ih := mapM_ints (P := P) w us vs
    simp only [List.map_cons, List.zip_cons_cons, List.mapM_cons, Sem.run_bind, asInt, asIntOf, Sem.run_pure, Result.andThen_ok] at ih ⊢
    rw [ih]
    rfl

theorem run_xorEntry {P : Program} (w : World) (g : Nat) (cur : Array Value) (hg : w.heap[g]? = some (.cells cur 5 (0, 0))) (a b : Addr) (us vs : List Int) (n : Nat) (hu : us.length = n) (hv : vs.length = n)
    (ha : ∀ j, j < n → w.cell? (a.add j) = some (.int .u8 (us.getD j 0))) (hb : ∀ j, j < n → w.cell? (b.add j) = some (.int .u8 (vs.getD j 0))) (hn : n ≤ cur.size) :
    (Extern.CryptoHooks.xorBytes #[.pointer (some ⟨g, 0, none⟩), .pointer (some a), .pointer (some b), .int .i64 (n : Int)]).run P w =
      .ok (.tuple #[]) (w.setRow g ((xorL us vs).map (Value.int .u8) ++ cur.toList.drop n).toArray) := by
  have h1 : (loadCells a n).run P w = .ok ((us.map (Value.int .u8)).toArray) w := by
    have := run_loadCells_list (P := P) w a (us.map (Value.int .u8)) (fun j v hj => by
      have hjl : j < us.length := by simpa using (List.getElem?_eq_some_iff.1 hj).1
      rw [ha j (by omega), ← hj]
      simp [List.getD_eq_getElem?_getD, List.getElem?_eq_getElem hjl])
    simpa [hu] using this
  have h2 : (loadCells b n).run P w = .ok ((vs.map (Value.int .u8)).toArray) w := by
    have := run_loadCells_list (P := P) w b (vs.map (Value.int .u8)) (fun j v hj => by
      have hjl : j < vs.length := by simpa using (List.getElem?_eq_some_iff.1 hj).1
      rw [hb j (by omega), ← hj]
      simp [List.getD_eq_getElem?_getD, List.getElem?_eq_getElem hjl])
    simpa [hv] using this
  have hl : (xorL us vs).length = n := by simp [xorL, hu, hv]
  have h3 := run_storeCells_at (P := P) g 0 5 ((xorL us vs).map (Value.int .u8)) 0 cur w hg (by simp [hl]; exact hn) (fun v hv => by
    obtain ⟨y, _, rfl⟩ := List.mem_map.1 hv
    rfl)
  simp only [Nat.zero_add, Nat.add_zero, List.take_zero, List.nil_append, List.length_map, hl] at h3
  have h4 := mapM_ints (P := P) w us vs
  change Sem.run P (asInt (.int .i64 (n : Int)) >>= fun k => asAddr (.pointer (some a)) >>= fun p => loadCells p k.toNat >>= fun l => asAddr (.pointer (some b)) >>= fun q => loadCells q k.toNat >>= fun r =>
    (l.zip r).mapM (fun (p : Value × Value) => do pure (Value.int .u8 (Int.ofNat ((← asInt p.1).toNat ^^^ (← asInt p.2).toNat)))) >>= fun s => asAddr (.pointer (some ⟨g, 0, none⟩)) >>= fun d => storeCells d s.toList >>= fun _ => pure (Value.tuple #[])) w = _
  have h5 : (asInt (.int .i64 (n : Int))).run P w = .ok (n : Int) w := rfl
  simp only [Sem.run_bind, h5, asAddr, Sem.run_pure, Result.andThen_ok, Int.toNat_natCast, h1, h2, Array.mapM_eq_mapM_toList, map_eq_pure_bind, Array.toList_zip, h4, h3]

/-- A call of the library's assembly function xorBytes. -/
theorem xorAsm_run (w : World) (g : Nat) (cur : Array Value) (hg : w.heap[g]? = some (.cells cur 5 (0, 0))) (a b : Addr) (us vs : List Int) (n : Nat) (hu : us.length = n) (hv : vs.length = n)
    (ha : ∀ j, j < n → w.cell? (a.add j) = some (.int .u8 (us.getD j 0))) (hb : ∀ j, j < n → w.cell? (b.add j) = some (.int .u8 (vs.getD j 0))) (hn : n ≤ cur.size) :
    (callFunc 34 #[.pointer (some ⟨g, 0, none⟩), .pointer (some a), .pointer (some b), .int .i64 (n : Int)]).run Try.prog w =
      .ok (.value (.tuple #[])) (w.setRow g ((xorL us vs).map (Value.int .u8) ++ cur.toList.drop n).toArray) := by
  rw [run_callFunc_extern (e := Extern.CryptoHooks.xorBytes) Try.func34 (by kernel_rfl) (by kernel_rfl) (by kernel_rfl) (by kernel_rfl), run_xorEntry w g cur hg a b us vs n hu hv ha hb hn]
  rfl

/-- Two slices in two blocks, the first of plain memory: AnyOverlap says no. -/
theorem anyOverlap_run (w : World) (a b : Addr) (la ca lb cb : Nat) (cur : Array Value) (t : TypeId) (hg : w.heap[a.block]? = some (.cells cur t (0, 0))) (hne : a.block ≠ b.block) {v : Value} (hb : w.cell? b = some v) :
    (callFunc 36 #[.slice (some a) la ca, .slice (some b) lb cb]).run Try.prog w = .ok (.value (.bool false)) w := by
  obtain ⟨i0, hi, _, hz1, _⟩ := info_parts Try.info5
  have hsz : ∀ w : World, (Go.sizeOf 5).run Try.prog w = .ok 1 w := fun w => by simp [sizeOf, typeInfo, hi, hz1]
  obtain ⟨e, n, hsh, hlt, _⟩ := World.shape?_of_cell? hb
  have hfr : ∀ o s, w.frozen? ⟨a.block, o, s⟩ = false := fun o s => by simp [World.frozen?, hg]
  rw [run_callFunc_extern (e := Extern.SlicesOverlaps.overlaps #[22, 22] #[4]) Try.func36 (by kernel_rfl) (by kernel_rfl) (by kernel_rfl) (by kernel_rfl),
    Lib.run_overlaps_apart w 22 4 5 Try.underlying22 1 hsz a b la ca lb cb hne t e cur.size n (by simp [World.shape?, hg]) hsh (by omega) (hfr a.off a.spot) (hfr _ _)]
  rfl

/-- Two pointers into two blocks, the first of plain memory, are not equal. -/
theorem run_eql_apart (w : World) (a b : Addr) (cur : Array Value) (t : TypeId) (hg : w.heap[a.block]? = some (.cells cur t (0, 0))) (hne : a.block ≠ b.block) {v : Value} (hb : w.cell? b = some v) :
    (binOp .eql 45 (.pointer (some a)) (.pointer (some b))).run Try.prog w = .ok (.bool false) w := by
  obtain ⟨i0, hi, _, hz1, _⟩ := info_parts Try.info5
  obtain ⟨e, n, hsh, hlt, _⟩ := World.shape?_of_cell? hb
  have hsa : w.shape? a.block = some (t, cur.size) := by simp [World.shape?, hg]
  have hfr : ∀ o s, w.frozen? ⟨a.block, o, s⟩ = false := fun o s => by simp [World.frozen?, hg]
  have hfa : w.frozen? a = false := hfr a.off a.spot
  have hne' : (a.block == b.block) = false := by simpa using hne
  have hs : (sameAddr a b).run Try.prog w = .ok false w := by
    cases n with
    | zero => omega
    | succ n => simp [sameAddr, hne', frozen, noView, viewAt, mayBeOne, stringish, shape, Sem.run, hsa, hsh, hfa, hfr]
  have h : ∀ d : Nat, (Op.equalIn (d + 1) 45 (.pointer (some a)) (.pointer (some b))).run Try.prog w = .ok false w := fun d => by
    simp [Op.equalIn, run_underlying Try.underlying45, sizeOf, typeInfo, hi, hz1, hs, samePointer]
  simp only [binOp]
  simp [Op.equal, Op.maxDepth, h 9999]
end Go.Proofs.Ytfbngjhpmhiaoaa
