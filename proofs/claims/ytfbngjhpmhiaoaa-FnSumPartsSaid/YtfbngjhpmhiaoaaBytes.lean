/- What a walk is told of a slice of bytes: 'Bs': it reads as a list of numbers from 0 to 255 and lies below a block; 'Own': it lies in a row of the call's own. And what append does to such slices. Conditions: the lengths that append is given add up to at most 140737488351232. -/
import Derived.Test.YtfbngjhpmhiaoaaRds
import Derived.Laws.AppendOwnNone
namespace Go.Proofs.Ytfbngjhpmhiaoaa
open Go.RowKit

/-- The slice reads as the bytes xs; its cells lie below block B. -/
structure Bs (w : World) (B : Nat) (A : Option Addr) (n c : Nat) (xs : List Int) : Prop where
  len : xs.length = n
  cap : n ≤ c
  top : c ≤ maxLen
  rng : ∀ x ∈ xs, 0 ≤ x ∧ x ≤ 255
  nil : A = none → c = 0
  cells : 0 < n → ∃ b off, A = some ⟨b, off, none⟩ ∧ b < B ∧ ∀ j, j < n → w.cell? ⟨b, off + j, none⟩ = some (.int .u8 (xs.getD j 0))

section
variable {w w' : World} {B B' n c k : Nat} {A : Option Addr} {xs : List Int}
theorem Bs.keep (h : Bs w B A n c xs) (hk : ∀ p : Addr, p.block < B → w'.cell? p = w.cell? p) : Bs w' B A n c xs :=
  ⟨h.len, h.cap, h.top, h.rng, h.nil, fun hn => by
    obtain ⟨b, off, e, hb, hc⟩ := h.cells hn
    exact ⟨b, off, e, hb, fun j hj => (hk ⟨b, off + j, none⟩ hb).trans (hc j hj)⟩⟩
theorem Bs.below (h : Bs w B A n c xs) (hb : Below B w w') : Bs w' B A n c xs := h.keep fun _ hp => hb.cell hp
theorem Bs.more (h : Bs w B A n c xs) (hB : B ≤ B') : Bs w B' A n c xs :=
  ⟨h.len, h.cap, h.top, h.rng, h.nil, fun hn => by
    obtain ⟨b, off, e, hb, hc⟩ := h.cells hn
    exact ⟨b, off, e, by omega, hc⟩⟩
theorem Bs.at_ (h : Bs w B A n c xs) {j : Nat} (hj : j < n) : ∃ b off, A = some ⟨b, off, none⟩ ∧ b < B ∧ w.cell? ⟨b, off + j, none⟩ = some (.int .u8 (xs.getD j 0)) ∧ 0 ≤ xs.getD j 0 ∧ xs.getD j 0 ≤ 255 := by
  obtain ⟨b, off, e, hb, hc⟩ := h.cells (by omega)
  have hl := h.len
  have hm : xs.getD j 0 ∈ xs := by rw [List.getD_eq_getElem?_getD, List.getElem?_eq_getElem (by omega)]; simp
  exact ⟨b, off, e, hb, hc j hj, (h.rng _ hm).1, (h.rng _ hm).2⟩
theorem Bs.grown (h : Bs w B A n c xs) {row : Option Nat} (hg : w.grownBy w' row) (hB : B ≤ w.heap.size) (hr : ∀ g, row = some g → B ≤ g) : Bs w' B A n c xs :=
  h.keep fun p hp => World.cell?_of_block (hg.block p.block (by omega) (fun e => by have := hr _ e.symm; omega))
/-- The first k bytes of a slice. -/
theorem Bs.front (h : Bs w B A n c xs) (hk : k ≤ n) : Bs w B A k c (xs.take k) := by
  have hl := h.len
  have hc := h.cap
  refine ⟨by rw [List.length_take]; omega, by omega, h.top, fun x hx => h.rng x (List.mem_of_mem_take hx), h.nil, fun hn => ?_⟩
  obtain ⟨b, off, e, hb, hc⟩ := h.cells (by omega)
  refine ⟨b, off, e, hb, fun j hj => ?_⟩
  rw [hc j (by omega)]
  simp [List.getD_eq_getElem?_getD, hj]
/-- The bytes of a slice from the k-th on. -/
theorem Bs.back {b off : Nat} (h : Bs w B (some ⟨b, off, none⟩) n c xs) (hk : k ≤ n) : Bs w B (some ⟨b, off + k, none⟩) (n - k) (c - k) (xs.drop k) := by
  have hl := h.len
  have hc := h.cap
  have ht := h.top
  refine ⟨by rw [List.length_drop]; omega, by omega, by omega, fun x hx => h.rng x (List.mem_of_mem_drop hx), by simp, fun hn => ?_⟩
  obtain ⟨b', off', e, hb, hc⟩ := h.cells (by omega)
  injection e with e
  injection e with e1 e2
  subst e1 e2
  refine ⟨b, off + k, rfl, hb, fun j hj => ?_⟩
  rw [Nat.add_assoc, hc (k + j) (by omega)]
  simp [List.getD_eq_getElem?_getD]
theorem Bs.empty (w : World) (B : Nat) : Bs w B none 0 0 [] := ⟨rfl, Nat.le_refl _, Nat.zero_le _, by simp, fun _ => rfl, fun h => absurd h (by omega)⟩
end

/-- An argument of a statement. -/
theorem Bs.of_row {w : World} {A : Option Addr} {len cap : Nat} {zs : List Int} (h : IsRow .u8 w A len cap zs) : Bs w w.heap.size A len cap (zs.take len) := by
  rcases h with ⟨rfl, rfl, rfl, rfl⟩ | ⟨x, rfl, hlc, hm, hz, hc, hw⟩
  · exact Bs.empty w _
  · refine ⟨by rw [List.length_take]; omega, hlc, hm, fun x hx => bounds_u8 (hw x (List.mem_of_mem_take hx)), by simp, fun hn => ?_⟩
    obtain ⟨b, off, rfl, hcc⟩ := ints_at hc (by omega)
    have hlt : b < w.heap.size := World.block_lt_of_cell? w _ (hcc 0 (by omega))
    refine ⟨b, off, rfl, hlt, fun j hj => ?_⟩
    rw [hcc j (by omega)]
    simp [List.getD_eq_getElem?_getD, hj]

/-- The slice lies at the head of a row of the call's own (from block 'base' on), or is nil. -/
structure Own (w : World) (base : Nat) (A : Option Addr) (n c : Nat) (xs : List Int) : Prop where
  own : w.ownsRow base 5 1 (.slice A n c) n (xs.map (Value.int .u8))
  rng : ∀ x ∈ xs, 0 ≤ x ∧ x ≤ 255

/-- The block of a slice. -/
def blockOf (A : Option Addr) : Option Nat := A.map Addr.block

section
variable {w w' : World} {base B n c k : Nat} {A : Option Addr} {xs : List Int}
theorem Own.len (h : Own w base A n c xs) : xs.length = n := by have := h.own.1; simpa using this
theorem own_block (A : Option Addr) (n c : Nat) : (Value.slice A n c).ownBlock = blockOf A := by cases A <;> rfl
theorem Own.lt (h : Own w base A n c xs) (g : Nat) (hg : blockOf A = some g) : base ≤ g ∧ g < w.heap.size := h.own.lt g (by rw [own_block]; exact hg)
theorem Own.bs (h : Own w base A n c xs) : Bs w w.heap.size A n c xs := by
  have hl := h.len
  rcases h.own.2 with ⟨hv, rfl⟩ | ⟨g, cap, cur, hv, hb, hh, hnc, hm, hs, ht⟩
  · injection hv with h1 h2 h3
    subst h1 h3
    have : xs = [] := List.eq_nil_of_length_eq_zero hl
    subst this
    exact Bs.empty w _
  · injection hv with h1 h2 h3
    subst h1 h3
    refine ⟨hl, hnc, hm, h.rng, by simp, fun hn => ⟨g, 0, rfl, ?_, fun j hj => ?_⟩⟩
    · exact (h.lt g rfl).2
    · have := h.own.cells (g := g) (by simp [Value.ownBlock]) j (.int .u8 (xs.getD j 0)) (by simp [List.getD_eq_getElem?_getD, List.getElem?_eq_getElem (show j < xs.length by omega)])
      rwa [WideShapes.add_plain] at this
theorem Own.keep (h : Own w base A n c xs) {row : Option Nat} (hg : w.grownBy w' row) (hr : ∀ g, blockOf A = some g → row ≠ some g) : Own w' base A n c xs :=
  ⟨h.own.kept hg (by
    rw [own_block]
    cases hA : blockOf A with
    | none => exact .inl rfl
    | some g => exact .inr fun e => hr g hA e.symm), h.rng⟩
theorem Own.alloc (h : Own w base A n c xs) (o : Obj) : Own (w.alloc o) base A n c xs := ⟨h.own.alloc o, h.rng⟩
theorem Own.drew (h : Own w base A n c xs) : Own w.drew base A n c xs := ⟨h.own, h.rng⟩
theorem Own.drewN (h : Own w base A n c xs) (m : Nat) : Own (w.drewN m) base A n c xs := ⟨h.own, h.rng⟩
theorem Own.front (h : Own w base A n c xs) (hk : k ≤ n) : Own w base A k c (xs.take k) := by
  refine ⟨?_, fun x hx => h.rng x (List.mem_of_mem_take hx)⟩
  have hl := h.len
  obtain ⟨h1, h2⟩ := h.own
  refine ⟨by simp; omega, ?_⟩
  rcases h2 with ⟨hv, rfl⟩ | ⟨g, cap, cur, hv, hb, hh, hnc, hm, hs, ht⟩
  · obtain rfl : k = 0 := by omega
    injection hv with h3 h4 h5
    subst h3 h5
    exact .inl ⟨rfl, rfl⟩
  · injection hv with h3 h4 h5
    subst h3 h5
    refine .inr ⟨g, c, cur, rfl, hb, hh, by omega, hm, hs, ?_⟩
    rw [List.map_take, ← ht, List.take_take]
    congr 1
    omega
/-- A byte of a row of the call's own. -/
theorem Own.at_ (h : Own w base A n c xs) {j : Nat} (hj : j < n) : ∃ g, A = some ⟨g, 0, none⟩ ∧ base ≤ g ∧ g < w.heap.size ∧ w.cell? ⟨g, j, none⟩ = some (.int .u8 (xs.getD j 0)) ∧ w.frozen? ⟨g, j, none⟩ = false ∧ 0 ≤ xs.getD j 0 ∧ xs.getD j 0 ≤ 255 := by
  obtain ⟨b, off, hA, hb, hc, h0, h1⟩ := h.bs.at_ hj
  rcases h.own.2 with ⟨hv, rfl⟩ | ⟨g, cap, cur, hv, hg, hh, r⟩
  · omega
  · injection hv with h3 h4 h5
    rw [hA] at h3
    injection h3 with h3
    injection h3 with h6 h7 h8
    subst h6 h7
    exact ⟨b, hA, hg, hb, by simpa using hc, by simp [World.frozen?, hh], h0, h1⟩
/-- A byte of a row of the call's own is written. -/
theorem Own.store {g : Nat} (h : Own w base (some ⟨g, 0, none⟩) n c xs) (j : Nat) (y : Int) (y0 : 0 ≤ y) (y1 : y ≤ 255) : Own (w.setCell ⟨g, j, none⟩ (.int .u8 y)) base (some ⟨g, 0, none⟩) n c (xs.set j y) := by
  refine ⟨?_, fun x hx => ?_⟩
  · have := (h.own.stored j (.int .u8 y)).1
    rwa [← List.map_set] at this
  · rcases List.mem_or_eq_of_mem_set hx with hx | hx
    · exact h.rng x hx
    · rw [hx]; exact ⟨y0, y1⟩
theorem Own.less {base' : Nat} (h : Own w base A n c xs) (hb : base' ≤ base) : Own w base' A n c xs := by
  refine ⟨⟨h.own.1, ?_⟩, h.rng⟩
  rcases h.own.2 with h2 | ⟨g, cap, cur, hv, hg, r⟩
  · exact .inl h2
  · exact .inr ⟨g, cap, cur, hv, by omega, r⟩
/-- The empty list, written out: a new block without cells. -/
theorem Own.made (w : World) (hb : base ≤ w.heap.size) : Own (w.alloc (.cells #[] 5)) base (some ⟨w.heap.size, 0, none⟩) 0 0 [] :=
  ⟨World.ownsRow_made w #[] 0 hb (Nat.zero_le _) (by simp), by simp⟩
end

/-- What owns a row is a slice. -/
theorem own_form {w : World} {base e size n : Nat} {v : Value} {xs : List Value} (h : w.ownsRow base e size v n xs) : ∃ A c, v = .slice A n c := by
  rcases h.2 with ⟨hv, rfl⟩ | ⟨g, cap, cur, hv, _⟩
  · exact ⟨_, _, hv⟩
  · exact ⟨_, _, hv⟩

/-- What has grown by rows of the call's own has grown. -/
theorem grown_own {w w1 w2 : World} {R : Nat} {row : Option Nat} (h : w.grownBy w1 (some R)) (hg : w1.grownBy w2 row) (hr : ∀ k, row = some k → w.heap.size ≤ k) : w.grownBy w2 (some R) :=
  ⟨hg.os.trans h.os, hg.tape.trans h.tape, hg.output.trans h.output, Nat.le_trans h.size hg.size, fun k hk hne => (hg.block k (Nat.lt_of_lt_of_le hk h.size) (fun e => by have := hr k e.symm; omega)).trans (h.block k hk hne)⟩

theorem grown_set (w : World) (g j : Nat) (u : Value) : w.grownBy (w.setCell ⟨g, j, none⟩ u) (some g) :=
  ⟨rfl, rfl, rfl, by simp [World.setCell], fun k _ hk => Below.heap_setCell w ⟨g, j, none⟩ u k (fun e => hk (by rw [e]))⟩
theorem below_of_grown {w w1 : World} (h : w.grownBy w1 none) : Below w.heap.size w w1 := ⟨h.os, h.tape, h.output, h.size, fun k hk => h.block k hk (by simp)⟩
theorem grown_of_below {w w1 : World} (h : Below w.heap.size w w1) (row : Option Nat) : w.grownBy w1 row := ⟨h.os, h.tape, h.output, h.size, fun k hk _ => h.block k hk⟩

theorem Try.info5 : (Try.prog.info? 5).map (fun i => (i.zero, i.size, i.bytes)) = some (some (.int .u8 0), 1, 1) := by kernel_rfl

section
variable {ops : Array Oper} {rest : List Oper} {o : Oper} {a : Act} {Q : Exit → Act → World → Prop} {w : World} {base n c : Nat} {A : Option Addr} {xs : List Int}

/-- The kit's laws on append, for an operation whose guard, if it has one, says yes. -/
theorem wpList_append_own' {P : Program} (hw : Region.wanted o (yielded ops a.tmps) = true) (s x : Operand) (t : TypeId) (ho : o.op = .call { callee := .builtin .append, args := #[s, x], argTypes := #[t, t] })
    (base : Nat) (e : TypeId) (i : TypeInfo) (z : Value) (size bytes : Nat) (ht : P.underlying t = some (.slice e)) (hi : P.info? e = some i) (hz : i.zero = some z)
    (hsize : i.size = size) (hby : i.bytes = bytes) (hzs : z.cells.size = size) (hsz : 0 < size)
    (v : Value) (n : Nat) (xs : List Value) (hs : a.eval s = v) (hown : w.ownsRow base e size v n xs)
    (ad : Addr) (m c : Nat) (news : List Value) (hx : a.eval x = .slice (some ad) m c) (hl : news.length = m * size) (hnews : ∀ j u, news[j]? = some u → w.cell? (ad.add j) = some u) (h1 : ∀ u ∈ news, u.oneCell' = true)
    (h63 : n + m ≤ maxLen) (hbytes : (n + m) * bytes ≤ 140737488355328) (hbase : base ≤ w.heap.size)
    (h : ∀ v' w', w'.ownsRow base e size v' (n + m) (xs ++ news) → w.grownBy w' v.ownBlock → (v' = .slice none 0 0 ↔ v = .slice none 0 0 ∧ m = 0) → wpList P ops Q rest (a.put o.dst v') w') : wpList P ops Q (o :: rest) a w :=
  BigFrame.wpList_want hw fun _ hK => wp_append_own w s x t ho base e i z size bytes ht hi hz hsize hby hzs hsz v n xs hs hown ad m c news hx hl hnews h1 h63 hbytes hbase fun v' w' h2 h3 h4 => hK _ _ (h v' w' h2 h3 h4)
theorem wpList_append_none' {P : Program} (hw : Region.wanted o (yielded ops a.tmps) = true) (s x : Operand) (t : TypeId) (ho : o.op = .call { callee := .builtin .append, args := #[s, x], argTypes := #[t, t] })
    (base : Nat) (e : TypeId) (i : TypeInfo) (size : Nat) (ht : P.underlying t = some (.slice e)) (hi : P.info? e = some i)
    (v : Value) (n : Nat) (xs : List Value) (hs : a.eval s = v) (hown : w.ownsRow base e size v n xs) (hx : a.eval x = .slice none 0 0)
    (h : wpList P ops Q rest (a.put o.dst v) w) : wpList P ops Q (o :: rest) a w := by
  refine BigFrame.wpList_want hw fun K hK => ?_
  have hrun := run_append_owned_none (P := P) (w := w) base t o.type e i size ht hi v n xs hown
  unfold Oper.wp execOp
  simp only [ho, resolve, invoke, builtin, Sem.run_bind, Sem.run_pure, Result.andThen_ok, List.map_toArray, List.map_cons, List.map_nil, hs, hx, hrun]
  exact hK _ _ h

/-- append(out, y), out a row of the call's own: a row of the call's own, one byte longer. -/
theorem wpList_app1 (hw : Region.wanted o (yielded ops a.tmps) = true) (s x : Operand) (ho : o.op = .call { callee := .builtin .append, args := #[s, x], argTypes := #[22, 22] })
    (hs : a.eval s = .slice A n c) (hown : Own w base A n c xs) (y : Int) (hy0 : 0 ≤ y) (hy1 : y ≤ 255) (hx : a.eval x = .slice (some ⟨w.heap.size, 0, none⟩) 1 1) (hn : n + 1 ≤ 140737488351232) (hbase : base ≤ w.heap.size)
    (h : ∀ A' c' w1, Own w1 base A' (n + 1) c' (xs ++ [y]) → w.grownBy w1 (blockOf A) → wpList Try.prog ops Q rest (a.put o.dst (.slice A' (n + 1) c')) w1) :
    wpList Try.prog ops Q (o :: rest) a (w.alloc (.cells #[.int .u8 y] 5)) := by
  obtain ⟨i0, hi, hz0, hz1, hz2⟩ := info_parts Try.info5
  refine wpList_append_own' hw s x 22 ho base 5 i0 (.int .u8 0) 1 1 Try.underlying22 hi hz0 hz1 hz2 rfl (by decide) _ n _ hs (hown.alloc _).own ⟨w.heap.size, 0, none⟩ 1 1 [.int .u8 y] hx rfl ?_ ?_ ?_ ?_ ?_ ?_
  · intro j u hj
    match j, hj with
    | 0, hj => simp at hj; subst hj; simp [Addr.add]
  · intro u hu; simp at hu; subst hu; rfl
  · unfold maxLen; omega
  · omega
  · simp; omega
  · intro v' w1 hown' hgrow _
    have hrng : ∀ x ∈ xs ++ [y], 0 ≤ x ∧ x ≤ 255 := by
      intro z hz
      rcases List.mem_append.1 hz with hz | hz
      · exact hown.rng z hz
      · rw [List.mem_singleton.1 hz]; exact ⟨hy0, hy1⟩
    obtain ⟨A', c', hv⟩ := own_form hown'
    subst hv
    refine h _ _ w1 ⟨by simpa using hown', hrng⟩ ?_
    rw [own_block] at hgrow
    exact (World.grownBy_alloc w _ _).trans hgrow

/-- append(out, src...), out a row of the call's own, src a slice that reads as bytes: a row of the call's own. -/
theorem wpList_appAll (hw : Region.wanted o (yielded ops a.tmps) = true) (s x : Operand) (ho : o.op = .call { callee := .builtin .append, args := #[s, x], argTypes := #[22, 22] })
    (hs : a.eval s = .slice A n c) (hown : Own w base A n c xs) {B : Nat} {A2 : Option Addr} {m c2 : Nat} {ys : List Int} (hx : a.eval x = .slice A2 m c2) (hsrc : Bs w B A2 m c2 ys) (hn : n + m ≤ 140737488351232) (hbase : base ≤ w.heap.size)
    (h : ∀ A' c' w1, Own w1 base A' (n + m) c' (xs ++ ys) → w.grownBy w1 (blockOf A) → wpList Try.prog ops Q rest (a.put o.dst (.slice A' (n + m) c')) w1) :
    wpList Try.prog ops Q (o :: rest) a w := by
  obtain ⟨i0, hi, hz0, hz1, hz2⟩ := info_parts Try.info5
  have hl := hsrc.len
  have hcp := hsrc.cap
  rcases A2 with _ | ad
  · have hc0 := hsrc.nil rfl
    obtain rfl : m = 0 := by omega
    obtain rfl : c2 = 0 := hc0
    obtain rfl : ys = [] := List.eq_nil_of_length_eq_zero hl
    refine wpList_append_none' hw s x 22 ho base 5 i0 1 Try.underlying22 hi _ n _ hs hown.own hx ?_
    exact h A c w (by simpa using hown) (World.grownBy.refl w _)
  · refine wpList_append_own' hw s x 22 ho base 5 i0 (.int .u8 0) 1 1 Try.underlying22 hi hz0 hz1 hz2 rfl (by decide) _ n _ hs hown.own ad m c2 (ys.map (Value.int .u8)) hx (by simp [hl]) ?_ ?_ ?_ ?_ hbase ?_
    · intro j u hj
      have hjl : j < m := by
        have := (List.getElem?_eq_some_iff.1 hj).1
        simpa [hl] using this
      obtain ⟨b, off, hA, _, hc⟩ := hsrc.cells (by omega)
      injection hA with hA
      subst hA
      rw [WideShapes.add_plain, hc j hjl, ← hj]
      simp [List.getD_eq_getElem?_getD, List.getElem?_eq_getElem (show j < ys.length by omega)]
    · intro u hu
      obtain ⟨y, _, rfl⟩ := List.mem_map.1 hu
      rfl
    · unfold maxLen; omega
    · omega
    · intro v' w1 hown' hgrow _
      have hrng : ∀ x ∈ xs ++ ys, 0 ≤ x ∧ x ≤ 255 := by
        intro z hz
        rcases List.mem_append.1 hz with hz | hz
        · exact hown.rng z hz
        · exact hsrc.rng z hz
      obtain ⟨A', c', hv⟩ := own_form hown'
      subst hv
      rw [own_block] at hgrow
      exact h _ _ w1 ⟨by simpa using hown', hrng⟩ hgrow

/-- append([]byte{}, src...): a copy of src in new memory. -/
theorem wpList_clone (hw : Region.wanted o (yielded ops a.tmps) = true) (s x : Operand) (ho : o.op = .call { callee := .builtin .append, args := #[s, x], argTypes := #[22, 22] })
    (hs : a.eval s = .slice (some ⟨w.heap.size, 0, none⟩) 0 0) {B : Nat} {A2 : Option Addr} {m c2 : Nat} {ys : List Int} (hx : a.eval x = .slice A2 m c2) (hsrc : Bs w B A2 m c2 ys) (hB : B ≤ w.heap.size) (hm : m ≤ 140737488351232)
    (h : ∀ A' c' w1, Own w1 w.heap.size A' m c' ys → Below w.heap.size w w1 → wpList Try.prog ops Q rest (a.put o.dst (.slice A' m c')) w1) :
    wpList Try.prog ops Q (o :: rest) a (w.alloc (.cells #[] 5)) := by
  have hs0 : Bs (w.alloc (.cells #[] 5)) w.heap.size A2 m c2 ys := (hsrc.more hB).below ((Below.refl _ _).alloc (Nat.le_refl _) _)
  refine wpList_appAll hw s x ho hs (Own.made w (Nat.le_refl _)) hx hs0 (by omega) (by simp) ?_
  intro A' c' w1 hO hg
  have hO' : Own w1 w.heap.size A' m c' ys := by simpa using hO
  have hb : Below w.heap.size w w1 := ((Below.refl _ _).alloc (Nat.le_refl _) _).grown hg (by simp) (fun k hk => by simp [blockOf] at hk; omega)
  have := h A' c' w1 hO' hb
  simpa using this
end
end Go.Proofs.Ytfbngjhpmhiaoaa
