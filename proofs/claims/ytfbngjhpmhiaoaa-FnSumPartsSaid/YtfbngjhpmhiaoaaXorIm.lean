/- The contracts of the thin package's XorBytes and XorInto: how many bytes were written to a copy of the first list, this copy, and whether the library's function panicked; nothing that was there before the call has changed. Conditions: the slices read as bytes, the first one of at most 140737488351232. -/
import Derived.Test.YtfbngjhpmhiaoaaXorFn
import Derived.Defers
import Derived.Recover
namespace Go.Proofs.Ytfbngjhpmhiaoaa
open Go.RowKit

/-- append([]byte{}, src...) behind other new blocks. -/
theorem wpList_cloneAt {ops : Array Oper} {rest : List Oper} {o : Oper} {a : Act} {Q : Exit → Act → World → Prop} {w : World} (hw : Region.wanted o (yielded ops a.tmps) = true) (s x : Operand) (ho : o.op = .call { callee := .builtin .append, args := #[s, x], argTypes := #[22, 22] })
    (g : Nat) (hs : a.eval s = .slice (some ⟨g, 0, none⟩) 0 0) {B : Nat} {A2 : Option Addr} {m c2 : Nat} {ys : List Int} (hx : a.eval x = .slice A2 m c2) (hsrc : Bs w B A2 m c2 ys) (hg : w.heap.size = g) (hB : B ≤ w.heap.size) (hm : m ≤ 140737488351232)
    (h : ∀ A' c' w1, Own w1 w.heap.size A' m c' ys → Below w.heap.size w w1 → wpList Try.prog ops Q rest (a.put o.dst (.slice A' m c')) w1) :
    wpList Try.prog ops Q (o :: rest) a (w.alloc (.cells #[] 5)) := by
  subst hg
  exact wpList_clone hw s x ho hs hx hsrc hB hm h

theorem catch_panicking (p : Addr) (x : Bool) (u : TypeId) (pv : Value) (older : List PanicEntry) (w : World) (hc : w.cell? p = some (.bool x)) (hz : w.frozen? p = false) :
    CallsD Try.prog 25 #[.pointer (some p)] (.panicking ({ v := .iface u pv, recovered := false } :: older)) w fun e u' w' =>
      e = .returned (.tuple #[]) ∧ u' = .panicking ({ v := .iface u pv, recovered := true } :: older) ∧ w' = w.setCell p (.bool true) := by
  refine callsD_of_wpS Try.func25 rfl fun c₀ cs hu => ?_
  apply wpS_region
  simp [wpOpsS, go_sem, recoverD, hu, Try.ntmps25, hc, hz, bodyPostS, results, Try.results25]

theorem catch_idle (p : Addr) (x : Bool) (w : World) (hc : w.cell? p = some (.bool x)) (hz : w.frozen? p = false) :
    CallsD Try.prog 25 #[.pointer (some p)] .returning w fun e u' w' => e = .returned (.tuple #[]) ∧ u' = .returning ∧ w' = w.setCell p (.bool false) := by
  refine callsD_of_wpS Try.func25 rfl fun c₀ cs hu => ?_
  apply wpS_region
  simp [wpOpsS, go_sem, recoverD, hu, Try.ntmps25, hc, hz, bodyPostS, results, Try.results25]
  cases c₀
  simp_all

/-- The block of the result 'panicked', while the call goes on. -/
theorem flag_later {w w3 : World} {o : Obj} {b : Bool} (ho : o = .cells #[.bool b] 4 (0, 0)) {g : Option Nat} (hg : (w.alloc o).grownBy w3 g) (hne : ∀ k, g = some k → w.heap.size < k) :
    w3.cell? ⟨w.heap.size, 0, none⟩ = some (.bool b) ∧ w3.frozen? ⟨w.heap.size, 0, none⟩ = false ∧ w.heap.size < w3.heap.size := by
  subst ho
  have hb : w3.heap[w.heap.size]? = some (.cells #[.bool b] 4 (0, 0)) := (hg.block w.heap.size (by simp) (fun e => by have := hne _ e.symm; omega)).trans (heap_alloc_new w _)
  refine ⟨by simp [World.cell?, hb], by simp [World.frozen?, hb], ?_⟩
  have := hg.size
  simp at this
  omega

set_option maxHeartbeats 2000000 in
/-- impl.XorBytes where the copy is long enough. -/
theorem imXor_ok {w : World} {B nd c0 nx cx ny cy : Nat} {A0 A1 A2 : Option Addr} {ds xs ys : List Int} (hd : Bs w B A0 nd c0 ds) (hx : Bs w B A1 nx cx xs) (hy : Bs w B A2 ny cy ys) (hB : B ≤ w.heap.size) (hn : min nx ny ≤ nd) (h31 : nd ≤ 140737488351232) :
    Calls Try.prog 16 #[.slice A0 nd c0, .slice A1 nx cx, .slice A2 ny cy] w fun e w' => ∃ A' c', e = .returned (.tuple #[.int .i64 ((min nx ny : Nat) : Int), .slice A' nd c', .bool false]) ∧ Own w' w.heap.size A' nd c' (sumL ds xs ys) ∧ Below w.heap.size w w' := by
  have hmf : ∀ (fn : Fn) (first cap : Array Value) (w : World), (Instr.makeFunc fn first cap).run Try.prog w = .ok (.func fn first cap) w := fun _ _ _ _ => rfl
  have b0 : Below w.heap.size w (w.alloc (.cells #[.bool false] 4)) := (Below.refl _ _).alloc (Nat.le_refl _) _
  have d0 := (hd.more hB).below b0; have x0 := (hx.more hB).below b0; have y0 := (hy.more hB).below b0
  clear hd hx hy
  go_enter_defers Try.func16, Try.ntmps16
  go_wp2_with (first
    | (at_builtin; refine wpList_cloneAt rfl _ _ rfl _ rfl rfl d0 (by simp) (by simp) h31 ?_; intro A' c' w1 hO1 b1)
    | (go_at_call 24; go_in))
  have hs1 := b1.size
  simp at hs1
  have x1 := x0.below (b1.mono (by simp)); have y1 := y0.below (b1.mono (by simp))
  have hb1 : Below w.heap.size w w1 := b0.trans (b1.mono (by simp))
  have g1 := grown_of_below b1 none
  refine (fiXor_apart hO1 x1 y1 (by simp) hn h31).mono ?_
  rintro e w3 ⟨rfl, hO3, g3⟩
  have G3 : (w.alloc (.cells #[.bool false] 4)).grownBy w3 (blockOf A') := ⟨g3.os.trans g1.os, g3.tape.trans g1.tape, g3.output.trans g1.output, Nat.le_trans g1.size g3.size, fun k hk hne => (g3.block k (Nat.lt_of_lt_of_le hk g1.size) hne).trans (g1.block k hk (by simp))⟩
  have hnk : ∀ k, blockOf A' = some k → w.heap.size < k := fun k hk => by have := (hO1.lt k hk).1; simp at this; omega
  obtain ⟨hc, hf, hs3⟩ := flag_later rfl G3 hnk
  have hb3 := hb1.grown g3 hb1.size (fun k hk => by have := hnk k hk; omega)
  clear g1 g3 G3 b1 b0 d0 x0 y0 x1 y1 hb1 hO1
  go_wp2
  refine leaves_cons (f := 25) (args := #[.pointer (some ⟨w.heap.size, 0, none⟩)]) (by simp) (by simp [go_sem]) ?_
  refine (catch_idle ⟨w.heap.size, 0, none⟩ false _ ?_ ?_).mono ?_
  · simp [go_sem, hc]
  · simp [go_sem, hf]
  rintro e u' w'' ⟨rfl, rfl, rfl⟩
  simp [Leaves, settle, results, Try.results16, go_sem, hc]
  have hk1 := grown_set w3 w.heap.size 0 (.bool false)
  have hne : ∀ g, blockOf A' = some g → (some w.heap.size : Option Nat) ≠ some g := fun g hg e => by have := hnk g hg; injection e with e; omega
  exact ⟨A', c', ⟨rfl, rfl⟩, ((hO3.keep hk1 hne).keep (grown_set _ w.heap.size 0 (.bool false)) hne).less (by simp), (hb3.setCell (Nat.le_refl _) _).setCell (Nat.le_refl _) _⟩

set_option maxHeartbeats 2000000 in
/-- impl.XorBytes where the copy is too short. -/
theorem imXor_panic {w : World} {B nd c0 nx cx ny cy : Nat} {A0 A1 A2 : Option Addr} {ds : List Int} (hd : Bs w B A0 nd c0 ds) (hB : B ≤ w.heap.size) (hn : nd < min nx ny) (h31 : nd ≤ 140737488351232) :
    Calls Try.prog 16 #[.slice A0 nd c0, .slice A1 nx cx, .slice A2 ny cy] w fun e w' => ∃ A' c', e = .returned (.tuple #[.int .i64 0, .slice A' nd c', .bool true]) ∧ Own w' w.heap.size A' nd c' ds ∧ Below w.heap.size w w' := by
  have hmf : ∀ (fn : Fn) (first cap : Array Value) (w : World), (Instr.makeFunc fn first cap).run Try.prog w = .ok (.func fn first cap) w := fun _ _ _ _ => rfl
  have b0 : Below w.heap.size w (w.alloc (.cells #[.bool false] 4)) := (Below.refl _ _).alloc (Nat.le_refl _) _
  have d0 := (hd.more hB).below b0
  clear hd
  go_enter_defers Try.func16, Try.ntmps16
  go_wp2_with (first
    | (at_builtin; refine wpList_cloneAt rfl _ _ rfl _ rfl rfl d0 (by simp) (by simp) h31 ?_; intro A' c' w1 hO1 b1)
    | (go_at_call 24; go_in))
  have hb1 : Below w.heap.size w w1 := b0.trans (b1.mono (by simp))
  have hnk : ∀ k, blockOf A' = some k → w.heap.size < k := fun k hk => by have := (hO1.lt k hk).1; simp at this; omega
  obtain ⟨hc, hf, hs3⟩ := flag_later rfl (grown_of_below b1 none) (by simp)
  refine (fiXor_panic hn).mono ?_
  rintro e w3 ⟨v, rfl, rfl⟩
  clear b1 b0 d0
  go_wp2
  refine ⟨rfl, ?_⟩
  refine leaves_cons (f := 25) (args := #[.pointer (some ⟨w.heap.size, 0, none⟩)]) (by simp) (by simp [go_sem]) ?_
  refine (catch_panicking ⟨w.heap.size, 0, none⟩ false 9 v [] _ hc hf).mono ?_
  rintro e u' w'' ⟨rfl, rfl, rfl⟩
  simp [Leaves, settle, results, Try.results16, go_sem, hc]
  have hk1 := grown_set w1 w.heap.size 0 (.bool true)
  have hne : ∀ g, blockOf A' = some g → (some w.heap.size : Option Nat) ≠ some g := fun g hg e => by have := hnk g hg; injection e with e; omega
  exact ⟨A', c', ⟨rfl, rfl⟩, (hO1.keep hk1 hne).less (by simp), hb1.setCell (Nat.le_refl _) _⟩

set_option maxHeartbeats 2000000 in
/-- impl.XorInto. -/
theorem imInto_any {w : World} {B nx cx ny cy : Nat} {A1 A2 : Option Addr} {xs ys : List Int} (hx : Bs w B A1 nx cx xs) (hy : Bs w B A2 ny cy ys) (hB : B ≤ w.heap.size) (h31 : nx ≤ 140737488351232) :
    Calls Try.prog 15 #[.slice A1 nx cx, .slice A2 ny cy] w fun e w' => ∃ A' c', e = .returned (.tuple #[.int .i64 ((min nx ny : Nat) : Int), .slice A' nx c']) ∧ Own w' w.heap.size A' nx c' (sumL xs xs ys) ∧ Below w.heap.size w w' := by
  go_enter Try.func15, Try.ntmps15
  go_wp2_with (first
    | (at_builtin; refine wpList_clone rfl _ _ rfl rfl rfl hx hB h31 ?_; intro A' c' w1 hO1 b1)
    | (go_at_call 24; go_in))
  have y1 := (hy.more hB).below b1
  refine (fiXor_into hO1 y1 (Nat.le_refl _) h31).mono ?_
  rintro e w3 ⟨rfl, hO3, g3⟩
  have hb3 := b1.grown g3 b1.size (fun k hk => (hO1.lt k hk).1)
  clear g3 b1 hO1 y1
  go_wp2
  go_ret2
  exact ⟨A', c', rfl, hO3, hb3⟩
end Go.Proofs.Ytfbngjhpmhiaoaa
