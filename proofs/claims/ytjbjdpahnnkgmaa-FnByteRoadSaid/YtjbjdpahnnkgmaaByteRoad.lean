/- The walk of the law FnByteRoad over ByteEq, Eq and Compare: it returns true, and nothing that was there before the call has changed. Condition: the list from which is drawn reads as bytes. -/
import Derived.Test.YtjbjdpahnnkgmaaNumbers
import Derived.Test.YtjbjdpahnnkgmaaCmp
namespace Go.Proofs.Ytjbjdpahnnkgmaa
open Go.RowKit

/-- A list of one byte, written out. -/
theorem Bs.lit1 (w : World) (x : Int) (h0 : 0 ≤ x) (h1 : x ≤ 255) : Bs (w.alloc (.cells #[.int .u8 x] 5)) (w.heap.size + 1) (some ⟨w.heap.size, 0, none⟩) 1 1 [x] := by
  refine ⟨rfl, Nat.le_refl _, by unfold maxLen; omega, ?_, by simp, fun _ => ⟨w.heap.size, 0, rfl, by omega, fun j hj => ?_⟩⟩
  · intro y hy
    rw [List.mem_singleton.1 hy]
    exact ⟨h0, h1⟩
  · obtain rfl : j = 0 := by omega
    exact cell_of_row _ w.heap.size 0 #[.int .u8 x] 5 (0, 0) (heap_alloc_new w _)

section
variable {w : World} {A : Option Addr} {len cap : Nat} {zs : List Int}
set_option maxHeartbeats 2000000 in
theorem byteRoad (h : IsRow .u8 w A len cap zs) : Calls Try.prog 8 #[.slice A len cap] w fun e w' => e = .returned (.bool true) ∧ Below w.heap.size w w' := by
  go_enter Try.func8, Try.ntmps8
  go_wp2_with fail
  refine (dBytes_any h).mono ?_
  rintro e w1 ⟨x, y, rfl, x0, x1, y0, y1, hb1⟩
  clear h
  have hs1 := hb1.size
  have u := (Bs.lit1 w1 x x0 x1).below ((Below.refl (w1.heap.size + 1) _).alloc (by simp) (.cells #[.int .u8 y] 5))
  have v := Bs.lit1 (w1.alloc (.cells #[.int .u8 x] 5)) y y0 y1
  have e1 : (w1.alloc (.cells #[.int .u8 x] 5)).heap.size = w1.heap.size + 1 := by simp
  rw [e1] at v
  have hb2 : Below w.heap.size w ((w1.alloc (.cells #[.int .u8 x] 5)).alloc (.cells #[.int .u8 y] 5)) := (hb1.alloc hs1 _).alloc (by simp; omega) _
  have U := u.more (show w1.heap.size + 1 ≤ w1.heap.size + 1 + 1 by omega)
  clear u e1 hb1
  by_cases hxy : x = y
  · subst hxy
    go_wp2_with fail
    refine (imByteEq_eq x _).mono ?_
    rintro e w' ⟨rfl, rfl⟩
    go_wp2_with fail
    refine (imEq_eq x _).mono ?_
    rintro e w' ⟨rfl, rfl⟩
    go_wp2_with fail
    refine (imCompare_eq U v rfl).mono ?_
    rintro e w3 ⟨rfl, q3⟩
    have hb3 := below_quiet hb2 q3
    clear U v hb2 q3
    go_wp2_with fail
    refine (alive_any _).mono ?_
    rintro e w' ⟨rfl, rfl⟩
    go_wp2
    go_ret
    exact ⟨rfl, hb3⟩
  · have H := Lib.hid hxy
    clear hxy
    go_wp2_with fail
    refine (imByteEq_ne x y H.out _).mono ?_
    rintro e w' ⟨rfl, rfl⟩
    go_wp2_with fail
    refine (imEq_ne x y H.out _).mono ?_
    rintro e w' ⟨rfl, rfl⟩
    go_wp2_with fail
    refine (imCompare_ne U v (fun e => H.out (by simpa using e))).mono ?_
    rintro e w3 ⟨rfl, q3⟩
    have hb3 := below_quiet hb2 q3
    clear U v hb2 q3
    go_wp2_with fail
    refine (alive_any _).mono ?_
    rintro e w' ⟨rfl, rfl⟩
    go_wp2
    go_ret
    exact ⟨rfl, hb3⟩
end
end Go.Proofs.Ytjbjdpahnnkgmaa
