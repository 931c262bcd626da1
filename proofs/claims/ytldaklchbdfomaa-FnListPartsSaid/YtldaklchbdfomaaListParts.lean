/- The walk of the law FnListParts over Compare: it returns true, and nothing that was there before the call has changed. Condition: the list from which is drawn reads as bytes. -/
import Derived.Test.YtldaklchbdfomaaListLaws
import Derived.Deep.RegionWith
namespace Go.Proofs.Ytldaklchbdfomaa
open Go.RowKit

theorem eq_of_parts (xs ys : List Int) (k : Nat) (h1 : xs.take k = ys.take k) (h2 : xs.drop k = ys.drop k) : xs = ys := by
  rw [← List.take_append_drop k xs, ← List.take_append_drop k ys, h1, h2]

section
variable {w : World} {A : Option Addr} {len cap : Nat} {zs : List Int}
set_option maxHeartbeats 2000000 in
theorem listParts (h : IsRow .u8 w A len cap zs) : Calls Try.prog 13 #[.slice A len cap] w fun e w' => e = .returned (.bool true) ∧ Below w.heap.size w w' := by
  go_enter Try.func13, Try.ntmps13
  go_wp2_with fail
  refine (dEven_any h).mono ?_
  rintro e w1 ⟨A1, c1, xs, A2, c2, ys, A3, c3, zs, n, rfl, hO1, hO2, hO3, hn, hb1⟩
  have x1 := hO1.bs; have y1 := hO2.bs
  have p1 := x1.cap; have p2 := y1.cap
  clear h
  obtain ⟨k, hk⟩ : ∃ k, k = n / 2 := ⟨_, rfl⟩
  rcases Nat.eq_zero_or_pos n with hz | hz
  · subst hz
    clear hk hO1 hO2 hO3 x1 y1
    by_cases d1 : c1 = 0 <;> by_cases d2 : c2 = 0
    all_goals
      go_wp2_with fail
      go_quiet ((first | (go_at_call 16; exact Calls.quiet_of_same ((imCompare_zero _ _ _ _ _).mono fun _ _ hh => ⟨hh.1, hh.2.symm⟩)) | (go_at_call 18; exact Calls.quiet_of_same ((alive_any _).mono fun _ _ hh => ⟨hh.1, hh.2.symm⟩))))
      go_wp2
      go_ret
      exact ⟨rfl, below_drewN' hb1 _⟩
  · obtain ⟨g1, rfl, -⟩ := hO1.at_ hz
    obtain ⟨g2, rfl, -⟩ := hO2.at_ hz
    have ek : (n : Int) / 2 = (k : Int) := by omega
    have k1 : (k : Int) ≤ c1 := by omega
    have k2 : (k : Int) ≤ c2 := by omega
    have k3 : (k : Int) ≤ n := by omega
    have k4 : k < n := by omega
    have k5 : ¬ c1 = k := by omega
    have k6 : ¬ c2 = k := by omega
    have xf := x1.front (k := k) (by omega); have yf := y1.front (k := k) (by omega)
    have xb := x1.back (k := k) (by omega); have yb := y1.back (k := k) (by omega)
    rw [Nat.zero_add] at xb yb
    clear hk hO1 hO2 hO3
    by_cases h1 : xs.take k = ys.take k
    · have H1 := Lib.hid h1
      by_cases h2 : xs.drop k = ys.drop k
      · have H2 := Lib.hid h2
        have H0 := Lib.hid (eq_of_parts xs ys k h1 h2)
        clear h1 h2
        go_wp2_with fail
        go_quiet ((first | (go_at_call_of 16 (Value.slice (some ⟨g1, 0, none⟩) n c1); exact Calls.quiet_of (imCompare_eq (x1.drewN _) (y1.drewN _) H0.out)) | (go_at_call_of 16 (Value.slice (some ⟨g1, 0, none⟩) k c1); exact Calls.quiet_of (imCompare_eq (xf.drewN _) (yf.drewN _) H1.out)) | (go_at_call_of 16 (Value.slice (some ⟨g1, k, none⟩) (n - k) (c1 - k)); exact Calls.quiet_of (imCompare_eq (xb.drewN _) (yb.drewN _) H2.out)) | (go_at_call 18; exact Calls.quiet_of_same ((alive_any _).mono fun _ _ hh => ⟨hh.1, hh.2.symm⟩))))
        go_wp2
        go_ret
        exact ⟨rfl, below_drewN' hb1 _⟩
      · have H2 := Lib.hid h2
        have H0 : Hid (¬ xs = ys) := Lib.hid (fun e => h2 (by rw [e]))
        clear h1 h2
        go_wp2_with fail
        go_quiet ((first | (go_at_call_of 16 (Value.slice (some ⟨g1, 0, none⟩) n c1); exact Calls.quiet_of (imCompare_ne (x1.drewN _) (y1.drewN _) H0.out)) | (go_at_call_of 16 (Value.slice (some ⟨g1, 0, none⟩) k c1); exact Calls.quiet_of (imCompare_eq (xf.drewN _) (yf.drewN _) H1.out)) | (go_at_call_of 16 (Value.slice (some ⟨g1, k, none⟩) (n - k) (c1 - k)); exact Calls.quiet_of (imCompare_ne (xb.drewN _) (yb.drewN _) H2.out)) | (go_at_call 18; exact Calls.quiet_of_same ((alive_any _).mono fun _ _ hh => ⟨hh.1, hh.2.symm⟩))))
        go_wp2
        go_ret
        exact ⟨rfl, below_drewN' hb1 _⟩
    · have H1 := Lib.hid h1
      have H0 : Hid (¬ xs = ys) := Lib.hid (fun e => h1 (by rw [e]))
      by_cases h2 : xs.drop k = ys.drop k
      · have H2 := Lib.hid h2
        clear h1 h2
        go_wp2_with fail
        go_quiet ((first | (go_at_call_of 16 (Value.slice (some ⟨g1, 0, none⟩) n c1); exact Calls.quiet_of (imCompare_ne (x1.drewN _) (y1.drewN _) H0.out)) | (go_at_call_of 16 (Value.slice (some ⟨g1, 0, none⟩) k c1); exact Calls.quiet_of (imCompare_ne (xf.drewN _) (yf.drewN _) H1.out)) | (go_at_call_of 16 (Value.slice (some ⟨g1, k, none⟩) (n - k) (c1 - k)); exact Calls.quiet_of (imCompare_eq (xb.drewN _) (yb.drewN _) H2.out)) | (go_at_call 18; exact Calls.quiet_of_same ((alive_any _).mono fun _ _ hh => ⟨hh.1, hh.2.symm⟩))))
        go_wp2
        go_ret
        exact ⟨rfl, below_drewN' hb1 _⟩
      · have H2 := Lib.hid h2
        clear h1 h2
        go_wp2_with fail
        go_quiet ((first | (go_at_call_of 16 (Value.slice (some ⟨g1, 0, none⟩) n c1); exact Calls.quiet_of (imCompare_ne (x1.drewN _) (y1.drewN _) H0.out)) | (go_at_call_of 16 (Value.slice (some ⟨g1, 0, none⟩) k c1); exact Calls.quiet_of (imCompare_ne (xf.drewN _) (yf.drewN _) H1.out)) | (go_at_call_of 16 (Value.slice (some ⟨g1, k, none⟩) (n - k) (c1 - k)); exact Calls.quiet_of (imCompare_ne (xb.drewN _) (yb.drewN _) H2.out)) | (go_at_call 18; exact Calls.quiet_of_same ((alive_any _).mono fun _ _ hh => ⟨hh.1, hh.2.symm⟩))))
        go_wp2
        go_ret
        exact ⟨rfl, below_drewN' hb1 _⟩
end
end Go.Proofs.Ytldaklchbdfomaa
