/- The walk of FnScanNumberMatchesJSONAutomaton (function 3). -/
import Derived.Test.Qxb6600841aCopy
import Derived.Test.Qxb6600841aAuto
namespace Go.Proofs.Qxb6600841a.Auto
open Go.RowKit Go.Proofs.Qxb6600841a Go.Proofs.Qxb6600841a.Num

theorem zz_small (a : Option Addr) (n c : Nat) (i : Int) (w : World) (h : n ≤ 1048576) :
    Calls Try.prog 8 #[.slice a n c, .int .i64 i] w fun e w' => e = .returned (.bool true) ∧ w' = w := by
  have h1 : ¬ (1048576 : Int) < (n : Int) := by omega
  go_enter Try.func8, Try.ntmps8
  go_wp2
  go_ret
  exact ⟨rfl, rfl⟩

theorem zz_large (a : Option Addr) (n c : Nat) (i : Int) (w : World) (h : ¬ n ≤ 1048576) :
    Calls Try.prog 8 #[.slice a n c, .int .i64 i] w fun e w' => e = .returned (.bool false) ∧ w' = w := by
  have h1 : (1048576 : Int) < (n : Int) := by omega
  go_enter Try.func8, Try.ntmps8
  go_wp2
  go_ret
  exact ⟨rfl, rfl⟩

/-- Too long. -/
theorem walk_long (a : Option Addr) (n c : Nat) (i : Int) (w : World) (h : ¬ n ≤ 1048576) :
    Calls Try.prog 3 #[.slice a n c, .int .i64 i] w fun e w' => e = .returned (.bool true) ∧ w' = w := by
  go_enter Try.func3, Try.ntmps3
  go_wp2_with fail
  refine (zz_large a n c i _ h).mono ?_
  rintro e w' ⟨rfl, rfl⟩
  go_wp2
  go_ret
  exact ⟨rfl, rfl⟩

/-- No place inside the line. -/
theorem walk_out (a : Option Addr) (n c : Nat) (i : Int) (w : World) (h : n ≤ 1048576) (ho : i < 0 ∨ ¬ i < 0 ∧ (n : Int) ≤ i) :
    Calls Try.prog 3 #[.slice a n c, .int .i64 i] w fun e w' => e = .returned (.bool true) ∧ w' = w := by
  have h1 : ¬ (1048576 : Int) < (n : Int) := by omega
  rcases ho with ho | ⟨ho, ho2⟩
  all_goals
    go_enter Try.func3, Try.ntmps3
    go_wp2_with fail
    refine (zz_small a n c i _ h).mono ?_
    rintro e w' ⟨rfl, rfl⟩
    go_wp2
    go_ret
    exact ⟨rfl, rfl⟩

set_option maxHeartbeats 1000000 in
set_option maxRecDepth 100000 in
theorem walk_in (x : Addr) (n c : Nat) (i : Nat) (L : List Int) (w : World) (h : n ≤ 1048576) (hi : i < n) (hB : Bytes w x n L) :
    Calls Try.prog 3 #[.slice (some x) n c, .int .i64 i] w fun e w' => e = .returned (.bool true) ∧ Below w.heap.size w w' := by
  obtain ⟨i0, hi0, hz0, hz1, hz2⟩ := info_parts Try.info5
  have h1 : ¬ (1048576 : Int) < (n : Int) := by omega
  have h2 : ¬ (i : Int) < 0 := by omega
  have h3 : ¬ (n : Int) ≤ (i : Int) := by omega
  have hne := fun (w : World) => run_neq_slice_nil_any (P := Try.prog) w 22 5 (some x) n c 0 0 Try.underlying22
  obtain ⟨R, hR⟩ : ∃ R : Int, R = res i (scan (L.drop i)) := ⟨_, rfl⟩
  have HR : Hid (R = res i (scan (L.drop i))) := hR
  clear hR
  go_enter Try.func3, Try.ntmps3
  go_wp2_with fail
  refine (zz_small (some x) n c i _ h).mono ?_
  rintro e w' ⟨rfl, rfl⟩
  go_upto_region 9 with (at_make; refine wpList_make_full _ rfl _ _ 22 rfl w'.heap.size 5 i0 (.int .u8 0) 1 Try.underlying22 hi0 hz0 hz1 _ _ _ _ n rfl rfl rfl rfl (by rw [hz2]; omega) (by unfold maxLen; omega) (Nat.le_refl _) ?_; intro w1 hown1 hgrow1)
  obtain ⟨w2, hcopy, hline, hb2⟩ := run_copy_line (cap := c) hB hown1 hgrow1
  clear hown1 hgrow1 hB hne
  go_wp2_with fail
  have c1 := zz_scan_any w2 w'.heap.size 0 n n L hline (by omega) i hi
  rw [← HR.out] at c1
  refine c1.mono ?_
  rintro e w3 ⟨rfl, rfl⟩
  clear c1
  go_wp2_with fail
  have c2 := end_any w3 w'.heap.size 0 n n L hline (by omega) i hi
  rw [← HR.out] at c2
  refine c2.mono ?_
  rintro e w4 ⟨rfl, rfl⟩
  clear c2
  go_wp2
  go_ret
  exact ⟨by simp, hb2⟩

/-- The whole walk. -/
theorem walk_any (a : Option Addr) (n c : Nat) (i : Int) (w : World) (hrow : n = 0 ∨ ∃ x L, a = some x ∧ Bytes w x n L) :
    Calls Try.prog 3 #[.slice a n c, .int .i64 i] w fun e w' => e = .returned (.bool true) ∧ Below w.heap.size w w' := by
  by_cases h : n ≤ 1048576
  · by_cases ho : i < 0 ∨ ¬ i < 0 ∧ (n : Int) ≤ i
    · refine (walk_out a n c i w h ho).mono ?_
      rintro e w' ⟨rfl, rfl⟩
      exact ⟨rfl, Below.refl _ _⟩
    · obtain ⟨k, rfl⟩ : ∃ k : Nat, i = k := ⟨i.toNat, by omega⟩
      have hk : k < n := by omega
      rcases hrow with h0 | ⟨x, L, rfl, hB⟩
      · omega
      · exact walk_in x n c k L w h hk hB
  · refine (walk_long a n c i w h).mono ?_
    rintro e w' ⟨rfl, rfl⟩
    exact ⟨rfl, Below.refl _ _⟩

end Go.Proofs.Qxb6600841a.Auto
