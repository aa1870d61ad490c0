/- The walk of FnScanNumberStandsAloneAndAnywhere (function 4). -/
import Derived.Test.Qxb6600841aCopy
namespace Go.Proofs.Qxb6600841a.Stands
open Go.RowKit Go.Proofs.Qxb6600841a Go.Proofs.Qxb6600841a.Num

theorem zz_small (a : Option Addr) (n c : Nat) (i : Int) (w : World) (h : n ≤ 1048576) :
    Calls Try.prog 11 #[.slice a n c, .int .i64 i] w fun e w' => e = .returned (.bool true) ∧ w' = w := by
  have h1 : ¬ (1048576 : Int) < (n : Int) := by omega
  go_enter Try.func11, Try.ntmps11
  go_wp2
  go_ret
  exact ⟨rfl, rfl⟩

theorem zz_large (a : Option Addr) (n c : Nat) (i : Int) (w : World) (h : ¬ n ≤ 1048576) :
    Calls Try.prog 11 #[.slice a n c, .int .i64 i] w fun e w' => e = .returned (.bool false) ∧ w' = w := by
  have h1 : (1048576 : Int) < (n : Int) := by omega
  go_enter Try.func11, Try.ntmps11
  go_wp2
  go_ret
  exact ⟨rfl, rfl⟩

/-- Too long. -/
theorem walk_long (a : Option Addr) (n c : Nat) (i : Int) (w : World) (h : ¬ n ≤ 1048576) :
    Calls Try.prog 4 #[.slice a n c, .int .i64 i] w fun e w' => e = .returned (.bool true) ∧ w' = w := by
  go_enter Try.func4, Try.ntmps4
  go_wp2_with fail
  refine (zz_large a n c i _ h).mono ?_
  rintro e w' ⟨rfl, rfl⟩
  go_wp2
  go_ret
  exact ⟨rfl, rfl⟩

/-- No place inside the line. -/
theorem walk_out (a : Option Addr) (n c : Nat) (i : Int) (w : World) (h : n ≤ 1048576) (ho : i < 0 ∨ ¬ i < 0 ∧ (n : Int) ≤ i) :
    Calls Try.prog 4 #[.slice a n c, .int .i64 i] w fun e w' => e = .returned (.bool true) ∧ w' = w := by
  have h1 : ¬ (1048576 : Int) < (n : Int) := by omega
  rcases ho with ho | ⟨ho, ho2⟩
  all_goals
    go_enter Try.func4, Try.ntmps4
    go_wp2_with fail
    refine (zz_small a n c i _ h).mono ?_
    rintro e w' ⟨rfl, rfl⟩
    go_wp2
    go_ret
    exact ⟨rfl, rfl⟩

/-- scanNumber at the head of a line. -/
theorem scan_head (w : World) (b off n c : Nat) (L : List Int) (hL : Line w b off n L) (hn : n ≤ 16777216) (hi : 0 < n) :
    Calls Try.prog 9 #[.slice (some ⟨b, off, none⟩) n c, .int .i64 0] w fun e w' => e = .returned (.int .i64 (res 0 (scan L))) ∧ w' = w :=
  zz_scan_any w b off n c L hL hn 0 hi

theorem line_from {w : World} {b n i : Nat} {L : List Int} (h : Line w b 0 n L) (hi : i ≤ n) : Line w b i (n - i) (L.drop i) := by
  have := h.drop hi
  rwa [Nat.zero_add] at this

set_option maxHeartbeats 1000000 in
set_option maxRecDepth 100000 in
theorem walk_none (x : Addr) (n c : Nat) (i : Nat) (L : List Int) (w : World) (h : n ≤ 1048576) (hi : i < n) (hB : Bytes w x n L) (hsc : scan (L.drop i) = none) :
    Calls Try.prog 4 #[.slice (some x) n c, .int .i64 i] w fun e w' => e = .returned (.bool true) ∧ Below w.heap.size w w' := by
  obtain ⟨i0, hi0, hz0, hz1, hz2⟩ := info_parts Try.info5
  have h1 : ¬ (1048576 : Int) < (n : Int) := by omega
  have h2 : ¬ (i : Int) < 0 := by omega
  have h3 : ¬ (n : Int) ≤ (i : Int) := by omega
  have hne := fun (w : World) => run_neq_slice_nil_any (P := Try.prog) w 22 5 (some x) n c 0 0 Try.underlying22
  have HSC : Hid (scan (L.drop i) = none) := hsc
  clear hsc
  go_enter Try.func4, Try.ntmps4
  go_wp2_with fail
  refine (zz_small (some x) n c i _ h).mono ?_
  rintro e w' ⟨rfl, rfl⟩
  go_upto_region 9 with (at_make; refine wpList_make_full _ rfl _ _ 22 rfl w'.heap.size 5 i0 (.int .u8 0) 1 Try.underlying22 hi0 hz0 hz1 _ _ _ _ n rfl rfl rfl rfl (by rw [hz2]; omega) (by unfold maxLen; omega) (Nat.le_refl _) ?_; intro w1 hown1 hgrow1)
  obtain ⟨w2, hcopy, hline, hb2⟩ := run_copy_line (cap := c) hB hown1 hgrow1
  clear hown1 hgrow1 hB hne
  go_wp2_with fail
  have c1 := zz_scan_any w2 w'.heap.size 0 n n L hline (by omega) i hi
  rw [HSC.out] at c1
  refine c1.mono ?_
  rintro e w3 ⟨rfl, rfl⟩
  clear c1
  go_wp2_with fail
  have c2 := scan_head w3 w'.heap.size i (n - i) (n - i) (L.drop i) (line_from hline (by omega)) (by omega) (by omega)
  rw [HSC.out] at c2
  refine c2.mono ?_
  rintro e w4 ⟨rfl, rfl⟩
  clear c2
  go_wp2
  go_ret
  exact ⟨rfl, hb2⟩

set_option maxHeartbeats 1000000 in
set_option maxRecDepth 100000 in
theorem walk_some (x : Addr) (n c : Nat) (i m : Nat) (L : List Int) (w : World) (h : n ≤ 1048576) (hi : i < n) (hB : Bytes w x n L) (hsc : scan (L.drop i) = some m) :
    Calls Try.prog 4 #[.slice (some x) n c, .int .i64 i] w fun e w' => e = .returned (.bool true) ∧ Below w.heap.size w w' := by
  obtain ⟨i0, hi0, hz0, hz1, hz2⟩ := info_parts Try.info5
  have h1 : ¬ (1048576 : Int) < (n : Int) := by omega
  have h2 : ¬ (i : Int) < 0 := by omega
  have h3 : ¬ (n : Int) ≤ (i : Int) := by omega
  have hne := fun (w : World) => run_neq_slice_nil_any (P := Try.prog) w 22 5 (some x) n c 0 0 Try.underlying22
  have HSC : Hid (scan (L.drop i) = some m) := hsc
  have hm := scan_some hsc
  have hm1 : 1 ≤ m := hm.1
  have hm2 : m ≤ n - i := by have := hm.2; rw [List.length_drop, hB.1] at this; exact this
  clear hsc hm
  obtain ⟨r, hr⟩ : ∃ r, r = i + m := ⟨_, rfl⟩
  have HR : Hid (r = i + m) := hr
  have hr1 : i < r := by omega
  have hr2 : r ≤ n := by omega
  have hres : Hid (res i (scan (L.drop i)) = (r : Int)) := by show _ = _; rw [HSC.out, hr]; show (i : Int) + m = _; omega
  have hres0 : Hid (res 0 (scan (L.drop i)) = (r : Int) - (i : Int)) := by show _ = _; rw [HSC.out, hr]; show ((0 : Nat) : Int) + m = _; omega
  have hres1 : Hid (res 0 (scan ((L.drop i).take (r - i))) = (r : Int) - (i : Int)) := by show _ = _; rw [hr, show i + m - i = m by omega, scan_take HSC.out]; show ((0 : Nat) : Int) + m = _; omega
  clear hr
  go_enter Try.func4, Try.ntmps4
  go_wp2_with fail
  refine (zz_small (some x) n c i _ h).mono ?_
  rintro e w' ⟨rfl, rfl⟩
  go_upto_region 9 with (at_make; refine wpList_make_full _ rfl _ _ 22 rfl w'.heap.size 5 i0 (.int .u8 0) 1 Try.underlying22 hi0 hz0 hz1 _ _ _ _ n rfl rfl rfl rfl (by rw [hz2]; omega) (by unfold maxLen; omega) (Nat.le_refl _) ?_; intro w1 hown1 hgrow1)
  obtain ⟨w2, hcopy, hline, hb2⟩ := run_copy_line (cap := c) hB hown1 hgrow1
  clear hown1 hgrow1 hB hne
  go_wp2_with fail
  have c1 := zz_scan_any w2 w'.heap.size 0 n n L hline (by omega) i hi
  rw [hres.out] at c1
  refine c1.mono ?_
  rintro e w3 ⟨rfl, rfl⟩
  clear c1
  go_wp2_with fail
  have c2 := scan_head w3 w'.heap.size i (n - i) (n - i) (L.drop i) (line_from hline (by omega)) (by omega) (by omega)
  rw [hres0.out] at c2
  refine c2.mono ?_
  rintro e w4 ⟨rfl, rfl⟩
  clear c2
  go_wp2_with fail
  have c3 := scan_head w4 w'.heap.size i (r - i) (n - i) ((L.drop i).take (r - i)) ((line_from hline (by omega)).take (by omega)) (by omega) (by omega)
  rw [hres1.out] at c3
  refine c3.mono ?_
  rintro e w5 ⟨rfl, rfl⟩
  clear c3
  go_wp2
  go_ret
  exact ⟨by simp, hb2⟩

/-- The whole walk. -/
theorem walk_any (a : Option Addr) (n c : Nat) (i : Int) (w : World) (hrow : n = 0 ∨ ∃ x L, a = some x ∧ Bytes w x n L) :
    Calls Try.prog 4 #[.slice a n c, .int .i64 i] w fun e w' => e = .returned (.bool true) ∧ Below w.heap.size w w' := by
  by_cases h : n ≤ 1048576
  · by_cases ho : i < 0 ∨ ¬ i < 0 ∧ (n : Int) ≤ i
    · refine (walk_out a n c i w h ho).mono ?_
      rintro e w' ⟨rfl, rfl⟩
      exact ⟨rfl, Below.refl _ _⟩
    · obtain ⟨k, rfl⟩ : ∃ k : Nat, i = k := ⟨i.toNat, by omega⟩
      have hk : k < n := by omega
      rcases hrow with h0 | ⟨x, L, rfl, hB⟩
      · omega
      · cases hs : scan (L.drop k) with
        | none => exact walk_none x n c k L w h hk hB hs
        | some m => exact walk_some x n c k m L w h hk hB hs
  · refine (walk_long a n c i w h).mono ?_
    rintro e w' ⟨rfl, rfl⟩
    exact ⟨rfl, Below.refl _ _⟩

end Go.Proofs.Qxb6600841a.Stands
