/- The walk of FnPushKeepsChunkInvariant (function 7). -/
import Derived.Test.Qxb6600841aLogFns
namespace Go.Proofs.Qxb6600841a.Keeps
open Go.RowKit Go.Proofs.Qxb6600841a

theorem Hid_mk {p : Prop} (h : p) : Hid p := h

theorem walk_out (n m : Int) (w : World) (h : n < 0 ∨ ¬ n < 0 ∧ 65536 < n) :
    Calls Try.prog 7 #[.int .i64 n, .int .i64 m] w fun e w' => e = .returned (.bool true) ∧ w' = w := by
  rcases h with h | ⟨h, h2⟩
  all_goals
    go_enter Try.func7, Try.ntmps7
    go_wp2
    go_ret
    exact ⟨rfl, rfl⟩

theorem start_len {E : List Ent} {k : Nat} (h : E.length = if k = 0 then 0 else k + 1) : (start E).length = k + 1 := by
  cases E with
  | nil =>
    by_cases hk : k = 0
    · subst hk; rfl
    · rw [if_neg hk] at h; simp at h
  | cons e t =>
    by_cases hk : k = 0
    · rw [if_pos hk] at h; simp at h
    · rw [if_neg hk] at h; exact h

set_option maxHeartbeats 2000000 in
set_option maxRecDepth 100000 in
theorem walk_in (K : Nat) (m : Int) (w : World) (h : K ≤ 65536) :
    Calls Try.prog 7 #[.int .i64 (K : Int), .int .i64 m] w fun e w' => e = .returned (.bool true) ∧ Below w.heap.size w w' := by
  have h1 : ¬ (K : Int) < 0 := by omega
  have h2 : ¬ (65536 : Int) < (K : Int) := by omega
  go_enter Try.func7, Try.ntmps7
  go_wp2
  go_loopw [6] (fun vk wr => ∃ (k : Nat) (E : List Ent) (v : Value) (cs : List Value), vk = .int .i64 k ∧ k ≤ K ∧ LogN wr w.heap.size E.length E v cs ∧ Hid (E.length = if k = 0 then 0 else k + 1) ∧ Below w.heap.size w wr) (fun vk _ => K - (intOf vk).toNat)
  case atStart => exact ⟨0, [], _, _, rfl, Nat.zero_le _, logN_empty (heap_alloc_new w _), rfl, (Below.refl _ w).alloc (Nat.le_refl _) _⟩
  case round =>
    obtain ⟨k, E, v, cs, rfl, hk, hL, HE, hbw⟩ := hrel
    by_cases hlt : k < K
    · have hst := start_len HE.out
      have hEl : E.length ≤ 70000 := by have := HE.out; split at this <;> omega
      have HST : Hid ((start E).length = k + 1) := hst
      clear hst
      go_wp2_with fail
      refine (make_any _ _ _ _ _ _ _).mono ?_
      rintro e w1 ⟨rfl, hg1⟩
      go_wp2_with fail
      refine (push_at w1 w.heap.size E v cs _ _ _ _ _ _ (hL.grow hg1) hEl k HST.out).mono ?_
      rintro e w2 ⟨rfl, hb2, E', v', cs', hL2, HE', HE2⟩
      have hbw2 : Below w.heap.size w w2 := (hbw.grown hg1 hbw.size (fun k hk => by cases hk)).trans hb2
      clear hb2 hg1 hL hbw
      go_wp2_with fail
      refine (logn_any w2 w.heap.size (k + 2) E' v' cs' hL2).mono ?_
      rintro e w3 ⟨rfl, rfl⟩
      have hpl : ((k : Int) + 1 != (k : Int) + 2 - 1) = false := by rw [bne_eq_false_iff_eq]; omega
      obtain ⟨cc, hcc⟩ : ∃ cc, cc = nch (k + 2) := ⟨_, rfl⟩
      have hc1 : 1 ≤ cc := by rw [hcc]; unfold nch; omega
      have hc2 : 4096 * (cc - 1) < k + 2 := by rw [hcc]; unfold nch; omega
      have hc3 : k + 2 ≤ 4096 * cc := by rw [hcc]; unfold nch; omega
      have hcount := count_any w3 w.heap.size (k + 2) E' v' cs' hL2
      rw [HE2.out, ← hcc] at hcount
      have HC := Hid_mk hcount
      clear hcc hcount
      go_wp2_with fail
      refine HC.out.mono ?_
      rintro e w4 ⟨rfl, rfl⟩
      clear HC
      have hc4 : ¬ (cc : Int) < 1 := by omega
      go_wp2_with fail
      go_loop [10, 11, 12] (fun vs vl vc => ∃ c s l : Nat, vc = .int .i64 c ∧ c ≤ cc ∧ vs = .int .i64 s ∧ s ≤ 70000 ∧ vl = .int .i64 l ∧ Hid (s = min (4096 * c) (k + 2)) ∧ Hid (l = if c = cc then k + 2 - 4096 * (cc - 1) else 0)) (fun _ _ vc => cc - (intOf vc).toNat)
      case atStart => exact ⟨0, 0, 0, rfl, by omega, rfl, by omega, rfl, by show _ = _; simp, by show _ = _; rw [if_neg (by omega)]⟩
      case round =>
        obtain ⟨c, s, l, rfl, hc, rfl, hs, rfl, HS, HLast⟩ := hrel
        by_cases hcl : c < cc
        · obtain ⟨ln, hln⟩ : ∃ ln, ln = (ck E' c).length := ⟨_, rfl⟩
          have hlen := len_any w4 w.heap.size (k + 2) E' v' cs' hL2 c (by rw [HE2.out]; omega)
          rw [← hln] at hlen
          have HLen := Hid_mk hlen
          have hln2 : ln = min 4096 (k + 2 - 4096 * c) := by rw [hln, ck_length, HE2.out]
          clear hln hlen
          by_cases hcm : c + 1 < cc
          · obtain rfl : ln = 4096 := by omega
            have HS2 : Hid (s + 4096 = min (4096 * (c + 1)) (k + 2)) := by show _ = _; have := HS.out; omega
            have HL2 : Hid (l = if c + 1 = cc then k + 2 - 4096 * (cc - 1) else 0) := by
              show _ = _
              have := HLast.out
              rw [if_neg (by omega)] at this
              rw [if_neg (by omega), this]
            have hs2 : s + 4096 ≤ 70000 := by have := HS2.out; omega
            have hq1 : (c : Int) < (cc : Int) - 1 := by omega
            have hq2 : ((c : Int) == (cc : Int) - 1) = false := by rw [beq_eq_false_iff_ne]; omega
            clear hln2
            go_wp2_with (go_at_call 21; refine HLen.out.mono ?_; rintro e w5 ⟨rfl, rfl⟩)
            go_round
            case rel => exact ⟨c + 1, s + 4096, l, by go_num, by omega, by go_num, hs2, rfl, HS2, HL2⟩
            case measure => simp [intOf]; omega
          · have HS2 : Hid (s + ln = min (4096 * (c + 1)) (k + 2)) := by show _ = _; have := HS.out; omega
            have HL2 : Hid (ln = if c + 1 = cc then k + 2 - 4096 * (cc - 1) else 0) := by
              show _ = _
              rw [if_pos (by omega)]; omega
            have hs2 : s + ln ≤ 70000 := by have := HS2.out; omega
            have hl1 : ¬ (ln : Int) < 1 := by omega
            have hl2 : ¬ (4096 : Int) < (ln : Int) := by omega
            have hq1 : ¬ (c : Int) < (cc : Int) - 1 := by omega
            have hq2 : ((c : Int) == (cc : Int) - 1) = true := by rw [beq_iff_eq]; omega
            have hlnb : ln ≤ 4096 := by omega
            clear hln2
            go_wp2_with (go_at_call 21; refine HLen.out.mono ?_; rintro e w5 ⟨rfl, rfl⟩)
            go_round
            case rel => exact ⟨c + 1, s + ln, ln, by go_num, by omega, by go_num, hs2, rfl, HS2, HL2⟩
            case measure => simp [intOf]; omega
        · have hsk : ((s : Int) != (k : Int) + 2) = false := by
            have := HS.out
            rw [bne_eq_false_iff_eq]; omega
          have hle : 1 ≤ l ∧ l ≤ 4096 ∧ 4096 * (cc - 1) + (l - 1) = k + 1 := by
            have := HLast.out
            rw [if_pos (by omega)] at this
            omega
          have hl1 : 1 ≤ l := hle.1
          have hl2 : l ≤ 4096 := hle.2.1
          have he : E'[4096 * (cc - 1) + (l - 1)]? = some ⟨(k : Int), 0, 1, false, m, 0⟩ := by
            rw [hle.2.2]; exact last_is HST.out HE'.out
          have HEn := Hid_mk he
          clear hle he
          go_wp2_with (go_at_call 22; refine (entry_at w4 w.heap.size (k + 2) E' v' cs' hL2 (by rw [HE2.out]; omega) (cc - 1) (l - 1) _ _ (by omega) (by omega) _ (by omega) HEn.out).mono ?_; rintro e w5 ⟨rfl, hg5⟩)
          go_roundw
          case rel =>
            refine ⟨k + 1, E', v', cs', by go_num, by omega, ?_, ?_, hbw2.grown hg5 hbw2.size (fun k hk => by cases hk)⟩
            · rw [HE2.out]; exact hL2.grow hg5
            · show _ = _
              rw [HE2.out, if_neg (by omega)]
          case measure => simp [intOf]; omega
    · go_wp2
      go_ret
      exact ⟨rfl, hbw⟩

/-- The whole walk. -/
theorem walk_any (n m : Int) (w : World) :
    Calls Try.prog 7 #[.int .i64 n, .int .i64 m] w fun e w' => e = .returned (.bool true) ∧ Below w.heap.size w w' := by
  by_cases h : n < 0 ∨ ¬ n < 0 ∧ 65536 < n
  · refine (walk_out n m w h).mono ?_
    rintro e w' ⟨rfl, rfl⟩
    exact ⟨rfl, Below.refl _ _⟩
  · obtain ⟨K, rfl⟩ : ∃ K : Nat, n = K := ⟨n.toNat, by omega⟩
    exact walk_in K m w (by omega)

end Go.Proofs.Qxb6600841a.Keeps
