/- The walk of FnPushPlacesAndLayout (function 6). -/
import Derived.Test.Qxb6600841aEntryFor
namespace Go.Proofs.Qxb6600841a.Places
open Go.RowKit Go.Proofs.Qxb6600841a

theorem Hid_mk {p : Prop} (h : p) : Hid p := h

theorem flip {P : Program} {f : Nat} {args : Array Value} {w : World} {v : Ending} (h : Calls P f args w fun r w' => r = v ∧ w' = w) : Calls P f args w fun r w' => r = v ∧ w = w' := h.mono fun _ _ h => ⟨h.1, h.2.symm⟩

theorem zz_small (a : Option Addr) (n c : Nat) (i : Int) (w : World) (h : n ≤ 1048576) :
    Calls Try.prog 15 #[.slice a n c, .int .i64 i] w fun e w' => e = .returned (.bool true) ∧ w' = w := by
  have h1 : ¬ (1048576 : Int) < (n : Int) := by omega
  go_enter Try.func15, Try.ntmps15
  go_wp2
  go_ret
  exact ⟨rfl, rfl⟩

theorem zz_large (a : Option Addr) (n c : Nat) (i : Int) (w : World) (h : ¬ n ≤ 1048576) :
    Calls Try.prog 15 #[.slice a n c, .int .i64 i] w fun e w' => e = .returned (.bool false) ∧ w' = w := by
  have h1 : (1048576 : Int) < (n : Int) := by omega
  go_enter Try.func15, Try.ntmps15
  go_wp2
  go_ret
  exact ⟨rfl, rfl⟩

set_option maxRecDepth 100000 in
/-- The payload is too long, or the number is out of bounds. -/
theorem walk_out (a : Option Addr) (n c : Nat) (i : Int) (w : World) (h : ¬ n ≤ 65536 ∨ n ≤ 65536 ∧ (i < 0 ∨ ¬ i < 0 ∧ 65536 < i)) :
    Calls Try.prog 6 #[.slice a n c, .int .i64 i] w fun e w' => e = .returned (.bool true) ∧ w' = w := by
  by_cases hz : n ≤ 1048576
  · rcases h with h | ⟨h, h2 | ⟨h2, h3⟩⟩
    · have h1 : (65536 : Int) < (n : Int) := by omega
      go_enter Try.func6, Try.ntmps6
      go_wp2_with fail
      refine (zz_small a n c i _ hz).mono ?_
      rintro e w' ⟨rfl, rfl⟩
      go_wp2
      go_ret
      exact ⟨rfl, rfl⟩
    all_goals
      have h1 : ¬ (65536 : Int) < (n : Int) := by omega
      go_enter Try.func6, Try.ntmps6
      go_wp2_with fail
      refine (zz_small a n c i _ hz).mono ?_
      rintro e w' ⟨rfl, rfl⟩
      go_wp2
      go_ret
      exact ⟨rfl, rfl⟩
  · go_enter Try.func6, Try.ntmps6
    go_wp2_with fail
    refine (zz_large a n c i _ hz).mono ?_
    rintro e w' ⟨rfl, rfl⟩
    go_wp2
    go_ret
    exact ⟨rfl, rfl⟩

/-- What the log holds behind k pushes (not none). -/
def base (F : Nat → Ent) (k : Nat) : List Ent := Ent.zero :: (List.range k).map F
def full (F : Nat → Ent) (k : Nat) : List Ent := if k = 0 then [] else base F k

theorem base_length (F : Nat → Ent) (k : Nat) : (base F k).length = k + 1 := by simp [base]
theorem base_next (F : Nat → Ent) (k : Nat) : base F k ++ [F k] = base F (k + 1) := by simp [base, List.range_succ]
theorem base_zero (F : Nat → Ent) (k : Nat) : (base F k)[0]? = some Ent.zero := rfl
theorem base_at (F : Nat → Ent) {k p : Nat} (h : p < k) : (base F k)[p + 1]? = some (F p) := by simp [base, h]
theorem start_full (F : Nat → Ent) (k : Nat) : start (full F k) = base F k := by
  unfold full
  by_cases h : k = 0
  · rw [if_pos h, h]; rfl
  · rw [if_neg h]; rfl
theorem full_pos (F : Nat → Ent) {k : Nat} (h : k ≠ 0) : full F k = base F k := if_neg h
theorem full_length (F : Nat → Ent) {k : Nat} (h : k ≤ 65536) : (full F k).length ≤ 70000 := by
  unfold full
  split
  · simp
  · rw [base_length]; omega

/-- What is asked of b1entryFor: one entry a number, whatever has been laid since. -/
def Gives (pv : Value) (F : Nat → Ent) (w : World) : Prop :=
  ∀ (w' : World) (k : Nat) (x : Int), Below w.heap.size w w' → x = k → k ≤ 70000 → Calls Try.prog 16 #[pv, .int .i64 x] w' fun r w'' => r = .returned (.tuple #[.int .i64 (F k).sec, .int .i32 (F k).nsec, .int .u8 (F k).typ, .bool (F k).large, .int .i64 (F k).micros, .int .i64 (F k).next]) ∧ w'' = w'

set_option maxHeartbeats 2000000 in
set_option maxRecDepth 100000 in
theorem walk_in (a : Option Addr) (n c K : Nat) (F : Nat → Ent) (w : World) (hn : n ≤ 65536) (h : K ≤ 65536) (HF : Hid (Gives (.slice a n c) F w)) :
    Calls Try.prog 6 #[.slice a n c, .int .i64 (K : Int)] w fun e w' => e = .returned (.bool true) ∧ Below w.heap.size w w' := by
  have h0 : ¬ (65536 : Int) < (n : Int) := by omega
  have h1 : ¬ (K : Int) < 0 := by omega
  have h2 : ¬ (65536 : Int) < (K : Int) := by omega
  go_enter Try.func6, Try.ntmps6
  go_wp2_with fail
  refine (zz_small a n c K _ (by omega)).mono ?_
  rintro e w' ⟨rfl, rfl⟩
  go_wp2
  go_loopw [6] (fun vk wr => ∃ (k : Nat) (v : Value) (cs : List Value), vk = .int .i64 k ∧ k ≤ K ∧ LogN wr w'.heap.size (full F k).length (full F k) v cs ∧ Below w'.heap.size w' wr) (fun vk _ => K - (intOf vk).toNat)
  case atStart => exact ⟨0, _, _, rfl, Nat.zero_le _, logN_empty (heap_alloc_new w' _), (Below.refl _ w').alloc (Nat.le_refl _) _⟩
  case round =>
    obtain ⟨k, v, cs, rfl, hk, hL, hbw⟩ := hrel
    by_cases hlt : k < K
    · have hcall := HF.out wr k _ hbw rfl (by omega)
      obtain ⟨s, ns, t, lg, m, nx, hFk⟩ : ∃ s ns t lg m nx, F k = ⟨s, ns, t, lg, m, nx⟩ := ⟨_, _, _, _, _, _, rfl⟩
      rw [hFk] at hcall
      have HC := Hid_mk hcall
      have HFk := Hid_mk hFk
      clear hcall hFk
      have hst : (start (full F k)).length = k + 1 := by rw [start_full, base_length]
      have HST := Hid_mk hst
      clear hst
      go_wp2_with fail
      refine HC.out.mono ?_
      rintro e w1 ⟨rfl, rfl⟩
      go_wp2_with fail
      refine (make_any _ _ _ _ _ _ _).mono ?_
      rintro e w2 ⟨rfl, hg2⟩
      go_wp2_with fail
      refine (push_at w2 w'.heap.size (full F k) v cs _ _ _ _ _ _ (hL.grow hg2) (full_length F (by omega)) k HST.out).mono ?_
      rintro e w3 ⟨rfl, hb3, E', v', cs', hL3, HE', HE2⟩
      have hbw3 : Below w'.heap.size w' w3 := (hbw.grown hg2 hbw.size (fun k hk => by cases hk)).trans hb3
      have hE3 : E' = full F (k + 1) := by rw [HE'.out, start_full, full_pos F (by omega), ← base_next, HFk.out]
      have hL4 : LogN w3 w'.heap.size (full F (k + 1)).length (full F (k + 1)) v' cs' := by
        rw [← hE3, HE2.out]; exact hL3
      clear hb3 hg2 hL hbw hL3 HE' HE2 hE3 HC HFk HST
      go_wp2
      go_roundw
      case rel => exact ⟨k + 1, v', cs', by go_num, by omega, hL4, hbw3⟩
      case measure => simp [intOf]; omega
    · have hKk : k = K := by omega
      subst hKk
      clear hlt hk
      by_cases hK0 : k = 0
      · have hb : ((k : Int) == 0) = true := by rw [beq_iff_eq]; omega
        have hL0 : LogN wr w'.heap.size 0 [] v cs := by rw [hK0] at hL; exact hL
        have c1 := logn_any wr w'.heap.size 0 [] v cs hL0
        have c2 := count_any wr w'.heap.size 0 [] v cs hL0
        have C1 := Hid_mk c1
        have C2 := Hid_mk c2
        clear c1 c2 hK0 hL
        go_wp2_with (first | (go_at_call 19; refine C1.out.mono ?_; rintro e w1 ⟨rfl, rfl⟩) | (go_at_call 20; refine C2.out.mono ?_; rintro e w1 ⟨rfl, rfl⟩))
        go_ret
        exact ⟨rfl, hbw⟩
      · have hb : ((k : Int) == 0) = false := by rw [beq_eq_false_iff_ne]; omega
        have hL1 : LogN wr w'.heap.size (k + 1) (base F k) v cs := by
          rw [full_pos F hK0, base_length] at hL; exact hL
        obtain ⟨cc, hcc⟩ : ∃ cc, cc = nch (k + 1) := ⟨_, rfl⟩
        have c1 : Calls Try.prog 19 #[.pointer (some ⟨w'.heap.size, 0, none⟩)] wr fun r w' => r = .returned (.int .i64 ((k : Int) + 1)) ∧ w' = wr := logn_any wr w'.heap.size (k + 1) _ v cs hL1
        have c2 := count_any wr w'.heap.size (k + 1) _ v cs hL1
        rw [base_length, ← hcc] at c2
        have C1 := Hid_mk (flip c1)
        have C2 := Hid_mk (flip c2)
        have HB := Hid_mk hL1
        have hcc1 : 1 ≤ cc := by rw [hcc]; unfold nch; omega
        have hcc2 : 4096 * (cc - 1) < k + 1 := by rw [hcc]; unfold nch; omega
        have hcc3 : k + 1 ≤ 4096 * cc := by rw [hcc]; unfold nch; omega
        have hq : ((k : Int) + 1 + 4096 - 1) / 4096 = (cc : Int) := by rw [hcc]; unfold nch; omega
        clear c1 c2 hL hL1 hcc
        go_wp2_with (first | (go_at_call 19; refine C1.out.mono ?_; rintro e w1 ⟨rfl, rfl⟩) | (go_at_call 20; refine C2.out.mono ?_; rintro e w1 ⟨rfl, rfl⟩))
        clear C1 C2 hq
        go_loop [15] (fun vc => ∃ c : Nat, vc = .int .i64 c ∧ c ≤ cc) (fun vc => cc - (intOf vc).toNat)
        case atStart => exact ⟨0, rfl, by omega⟩
        case round =>
          obtain ⟨c', rfl, hc⟩ := hrel
          by_cases hcl : c' < cc
          · obtain ⟨ln, hln⟩ : ∃ ln, ln = (ck (base F k) c').length := ⟨_, rfl⟩
            have hlen := len_any wr w'.heap.size (k + 1) _ v cs HB.out c' (by rw [base_length]; omega)
            rw [← hln] at hlen
            have HLen := Hid_mk (flip hlen)
            have hln2 : ln = min 4096 (k + 1 - 4096 * c') := by rw [hln, ck_length, base_length]
            clear hln hlen
            by_cases hcm : c' + 1 < cc
            · obtain rfl : ln = 4096 := by omega
              have hq2 : ((c' : Int) == (cc : Int) - 1) = false := by rw [beq_eq_false_iff_ne]; omega
              clear hln2
              go_wp2_with (go_at_call 21; refine HLen.out.mono ?_; rintro e w5 ⟨rfl, rfl⟩)
              go_round
              case rel => exact ⟨c' + 1, by go_num, by omega⟩
              case measure => simp [intOf]; omega
            · have hq2 : ((c' : Int) == (cc : Int) - 1) = true := by rw [beq_iff_eq]; omega
              have hq3 : ((ln : Int) != (k : Int) + 1 - (c' : Int) * 4096) = false := by rw [bne_eq_false_iff_eq]; omega
              have hcb : c' ≤ 20 := by omega
              clear hln2
              go_wp2_with (go_at_call 21; refine HLen.out.mono ?_; rintro e w5 ⟨rfl, rfl⟩)
              go_round
              case rel => exact ⟨c' + 1, by go_num, by omega⟩
              case measure => simp [intOf]; omega
          · have c3 : Calls Try.prog 22 #[.pointer (some ⟨w'.heap.size, 0, none⟩), .int .i64 0, .int .i64 0] wr fun r w'' => r = .returned (.tuple #[.int .i64 0, .int .i32 0, .int .u8 0, .bool false, .int .i64 0, .int .i64 0]) ∧ wr.grownBy w'' none :=
              entry_any wr w'.heap.size (k + 1) _ v cs HB.out (by rw [base_length]; omega) 0 0 0 0 0 false 0 0 (by omega) rfl
            have C3 := Hid_mk c3
            clear c3
            go_wp2_with (go_at_call 22; refine C3.out.mono ?_; rintro e w2 ⟨rfl, hg2⟩)
            have hL2 := HB.out.grow hg2
            have hbw2 : Below w'.heap.size w' w2 := hbw.grown hg2 hbw.size (fun k hk => by cases hk)
            clear hg2 HB hbw C3
            go_loopw [23] (fun vp wx => ∃ p : Nat, vp = .int .i64 p ∧ 1 ≤ p ∧ p ≤ k + 1 ∧ LogN wx w'.heap.size (k + 1) (base F k) v cs ∧ Below w'.heap.size w' wx) (fun vp _ => k + 1 - (intOf vp).toNat)
            case atStart => exact ⟨1, rfl, by omega, by omega, hL2, hbw2⟩
            case round =>
              obtain ⟨p, rfl, hp1, hp2, hL3, hbw3⟩ := hrel
              clear hL2 hbw2
              by_cases hpk : p ≤ k
              · obtain ⟨q, hq⟩ : ∃ q, q + 1 = p := ⟨p - 1, by omega⟩
                obtain ⟨s, ns, t, lg, m, nx, hFk⟩ : ∃ s ns t lg m nx, F q = ⟨s, ns, t, lg, m, nx⟩ := ⟨_, _, _, _, _, _, rfl⟩
                have he : (base F k)[4096 * (p / 4096) + p % 4096]? = some ⟨s, ns, t, lg, m, nx⟩ := by
                  rw [show 4096 * (p / 4096) + p % 4096 = q + 1 by omega, base_at F (by omega), hFk]
                have c4 := fun (x y : Int) (hx : x = ((p / 4096 : Nat) : Int)) (hy : y = ((p % 4096 : Nat) : Int)) => entry_at wr w'.heap.size (k + 1) _ v cs hL3 (by rw [base_length]; omega) (p / 4096) (p % 4096) x y hx hy _ (by omega) he
                have C4 := Hid_mk c4
                have c5 := fun (w4 : World) (x : Int) (hb : Below w'.heap.size w' w4) (hx : x = ((q : Nat) : Int)) => flip (HF.out w4 q x hb hx (by omega))
                rw [hFk] at c5
                have C5 := Hid_mk c5
                have HQ := Hid_mk hq
                clear c4 c5 he hFk hq
                go_wp2_with fail
                refine (C4.out _ _ (by omega) (by omega)).mono ?_
                rintro e w4 ⟨rfl, hg4⟩
                have hbw4 : Below w'.heap.size w' w4 := hbw3.grown hg4 hbw3.size (fun k hk => by cases hk)
                have hL4 := hL3.grow hg4
                clear hg4 hL3 hbw3 C4
                go_wp2_with fail
                refine (C5.out _ _ hbw4 (by have := HQ.out; omega)).mono ?_
                rintro e w5 ⟨rfl, rfl⟩
                go_wp2
                go_roundw
                case rel => exact ⟨p + 1, by go_num, by omega, by omega, hL4, hbw4⟩
                case measure => simp [intOf]; omega
              · go_wp2
                go_ret
                exact ⟨rfl, hbw3⟩

theorem gives_none (a : Option Addr) (c : Nat) (w : World) : Gives (.slice a 0 c) entNone w := by
  intro w' k x _ hx hk
  subst hx
  exact for_none a c k hk w'

theorem gives_some (b off n c : Nat) (L : Nat → Int) (hn : 0 < n) (hn2 : n ≤ 65536) (w : World) (hP : Pay w b off n L) : Gives (.slice (some ⟨b, off, none⟩) n c) (entSome L n) w := by
  intro w' k x hb hx hk
  subst hx
  refine for_some b off n c k L hn (by omega) hk w' ?_
  intro j hj
  have h := hP j hj
  rw [hb.cell (p := ⟨b, off + j, none⟩) (World.block_lt_of_cell? w ⟨b, off + j, none⟩ h)]
  exact h

/-- The whole walk. -/
theorem walk_any (a : Option Addr) (n c : Nat) (i : Int) (w : World) (hrow : n = 0 ∨ ∃ b off L, a = some ⟨b, off, none⟩ ∧ Pay w b off n L) :
    Calls Try.prog 6 #[.slice a n c, .int .i64 i] w fun e w' => e = .returned (.bool true) ∧ Below w.heap.size w w' := by
  by_cases h : ¬ n ≤ 65536 ∨ n ≤ 65536 ∧ (i < 0 ∨ ¬ i < 0 ∧ 65536 < i)
  · refine (walk_out a n c i w h).mono ?_
    rintro e w' ⟨rfl, rfl⟩
    exact ⟨rfl, Below.refl _ _⟩
  · obtain ⟨K, rfl⟩ : ∃ K : Nat, i = K := ⟨i.toNat, by omega⟩
    have hn : n ≤ 65536 := by omega
    have hK : K ≤ 65536 := by omega
    by_cases h0 : n = 0
    · subst h0
      exact walk_in a 0 c K entNone w hn hK (gives_none a c w)
    · rcases hrow with h' | ⟨b, off, L, rfl, hP⟩
      · exact absurd h' h0
      · exact walk_in (some ⟨b, off, none⟩) n c K (entSome L n) w hn hK (gives_some b off n c L (by omega) hn w hP)

end Go.Proofs.Qxb6600841a.Places
