/- The walks of b1isDigit (31), b1numStep (24), b1numAccepting (25), b1numberEnd (10). -/
import Derived.Test.Qxb6600841aScan
import Derived.Test.Qxb6600841aPlainAuto
namespace Go.Proofs.Qxb6600841a
open Go.RowKit Go.Proofs.Qxb6600841a.Num

theorem ret_bool {a b : Bool} (h : a = b) : Ending.returned (.bool a) = .returned (.bool b) := by rw [h]

theorem digit_any (c : Int) (w : World) : Calls Try.prog 31 #[.int .u8 c] w fun e w' => e = .returned (.bool (isd c)) ∧ w' = w := by
  by_cases h : 48 ≤ c
  · have e : isd c = decide (c ≤ 57) := by simp [isd, h]
    rw [e]
    go_enter Try.func31, Try.ntmps31
    go_wp2
    go_ret
    exact ⟨rfl, rfl⟩
  · have e : isd c = false := by simp [isd, h]
    rw [e]
    go_enter Try.func31, Try.ntmps31
    go_wp2
    go_ret
    exact ⟨rfl, rfl⟩

def ans : Option Nat → Int
  | none => -1
  | some s => s

theorem ans_ite {p : Prop} [Decidable p] (a b : Option Nat) : ans (if p then a else b) = if p then ans a else ans b := by
  split <;> rfl

def num0 (c : Int) : Int := if c = 45 then 1 else if c = 48 then 2 else if 49 ≤ c ∧ c ≤ 57 then 3 else -1

theorem num0_eq (c : Int) : num0 c = ans (stp 0 c) := by
  simp only [stp, ans_ite, isN_iff]
  rfl

set_option maxHeartbeats 1000000 in
theorem step0 (c : Int) (w : World) : Calls Try.prog 24 #[.int .i64 0, .int .u8 c] w fun e w' => e = .returned (.int .i64 (ans (stp 0 c))) ∧ w' = w := by
  rw [← num0_eq]
  go_enter Try.func24, Try.ntmps24
  go_wp2
  all_goals
    go_ret
    refine ⟨ret_int ?_, rfl⟩
    try simp only [beq_iff_eq, beq_eq_false_iff_ne, ne_eq] at *
    unfold num0
    omega

def num1 (c : Int) : Int := if c = 48 then 2 else if 49 ≤ c ∧ c ≤ 57 then 3 else -1

theorem num1_eq (c : Int) : num1 c = ans (stp 1 c) := by
  simp only [stp, ans_ite, isN_iff]
  rfl

set_option maxHeartbeats 1000000 in
theorem step1 (c : Int) (w : World) : Calls Try.prog 24 #[.int .i64 1, .int .u8 c] w fun e w' => e = .returned (.int .i64 (ans (stp 1 c))) ∧ w' = w := by
  rw [← num1_eq]
  go_enter Try.func24, Try.ntmps24
  go_wp2
  all_goals
    go_ret
    refine ⟨ret_int ?_, rfl⟩
    try simp only [beq_iff_eq, beq_eq_false_iff_ne, ne_eq] at *
    unfold num1
    omega

def num2 (c : Int) : Int := if c = 46 then 4 else if c = 101 ∨ c = 69 then 6 else -1

theorem num2_eq (c : Int) : num2 c = ans (stp 2 c) := by
  simp only [stp, ans_ite, isE_iff]
  rfl

set_option maxHeartbeats 1000000 in
theorem step2 (c : Int) (w : World) : Calls Try.prog 24 #[.int .i64 2, .int .u8 c] w fun e w' => e = .returned (.int .i64 (ans (stp 2 c))) ∧ w' = w := by
  rw [← num2_eq]
  go_enter Try.func24, Try.ntmps24
  go_wp2
  all_goals
    go_ret
    refine ⟨ret_int ?_, rfl⟩
    try simp only [beq_iff_eq, beq_eq_false_iff_ne, ne_eq] at *
    unfold num2
    omega

def num3 (c : Int) : Int := if 48 ≤ c ∧ c ≤ 57 then 3 else if c = 46 then 4 else if c = 101 ∨ c = 69 then 6 else -1

theorem num3_eq (c : Int) : num3 c = ans (stp 3 c) := by
  simp only [stp, ans_ite, isd_iff, isE_iff]
  rfl

set_option maxHeartbeats 1000000 in
theorem step3 (c : Int) (w : World) : Calls Try.prog 24 #[.int .i64 3, .int .u8 c] w fun e w' => e = .returned (.int .i64 (ans (stp 3 c))) ∧ w' = w := by
  rw [← num3_eq]
  by_cases hd : 48 ≤ c ∧ c ≤ 57
  · have hb : isd c = true := (isd_iff c).2 hd
    go_enter Try.func24, Try.ntmps24
    go_wp2_with (go_at_call 31; refine (digit_any c _).mono ?_; rintro e w' ⟨rfl, rfl⟩)
    all_goals
      go_ret
      refine ⟨ret_int ?_, rfl⟩
      try simp only [beq_iff_eq, beq_eq_false_iff_ne, ne_eq] at *
      unfold num3
      omega
  · have hb : isd c = false := by simpa using mt (isd_iff c).1 hd
    go_enter Try.func24, Try.ntmps24
    go_wp2_with (go_at_call 31; refine (digit_any c _).mono ?_; rintro e w' ⟨rfl, rfl⟩)
    all_goals
      go_ret
      refine ⟨ret_int ?_, rfl⟩
      try simp only [beq_iff_eq, beq_eq_false_iff_ne, ne_eq] at *
      unfold num3
      omega

def num4 (c : Int) : Int := if 48 ≤ c ∧ c ≤ 57 then 5 else -1

theorem num4_eq (c : Int) : num4 c = ans (stp 4 c) := by
  simp only [stp, ans_ite, isd_iff]
  rfl

set_option maxHeartbeats 1000000 in
theorem step4 (c : Int) (w : World) : Calls Try.prog 24 #[.int .i64 4, .int .u8 c] w fun e w' => e = .returned (.int .i64 (ans (stp 4 c))) ∧ w' = w := by
  rw [← num4_eq]
  by_cases hd : 48 ≤ c ∧ c ≤ 57
  · have hb : isd c = true := (isd_iff c).2 hd
    go_enter Try.func24, Try.ntmps24
    go_wp2_with (go_at_call 31; refine (digit_any c _).mono ?_; rintro e w' ⟨rfl, rfl⟩)
    all_goals
      go_ret
      refine ⟨ret_int ?_, rfl⟩
      try simp only [beq_iff_eq, beq_eq_false_iff_ne, ne_eq] at *
      unfold num4
      omega
  · have hb : isd c = false := by simpa using mt (isd_iff c).1 hd
    go_enter Try.func24, Try.ntmps24
    go_wp2_with (go_at_call 31; refine (digit_any c _).mono ?_; rintro e w' ⟨rfl, rfl⟩)
    all_goals
      go_ret
      refine ⟨ret_int ?_, rfl⟩
      try simp only [beq_iff_eq, beq_eq_false_iff_ne, ne_eq] at *
      unfold num4
      omega

def num5 (c : Int) : Int := if 48 ≤ c ∧ c ≤ 57 then 5 else if c = 101 ∨ c = 69 then 6 else -1

theorem num5_eq (c : Int) : num5 c = ans (stp 5 c) := by
  simp only [stp, ans_ite, isd_iff, isE_iff]
  rfl

set_option maxHeartbeats 1000000 in
theorem step5 (c : Int) (w : World) : Calls Try.prog 24 #[.int .i64 5, .int .u8 c] w fun e w' => e = .returned (.int .i64 (ans (stp 5 c))) ∧ w' = w := by
  rw [← num5_eq]
  by_cases hd : 48 ≤ c ∧ c ≤ 57
  · have hb : isd c = true := (isd_iff c).2 hd
    go_enter Try.func24, Try.ntmps24
    go_wp2_with (go_at_call 31; refine (digit_any c _).mono ?_; rintro e w' ⟨rfl, rfl⟩)
    all_goals
      go_ret
      refine ⟨ret_int ?_, rfl⟩
      try simp only [beq_iff_eq, beq_eq_false_iff_ne, ne_eq] at *
      unfold num5
      omega
  · have hb : isd c = false := by simpa using mt (isd_iff c).1 hd
    go_enter Try.func24, Try.ntmps24
    go_wp2_with (go_at_call 31; refine (digit_any c _).mono ?_; rintro e w' ⟨rfl, rfl⟩)
    all_goals
      go_ret
      refine ⟨ret_int ?_, rfl⟩
      try simp only [beq_iff_eq, beq_eq_false_iff_ne, ne_eq] at *
      unfold num5
      omega

def num6 (c : Int) : Int := if c = 43 ∨ c = 45 then 7 else if 48 ≤ c ∧ c ≤ 57 then 8 else -1

theorem num6_eq (c : Int) : num6 c = ans (stp 6 c) := by
  simp only [stp, ans_ite, isd_iff, isS_iff]
  rfl

set_option maxHeartbeats 1000000 in
theorem step6 (c : Int) (w : World) : Calls Try.prog 24 #[.int .i64 6, .int .u8 c] w fun e w' => e = .returned (.int .i64 (ans (stp 6 c))) ∧ w' = w := by
  rw [← num6_eq]
  by_cases hd : 48 ≤ c ∧ c ≤ 57
  · have hb : isd c = true := (isd_iff c).2 hd
    go_enter Try.func24, Try.ntmps24
    go_wp2_with (go_at_call 31; refine (digit_any c _).mono ?_; rintro e w' ⟨rfl, rfl⟩)
    all_goals
      go_ret
      refine ⟨ret_int ?_, rfl⟩
      try simp only [beq_iff_eq, beq_eq_false_iff_ne, ne_eq] at *
      unfold num6
      omega
  · have hb : isd c = false := by simpa using mt (isd_iff c).1 hd
    go_enter Try.func24, Try.ntmps24
    go_wp2_with (go_at_call 31; refine (digit_any c _).mono ?_; rintro e w' ⟨rfl, rfl⟩)
    all_goals
      go_ret
      refine ⟨ret_int ?_, rfl⟩
      try simp only [beq_iff_eq, beq_eq_false_iff_ne, ne_eq] at *
      unfold num6
      omega

def num7 (c : Int) : Int := if 48 ≤ c ∧ c ≤ 57 then 8 else -1

theorem num7_eq (c : Int) : num7 c = ans (stp 7 c) := by
  simp only [stp, ans_ite, isd_iff]
  rfl

set_option maxHeartbeats 1000000 in
theorem step7 (c : Int) (w : World) : Calls Try.prog 24 #[.int .i64 7, .int .u8 c] w fun e w' => e = .returned (.int .i64 (ans (stp 7 c))) ∧ w' = w := by
  rw [← num7_eq]
  by_cases hd : 48 ≤ c ∧ c ≤ 57
  · have hb : isd c = true := (isd_iff c).2 hd
    go_enter Try.func24, Try.ntmps24
    go_wp2_with (go_at_call 31; refine (digit_any c _).mono ?_; rintro e w' ⟨rfl, rfl⟩)
    all_goals
      go_ret
      refine ⟨ret_int ?_, rfl⟩
      try simp only [beq_iff_eq, beq_eq_false_iff_ne, ne_eq] at *
      unfold num7
      omega
  · have hb : isd c = false := by simpa using mt (isd_iff c).1 hd
    go_enter Try.func24, Try.ntmps24
    go_wp2_with (go_at_call 31; refine (digit_any c _).mono ?_; rintro e w' ⟨rfl, rfl⟩)
    all_goals
      go_ret
      refine ⟨ret_int ?_, rfl⟩
      try simp only [beq_iff_eq, beq_eq_false_iff_ne, ne_eq] at *
      unfold num7
      omega

def num8 (c : Int) : Int := if 48 ≤ c ∧ c ≤ 57 then 8 else -1

theorem num8_eq (c : Int) : num8 c = ans (stp 8 c) := by
  simp only [stp, ans_ite, isd_iff]
  rfl

set_option maxHeartbeats 1000000 in
theorem step8 (c : Int) (w : World) : Calls Try.prog 24 #[.int .i64 8, .int .u8 c] w fun e w' => e = .returned (.int .i64 (ans (stp 8 c))) ∧ w' = w := by
  rw [← num8_eq]
  by_cases hd : 48 ≤ c ∧ c ≤ 57
  · have hb : isd c = true := (isd_iff c).2 hd
    go_enter Try.func24, Try.ntmps24
    go_wp2_with (go_at_call 31; refine (digit_any c _).mono ?_; rintro e w' ⟨rfl, rfl⟩)
    all_goals
      go_ret
      refine ⟨ret_int ?_, rfl⟩
      try simp only [beq_iff_eq, beq_eq_false_iff_ne, ne_eq] at *
      unfold num8
      omega
  · have hb : isd c = false := by simpa using mt (isd_iff c).1 hd
    go_enter Try.func24, Try.ntmps24
    go_wp2_with (go_at_call 31; refine (digit_any c _).mono ?_; rintro e w' ⟨rfl, rfl⟩)
    all_goals
      go_ret
      refine ⟨ret_int ?_, rfl⟩
      try simp only [beq_iff_eq, beq_eq_false_iff_ne, ne_eq] at *
      unfold num8
      omega

theorem stp_le {st s : Nat} {c : Int} (h : stp st c = some s) : s ≤ 8 := by
  unfold stp at h
  split at h <;> (repeat' split at h) <;> simp at h <;> omega

theorem step_any (st : Nat) (hst : st ≤ 8) (c : Int) (w : World) : Calls Try.prog 24 #[.int .i64 (st : Int), .int .u8 c] w fun e w' => e = .returned (.int .i64 (ans (stp st c))) ∧ w' = w := by
  match st, hst with
  | 0, _ => exact step0 c w
  | 1, _ => exact step1 c w
  | 2, _ => exact step2 c w
  | 3, _ => exact step3 c w
  | 4, _ => exact step4 c w
  | 5, _ => exact step5 c w
  | 6, _ => exact step6 c w
  | 7, _ => exact step7 c w
  | 8, _ => exact step8 c w

theorem accept_any (st : Nat) (hst : st ≤ 8) (w : World) : Calls Try.prog 25 #[.int .i64 (st : Int)] w fun e w' => e = .returned (.bool (acc st)) ∧ w' = w := by
  match st, hst with
  | 0, _ =>
    show Calls Try.prog 25 #[.int .i64 0] w fun e w' => e = .returned (.bool false) ∧ w' = w
    go_enter Try.func25, Try.ntmps25
    go_wp2
    go_ret
    exact ⟨rfl, rfl⟩
  | 1, _ =>
    show Calls Try.prog 25 #[.int .i64 1] w fun e w' => e = .returned (.bool false) ∧ w' = w
    go_enter Try.func25, Try.ntmps25
    go_wp2
    go_ret
    exact ⟨rfl, rfl⟩
  | 2, _ =>
    show Calls Try.prog 25 #[.int .i64 2] w fun e w' => e = .returned (.bool true) ∧ w' = w
    go_enter Try.func25, Try.ntmps25
    go_wp2
    go_ret
    exact ⟨rfl, rfl⟩
  | 3, _ =>
    show Calls Try.prog 25 #[.int .i64 3] w fun e w' => e = .returned (.bool true) ∧ w' = w
    go_enter Try.func25, Try.ntmps25
    go_wp2
    go_ret
    exact ⟨rfl, rfl⟩
  | 4, _ =>
    show Calls Try.prog 25 #[.int .i64 4] w fun e w' => e = .returned (.bool false) ∧ w' = w
    go_enter Try.func25, Try.ntmps25
    go_wp2
    go_ret
    exact ⟨rfl, rfl⟩
  | 5, _ =>
    show Calls Try.prog 25 #[.int .i64 5] w fun e w' => e = .returned (.bool true) ∧ w' = w
    go_enter Try.func25, Try.ntmps25
    go_wp2
    go_ret
    exact ⟨rfl, rfl⟩
  | 6, _ =>
    show Calls Try.prog 25 #[.int .i64 6] w fun e w' => e = .returned (.bool false) ∧ w' = w
    go_enter Try.func25, Try.ntmps25
    go_wp2
    go_ret
    exact ⟨rfl, rfl⟩
  | 7, _ =>
    show Calls Try.prog 25 #[.int .i64 7] w fun e w' => e = .returned (.bool false) ∧ w' = w
    go_enter Try.func25, Try.ntmps25
    go_wp2
    go_ret
    exact ⟨rfl, rfl⟩
  | 8, _ =>
    show Calls Try.prog 25 #[.int .i64 8] w fun e w' => e = .returned (.bool true) ∧ w' = w
    go_enter Try.func25, Try.ntmps25
    go_wp2
    go_ret
    exact ⟨rfl, rfl⟩

/-- Where the automaton has come to. -/
theorem auto_next {L : List Int} {p st s : Nat} (h : p < L.length) (hs : stp st (byteAt L p) = some s) : auto st (L.drop p) = ((auto s (L.drop (p + 1))).1, (auto s (L.drop (p + 1))).2 + 1) := by
  rw [drop_byte h, auto, hs]

theorem auto_stop {L : List Int} {p st : Nat} (h : p < L.length) (hs : stp st (byteAt L p) = none) : auto st (L.drop p) = (st, 0) := by
  rw [drop_byte h, auto, hs]

theorem auto_end {L : List Int} {p st : Nat} (h : L.length ≤ p) : auto st (L.drop p) = (st, 0) := by
  rw [List.drop_of_length_le h]; rfl

set_option maxHeartbeats 1000000 in
theorem end_any (w : World) (b off n c : Nat) (L : List Int) (hL : Line w b off n L) (hn : n ≤ 16777216) (i : Nat) (hi : i < n) :
    Calls Try.prog 10 #[.slice (some ⟨b, off, none⟩) n c, .int .i64 i] w fun e w' => e = .returned (.int .i64 (res i (scan (L.drop i)))) ∧ w' = w := by
  obtain ⟨hlen, hcell⟩ := hL
  have HL : Hid (L.length = n) := hlen
  have HC : Hid (∀ j, j < n → w.cell? ⟨b, off + j, none⟩ = some (.int .u8 (byteAt L j))) := hcell
  clear hlen hcell
  go_enter Try.func10, Try.ntmps10
  go_wp2
  go_loop [5, 6] (fun vs vp => ∃ st p : Nat, vs = .int .i64 st ∧ st ≤ 8 ∧ vp = .int .i64 p ∧ i ≤ p ∧ p ≤ n ∧ Hid (auto 0 (L.drop i) = ((auto st (L.drop p)).1, (auto st (L.drop p)).2 + (p - i)))) (fun _ vp => n - (intOf vp).toNat)
  case atStart => exact ⟨0, i, rfl, by omega, rfl, Nat.le_refl _, by omega, by show _ = _; simp⟩
  case round =>
    obtain ⟨st, p, rfl, hst, rfl, hip, hpn, H⟩ := hrel
    by_cases hlt : p < n
    · have hc := HC.out p hlt
      have hltL : p < L.length := by rw [HL.out]; exact hlt
      cases hs : stp st (byteAt L p) with
      | none =>
        have HA : Hid (res i (scan (L.drop i)) = if acc st = true then (p : Int) else -1) := by
          show _ = _
          rw [← fin0, H.out, auto_stop hltL hs]
          unfold fin
          split
          · show (i : Int) + ((0 + (0 + (p - i)) : Nat) : Int) = _; omega
          · rfl
        have hstep : ∀ w, Calls Try.prog 24 #[.int .i64 (st : Int), .int .u8 (byteAt L p)] w fun e w' => e = .returned (.int .i64 (-1)) ∧ w' = w := by
          intro w
          have := step_any st hst (byteAt L p) w
          rw [hs] at this
          exact this
        have HS : Hid (∀ w, Calls Try.prog 24 #[.int .i64 (st : Int), .int .u8 (byteAt L p)] w fun e w' => e = .returned (.int .i64 (-1)) ∧ w' = w) := hstep
        clear hstep hs
        go_wp2_with (first | (go_at_call 24; refine (HS.out _).mono ?_; rintro e w' ⟨rfl, rfl⟩) | (go_at_call 25; refine (accept_any st hst _).mono ?_; rintro e w' ⟨rfl, rfl⟩))
        · have ha : acc st = true := by assumption
          go_ret
          exact ⟨ret_int (by rw [HA.out, if_pos ha]), rfl⟩
        · have ha : acc st = false := by assumption
          go_ret
          exact ⟨ret_int (by rw [HA.out, ha]; rfl), rfl⟩
      | some s =>
        have hs8 : s ≤ 8 := stp_le hs
        have HN : Hid (auto 0 (L.drop i) = ((auto s (L.drop (p + 1))).1, (auto s (L.drop (p + 1))).2 + (p + 1 - i))) := by
          show _ = _
          rw [H.out, auto_next hltL hs]
          congr 1
          show _ + 1 + (p - i) = _
          omega
        have hstep : ∀ w, Calls Try.prog 24 #[.int .i64 (st : Int), .int .u8 (byteAt L p)] w fun e w' => e = .returned (.int .i64 (s : Int)) ∧ w' = w := by
          intro w
          have := step_any st hst (byteAt L p) w
          rw [hs] at this
          exact this
        have HS : Hid (∀ w, Calls Try.prog 24 #[.int .i64 (st : Int), .int .u8 (byteAt L p)] w fun e w' => e = .returned (.int .i64 (s : Int)) ∧ w' = w) := hstep
        clear hstep hs
        go_wp2_with (first | (go_at_call 24; refine (HS.out _).mono ?_; rintro e w' ⟨rfl, rfl⟩) | (go_at_call 25; refine (accept_any st hst _).mono ?_; rintro e w' ⟨rfl, rfl⟩))
        go_round
        case rel => exact ⟨s, p + 1, rfl, hs8, by go_num, by omega, by omega, HN⟩
        case measure => simp [intOf]; omega
    · have HA : Hid (res i (scan (L.drop i)) = if acc st = true then (p : Int) else -1) := by
        show _ = _
        rw [← fin0, H.out, auto_end (by rw [HL.out]; omega)]
        unfold fin
        split
        · show (i : Int) + ((0 + (0 + (p - i)) : Nat) : Int) = _; omega
        · rfl
      go_wp2_with (go_at_call 25; refine (accept_any st hst _).mono ?_; rintro e w' ⟨rfl, rfl⟩)
      · have ha : acc st = true := by assumption
        go_ret
        exact ⟨ret_int (by rw [HA.out, if_pos ha]), rfl⟩
      · have ha : acc st = false := by assumption
        go_ret
        exact ⟨ret_int (by rw [HA.out, ha]; rfl), rfl⟩

end Go.Proofs.Qxb6600841a
