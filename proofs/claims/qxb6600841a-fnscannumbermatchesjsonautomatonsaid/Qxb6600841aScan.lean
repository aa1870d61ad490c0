/- The walks of ledger.skipDigits (function 30), ledger.scanNumber (function 23), ledger.ZZscanNumber (function 9): they answer 'Num.dl', 'Num.scan'. -/
import Derived.Test.Qxb6600841aProg
import Derived.Test.Qxb6600841aPlainNum
import Derived.WalkKit
import Derived.BigCall
import Derived.Deep.DeepCutAuto
namespace Go.Proofs.Qxb6600841a
open Go.RowKit Go.Proofs.Qxb6600841a.Num

/-- The byte at a place. -/
def byteAt (L : List Int) (j : Nat) : Int := L.getD j 0

theorem drop_byte {L : List Int} {j : Nat} (h : j < L.length) : L.drop j = byteAt L j :: L.drop (j + 1) := by
  rw [List.drop_eq_getElem_cons h]
  simp [byteAt, List.getD, List.getElem?_eq_getElem h]

/-- A line in memory: n bytes from an address on. -/
def Line (w : World) (b off n : Nat) (L : List Int) : Prop := L.length = n ∧ ∀ j, j < n → w.cell? ⟨b, off + j, none⟩ = some (.int .u8 (byteAt L j))

theorem dl_hit {L : List Int} {q : Nat} (h : q < L.length) (h1 : 48 ≤ byteAt L q) (h2 : byteAt L q ≤ 57) : dl (L.drop q) = dl (L.drop (q + 1)) + 1 := by
  rw [drop_byte h, dl, if_pos (by simp [isd, h1, h2])]

theorem dl_miss {L : List Int} {q : Nat} (h : q < L.length) (h1 : ¬ (48 ≤ byteAt L q ∧ byteAt L q ≤ 57)) : dl (L.drop q) = 0 := by
  rw [drop_byte h, dl, if_neg]
  simp only [isd, Bool.and_eq_true, decide_eq_true_eq]
  exact h1

theorem dl_end {L : List Int} {q : Nat} (h : L.length ≤ q) : dl (L.drop q) = 0 := by
  rw [List.drop_of_length_le h]; rfl

theorem Hid_mk {p : Prop} (h : p) : Hid p := h

theorem ret_int {k : IntKind} {a b : Int} (h : a = b) : Ending.returned (.int k a) = .returned (.int k b) := by rw [h]

set_option maxHeartbeats 400000 in
theorem skip_any (w : World) (b off n c : Nat) (L : List Int) (hL : Line w b off n L) (hn : n ≤ 16777216) (p : Nat) (hp : p ≤ n) :
    Calls Try.prog 30 #[.slice (some ⟨b, off, none⟩) n c, .int .i64 p] w fun e w' => e = .returned (.int .i64 ((p + dl (L.drop p) : Nat) : Int)) ∧ w' = w := by
  obtain ⟨hlen, hcell⟩ := hL
  have HL : Hid (L.length = n) := hlen
  clear hlen
  go_enter Try.func30, Try.ntmps30
  go_wp2
  go_loop [1] (fun vp => ∃ q : Nat, vp = .int .i64 q ∧ p ≤ q ∧ q ≤ n ∧ Hid (p + dl (L.drop p) = q + dl (L.drop q))) (fun vp => n - (intOf vp).toNat)
  case atStart => exact ⟨p, rfl, Nat.le_refl _, hp, rfl⟩
  case round =>
    obtain ⟨q, rfl, hpq, hq, H⟩ := hrel
    by_cases hlt : q < n
    · have hc := hcell q hlt
      clear hcell
      go_wp2
      · have h1 : 48 ≤ byteAt L q := by assumption
        have h2 : byteAt L q ≤ 57 := by assumption
        go_round
        case rel => exact ⟨q + 1, by go_num, by omega, by omega, by show _ = _; rw [H.out, dl_hit (by rw [HL.out]; exact hlt) h1 h2]; omega⟩
        case measure => simp [intOf]; omega
      · have h2 : 57 < byteAt L q := by assumption
        go_ret
        exact ⟨ret_int (by have := H.out; rw [dl_miss (q := q) (by rw [HL.out]; exact hlt) (by omega)] at this; omega), rfl⟩
      · have h1 : byteAt L q < 48 := by assumption
        go_ret
        exact ⟨ret_int (by have := H.out; rw [dl_miss (q := q) (by rw [HL.out]; exact hlt) (by omega)] at this; omega), rfl⟩
    · clear hcell
      go_wp2
      go_ret
      exact ⟨ret_int (by have := H.out; rw [dl_end (q := q) (by rw [HL.out]; omega)] at this; omega), rfl⟩

theorem sgn_hit {L : List Int} {i : Nat} (h : i < L.length) (h1 : (byteAt L i == 45) = true) : sgn (L.drop i) = 1 := by
  rw [drop_byte h, sgn, if_pos (by simpa using h1)]

theorem sgn_miss {L : List Int} {i : Nat} (h : i < L.length) (h1 : (byteAt L i == 45) = false) : sgn (L.drop i) = 0 := by
  rw [drop_byte h, sgn, if_neg (by simpa using h1)]

theorem ip_zero {L : List Int} {q : Nat} (h : q < L.length) (h1 : (byteAt L q == 48) = true) : ip (L.drop q) = some 1 := by
  rw [drop_byte h, ip, if_pos (by simpa using h1)]

theorem ip_digit {L : List Int} {q : Nat} (h : q < L.length) (h1 : (byteAt L q == 48) = false) (h2 : 49 ≤ byteAt L q) (h3 : byteAt L q ≤ 57) : ip (L.drop q) = some (1 + dl (L.drop (q + 1))) := by
  rw [drop_byte h, ip, if_neg (by simpa using h1), if_pos ⟨h2, h3⟩]

theorem ip_no {L : List Int} {q : Nat} (h : q < L.length) (h1 : (byteAt L q == 48) = false) (h2 : ¬ (49 ≤ byteAt L q ∧ byteAt L q ≤ 57)) : ip (L.drop q) = none := by
  rw [drop_byte h, ip, if_neg (by simpa using h1), if_neg h2]

theorem ip_end {L : List Int} {q : Nat} (h : L.length ≤ q) : ip (L.drop q) = none := by
  rw [List.drop_of_length_le h]; rfl

theorem fp_end {L : List Int} {q : Nat} (h : L.length ≤ q) : fp (L.drop q) = some 0 := by
  rw [List.drop_of_length_le h]; rfl

theorem fp_no {L : List Int} {q : Nat} (h : q < L.length) (h1 : (byteAt L q == 46) = false) : fp (L.drop q) = some 0 := by
  rw [drop_byte h, fp, if_neg (by simpa using h1)]

theorem fp_dot_none {L : List Int} {q : Nat} (h : q < L.length) (h1 : (byteAt L q == 46) = true) (h2 : dl (L.drop (q + 1)) = 0) : fp (L.drop q) = none := by
  rw [drop_byte h, fp, if_pos (by simpa using h1), if_pos h2]

theorem fp_dot_some {L : List Int} {q : Nat} (h : q < L.length) (h1 : (byteAt L q == 46) = true) (h2 : dl (L.drop (q + 1)) ≠ 0) : fp (L.drop q) = some (1 + dl (L.drop (q + 1))) := by
  rw [drop_byte h, fp, if_pos (by simpa using h1), if_neg h2]

theorem ep_end {L : List Int} {q : Nat} (h : L.length ≤ q) : ep (L.drop q) = some 0 := by
  rw [List.drop_of_length_le h]; rfl

theorem ep_no {L : List Int} {q : Nat} (h : q < L.length) (h1 : (byteAt L q == 101) = false) (h2 : (byteAt L q == 69) = false) : ep (L.drop q) = some 0 := by
  have e1 : byteAt L q ≠ 101 := by simpa using h1
  have e2 : byteAt L q ≠ 69 := by simpa using h2
  rw [drop_byte h, ep, if_neg (by simp [e1, e2])]

theorem ep_none {L : List Int} {q u : Nat} (h : q < L.length) (h1 : byteAt L q = 101 ∨ byteAt L q = 69) (hu : u = q + 1 + es (L.drop (q + 1))) (h2 : dl (L.drop u) = 0) : ep (L.drop q) = none := by
  rw [drop_byte h, ep, if_pos h1, List.drop_drop, ← hu, if_pos h2]

theorem ep_digits {L : List Int} {q u : Nat} (h : q < L.length) (h1 : byteAt L q = 101 ∨ byteAt L q = 69) (hu : u = q + 1 + es (L.drop (q + 1))) (h2 : dl (L.drop u) ≠ 0) : ep (L.drop q) = some (u + dl (L.drop u) - q) := by
  rw [drop_byte h, ep, if_pos h1, List.drop_drop, ← hu, if_neg h2]
  congr 1
  omega

theorem es_end {L : List Int} {q : Nat} (h : L.length ≤ q) : es (L.drop q) = 0 := by
  rw [List.drop_of_length_le h]; rfl

theorem es_hit {L : List Int} {q : Nat} (h : q < L.length) (h1 : byteAt L q = 43 ∨ byteAt L q = 45) : es (L.drop q) = 1 := by
  rw [drop_byte h, es, if_pos h1]

theorem es_no {L : List Int} {q : Nat} (h : q < L.length) (h1 : (byteAt L q == 43) = false) (h2 : (byteAt L q == 45) = false) : es (L.drop q) = 0 := by
  have e1 : byteAt L q ≠ 43 := by simpa using h1
  have e2 : byteAt L q ≠ 45 := by simpa using h2
  rw [drop_byte h, es, if_neg (by simp [e1, e2])]

/-- The last of the digits is a digit. -/
theorem dl_last {L : List Int} : ∀ (d q : Nat), dl (L.drop q) = d + 1 → 48 ≤ byteAt L (q + d) ∧ byteAt L (q + d) ≤ 57
  | 0, q, h => by
    have hq : q < L.length := by
      have := dl_le (L.drop q); simp at this; omega
    by_cases hd : 48 ≤ byteAt L q ∧ byteAt L q ≤ 57
    · simpa using hd
    · rw [dl_miss hq hd] at h; omega
  | d + 1, q, h => by
    have hq : q < L.length := by
      have := dl_le (L.drop q); simp at this; omega
    by_cases hd : 48 ≤ byteAt L q ∧ byteAt L q ≤ 57
    · rw [dl_hit hq hd.1 hd.2] at h
      have := dl_last (L := L) d (q + 1) (by omega)
      rw [show q + 1 + d = q + (d + 1) by omega] at this
      exact this
    · rw [dl_miss hq hd] at h; omega

theorem scan_ip {L : List Int} {i q m r : Nat} (HQ : q = i + sgn (L.drop i)) (h : ip (L.drop q) = some m) (hr : r = q + m) : scan (L.drop i) = tailOf (L.drop i) (r - i) := by
  unfold scan
  rw [List.drop_drop, ← HQ, h, Option.bind_some, hr]
  congr 1
  omega

theorem scan_ip_none {L : List Int} {i q : Nat} (HQ : q = i + sgn (L.drop i)) (h : ip (L.drop q) = none) : scan (L.drop i) = none := by
  unfold scan
  rw [List.drop_drop, ← HQ, h]; rfl

theorem scan_fp {L : List Int} {i r m t : Nat} (hir : i ≤ r) (HR : scan (L.drop i) = tailOf (L.drop i) (r - i)) (h : fp (L.drop r) = some m) (ht : t = r + m) : scan (L.drop i) = (ep (L.drop t)).bind fun d => some (t - i + d) := by
  rw [HR]
  unfold tailOf
  rw [List.drop_drop, show i + (r - i) = r by omega, h, Option.bind_some, List.drop_drop, show i + (r - i + m) = t by omega, show r - i + m = t - i by omega]

theorem scan_fp_none {L : List Int} {i r : Nat} (hir : i ≤ r) (HR : scan (L.drop i) = tailOf (L.drop i) (r - i)) (h : fp (L.drop r) = none) : scan (L.drop i) = none := by
  rw [HR]
  unfold tailOf
  rw [List.drop_drop, show i + (r - i) = r by omega, h]; rfl

theorem scan_ep {L : List Int} {i t d : Nat} (hit : i ≤ t) (HT : scan (L.drop i) = (ep (L.drop t)).bind fun d => some (t - i + d)) (h : ep (L.drop t) = some d) : res i (scan (L.drop i)) = ((t + d : Nat) : Int) := by
  rw [HT, h]
  show (i : Int) + ((t - i + d : Nat) : Int) = _
  omega

theorem scan_ep_none {L : List Int} {i t : Nat} (HT : scan (L.drop i) = (ep (L.drop t)).bind fun d => some (t - i + d)) (h : ep (L.drop t) = none) : res i (scan (L.drop i)) = -1 := by
  rw [HT, h]; rfl

/-- The exponent's sign, by cases. -/
theorem exp_sign {L : List Int} {n t : Nat} (hL : L.length = n) : ∃ U, U = t + 1 + es (L.drop (t + 1)) ∧
    ((¬ t + 1 < n ∧ U = t + 1) ∨ (t + 1 < n ∧ (((byteAt L (t + 1) == 43) = true ∧ U = t + 2) ∨ ((byteAt L (t + 1) == 43) = false ∧ (byteAt L (t + 1) == 45) = true ∧ U = t + 2) ∨ ((byteAt L (t + 1) == 43) = false ∧ (byteAt L (t + 1) == 45) = false ∧ U = t + 1)))) := by
  refine ⟨_, rfl, ?_⟩
  by_cases h : t + 1 < n
  · right
    refine ⟨h, ?_⟩
    have hl : t + 1 < L.length := by omega
    cases e1 : (byteAt L (t + 1) == 43)
    · cases e2 : (byteAt L (t + 1) == 45)
      · right; right; exact ⟨rfl, rfl, by rw [es_no hl e1 e2]⟩
      · right; left; exact ⟨rfl, rfl, by rw [es_hit hl (.inr (by simpa using e2))]⟩
    · left; exact ⟨rfl, by rw [es_hit hl (.inl (by simpa using e1))]⟩
  · left; exact ⟨h, by rw [es_end (by omega)]⟩

set_option maxHeartbeats 2000000 in
set_option maxRecDepth 100000 in
theorem scan_any (w : World) (b off n c : Nat) (L : List Int) (hL : Line w b off n L) (hn : n ≤ 16777216) (i : Nat) (hi : i < n) :
    Calls Try.prog 23 #[.slice (some ⟨b, off, none⟩) n c, .int .i64 i] w fun e w' => e = .returned (.int .i64 (res i (scan (L.drop i)))) ∧ w' = w := by
  have HS : Hid (∀ (q T : Nat) (x : Int), x = q → T = q + dl (L.drop q) → q ≤ n → Calls Try.prog 30 #[.slice (some ⟨b, off, none⟩) n c, .int .i64 x] w fun e w' => e = .returned (.int .i64 (T : Int)) ∧ w' = w) := by
    show ∀ (q T : Nat) (x : Int), _
    intro q T x hx hT hq
    subst hx hT
    exact skip_any w b off n c L hL hn q hq
  obtain ⟨hlen, hcell⟩ := hL
  have HL : Hid (L.length = n) := hlen
  have HC : Hid (∀ j, j < n → w.cell? ⟨b, off + j, none⟩ = some (.int .u8 (byteAt L j))) := hcell
  clear hlen hcell
  have hc0 := HC.out i hi
  go_enter Try.func23, Try.ntmps23
  go_upto_if 10 with fail
  go_cut [1] (fun v1 wx => wx = w ∧ ∃ q : Nat, v1 = .int .i64 q ∧ i ≤ q ∧ q ≤ n ∧ Hid (q = i + sgn (L.drop i)))
  case first =>
    go_wp2_with fail
    · have h45 : (byteAt L i == 45) = true := by assumption
      go_meet
      case rel => exact ⟨rfl, i + 1, by go_num, by omega, by omega, by show _ = _; rw [sgn_hit (by rw [HL.out]; exact hi) h45]⟩
    · have h45 : (byteAt L i == 45) = false := by assumption
      go_meet
      case rel => exact ⟨rfl, i, rfl, by omega, by omega, by show _ = _; rw [sgn_miss (by rw [HL.out]; exact hi) h45]; rfl⟩
  case rest =>
    obtain ⟨rfl, q, rfl, hq1, hq2, HQ⟩ := hcut
    clear hc0
    by_cases hlt : q < n
    · have hc1 := HC.out q hlt
      have hltL : q < L.length := by rw [HL.out]; exact hlt
      obtain ⟨T, hT⟩ : ∃ T, T = q + 1 + dl (L.drop (q + 1)) := ⟨_, rfl⟩
      have hTn : T ≤ n := by have := dl_le (L.drop (q + 1)); simp at this; have := HL.out; omega
      have hTq : q + 1 ≤ T := by omega
      have HT : Hid (T = q + 1 + dl (L.drop (q + 1))) := hT
      clear hT
      go_step
      go_step
      go_cut [1] (fun v1 wx => wx = wc ∧ ∃ r : Nat, v1 = .int .i64 r ∧ i ≤ r ∧ r ≤ n ∧ Hid (scan (L.drop i) = tailOf (L.drop i) (r - i)))
      case first =>
        go_wp2_with (go_at_call 30; refine (HS.out (q + 1) T _ (by omega) HT.out (by omega)).mono ?_; rintro e w' ⟨rfl, rfl⟩)
        · have h48 : (byteAt L q == 48) = true := by assumption
          go_meet
          case rel => exact ⟨rfl, q + 1, by go_num, by omega, by omega, scan_ip HQ.out (ip_zero hltL h48) rfl⟩
        · have h48 : (byteAt L q == 48) = false := by assumption
          have h1 : 49 ≤ byteAt L q := by assumption
          have h2 : byteAt L q ≤ 57 := by assumption
          go_meet
          case rel => exact ⟨rfl, T, rfl, by omega, hTn, scan_ip HQ.out (ip_digit hltL h48 h1 h2) (by have := HT.out; omega)⟩
        · have h48 : (byteAt L q == 48) = false := by assumption
          have h2 : 57 < byteAt L q := by assumption
          go_ret
          exact ⟨ret_int (by rw [scan_ip_none HQ.out (ip_no hltL h48 (by omega))]; rfl), rfl⟩
        · have h48 : (byteAt L q == 48) = false := by assumption
          have h2 : byteAt L q < 49 := by assumption
          go_ret
          exact ⟨ret_int (by rw [scan_ip_none HQ.out (ip_no hltL h48 (by omega))]; rfl), rfl⟩
      case rest =>
        obtain ⟨rfl, r, rfl, hr1, hr2, HR⟩ := hcut
        clear hc1 hTn hTq HT hltL
        by_cases hlt2 : r < n
        · have hc2 := HC.out r hlt2
          have hltL : r < L.length := by rw [HL.out]; exact hlt2
          obtain ⟨D, hD⟩ : ∃ D, D = dl (L.drop (r + 1)) := ⟨_, rfl⟩
          obtain ⟨T, hT⟩ : ∃ T, T = r + 1 + D := ⟨_, rfl⟩
          have hTn : T ≤ n := by have := dl_le (L.drop (r + 1)); simp at this; have := HL.out; omega
          have hTr : r + 1 ≤ T := by omega
          have HT : Hid (T = r + 1 + dl (L.drop (r + 1))) := by show _ = _; rw [hT, hD]
          have hT1 : (0 : Int) ≤ (T : Int) - 1 := by omega
          have hT2 : (T : Int) - 1 < (n : Int) := by omega
          have hT3 : ((T : Int) - 1).toNat = T - 1 := by omega
          have hc3 := HC.out (T - 1) (by omega)
          have hdot : (byteAt L r == 46) = true → D = 0 → (byteAt L (T - 1) == 46) = true := by
            intro h1 h2
            rw [show T - 1 = r by omega]; exact h1
          have hdig : D ≠ 0 → (byteAt L (T - 1) == 46) = false := by
            intro h2
            have := dl_last (L := L) (D - 1) (r + 1) (by omega)
            rw [show r + 1 + (D - 1) = T - 1 by omega] at this
            simp; omega
          have HD : Hid (D = dl (L.drop (r + 1))) := hD
          have hd1 := Hid_mk hdot
          have hd2 := Hid_mk hdig
          clear hT hD hdot hdig
          go_step
          go_step
          go_cut [1] (fun v1 wx => wx = wc ∧ ∃ t : Nat, v1 = .int .i64 t ∧ i ≤ t ∧ t ≤ n ∧ Hid (scan (L.drop i) = (ep (L.drop t)).bind fun d => some (t - i + d)))
          case first =>
            by_cases h46 : (byteAt L r == 46) = true
            · by_cases h0 : D = 0
              · have hb := hd1.out h46 h0
                have HN : Hid (res i (scan (L.drop i)) = -1) := by show _ = _; rw [scan_fp_none hr1 HR.out (fp_dot_none hltL h46 (by rw [← HD.out]; exact h0))]; rfl
                clear h0
                go_wp2_with (go_at_call 30; refine (HS.out (r + 1) T _ (by omega) HT.out (by omega)).mono ?_; rintro e w' ⟨rfl, rfl⟩)
                go_ret
                exact ⟨ret_int HN.out.symm, rfl⟩
              · have hb := hd2.out h0
                have HN : Hid (scan (L.drop i) = (ep (L.drop T)).bind fun d => some (T - i + d)) := scan_fp hr1 HR.out (fp_dot_some hltL h46 (by rw [← HD.out]; exact h0)) (by have := HT.out; omega)
                clear h0
                go_wp2_with (go_at_call 30; refine (HS.out (r + 1) T _ (by omega) HT.out (by omega)).mono ?_; rintro e w' ⟨rfl, rfl⟩)
                go_meet
                case rel => exact ⟨rfl, T, rfl, by omega, hTn, HN⟩
            · have h46' : (byteAt L r == 46) = false := by simpa using h46
              have HN : Hid (scan (L.drop i) = (ep (L.drop r)).bind fun d => some (r - i + d)) := scan_fp hr1 HR.out (fp_no hltL h46') rfl
              clear h46
              go_wp2_with fail
              go_meet
              case rel => exact ⟨rfl, r, rfl, hr1, hr2, HN⟩
          case rest =>
            obtain ⟨rfl, t, rfl, ht1, ht2, HE⟩ := hcut
            clear hc2 hltL hTn hTr HT hT1 hT2 hT3 hc3 HD hd1 hd2
            by_cases hlt3 : t < n
            · have hc4 := HC.out t hlt3
              have hltL : t < L.length := by rw [HL.out]; exact hlt3
              by_cases hE : byteAt L t = 101 ∨ byteAt L t = 69
              · have hEE : Hid (byteAt L t = 101 ∨ byteAt L t = 69) := hE
                have ht : (byteAt L t == 101) = true ∨ (byteAt L t == 101) = false ∧ (byteAt L t == 69) = true := by
                  by_cases h : byteAt L t = 101
                  · left; simpa using h
                  · right; exact ⟨by simpa using h, by rcases hE with h' | h'; exact absurd h' h; simpa using h'⟩
                clear hE
                obtain ⟨U, hU, hcase⟩ := exp_sign (L := L) (n := n) (t := t) HL.out
                obtain ⟨T, hT⟩ : ∃ T, T = U + dl (L.drop U) := ⟨_, rfl⟩
                have HT : Hid (T = U + dl (L.drop U)) := hT
                have hUn : U ≤ n := by rcases hcase with ⟨h, h'⟩ | ⟨h, ⟨_, h'⟩ | ⟨_, _, h'⟩ | ⟨_, _, h'⟩⟩ <;> omega
                have hTU : U ≤ T := by omega
                have HF : Hid (T = U → res i (scan (L.drop i)) = -1) := by
                  show _ → _
                  intro h
                  exact scan_ep_none HE.out (ep_none hltL hEE.out hU (by omega))
                have HG : Hid (T ≠ U → res i (scan (L.drop i)) = (T : Int)) := by
                  show _ → _
                  intro h
                  have htU : t ≤ U := by omega
                  have := scan_ep ht1 HE.out (ep_digits hltL hEE.out hU (by omega))
                  rw [this, ← hT, show t + (T - t) = T by omega]
                clear hU hT
                have hx0 : ((t : Int) + 1).toNat = t + 1 := by omega
                have hc5 : t + 1 < n → wc.cell? ⟨b, off + (t + 1), none⟩ = some (.int .u8 (byteAt L (t + 1))) := fun h => HC.out (t + 1) h
                by_cases hTU2 : T = U
                · have HN : Hid (res i (scan (L.drop i)) = -1) := HF.out hTU2
                  have hTU3 : T ≤ U := by omega
                  clear hTU2
                  rcases ht with h1 | ⟨h1, h2⟩
                  all_goals
                    rcases hcase with ⟨h5, rfl⟩ | ⟨h5, ⟨h7, rfl⟩ | ⟨h7, h8, rfl⟩ | ⟨h7, h8, rfl⟩⟩
                  all_goals
                    go_wp2_with (go_at_call 30; refine (HS.out _ T _ ?_ HT.out (by omega)).mono ?_; omega; rintro e w' ⟨rfl, rfl⟩)
                    go_ret
                    exact ⟨ret_int HN.out.symm, rfl⟩
                · have HN : Hid (res i (scan (L.drop i)) = (T : Int)) := HG.out hTU2
                  have hTU3 : U < T := by omega
                  clear hTU2
                  rcases ht with h1 | ⟨h1, h2⟩
                  all_goals
                    rcases hcase with ⟨h5, rfl⟩ | ⟨h5, ⟨h7, rfl⟩ | ⟨h7, h8, rfl⟩ | ⟨h7, h8, rfl⟩⟩
                  all_goals
                    go_wp2_with (go_at_call 30; refine (HS.out _ T _ ?_ HT.out (by omega)).mono ?_; omega; rintro e w' ⟨rfl, rfl⟩)
                    go_ret
                    exact ⟨ret_int HN.out.symm, rfl⟩
              · have h1 : (byteAt L t == 101) = false := by simp; intro h; exact hE (.inl h)
                have h2 : (byteAt L t == 69) = false := by simp; intro h; exact hE (.inr h)
                clear hE
                have HN : Hid (res i (scan (L.drop i)) = ((t : Nat) : Int)) := scan_ep ht1 HE.out (ep_no hltL h1 h2)
                go_wp2
                go_ret
                exact ⟨ret_int HN.out.symm, rfl⟩
            · have HN : Hid (res i (scan (L.drop i)) = ((t : Nat) : Int)) := scan_ep ht1 HE.out (ep_end (by rw [HL.out]; omega))
              go_wp2
              go_ret
              exact ⟨ret_int HN.out.symm, rfl⟩
        · have HN : Hid (res i (scan (L.drop i)) = ((r : Nat) : Int)) := scan_ep hr1 (scan_fp hr1 HR.out (fp_end (by rw [HL.out]; omega)) rfl) (ep_end (by rw [HL.out]; omega))
          go_wp2
          go_ret
          exact ⟨ret_int HN.out.symm, rfl⟩
    · go_wp2
      go_ret
      refine ⟨ret_int ?_, rfl⟩
      rw [scan_ip_none HQ.out (ip_end (by rw [HL.out]; omega))]
      rfl

theorem zz_scan_any (w : World) (b off n c : Nat) (L : List Int) (hL : Line w b off n L) (hn : n ≤ 16777216) (i : Nat) (hi : i < n) :
    Calls Try.prog 9 #[.slice (some ⟨b, off, none⟩) n c, .int .i64 i] w fun e w' => e = .returned (.int .i64 (res i (scan (L.drop i)))) ∧ w' = w := by
  go_enter Try.func9, Try.ntmps9
  go_wp2_with (go_at_call 23; refine (scan_any w b off n c L hL hn i hi).mono ?_; rintro e w' ⟨rfl, rfl⟩)
  go_ret
  exact ⟨rfl, rfl⟩
end Go.Proofs.Qxb6600841a
