/- The walk of repositoryBySegments (function 14): it answers 'Repo.repo' too. -/
import Derived.Test.Qxb6600538aRepo
namespace Go.Proofs.Qxb6600538a
open Go.RowKit Go.Proofs.Qxb6600538a.Repo

theorem take_snoc (t : ByteArray) (k : Nat) (hk : k < t.size) : t.data.toList.take (k + 1) = t.data.toList.take k ++ [t[k]] := by
  rw [List.take_succ_eq_append_getElem (by simpa using hk)]; rfl

theorem cnt_hit {t : ByteArray} {k : Nat} (hk : k < t.size) (h : (((t[k]'hk).toNat : Int) == 47) = true) : cnt (t.data.toList.take (k + 1)) = cnt (t.data.toList.take k) + 1 := by
  have e : t[k] = 47 := by
    apply UInt8.toNat_inj.1
    have h' : ((t[k]'hk).toNat : Int) = 47 := by simpa using h
    show t[k].toNat = 47
    omega
  rw [take_snoc t k hk, cnt_append, e]; rfl

theorem cnt_miss {t : ByteArray} {k : Nat} (hk : k < t.size) (h : (((t[k]'hk).toNat : Int) == 47) = false) : cnt (t.data.toList.take (k + 1)) = cnt (t.data.toList.take k) := by
  have e : t[k] ≠ 47 := by
    intro e; rw [e] at h; exact absurd h (by decide)
  rw [take_snoc t k hk, cnt_append]
  simp [cnt, e]

theorem cnt_take_le (l : List UInt8) (k : Nat) : cnt (l.take k) ≤ k := Nat.le_trans (cnt_le _) (by simp; omega)

theorem cnt_take_all (l : List UInt8) (k : Nat) : cnt (l.take k) ≤ cnt l := by
  have h := cnt_append (l.take k) (l.drop k)
  rw [List.take_append_drop] at h
  omega

/-- The slash at which the segment model stops. -/
theorem seg_stop {t : ByteArray} {j : Nat} (hj : j < t.size) (h : (((t[j]'hj).toNat : Int) == 47) = true) (hc : cnt (t.data.toList.take j) + 1 + 1 = cnt t.data.toList) : it 2 t.data.toList = some (t.data.toList.take j) := by
  have e : t[j] = 47 := by
    apply UInt8.toNat_inj.1
    have h' : ((t[j]'hj).toNat : Int) = 47 := by simpa using h
    show t[j].toNat = 47
    omega
  have hl : t.data.toList = t.data.toList.take j ++ 47 :: t.data.toList.drop (j + 1) := by
    have h0 : t.data.toList[j]'(by simpa using hj) = 47 := e
    rw [← h0, List.getElem_cons_drop, List.take_append_drop]
  have hd : cnt (t.data.toList.drop (j + 1)) = 1 := by
    have h1 := cnt_append (t.data.toList.take (j + 1)) (t.data.toList.drop (j + 1))
    rw [List.take_append_drop, cnt_hit hj h] at h1
    omega
  have := it_many (a := t.data.toList.take j) hd
  rw [← hl] at this
  exact this

theorem hasPre_iff (l : List UInt8) : Lib.hasPrefix l pre = true ↔ ∃ r, l = 47 :: 118 :: 50 :: 47 :: r := by
  unfold Lib.hasPrefix
  rw [List.isPrefixOf_iff_prefix]
  constructor
  · rintro ⟨r, h⟩; exact ⟨r, h.symm⟩
  · rintro ⟨r, h⟩; exact ⟨r, h.symm⟩

theorem drop_at' (s : ByteArray) (k : Nat) (h : k < s.size) : s.data.toList.drop k = s[k] :: s.data.toList.drop (k + 1) := by
  rw [List.drop_eq_getElem_cons (by simpa using h)]; rfl

theorem byte_is {c : UInt8} {n : Nat} (hn : n < 256) (h : ((c.toNat : Int) == (n : Int)) = true) : c = UInt8.ofNat n := by
  have h' : (c.toNat : Int) = n := by simpa using h
  apply UInt8.toNat_inj.1
  simp
  omega

/-- The test for '/v2/', said of the bytes. -/
theorem pre_hit {s : ByteArray} (h4 : 4 ≤ s.size) (h0 : (((s[0]'(by omega)).toNat : Int) == 47) = true) (h1 : (((s[1]'(by omega)).toNat : Int) == 118) = true) (h2 : (((s[2]'(by omega)).toNat : Int) == 50) = true) (h3 : (((s[3]'(by omega)).toNat : Int) == 47) = true) :
    Lib.trimPrefix s.data.toList pre = (s.extract 4 s.size).data.toList := by
  have e0 := drop_at' s 0 (by omega)
  rw [List.drop_zero, drop_at' s 1 (by omega), drop_at' s 2 (by omega), drop_at' s 3 (by omega), byte_is (n := 47) (by decide) h0, byte_is (n := 118) (by decide) h1, byte_is (n := 50) (by decide) h2, byte_is (n := 47) (by decide) h3] at e0
  have hp : Lib.hasPrefix s.data.toList pre = true := (hasPre_iff _).2 ⟨_, e0⟩
  unfold Lib.trimPrefix
  rw [if_pos hp]
  simp
  exact (List.take_of_length_le (by simp [pre])).symm

theorem pre_miss {s : ByteArray} (h : ¬ (∃ h4 : 4 ≤ s.size, (((s[0]'(by omega)).toNat : Int) == 47) = true ∧ (((s[1]'(by omega)).toNat : Int) == 118) = true ∧ (((s[2]'(by omega)).toNat : Int) == 50) = true ∧ (((s[3]'(by omega)).toNat : Int) == 47) = true)) :
    Lib.trimPrefix s.data.toList pre = s.data.toList := by
  unfold Lib.trimPrefix
  rw [if_neg]
  intro hp
  obtain ⟨r, hr⟩ := (hasPre_iff _).1 hp
  apply h
  have hl : s.size = r.length + 4 := by
    have : s.data.toList.length = s.size := by simp
    rw [← this, hr]; rfl
  refine ⟨by omega, ?_, ?_, ?_, ?_⟩
  · have : s[0]'(by omega) = 47 := by show s.data.toList[0]'_ = 47; simp [hr]
    rw [this]; rfl
  · have : s[1]'(by omega) = 118 := by show s.data.toList[1]'_ = 118; simp [hr]
    rw [this]; rfl
  · have : s[2]'(by omega) = 50 := by show s.data.toList[2]'_ = 50; simp [hr]
    rw [this]; rfl
  · have : s[3]'(by omega) = 47 := by show s.data.toList[3]'_ = 47; simp [hr]
    rw [this]; rfl

theorem seg_few {s t : ByteArray} (ht : Lib.trimPrefix s.data.toList pre = t.data.toList) (h : cnt t.data.toList < 2) : repo s.data.toList = [] := by
  unfold repo; rw [ht, it_few h]; rfl

theorem seg_many {s t : ByteArray} (ht : Lib.trimPrefix s.data.toList pre = t.data.toList) {j : Nat} (h : it 2 t.data.toList = some (t.data.toList.take j)) : repo s.data.toList = (t.extract 0 j).data.toList := by
  unfold repo; rw [ht, h, extract_take]; rfl

theorem cnt_end {t : ByteArray} {k : Nat} (h : ¬ k < t.size) : t.data.toList.take k = t.data.toList := List.take_of_length_le (by simp; omega)

set_option maxHeartbeats 2000000 in
set_option maxRecDepth 100000 in
theorem seg_hit (s t : ByteArray) (w : World) (hs : s.size ≤ 16777216) (h4 : 4 ≤ s.size) (h0 : (((s[0]'(by omega)).toNat : Int) == 47) = true) (h1 : (((s[1]'(by omega)).toNat : Int) == 118) = true) (h2 : (((s[2]'(by omega)).toNat : Int) == 50) = true) (h3 : (((s[3]'(by omega)).toNat : Int) == 47) = true)
    (ht : s.extract 4 s.size = t) (hts : t.size ≤ 16777216) :
    Calls Try.prog 14 #[.string s] w fun e w' => e = .returned (.string ⟨(repo s.data.toList).toArray⟩) ∧ w' = w := by
  have HT : Hid (Lib.trimPrefix s.data.toList pre = t.data.toList) := by show _ = _; rw [← ht]; exact pre_hit h4 h0 h1 h2 h3
  have h4' : (4 : Int) ≤ (s.size : Int) := by omega
  go_enter Try.func14, Try.ntmps14
  go_wp2
  clear ht h0 h1 h2 h3
  go_loop [4, 5] (fun vk vj => ∃ j : Nat, vj = .int .i64 j ∧ j ≤ t.size ∧ vk = .int .i64 (cnt (t.data.toList.take j) : Nat)) (fun _ vj => t.size - (intOf vj).toNat)
  case atStart => exact ⟨0, rfl, Nat.zero_le _, rfl⟩
  case round =>
    obtain ⟨j, rfl, hj, rfl⟩ := hrel
    have hcj := cnt_take_le t.data.toList j
    by_cases hlt : j < t.size
    · go_wp2
      · have h47 : (((t[j]'hlt).toNat : Int) == 47) = true := by assumption
        go_round
        case rel => exact ⟨j + 1, by go_num, by omega, by rw [cnt_hit hlt h47]; go_num⟩
        case measure => simp [intOf]; omega
      · have h47 : (((t[j]'hlt).toNat : Int) == 47) = false := by assumption
        go_round
        case rel => exact ⟨j + 1, by go_num, by omega, by rw [cnt_miss hlt h47]⟩
        case measure => simp [intOf]; omega
    · have hle := cnt_le t.data.toList
      have hTl : t.data.toList.length = t.size := by simp
      rw [cnt_end hlt] at hcj ⊢
      clear hTl
      obtain ⟨N, hN⟩ : ∃ N, N = cnt t.data.toList := ⟨_, rfl⟩
      have HNN : Hid (N = cnt t.data.toList) := hN
      rw [← hN] at hcj hle ⊢
      clear hN
      by_cases h2 : N < 2
      · have h2' : (N : Int) < 2 := by omega
        have HR : Hid (repo s.data.toList = []) := seg_few HT.out (by rw [← HNN.out]; exact h2)
        go_wp2
        go_ret
        exact ⟨ret_bytes (by rw [HR.out]), rfl⟩
      · have h2' : ¬ (N : Int) < 2 := by omega
        go_wp2
        go_loop [6, 7] (fun vk vj => ∃ j : Nat, vj = .int .i64 j ∧ j ≤ t.size ∧ vk = .int .i64 (cnt (t.data.toList.take j) : Nat) ∧ cnt (t.data.toList.take j) + 1 < N) (fun _ vj => t.size - (intOf vj).toNat)
        case atStart => exact ⟨0, rfl, Nat.zero_le _, rfl, by show 0 + 1 < N; omega⟩
        case round =>
          obtain ⟨i, rfl, hi, rfl, hcN⟩ := hrel
          have hci := cnt_take_le t.data.toList i
          by_cases hlt2 : i < t.size
          · by_cases c47 : (((t[i]'hlt2).toNat : Int) == 47) = true
            · have HH := cnt_hit hlt2 c47
              by_cases hst : cnt (t.data.toList.take i) + 1 + 1 = N
              · have hb : (((cnt (t.data.toList.take i) : Nat) : Int) + 1 == (N : Int) - 1) = true := by simp; omega
                have HR : Hid (repo s.data.toList = (t.extract 0 i).data.toList) := seg_many HT.out (seg_stop hlt2 c47 (by rw [hst]; exact HNN.out))
                clear HH hst
                go_wp2
                go_ret
                exact ⟨ret_bytes (by rw [HR.out]), rfl⟩
              · have hb : (((cnt (t.data.toList.take i) : Nat) : Int) + 1 == (N : Int) - 1) = false := by simp; omega
                have HC : Hid (cnt (t.data.toList.take (i + 1)) = cnt (t.data.toList.take i) + 1) := HH
                clear HH
                go_wp2
                go_round
                case rel => exact ⟨i + 1, by go_num, by omega, by rw [HC.out]; go_num, by rw [HC.out]; omega⟩
                case measure => simp [intOf]; omega
            · have c47' : (((t[i]'hlt2).toNat : Int) == 47) = false := by simpa using c47
              have HC : Hid (cnt (t.data.toList.take (i + 1)) = cnt (t.data.toList.take i)) := cnt_miss hlt2 c47'
              clear c47
              go_wp2
              go_round
              case rel => exact ⟨i + 1, by go_num, by omega, by rw [HC.out], by rw [HC.out]; exact hcN⟩
              case measure => simp [intOf]; omega
          · exfalso
            rw [cnt_end hlt2, ← HNN.out] at hcN
            omega

set_option maxHeartbeats 4000000 in
set_option maxRecDepth 100000 in
theorem seg_miss (s : ByteArray) (w : World) (hs : s.size ≤ 16777216) (h : ¬ (∃ h4 : 4 ≤ s.size, (((s[0]'(by omega)).toNat : Int) == 47) = true ∧ (((s[1]'(by omega)).toNat : Int) == 118) = true ∧ (((s[2]'(by omega)).toNat : Int) == 50) = true ∧ (((s[3]'(by omega)).toNat : Int) == 47) = true)) :
    Calls Try.prog 14 #[.string s] w fun e w' => e = .returned (.string ⟨(repo s.data.toList).toArray⟩) ∧ w' = w := by
  have HT : Hid (Lib.trimPrefix s.data.toList pre = s.data.toList) := pre_miss h
  have hd : (¬ (4 : Int) ≤ (s.size : Int)) ∨ (∃ h4 : 4 ≤ s.size, (((s[0]'(by omega)).toNat : Int) == 47) = false ∨
      ((((s[0]'(by omega)).toNat : Int) == 47) = true ∧ ((((s[1]'(by omega)).toNat : Int) == 118) = false ∨ ((((s[1]'(by omega)).toNat : Int) == 118) = true ∧ ((((s[2]'(by omega)).toNat : Int) == 50) = false ∨ ((((s[2]'(by omega)).toNat : Int) == 50) = true ∧ (((s[3]'(by omega)).toNat : Int) == 47) = false)))))) := by
    by_cases h4 : 4 ≤ s.size
    · right
      refine ⟨h4, ?_⟩
      cases e0 : (((s[0]'(by omega)).toNat : Int) == 47)
      · exact .inl rfl
      cases e1 : (((s[1]'(by omega)).toNat : Int) == 118)
      · exact .inr ⟨rfl, .inl rfl⟩
      cases e2 : (((s[2]'(by omega)).toNat : Int) == 50)
      · exact .inr ⟨rfl, .inr ⟨rfl, .inl rfl⟩⟩
      cases e3 : (((s[3]'(by omega)).toNat : Int) == 47)
      · exact .inr ⟨rfl, .inr ⟨rfl, .inr ⟨rfl, rfl⟩⟩⟩
      exact absurd ⟨h4, e0, e1, e2, e3⟩ h
    · left; omega
  clear h
  rcases hd with h4 | ⟨h4, h0 | ⟨h0, h1 | ⟨h1, h2 | ⟨h2, h3⟩⟩⟩⟩
  all_goals
    go_enter Try.func14, Try.ntmps14
    go_wp2
    go_loop [4, 5] (fun vk vj => ∃ j : Nat, vj = .int .i64 j ∧ j ≤ s.size ∧ vk = .int .i64 (cnt (s.data.toList.take j) : Nat)) (fun _ vj => s.size - (intOf vj).toNat)
    case atStart => exact ⟨0, rfl, Nat.zero_le _, rfl⟩
    case round =>
      obtain ⟨j, rfl, hj, rfl⟩ := hrel
      have hcj := cnt_take_le s.data.toList j
      by_cases hlt : j < s.size
      · go_wp2
        · have h47 : (((s[j]'hlt).toNat : Int) == 47) = true := by assumption
          go_round
          case rel => exact ⟨j + 1, by go_num, by omega, by rw [cnt_hit hlt h47]; go_num⟩
          case measure => simp [intOf]; omega
        · have h47 : (((s[j]'hlt).toNat : Int) == 47) = false := by assumption
          go_round
          case rel => exact ⟨j + 1, by go_num, by omega, by rw [cnt_miss hlt h47]⟩
          case measure => simp [intOf]; omega
      · have hle := cnt_le s.data.toList
        have hTl : s.data.toList.length = s.size := by simp
        rw [cnt_end hlt] at hcj ⊢
        clear hTl
        obtain ⟨N, hN⟩ : ∃ N, N = cnt s.data.toList := ⟨_, rfl⟩
        have HNN : Hid (N = cnt s.data.toList) := hN
        rw [← hN] at hcj hle ⊢
        clear hN
        by_cases h2 : N < 2
        · have h2' : (N : Int) < 2 := by omega
          have HR : Hid (repo s.data.toList = []) := seg_few HT.out (by rw [← HNN.out]; exact h2)
          go_wp2
          go_ret
          exact ⟨ret_bytes (by rw [HR.out]), rfl⟩
        · have h2' : ¬ (N : Int) < 2 := by omega
          go_wp2
          go_loop [6, 7] (fun vk vj => ∃ j : Nat, vj = .int .i64 j ∧ j ≤ s.size ∧ vk = .int .i64 (cnt (s.data.toList.take j) : Nat) ∧ cnt (s.data.toList.take j) + 1 < N) (fun _ vj => s.size - (intOf vj).toNat)
          case atStart => exact ⟨0, rfl, Nat.zero_le _, rfl, by show 0 + 1 < N; omega⟩
          case round =>
            obtain ⟨i, rfl, hi, rfl, hcN⟩ := hrel
            have hci := cnt_take_le s.data.toList i
            by_cases hlt2 : i < s.size
            · by_cases c47 : (((s[i]'hlt2).toNat : Int) == 47) = true
              · have HH := cnt_hit hlt2 c47
                by_cases hst : cnt (s.data.toList.take i) + 1 + 1 = N
                · have hb : (((cnt (s.data.toList.take i) : Nat) : Int) + 1 == (N : Int) - 1) = true := by simp; omega
                  have HR : Hid (repo s.data.toList = (s.extract 0 i).data.toList) := seg_many HT.out (seg_stop hlt2 c47 (by rw [hst]; exact HNN.out))
                  clear HH hst
                  go_wp2
                  go_ret
                  exact ⟨ret_bytes (by rw [HR.out]), rfl⟩
                · have hb : (((cnt (s.data.toList.take i) : Nat) : Int) + 1 == (N : Int) - 1) = false := by simp; omega
                  have HC : Hid (cnt (s.data.toList.take (i + 1)) = cnt (s.data.toList.take i) + 1) := HH
                  clear HH
                  go_wp2
                  go_round
                  case rel => exact ⟨i + 1, by go_num, by omega, by rw [HC.out]; go_num, by rw [HC.out]; omega⟩
                  case measure => simp [intOf]; omega
              · have c47' : (((s[i]'hlt2).toNat : Int) == 47) = false := by simpa using c47
                have HC : Hid (cnt (s.data.toList.take (i + 1)) = cnt (s.data.toList.take i)) := cnt_miss hlt2 c47'
                clear c47
                go_wp2
                go_round
                case rel => exact ⟨i + 1, by go_num, by omega, by rw [HC.out], by rw [HC.out]; exact hcN⟩
                case measure => simp [intOf]; omega
            · exfalso
              rw [cnt_end hlt2, ← HNN.out] at hcN
              omega

theorem seg_any (s : ByteArray) (w : World) (hs : s.size ≤ 16777216) :
    Calls Try.prog 14 #[.string s] w fun e w' => e = .returned (.string ⟨(repo s.data.toList).toArray⟩) ∧ w' = w := by
  by_cases h : ∃ h4 : 4 ≤ s.size, (((s[0]'(by omega)).toNat : Int) == 47) = true ∧ (((s[1]'(by omega)).toNat : Int) == 118) = true ∧ (((s[2]'(by omega)).toNat : Int) == 50) = true ∧ (((s[3]'(by omega)).toNat : Int) == 47) = true
  · obtain ⟨h4, h0, h1, h2, h3⟩ := h
    exact seg_hit s (s.extract 4 s.size) w hs h4 h0 h1 h2 h3 rfl (by rw [ByteArray.size_extract]; omega)
  · exact seg_miss s w hs h

end Go.Proofs.Qxb6600538a
