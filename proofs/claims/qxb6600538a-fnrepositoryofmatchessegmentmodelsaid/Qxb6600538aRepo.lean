/- The walk of registry.repositoryOf (function 17) and of registry.ZZrepositoryOf (function 13): they answer 'Repo.repo'. -/
import Derived.Test.Qxb6600538aShelfS
import Derived.Test.Qxb6600538aPlainRepo
import Derived.WalkKit
import Derived.BigCall
import Derived.Lib.IndexBytes
namespace Go.Proofs.Qxb6600538a
open Go.RowKit Go.Proofs.Qxb6600538a.Repo

theorem extract_take (s : ByteArray) (k : Nat) : (s.extract 0 k).data.toList = s.data.toList.take k := by
  simp

/-- strings.LastIndex(x, "/"), and what it says of 'cut'. -/
theorem last_any (x : ByteArray) (hx : x.size ≤ 16777216) :
    (cut x.data.toList = none ∧ ∀ w : World, Calls Try.prog 21 #[.string x, .string ⟨#[47]⟩] w fun e w' => e = .returned (.int .i64 (-1)) ∧ w' = w) ∨
    (∃ i : Nat, i < x.size ∧ cut x.data.toList = some (x.data.toList.take i) ∧ ∀ w : World, Calls Try.prog 21 #[.string x, .string ⟨#[47]⟩] w fun e w' => e = .returned (.int .i64 (i : Int)) ∧ w' = w) := by
  have hc : ∀ w : World, Calls Try.prog 21 #[.string x, .string ⟨#[47]⟩] w fun e w' => e = .returned (.int .i64 (Lib.lastIndexByte x 47)) ∧ w' = w :=
    fun w => Try.strings_LastIndex_one x ⟨#[47]⟩ rfl (by omega) w
  rcases Lib.lastIndexByte_spec x 47 with ⟨e, hn⟩ | ⟨i, hi, e, h, hn⟩
  · rw [e] at hc
    exact .inl ⟨cut_of_last_none x hn, hc⟩
  · rw [e] at hc
    exact .inr ⟨i, hi, cut_of_last_some x i hi h hn, hc⟩

theorem trim_any (s : ByteArray) (w : World) : Calls Try.prog 20 #[.string s, .string ⟨#[47, 118, 50, 47]⟩] w fun e w' => e = .returned (.string ⟨(Lib.trimPrefix s.data.toList pre).toArray⟩) ∧ w' = w :=
  Try.strings_TrimPrefix s ⟨#[47, 118, 50, 47]⟩ w

theorem trim_length (l : List UInt8) : (Lib.trimPrefix l pre).length ≤ l.length := by
  unfold Lib.trimPrefix; split <;> simp

theorem ret_bytes {a b : ByteArray} (h : a = b) : Ending.returned (.string a) = .returned (.string b) := by rw [h]

theorem mk_toList (x : ByteArray) : (⟨x.data.toList.toArray⟩ : ByteArray) = x := rfl

set_option maxHeartbeats 400000 in
theorem repo_any (s : ByteArray) (w : World) (hs : s.size ≤ 16777216) :
    Calls Try.prog 17 #[.string s] w fun e w' => e = .returned (.string ⟨(repo s.data.toList).toArray⟩) ∧ w' = w := by
  have htl := trim_length s.data.toList
  have hsl : s.data.toList.length = s.size := by simp
  obtain ⟨t, ht⟩ : ∃ t : ByteArray, t = ⟨(Lib.trimPrefix s.data.toList pre).toArray⟩ := ⟨_, rfl⟩
  have hts : t.size ≤ 16777216 := by
    rw [ht]; show (Lib.trimPrefix s.data.toList pre).toArray.size ≤ _
    rw [List.size_toArray]; omega
  have HT : Hid (t.data.toList = Lib.trimPrefix s.data.toList pre) := by show _ = _; rw [ht]
  have htrim : ∀ w : World, Calls Try.prog 20 #[.string s, .string ⟨#[47, 118, 50, 47]⟩] w fun e w' => e = .returned (.string t) ∧ w' = w := by
    intro w; rw [ht]; exact trim_any s w
  clear ht htl hsl
  go_enter Try.func17, Try.ntmps17
  go_wp2_with (go_at_call 20; refine (htrim _).mono ?_; rintro e w' ⟨rfl, rfl⟩)
  go_loop [3, 7] (fun vx vk => ∃ (k : Nat) (x : ByteArray), vk = .int .i64 k ∧ k ≤ 2 ∧ vx = .string x ∧ x.size ≤ 16777216 ∧ Hid (it k t.data.toList = some x.data.toList)) (fun _ vk => 2 - (intOf vk).toNat)
  case atStart => exact ⟨0, t, rfl, Nat.zero_le _, rfl, hts, rfl⟩
  case round =>
    obtain ⟨k, x, rfl, hk, rfl, hx, H⟩ := hrel
    by_cases hlt : k < 2
    · rcases last_any x hx with ⟨hc, hcall⟩ | ⟨i, hi, hc, hcall⟩
      · have HR : Hid (repo s.data.toList = []) := by
          show _ = _
          unfold repo
          rw [← HT.out]
          have h1 : it (k + 1) t.data.toList = none := by show (it k t.data.toList).bind cut = none; rw [H.out]; exact hc
          match k, hlt, h1 with
          | 0, _, h1 => show ((it 1 t.data.toList).bind cut).getD [] = []; rw [h1]; rfl
          | 1, _, h1 => rw [h1]; rfl
        have HC : Hid (∀ w : World, Calls Try.prog 21 #[.string x, .string ⟨#[47]⟩] w fun e w' => e = .returned (.int .i64 (-1)) ∧ w' = w) := hcall
        clear hc hcall htrim
        go_wp2_with (go_at_call 21; refine (HC.out _).mono ?_; rintro e w' ⟨rfl, rfl⟩)
        go_ret
        exact ⟨ret_bytes (by rw [HR.out]), rfl⟩
      · have HN : Hid (it (k + 1) t.data.toList = some (x.extract 0 i).data.toList) := by
          show (it k t.data.toList).bind cut = _
          rw [H.out, extract_take]; exact hc
        have hsz : (x.extract 0 i).size ≤ 16777216 := by rw [ByteArray.size_extract]; omega
        have HC : Hid (∀ w : World, Calls Try.prog 21 #[.string x, .string ⟨#[47]⟩] w fun e w' => e = .returned (.int .i64 (i : Int)) ∧ w' = w) := hcall
        clear hc hcall htrim
        go_wp2_with (go_at_call 21; refine (HC.out _).mono ?_; rintro e w' ⟨rfl, rfl⟩)
        go_round
        case rel => exact ⟨k + 1, x.extract 0 i, by go_num, by omega, rfl, hsz, HN⟩
        case measure => simp [intOf]; omega
    · have h2 : k = 2 := by omega
      have HR : Hid (repo s.data.toList = x.data.toList) := by
        show _ = _
        unfold repo
        rw [← HT.out, ← h2, H.out]; rfl
      go_wp2
      go_ret
      exact ⟨ret_bytes (by rw [HR.out]), rfl⟩

theorem zz_repo_any (s : ByteArray) (w : World) (hs : s.size ≤ 16777216) :
    Calls Try.prog 13 #[.string s] w fun e w' => e = .returned (.string ⟨(repo s.data.toList).toArray⟩) ∧ w' = w := by
  go_enter Try.func13, Try.ntmps13
  go_wp2_with (go_at_call 17; refine (repo_any s _ hs).mono ?_; rintro e w' ⟨rfl, rfl⟩)
  go_ret
  exact ⟨rfl, rfl⟩

end Go.Proofs.Qxb6600538a
