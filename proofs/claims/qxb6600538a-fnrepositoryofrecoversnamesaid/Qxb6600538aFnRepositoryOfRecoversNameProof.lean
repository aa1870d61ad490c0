/- FnRepositoryOfRecoversName: the law's own walk, out of the contract of 'repositoryOf'; then the row's step (the given shell's frame). -/
import Derived.Test.Qxb6600538aRows
import Derived.WalkKit
import Derived.ProofKit
import Derived.OpenShut
import Derived.ShutString
import Derived.Test.Qxb6600538aRepo
namespace Go.Proofs.Qxb6600538a.fnRepositoryOfRecoversName
open Go.ChangeShapes Go.WideShapes Go.ChangeAt Go.RowKit
open Go.ChangeMaps (open_string shut_string)
open Go.Proofs.Qxb6600538a Go.Proofs.Qxb6600538a.Repo
set_option linter.unusedVariables false      -- a walk need not use every 'w<i>' (that an integer argument fits its kind)

theorem own : ownKnob Try.prog.godebug = none := by kernel_rfl

theorem zz_small (s t : ByteArray) (w : World) (h : s.size + t.size ≤ 1048576) :
    Calls Try.prog 15 #[.string s, .string t] w fun e w' => e = .returned (.bool true) ∧ w' = w := by
  have h1 : ¬ (1048576 : Int) < (s.size : Int) := by omega
  have h2 : ¬ (1048576 : Int) < (t.size : Int) := by omega
  have h3 : ¬ (1048576 : Int) < (s.size : Int) + (t.size : Int) := by omega
  go_enter Try.func15, Try.ntmps15
  go_wp2
  go_ret
  exact ⟨rfl, rfl⟩

theorem zz_large (s t : ByteArray) (w : World) (hs : s.size ≤ maxLen) (ht : t.size ≤ maxLen) (h : ¬ s.size + t.size ≤ 1048576) :
    Calls Try.prog 15 #[.string s, .string t] w fun e w' => e = .returned (.bool false) ∧ w' = w := by
  unfold maxLen at hs ht
  go_enter Try.func15, Try.ntmps15
  go_wp2
  all_goals
    first
    | (go_ret; exact ⟨rfl, rfl⟩)
    | (exfalso; omega)

theorem no_slash {t : ByteArray} {k : Nat} (hk : k < t.size) (h : (((t[k]'hk).toNat : Int) == 47) = false) (H : 47 ∉ t.data.toList.take k) : 47 ∉ t.data.toList.take (k + 1) := by
  have e : t.data.toList.take (k + 1) = t.data.toList.take k ++ [t[k]] := by rw [List.take_succ_eq_append_getElem (by simpa using hk)]; rfl
  rw [e, List.mem_append]
  rintro (h1 | h1)
  · exact H h1
  · have : t[k] = 47 := (List.mem_singleton.1 h1).symm
    rw [this] at h
    exact absurd h (by decide)

/-- ZZrepositoryOf at a path that is built from a name. -/
theorem zz_built (S s : ByteArray) (b c : List UInt8) (w : World) (hS : S.data.toList = pre ++ (s.data.toList ++ 47 :: (b ++ 47 :: c))) (hb : 47 ∉ b) (hc : 47 ∉ c) (hz : S.size ≤ 16777216) :
    Calls Try.prog 13 #[.string S] w fun e w' => e = .returned (.string s) ∧ w' = w := by
  have h := zz_repo_any S w hz
  rw [hS, repo_built s.data.toList b c hb hc] at h
  exact h

theorem call_manifests (s t : ByteArray) (w : World) (h : s.size + t.size ≤ 1048576) (ht : 47 ∉ t.data.toList) :
    Calls Try.prog 13 #[.string (⟨#[47, 118, 50, 47]⟩ ++ s ++ ⟨#[47, 109, 97, 110, 105, 102, 101, 115, 116, 115, 47]⟩ ++ t)] w fun e w' => e = .returned (.string s) ∧ w' = w :=
  zz_built _ s [109, 97, 110, 105, 102, 101, 115, 116, 115] t.data.toList w (by simp [pre, ByteArray.data_append]) (by decide) ht
    (by simp only [ByteArray.size_append]; have : (⟨#[47, 118, 50, 47]⟩ : ByteArray).size = 4 := rfl; have : (⟨#[47, 109, 97, 110, 105, 102, 101, 115, 116, 115, 47]⟩ : ByteArray).size = 11 := rfl; omega)

theorem call_blobs (s t : ByteArray) (w : World) (h : s.size + t.size ≤ 1048576) (ht : 47 ∉ t.data.toList) :
    Calls Try.prog 13 #[.string (⟨#[47, 118, 50, 47]⟩ ++ s ++ ⟨#[47, 98, 108, 111, 98, 115, 47]⟩ ++ t)] w fun e w' => e = .returned (.string s) ∧ w' = w :=
  zz_built _ s [98, 108, 111, 98, 115] t.data.toList w (by simp [pre, ByteArray.data_append]) (by decide) ht
    (by simp only [ByteArray.size_append]; have : (⟨#[47, 118, 50, 47]⟩ : ByteArray).size = 4 := rfl; have : (⟨#[47, 98, 108, 111, 98, 115, 47]⟩ : ByteArray).size = 7 := rfl; omega)

theorem call_tags (s t : ByteArray) (w : World) (h : s.size + t.size ≤ 1048576) :
    Calls Try.prog 13 #[.string (⟨#[47, 118, 50, 47]⟩ ++ s ++ ⟨#[47, 116, 97, 103, 115, 47, 108, 105, 115, 116]⟩)] w fun e w' => e = .returned (.string s) ∧ w' = w :=
  zz_built _ s [116, 97, 103, 115] [108, 105, 115, 116] w (by simp [pre, ByteArray.data_append]) (by decide) (by decide)
    (by simp only [ByteArray.size_append]; have : (⟨#[47, 118, 50, 47]⟩ : ByteArray).size = 4 := rfl; have : (⟨#[47, 116, 97, 103, 115, 47, 108, 105, 115, 116]⟩ : ByteArray).size = 10 := rfl; omega)

set_option maxHeartbeats 1000000 in
set_option maxRecDepth 100000 in
theorem walk (s t : ByteArray) (w : World) (hs : s.size ≤ maxLen) (ht : t.size ≤ maxLen) :
    Calls Try.prog 6 #[.string s, .string t] w fun e w' => e = .returned (.bool true) ∧ w' = w := by
  by_cases h : s.size + t.size ≤ 1048576
  · have h1 : ¬ (1048576 : Int) < (s.size : Int) := by omega
    have h2 : ¬ (1048576 : Int) < (t.size : Int) := by omega
    have h3 : ¬ (1048576 : Int) < (s.size : Int) + (t.size : Int) := by omega
    go_enter Try.func6, Try.ntmps6
    go_wp2_with fail
    refine (zz_small s t _ h).mono ?_
    rintro e w' ⟨rfl, rfl⟩
    go_wp2
    go_loop [5] (fun vk => ∃ k : Nat, vk = .int .i64 k ∧ k ≤ t.size ∧ Hid (47 ∉ t.data.toList.take k)) (fun vk => t.size - (intOf vk).toNat)
    case atStart => exact ⟨0, rfl, Nat.zero_le _, by show 47 ∉ _; simp⟩
    case round =>
      obtain ⟨k, rfl, hk, H⟩ := hrel
      by_cases hlt : k < t.size
      · go_wp2
        · go_ret
          exact ⟨rfl, rfl⟩
        · have h47 : ((t[k].toNat : Int) == 47) = false := by assumption
          go_round
          case rel => exact ⟨k + 1, by go_num, by omega, no_slash hlt h47 H⟩
          case measure => simp [intOf]; omega
      · have HN : Hid (47 ∉ t.data.toList) := by
          have := H.out
          rw [List.take_of_length_le (by simp; omega)] at this
          exact this
        clear H
        go_wp2_with fail
        refine (call_manifests s t _ h HN.out).mono ?_
        rintro e w1 ⟨rfl, rfl⟩
        go_wp2_with fail
        refine (call_blobs s t _ h HN.out).mono ?_
        rintro e w2 ⟨rfl, rfl⟩
        go_wp2_with fail
        refine (call_tags s t _ h).mono ?_
        rintro e w3 ⟨rfl, rfl⟩
        go_wp2
        go_ret
        exact ⟨rfl, rfl⟩
  · go_enter Try.func6, Try.ntmps6
    go_wp2_with fail
    refine (zz_large s t _ hs ht h).mono ?_
    rintro e w' ⟨rfl, rfl⟩
    go_wp2
    go_ret
    exact ⟨rfl, rfl⟩

/-! ### THE ROW's STEP: WRITTEN OUT: LEAVE IT -/
set_option maxRecDepth 100000 in
theorem lifted (os : Os) (started : os.Started) (H : Type) (enc : TypeId × Value → H) :
    ReturnsInHanded {} Try.checked os 6 .any (Rows.fnRepositoryOfRecoversNameSpec.pre6 enc Try.prog Try.f6 Rows.fnRepositoryOfRecoversNameRow.domain false) (Rows.fnRepositoryOfRecoversNameSpec.post enc Try.prog Try.f6 false true false false) := by
  refine returnsInHanded_of_change (C := Try.checked) own started (by kernel_rfl) Try.func6
    (ChangeSpec.witness6 (enc := enc) (C := Try.checked) false ⟨#[], #[.string ByteArray.empty, .string ByteArray.empty], []⟩ 8 (by kernel_rfl) (by kernel_rfl) (by kernel_rfl) (by kernel_rfl)) ?_
  intro W base args ds gs before hval0 hW hcnd _
  have hval : ∀ (j : Nat) t v, Try.f6.params[j]? = some t → args[j]? = some v → Value.okWide Try.prog W .any base t v := hval0
  have hW' := hW
  obtain ⟨p, q, hA0, hV, rfl, hfz, hnd⟩ := hW
  have hA : DataW.TrodAll enc Try.prog W 0 (fun _ => true) true Try.f6.params.toList args.toList ds p := hA0
  rw [Try.params6] at hA hval
  obtain ⟨v0, vs0, d0, ds0, p0, q0, hargs, rfl, rfl, h0, r0⟩ := trodAll_cons hA
  obtain ⟨v1, vs1, d1, ds1, p1, q1, rfl, rfl, rfl, h1, r1⟩ := trodAll_cons r0
  obtain ⟨rfl, rfl, rfl⟩ := trodAll_nil r1
  obtain rfl : args = #[v0, v1] := by cases args; simp_all
  obtain ⟨rfl, rfl⟩ := trodVars_none hV
  obtain ⟨a0, rfl, rfl, rfl, w0⟩ := open_string Try.underlying9 (hval 0 9 v0 rfl rfl) h0
  obtain ⟨a1, rfl, rfl, rfl, w1⟩ := open_string Try.underlying9 (hval 1 9 v1 rfl rfl) h1
  clear hA0 hval0
  simp only [List.append_nil] at hW'
  refine (walk a0 a1 W w0 w1).mono fun e W' ⟨he, hw⟩ => ?_
  subst he hw
  have hg := Grown.refl W'
  exact ⟨_, rfl, post_of_same (pa := []) (pv := []) hW' (fun _ _ _ => (trodAll_cons_mk (shut_bool Try.underlying4 _) trodAll_mk0)) (fun sp _ => (trodAll_cons_mk (shut_string Try.underlying9 w0) (trodAll_cons_mk (shut_string Try.underlying9 w1) trodAll_mk0))) (fun _ _ => rfl) rfl
    (hg.frame _) hg.2.1 (ok_one (by kernel_rfl) rfl (okWide_bool_mk Try.underlying4 _))⟩

theorem over : Rows.fnRepositoryOfRecoversNameRow.holds Try.pinned (OpenSpec.ofChange Rows.fnRepositoryOfRecoversNameSpec) :=
  OpenClaim.holds_of_wide 6 Try.f6 rfl rfl rfl rfl rfl rfl rfl ⟨rfl, rfl, rfl, rfl, rfl⟩ rfl rfl rfl rfl rfl (by kernel_rfl) Try.func6 (by kernel_rfl)
    (of_decide_eq_true (by kernel_rfl)) (by unfold Func.isWrapper; first | (rw [if_pos (by decide +kernel)]; kernel_rfl) | (rw [if_neg (by decide +kernel)]; exact ⟨rfl, rfl⟩))
    (fun os started H enc _ => lifted os started H enc)

end Go.Proofs.Qxb6600538a.fnRepositoryOfRecoversName
namespace Go.Proofs.Qxb6600538a
/-- THE STATEMENT. -/
theorem fnRepositoryOfRecoversName_proved : Rows.FnRepositoryOfRecoversNameSaid :=
  fnRepositoryOfRecoversName.over
end Go.Proofs.Qxb6600538a
