/- The walk of registry.unquote (function 16) and of registry.ZZunquote (function 8): they answer 'Uq.uq'. -/
import Derived.Test.Qxb6600538aShelfB
import Derived.Test.Qxb6600538aPlainUq
import Derived.WalkKit
import Derived.BigCall
import Derived.Lib.Strings
import Derived.Lib.IndexBytes
import Derived.Deep.RegionWith
namespace Go.Proofs.Qxb6600538a
open Go.RowKit Go.Proofs.Qxb6600538a.Uq

theorem drop_at (s : ByteArray) (k : Nat) (h : k < s.size) : s.data.toList.drop k = s[k] :: s.data.toList.drop (k + 1) := by
  rw [List.drop_eq_getElem_cons (by simpa using h)]; rfl

theorem byte_of {c : UInt8} {n : Nat} (hn : n < 256) (h : ((c.toNat : Int) == (n : Int)) = true) : c = UInt8.ofNat n := by
  have h' : (c.toNat : Int) = n := by simpa using h
  apply UInt8.toNat_inj.1
  simp
  omega

theorem byte_not {c : UInt8} {n : Nat} (hn : n < 256) (h : ((c.toNat : Int) == (n : Int)) = false) : c ≠ UInt8.ofNat n := by
  rintro rfl
  simp at h
  omega

/-- What is left to unquote, behind k bytes, and what has been written. -/
def Left (s : ByteArray) (k : Nat) (acc : List UInt8) : Prop := uq s.data.toList = (acc ++ (uq (s.data.toList.drop k)).1, (uq (s.data.toList.drop k)).2)

theorem left_start (s : ByteArray) : Left s 0 [] := by simp [Left]

theorem left_esc {s : ByteArray} {k : Nat} {acc : List UInt8} (h : k + 1 < s.size) (h92 : (((s[k]'(by omega)).toNat : Int) == 92) = true) (H : Left s k acc) : Left s (k + 2) (acc ++ [s[k + 1]]) := by
  have e := byte_of (n := 92) (by decide) h92
  unfold Left at H ⊢
  rw [drop_at s k (by omega), drop_at s (k + 1) h, e, show UInt8.ofNat 92 = 92 from rfl, uq_esc] at H
  rw [H]; simp

theorem left_tail {s : ByteArray} {k : Nat} {acc : List UInt8} (hk : k < s.size) (h : s.size ≤ k + 1) (h92 : (((s[k]'hk).toNat : Int) == 92) = true) (H : Left s k acc) : Left s (k + 1) acc := by
  have e := byte_of (n := 92) (by decide) h92
  have hd : s.data.toList.drop (k + 1) = [] := List.drop_of_length_le (by simpa using h)
  unfold Left at H ⊢
  rw [drop_at s k hk, hd, e, show UInt8.ofNat 92 = 92 from rfl, uq_last] at H
  rw [H, hd, uq_nil]

theorem left_plain {s : ByteArray} {k : Nat} {acc : List UInt8} (hk : k < s.size) (h92 : (((s[k]'hk).toNat : Int) == 92) = false) (h34 : (((s[k]'hk).toNat : Int) == 34) = false) (H : Left s k acc) : Left s (k + 1) (acc ++ [s[k]]) := by
  have e1 := byte_not (n := 92) (by decide) h92
  have e2 := byte_not (n := 34) (by decide) h34
  unfold Left at H ⊢
  rw [drop_at s k hk, uq_plain _ _ e1 e2] at H
  rw [H]; simp

theorem left_quote {s : ByteArray} {k : Nat} {acc : List UInt8} (hk : k < s.size) (h34 : (((s[k]'hk).toNat : Int) == 34) = true) (H : Left s k acc) : uq s.data.toList = (acc, s.data.toList.drop (k + 1)) := by
  have e := byte_of (n := 34) (by decide) h34
  unfold Left at H
  rw [drop_at s k hk, e, show UInt8.ofNat 34 = 34 from rfl, uq_quote] at H
  rw [H]; simp

theorem left_end {s : ByteArray} {k : Nat} {acc : List UInt8} (h : ¬ k < s.size) (H : Left s k acc) : uq s.data.toList = (acc, []) := by
  unfold Left at H
  rw [List.drop_of_length_le (by simp; omega), uq_nil] at H
  rw [H]; simp

theorem extract_drop (s : ByteArray) (k : Nat) : s.extract k s.size = ⟨(s.data.toList.drop k).toArray⟩ := by
  apply ByteArray.ext
  apply Array.toList_inj.1
  simp
  exact List.take_of_length_le (by simp)

theorem ret_two {a b c d : ByteArray} (h1 : a = c) (h2 : b = d) : Ending.returned (.tuple #[.string a, .string b]) = .returned (.tuple #[.string c, .string d]) := by rw [h1, h2]

set_option maxHeartbeats 1000000 in
set_option maxRecDepth 100000 in
theorem unquote_any (s : ByteArray) (w : World) (hs : s.size ≤ 16777216) :
    Calls Try.prog 16 #[.string s] w fun e w' => e = .returned (.tuple #[.string ⟨(uq s.data.toList).1.toArray⟩, .string ⟨(uq s.data.toList).2.toArray⟩]) ∧ Below w.heap.size w w' := by
  go_enter Try.func16, Try.ntmps16
  go_wp2
  go_loopw [5] (fun vi wr => ∃ (k : Nat) (acc : List UInt8), vi = .int .i64 k ∧ k ≤ s.size ∧ Lib.IsBuilderF 30 5 w.heap.size w.heap.size (Lib.byteCells acc) wr ∧ Below w.heap.size w wr ∧ acc.length ≤ k ∧ Hid (Left s k acc)) (fun vi _ => s.size - (intOf vi).toNat)
  case atStart =>
    exact ⟨0, [], rfl, Nat.zero_le _, Lib.IsBuilderF.of (Lib.fresh_isBuilder 30 5 w), (Below.refl _ w).alloc (Nat.le_refl _) _, by simp, left_start s⟩
  case round =>
    obtain ⟨k, acc, rfl, hk, hI, hbw, hal, H⟩ := hrel
    have hsz : w.heap.size ≤ wr.heap.size := hbw.size
    have hlen : (Lib.byteCells acc).length + 1 ≤ 140737488355328 := by rw [Lib.byteCells_length]; omega
    by_cases hlt : k < s.size
    · go_wp2_with fail
      · have h92 : ((s[k].toNat : Int) == 92) = true := by assumption
        have hin : k + 1 < s.size := by omega
        refine (Try.Builder_WriteByte_k w.heap.size w.heap.size _ _ _ hI hlen hsz).mono ?_
        rintro e W1 ⟨rfl, h1, b1, k1⟩
        go_wp2
        go_roundw
        case rel =>
          refine ⟨k + 2, acc ++ [s[k + 1]], by go_num, by omega, ?_, hbw.trans b1, by simp; omega, left_esc hin h92 H⟩
          rw [Lib.byteCells_append]; exact Or.inr h1
        case measure => simp [intOf]; omega
      · have h92 : ((s[k].toNat : Int) == 92) = true := by assumption
        go_roundw
        case rel =>
          exact ⟨k + 1, acc, by go_num, by omega, hI, hbw, by omega, left_tail hlt (by omega) h92 H⟩
        case measure => simp [intOf]; omega
      · have h34 : ((s[k].toNat : Int) == 34) = true := by assumption
        have hId : Lib.IsBuilderF 30 5 w.heap.size w.heap.size (Lib.byteCells acc) wr.drew := hI
        have hszd : w.heap.size ≤ wr.drew.heap.size := hsz
        have HH : Hid (uq s.data.toList = (acc, s.data.toList.drop (k + 1))) := left_quote hlt h34 H
        have hk0 : (0 : Int) ≤ (k : Int) + 1 := by omega
        have hk1 : (k : Int) + 1 ≤ (s.size : Int) := by omega
        have hk2 : ((k : Int) + 1).toNat = k + 1 := by omega
        have hwr : IntKind.i64.wrap ((k : Int) + 1) = (k : Int) + 1 := wrap_small _ (by omega) (by omega)
        go_region_with (go_at_call 19; refine (Try.Builder_String_any_k w.heap.size w.heap.size acc _ hId hszd).mono ?_; rintro e W1 ⟨rfl, _, b1, _⟩)
        all_goals
          go_wp2
          go_ret2
          exact ⟨ret_two (by rw [HH.out]) (by rw [HH.out]; exact extract_drop s (k + 1)), hbw.drew.trans b1⟩
      · have h92 : ((s[k].toNat : Int) == 92) = false := by assumption
        have h34 : ((s[k].toNat : Int) == 34) = false := by assumption
        refine (Try.Builder_WriteByte_k w.heap.size w.heap.size _ _ _ hI hlen hsz).mono ?_
        rintro e W1 ⟨rfl, h1, b1, k1⟩
        go_wp2
        go_roundw
        case rel =>
          refine ⟨k + 1, acc ++ [s[k]], by go_num, by omega, ?_, hbw.trans b1, by simp; omega, left_plain hlt h92 h34 H⟩
          rw [Lib.byteCells_append]; exact Or.inr h1
        case measure => simp [intOf]; omega
    · go_wp2_with (go_at_call 19; refine (Try.Builder_String_any_k w.heap.size w.heap.size acc _ hI hsz).mono ?_)
      rintro e W1 ⟨rfl, _, b1, _⟩
      go_wp2
      go_ret2
      have HE := left_end hlt H
      exact ⟨ret_two (by rw [HE]) (by rw [HE]), hbw.trans b1⟩

set_option maxHeartbeats 400000 in
theorem zz_unquote_any (s : ByteArray) (w : World) (hs : s.size ≤ 16777216) :
    Calls Try.prog 8 #[.string s] w fun e w' => e = .returned (.tuple #[.string ⟨(uq s.data.toList).1.toArray⟩, .string ⟨(uq s.data.toList).2.toArray⟩]) ∧ Below w.heap.size w w' := by
  go_enter Try.func8, Try.ntmps8
  go_wp2_with (go_at_call 16; refine (unquote_any s _ hs).mono ?_; rintro e W1 ⟨rfl, b1⟩)
  go_ret2
  exact ⟨rfl, b1⟩
end Go.Proofs.Qxb6600538a
