/- The walk of unquoteByParity (function 9): it answers 'Uq.uq' too. -/
import Derived.Test.Qxb6600538aUnquote
import Derived.OwnWalk
namespace Go.Proofs.Qxb6600538a
open Go.RowKit Go.Proofs.Qxb6600538a.Uq

theorem Try.info5 : (Try.prog.info? 5).map (fun i => (i.zero, i.size, i.bytes)) = some (some (.int .u8 0), 1, 1) := by kernel_rfl

/-- What is left to the parity model, behind k bytes and a run of r backslashes, and what has been written. -/
def PLeft (s : ByteArray) (k r : Nat) (acc : List UInt8) : Prop := uq s.data.toList = (acc ++ (par (r % 2 == 0) (s.data.toList.drop k)).1, (par (r % 2 == 0) (s.data.toList.drop k)).2)

theorem pleft_start (s : ByteArray) : PLeft s 0 0 [] := by simp [PLeft, par_uq]

theorem pleft_quote {s : ByteArray} {k r : Nat} {acc : List UInt8} (hk : k < s.size) (h34 : (((s[k]'hk).toNat : Int) == 34) = true) (hr : r % 2 = 0) (H : PLeft s k r acc) : uq s.data.toList = (acc, s.data.toList.drop (k + 1)) := by
  have e := byte_of (n := 34) (by decide) h34
  unfold PLeft at H
  rw [drop_at s k hk, e, show UInt8.ofNat 34 = 34 from rfl, show (r % 2 == 0) = true by simp [hr], par] at H
  rw [H]; simp

theorem pleft_skip {s : ByteArray} {k r : Nat} {acc : List UInt8} (hk : k < s.size) (h92 : (((s[k]'hk).toNat : Int) == 92) = true) (hr : r % 2 = 0) (H : PLeft s k r acc) : PLeft s (k + 1) (r + 1) acc := by
  have e := byte_of (n := 92) (by decide) h92
  unfold PLeft at H ⊢
  rw [drop_at s k hk, e, show UInt8.ofNat 92 = 92 from rfl, show (r % 2 == 0) = true by simp [hr], par] at H
  rw [H, show ((r + 1) % 2 == 0) = false by simp; omega]; simp

theorem pleft_odd {s : ByteArray} {k r r' : Nat} {acc : List UInt8} (hk : k < s.size) (hr : r % 2 = 1) (hr' : r' % 2 = 0) (H : PLeft s k r acc) : PLeft s (k + 1) r' (acc ++ [s[k]]) := by
  unfold PLeft at H ⊢
  rw [drop_at s k hk, show (r % 2 == 0) = false by simp [hr], par_false] at H
  rw [H, show (r' % 2 == 0) = true by simp [hr']]; simp

theorem pleft_other {s : ByteArray} {k r : Nat} {acc : List UInt8} (hk : k < s.size) (h92 : (((s[k]'hk).toNat : Int) == 92) = false) (h34 : (((s[k]'hk).toNat : Int) == 34) = false) (H : PLeft s k r acc) : PLeft s (k + 1) 0 (acc ++ [s[k]]) := by
  rcases Nat.mod_two_eq_zero_or_one r with hr | hr
  · have e1 : s[k] ≠ 92 := byte_not (n := 92) (by decide) h92
    have e2 : s[k] ≠ 34 := byte_not (n := 34) (by decide) h34
    unfold PLeft at H ⊢
    rw [drop_at s k hk, show (r % 2 == 0) = true by simp [hr], par, if_neg e2, if_neg e1] at H
    rw [H]; simp
  · exact pleft_odd hk hr rfl H

theorem pleft_end {s : ByteArray} {k r : Nat} {acc : List UInt8} (h : ¬ k < s.size) (H : PLeft s k r acc) : uq s.data.toList = (acc, []) := by
  unfold PLeft at H
  rw [List.drop_of_length_le (by simp; omega), show ∀ b, par b [] = ([], []) by intro b; cases b <;> rfl] at H
  rw [H]; simp

/-- What an append of the byte at k leaves. -/
theorem own_snoc {w1 : World} {B g cap : Nat} {acc : List UInt8} {c : UInt8} (h : w1.ownsRow B 5 1 (.slice (some ⟨g, 0, none⟩) (acc.length + 1) cap) (acc.length + 1) (Lib.byteCells acc ++ [.int .u8 (c.toNat : Int)])) :
    w1.ownsRow B 5 1 (.slice (some ⟨g, 0, none⟩) (acc ++ [c]).length cap) (acc ++ [c]).length (Lib.byteCells (acc ++ [c])) := by
  rw [Lib.byteCells_append, List.length_append]; exact h

/-- 'string(b)' of an own row of bytes. -/
theorem conv_own {w : World} {B g cap : Nat} {l : List UInt8} (hown : w.ownsRow B 5 1 (.slice (some ⟨g, 0, none⟩) l.length cap) l.length (Lib.byteCells l)) :
    (convert 26 9 (.slice (some ⟨g, 0, none⟩) l.length cap)).run Try.prog w = .ok (.string ⟨l.toArray⟩) w := by
  refine run_convert_bytes_back w 26 9 5 ⟨g, 0, none⟩ cap l Try.underlying26 Try.underlying5 Try.underlying9 ?_
  intro j hj
  exact hown.cells (g := g) rfl j _ (by simp [Lib.byteCells, List.getElem?_eq_getElem hj])

set_option maxHeartbeats 1000000 in
set_option maxRecDepth 100000 in
theorem parity_any (s : ByteArray) (w : World) (hs : s.size ≤ 16777216) :
    Calls Try.prog 9 #[.string s] w fun e w' => e = .returned (.tuple #[.string ⟨(uq s.data.toList).1.toArray⟩, .string ⟨(uq s.data.toList).2.toArray⟩]) ∧ Below w.heap.size w w' := by
  obtain ⟨i0, hi, hz0, hz1, hz2⟩ := info_parts Try.info5
  go_enter Try.func9, Try.ntmps9
  go_wp2_with (at_make; refine wpList_make_own _ rfl _ _ 26 rfl w.heap.size 5 i0 (.int .u8 0) 1 Try.underlying26 hi hz0 hz1 _ _ _ s.size rfl rfl (by omega) ?b2 ?b3 (Nat.le_refl _) ?_)
  case b2 => rw [hz2]; omega
  case b3 => unfold maxLen; omega
  intro w0 hown0 hgrow0
  go_wp2
  go_loopw [4, 5, 6] (fun out vr vj wr => ∃ (k r : Nat) (acc : List UInt8), vj = .int .i64 k ∧ k ≤ s.size ∧ vr = .int .i64 r ∧ r ≤ k ∧ out = .slice (some ⟨w.heap.size, 0, none⟩) acc.length s.size ∧ wr.ownsRow w.heap.size 5 1 (.slice (some ⟨w.heap.size, 0, none⟩) acc.length s.size) acc.length (Lib.byteCells acc) ∧ Below w.heap.size w wr ∧ acc.length ≤ k ∧ Hid (PLeft s k r acc)) (fun _ _ vj _ => s.size - (intOf vj).toNat)
  case atStart => exact ⟨0, 0, [], rfl, Nat.zero_le _, rfl, Nat.le_refl _, rfl, hown0, (Below.refl _ _).grown hgrow0 (Nat.le_refl _) (fun k h => by cases h), Nat.le_refl _, pleft_start s⟩
  case round =>
    obtain ⟨k, r, acc, rfl, hk, rfl, hr, rfl, hown, hbw, hal, H⟩ := hrel
    by_cases hlt : k < s.size
    · by_cases c34 : s[k].toNat = 34
      · have h34 : ((s[k].toNat : Int) == 34) = true := by simp; omega
        have h92 : ((s[k].toNat : Int) == 92) = false := by simp; omega
        have n92 : ((s[k].toNat : Int) != 92) = true := by simp; omega
        clear c34
        by_cases ev : r % 2 = 0
        · have hev : ((r : Int) % 2 == 0) = true := by simp; omega
          have HH : Hid (uq s.data.toList = (acc, s.data.toList.drop (k + 1))) := pleft_quote hlt h34 ev H
          have hcv := conv_own hown
          have hcv' : (convert 26 9 (.slice (some ⟨w.heap.size, 0, none⟩) acc.length s.size)).run Try.prog wr.drew = .ok (.string ⟨acc.toArray⟩) wr.drew := conv_own hown.drew
          have hk0 : (0 : Int) ≤ (k : Int) + 1 := by omega
          have hk1 : (k : Int) + 1 ≤ (s.size : Int) := by omega
          have hk2 : ((k : Int) + 1).toNat = k + 1 := by omega
          have hwr : IntKind.i64.wrap ((k : Int) + 1) = (k : Int) + 1 := wrap_small _ (by omega) (by omega)
          clear ev
          go_wp2
          go_region
          all_goals
            go_wp2
            go_ret2
            exact ⟨ret_two (by rw [HH.out]) (by rw [HH.out]; exact extract_drop s (k + 1)), hbw.drew⟩
        · have hev : ((r : Int) % 2 == 0) = false := by simp; omega
          have ho : r % 2 = 1 := by omega
          have HN : Hid (PLeft s (k + 1) 0 (acc ++ [s[k]])) := pleft_odd hlt ho rfl H
          clear ev ho
          go_wp2_with (at_builtin; refine wpList_append_fits _ rfl _ _ 26 rfl w.heap.size 5 i0 1 Try.underlying26 hi hz1 w.heap.size acc.length s.size _ rfl (hown.alloc _) ⟨wr.heap.size, 0, none⟩ 1 1 [.int .u8 (s[k].toNat : Int)] rfl rfl (by intro t u ht; match t, ht with | 0, ht => simp at ht; subst ht; simp [Addr.add]) (by intro u hu; simp at hu; subst hu; rfl) (by omega) ?_; intro w1 hown1 hgrow1)
          go_wp2
          go_roundw
          case rel => exact ⟨k + 1, 0, acc ++ [s[k]], by go_num, by omega, rfl, by omega, by simp, own_snoc hown1, (hbw.alloc hbw.size _).grown hgrow1 (by simp; have := hbw.size; omega) (fun k hk => by cases hk; exact Nat.le_refl _), by simp; omega, HN⟩
          case measure => simp [intOf]; omega
      · have h34 : ((s[k].toNat : Int) == 34) = false := by simp; omega
        clear c34
        by_cases c92 : s[k].toNat = 92
        · have h92 : ((s[k].toNat : Int) == 92) = true := by simp; omega
          have n92 : ((s[k].toNat : Int) != 92) = false := by simp; omega
          clear c92
          by_cases ev : r % 2 = 0
          · have hev : ((r : Int) % 2 == 0) = true := by simp; omega
            have HN : Hid (PLeft s (k + 1) (r + 1) acc) := pleft_skip hlt h92 ev H
            clear ev
            go_wp2
            go_roundw
            case rel => exact ⟨k + 1, r + 1, acc, by go_num, by omega, by go_num, by omega, rfl, hown, hbw, by omega, HN⟩
            case measure => simp [intOf]; omega
          · have hev : ((r : Int) % 2 == 0) = false := by simp; omega
            have ho : r % 2 = 1 := by omega
            have HN : Hid (PLeft s (k + 1) (r + 1) (acc ++ [s[k]])) := pleft_odd hlt ho (by omega) H
            clear ev ho
            go_wp2_with (at_builtin; refine wpList_append_fits _ rfl _ _ 26 rfl w.heap.size 5 i0 1 Try.underlying26 hi hz1 w.heap.size acc.length s.size _ rfl (hown.alloc _) ⟨wr.heap.size, 0, none⟩ 1 1 [.int .u8 (s[k].toNat : Int)] rfl rfl (by intro t u ht; match t, ht with | 0, ht => simp at ht; subst ht; simp [Addr.add]) (by intro u hu; simp at hu; subst hu; rfl) (by omega) ?_; intro w1 hown1 hgrow1)
            go_wp2
            go_roundw
            case rel => exact ⟨k + 1, r + 1, acc ++ [s[k]], by go_num, by omega, by go_num, by omega, by simp, own_snoc hown1, (hbw.alloc hbw.size _).grown hgrow1 (by simp; have := hbw.size; omega) (fun k hk => by cases hk; exact Nat.le_refl _), by simp; omega, HN⟩
            case measure => simp [intOf]; omega
        · have h92 : ((s[k].toNat : Int) == 92) = false := by simp; omega
          have n92 : ((s[k].toNat : Int) != 92) = true := by simp; omega
          clear c92
          have HN : Hid (PLeft s (k + 1) 0 (acc ++ [s[k]])) := pleft_other hlt h92 h34 H
          go_wp2_with (at_builtin; refine wpList_append_fits _ rfl _ _ 26 rfl w.heap.size 5 i0 1 Try.underlying26 hi hz1 w.heap.size acc.length s.size _ rfl (hown.alloc _) ⟨wr.heap.size, 0, none⟩ 1 1 [.int .u8 (s[k].toNat : Int)] rfl rfl (by intro t u ht; match t, ht with | 0, ht => simp at ht; subst ht; simp [Addr.add]) (by intro u hu; simp at hu; subst hu; rfl) (by omega) ?_; intro w1 hown1 hgrow1)
          go_wp2
          go_roundw
          case rel => exact ⟨k + 1, 0, acc ++ [s[k]], by go_num, by omega, rfl, by omega, by simp, own_snoc hown1, (hbw.alloc hbw.size _).grown hgrow1 (by simp; have := hbw.size; omega) (fun k hk => by cases hk; exact Nat.le_refl _), by simp; omega, HN⟩
          case measure => simp [intOf]; omega
    · have hcv := conv_own hown
      have HH : Hid (uq s.data.toList = (acc, [])) := pleft_end hlt H
      go_wp2
      go_ret2
      exact ⟨ret_two (by rw [HH.out]) (by rw [HH.out]), hbw⟩
end Go.Proofs.Qxb6600538a
