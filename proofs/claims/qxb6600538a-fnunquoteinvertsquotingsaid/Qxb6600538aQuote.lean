/- The walk of quoteBody (function 11): it answers 'Uq.qb'. -/
import Derived.Test.Qxb6600538aParity
namespace Go.Proofs.Qxb6600538a
open Go.RowKit Go.Proofs.Qxb6600538a.Uq

theorem qb_take_esc {s : ByteArray} {k : Nat} (hk : k < s.size) (h : s[k] = 92 ∨ s[k] = 34) : qb (s.data.toList.take (k + 1)) = qb (s.data.toList.take k) ++ [92] ++ [s[k]] := by
  have e : s.data.toList.take (k + 1) = s.data.toList.take k ++ [s[k]] := by rw [List.take_succ_eq_append_getElem (by simpa using hk)]; rfl
  rw [e, qb_append, qb, if_pos h, qb]; simp

theorem qb_take_plain {s : ByteArray} {k : Nat} (hk : k < s.size) (h : ¬ (s[k] = 92 ∨ s[k] = 34)) : qb (s.data.toList.take (k + 1)) = qb (s.data.toList.take k) ++ [s[k]] := by
  have e : s.data.toList.take (k + 1) = s.data.toList.take k ++ [s[k]] := by rw [List.take_succ_eq_append_getElem (by simpa using hk)]; rfl
  rw [e, qb_append, qb, if_neg h, qb]

theorem ret_str {a b : List UInt8} (h : a = b) : Ending.returned (.string ⟨a.toArray⟩) = .returned (.string ⟨b.toArray⟩) := by rw [h]

theorem one_cell {c : Int} : ∀ u ∈ [Value.int .u8 c], u.oneCell' = true := by
  intro u hu; simp at hu; subst hu; rfl

theorem cells_one {w : World} {c : Int} {o : Obj} (h : (w.alloc o).cell? ⟨w.heap.size, 0, none⟩ = some (.int .u8 c)) : ∀ j u, [Value.int .u8 c][j]? = some u → (w.alloc o).cell? ((⟨w.heap.size, 0, none⟩ : Addr).add j) = some u := by
  intro j u hj
  match j, hj with
  | 0, hj => simp only [List.getElem?_cons_zero, Option.some.injEq] at hj; subst hj; simpa [Addr.add] using h

set_option maxHeartbeats 1000000 in
set_option maxRecDepth 100000 in
theorem quote_any (s : ByteArray) (w : World) (hs : s.size ≤ 1048576) :
    Calls Try.prog 11 #[.string s] w fun e w' => e = .returned (.string ⟨(qb s.data.toList).toArray⟩) ∧ Below w.heap.size w w' := by
  obtain ⟨i0, hi, hz0, hz1, hz2⟩ := info_parts Try.info5
  go_enter Try.func11, Try.ntmps11
  go_wp2_with (at_make; refine wpList_make_own _ rfl _ _ 26 rfl w.heap.size 5 i0 (.int .u8 0) 1 Try.underlying26 hi hz0 hz1 _ _ _ (2 * s.size) rfl rfl (by omega) ?b2 ?b3 (Nat.le_refl _) ?_)
  case b2 => rw [hz2]; omega
  case b3 => unfold maxLen; omega
  intro w0 hown0 hgrow0
  go_wp2
  go_loopw [3, 4] (fun out vj wr => ∃ (k : Nat) (acc : List UInt8), vj = .int .i64 k ∧ k ≤ s.size ∧ out = .slice (some ⟨w.heap.size, 0, none⟩) acc.length (2 * s.size) ∧ wr.ownsRow w.heap.size 5 1 (.slice (some ⟨w.heap.size, 0, none⟩) acc.length (2 * s.size)) acc.length (Lib.byteCells acc) ∧ Below w.heap.size w wr ∧ acc.length ≤ 2 * k ∧ Hid (acc = qb (s.data.toList.take k))) (fun _ vj _ => s.size - (intOf vj).toNat)
  case atStart => exact ⟨0, [], rfl, Nat.zero_le _, rfl, hown0, (Below.refl _ _).grown hgrow0 (Nat.le_refl _) (fun k h => by cases h), Nat.zero_le _, rfl⟩
  case round =>
    obtain ⟨k, acc, rfl, hk, rfl, hown, hbw, hal, H⟩ := hrel
    have hsz := hbw.size
    by_cases hlt : k < s.size
    · by_cases hc : s[k] = 92 ∨ s[k] = 34
      · have HN : Hid (acc ++ [92] ++ [s[k]] = qb (s.data.toList.take (k + 1))) := by show _ = _; rw [qb_take_esc hlt hc, H.out]
        have ht : ((s[k].toNat : Int) == 92) = true ∨ ((s[k].toNat : Int) == 92) = false ∧ ((s[k].toNat : Int) == 34) = true := by
          by_cases h : s[k] = 92
          · left; rw [h]; rfl
          · right; rcases hc with h' | h'
            · exact absurd h' h
            · rw [h']; exact ⟨rfl, rfl⟩
        clear hc
        rcases ht with h92 | ⟨h92, h34⟩
        all_goals
          go_wp2_with (first
            | (at_builtin; refine wpList_append_fits _ rfl (.tmp 25) (.tmp 26) 26 rfl w.heap.size 5 i0 1 Try.underlying26 hi hz1 w.heap.size acc.length (2 * s.size) _ rfl (hown.alloc _) ⟨wr.heap.size, 0, none⟩ 1 1 [.int .u8 92] rfl rfl (cells_one (by simp)) one_cell (by omega) ?_; intro w1 hown1 hgrow1)
            | (at_builtin; refine wpList_append_fits _ rfl (.tmp 28) (.tmp 30) 26 rfl w.heap.size 5 i0 1 Try.underlying26 hi hz1 w.heap.size (acc.length + 1) (2 * s.size) _ rfl (hown1.alloc _) ⟨w1.heap.size, 0, none⟩ 1 1 [.int .u8 (s[k].toNat : Int)] rfl rfl (cells_one (by simp)) one_cell (by omega) ?_; intro w2 hown2 hgrow2))
          have hb1 : Below w.heap.size w w1 := (hbw.alloc hbw.size _).grown hgrow1 (by simp; omega) (fun k hk => by cases hk; exact Nat.le_refl _)
          have hb2 : Below w.heap.size w w2 := (hb1.alloc hb1.size _).grown hgrow2 (by have := hb1.size; simp; omega) (fun k hk => by cases hk; exact Nat.le_refl _)
          have hown2' : w2.ownsRow w.heap.size 5 1 (.slice (some ⟨w.heap.size, 0, none⟩) (acc ++ [92] ++ [s[k]]).length (2 * s.size)) (acc ++ [92] ++ [s[k]]).length (Lib.byteCells (acc ++ [92] ++ [s[k]])) := by
            rw [Lib.byteCells_append, Lib.byteCells_append, List.length_append, List.length_append]; exact hown2
          clear hown1 hgrow1 hown2 hgrow2
          go_roundw
          case rel => exact ⟨k + 1, acc ++ [92] ++ [s[k]], by go_num, by omega, by simp, hown2', hb2, by simp; omega, HN⟩
          case measure => simp [intOf]; omega
      · have HN : Hid (acc ++ [s[k]] = qb (s.data.toList.take (k + 1))) := by show _ = _; rw [qb_take_plain hlt hc, H.out]
        have h92 : ((s[k].toNat : Int) == 92) = false := by
          rw [beq_eq_false_iff_ne]; intro h; exact hc (.inl (byte_of (n := 92) (by decide) (by simpa using h)))
        have h34 : ((s[k].toNat : Int) == 34) = false := by
          rw [beq_eq_false_iff_ne]; intro h; exact hc (.inr (byte_of (n := 34) (by decide) (by simpa using h)))
        clear hc
        go_wp2_with (at_builtin; refine wpList_append_fits _ rfl (.tmp 28) (.tmp 30) 26 rfl w.heap.size 5 i0 1 Try.underlying26 hi hz1 w.heap.size acc.length (2 * s.size) _ rfl (hown.alloc _) ⟨wr.heap.size, 0, none⟩ 1 1 [.int .u8 (s[k].toNat : Int)] rfl rfl (cells_one (by simp)) one_cell (by omega) ?_; intro w1 hown1 hgrow1)
        go_roundw
        case rel => exact ⟨k + 1, acc ++ [s[k]], by go_num, by omega, by simp, own_snoc hown1, (hbw.alloc hbw.size _).grown hgrow1 (by simp; omega) (fun k hk => by cases hk; exact Nat.le_refl _), by simp; omega, HN⟩
        case measure => simp [intOf]; omega
    · have hcv := conv_own hown
      have HH : Hid (acc = qb s.data.toList) := by
        have := H.out
        rw [List.take_of_length_le (by simp; omega)] at this
        exact this
      go_wp2
      go_ret
      exact ⟨ret_str HH.out, hbw⟩
end Go.Proofs.Qxb6600538a
