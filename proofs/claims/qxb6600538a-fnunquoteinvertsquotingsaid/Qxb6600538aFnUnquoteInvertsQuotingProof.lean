/- FnUnquoteInvertsQuoting: the law's own walk, out of the contracts of 'quoteBody' and 'unquote'; then the row's step (the given shell's frame, its end given limb by limb, for String() freezes bytes of its own). -/
import Derived.Test.Qxb6600538aRows
import Derived.WalkKit
import Derived.ProofKit
import Derived.OpenShut
import Derived.ShutString
import Derived.Test.Qxb6600538aBytes
namespace Go.Proofs.Qxb6600538a.fnUnquoteInvertsQuoting
open Go.ChangeShapes Go.WideShapes Go.ChangeAt Go.RowKit
open Go.ChangeMaps (open_string shut_string)
open Go.Proofs.Qxb6600538a Go.Proofs.Qxb6600538a.Uq
set_option linter.unusedVariables false      -- a walk need not use every 'w<i>' (that an integer argument fits its kind)

theorem own : ownKnob Try.prog.godebug = none := by kernel_rfl

theorem zz_small (s t : ByteArray) (w : World) (h : s.size + t.size ≤ 1048576) :
    Calls Try.prog 10 #[.string s, .string t] w fun e w' => e = .returned (.bool true) ∧ w' = w := by
  have h1 : ¬ (1048576 : Int) < (s.size : Int) := by omega
  have h2 : ¬ (1048576 : Int) < (t.size : Int) := by omega
  have h3 : ¬ (1048576 : Int) < (s.size : Int) + (t.size : Int) := by omega
  go_enter Try.func10, Try.ntmps10
  go_wp2
  go_ret
  exact ⟨rfl, rfl⟩

theorem zz_large (s t : ByteArray) (w : World) (hs : s.size ≤ maxLen) (ht : t.size ≤ maxLen) (h : ¬ s.size + t.size ≤ 1048576) :
    Calls Try.prog 10 #[.string s, .string t] w fun e w' => e = .returned (.bool false) ∧ w' = w := by
  unfold maxLen at hs ht
  go_enter Try.func10, Try.ntmps10
  go_wp2
  all_goals
    first
    | (go_ret; exact ⟨rfl, rfl⟩)
    | (exfalso; omega)

theorem zz_quoted_at (S t r : ByteArray) (w : World) (hS : S.data.toList = qb t.data.toList ++ 34 :: r.data.toList) (hz : S.size ≤ 16777216) :
    Calls Try.prog 8 #[.string S] w fun e w' => e = .returned (.tuple #[.string t, .string r]) ∧ Below w.heap.size w w' := by
  have hu : uq S.data.toList = (t.data.toList, r.data.toList) := by rw [hS, uq_qb]
  have hc := zz_unquote_any S w hz
  rw [hu] at hc
  exact hc

theorem conv_row' {w : World} {B g cap n : Nat} {l : List UInt8} (hn : l.length = n) (h : Row w B g cap l) :
    (convert 26 9 (.slice (some ⟨g, 0, none⟩) n cap)).run Try.prog w = .ok (.string ⟨l.toArray⟩) w := by
  subst hn; exact conv_row h

theorem src_34 (w : World) : Src Try.prog 1 26 (.slice (some ⟨w.heap.size, 0, none⟩) 1 1) ([34] : List UInt8).length (Lib.byteCells [34]) (w.alloc (.cells #[.int .u8 34] 5)) := src_byte w 34

set_option maxHeartbeats 1000000 in
set_option maxRecDepth 100000 in
theorem walk (s t : ByteArray) (w : World) (hs : s.size ≤ maxLen) (ht : t.size ≤ maxLen) :
    Calls Try.prog 4 #[.string s, .string t] w fun e w' => e = .returned (.bool true) ∧ Below w.heap.size w w' := by
  by_cases h : s.size + t.size ≤ 1048576
  · have h1 : ¬ (1048576 : Int) < (s.size : Int) := by omega
    have h2 : ¬ (1048576 : Int) < (t.size : Int) := by omega
    have h3 : ¬ (1048576 : Int) < (s.size : Int) + (t.size : Int) := by omega
    have hq := qb_length_le s.data.toList
    have hsl : s.data.toList.length = s.size := by simp
    obtain ⟨l, hl⟩ : ∃ l, l = qb s.data.toList := ⟨_, rfl⟩
    have HL : Hid (l = qb s.data.toList) := hl
    have hll : l.length ≤ 2097152 := by rw [hl]; omega
    have HC : Hid (∀ w : World, Calls Try.prog 11 #[.string s] w fun e w' => e = .returned (.string ⟨l.toArray⟩) ∧ Below w.heap.size w w') := by
      show ∀ w : World, _
      intro w; rw [hl]; exact quote_any s w (by omega)
    have HF : Hid (∀ (S : ByteArray) (w : World), S.data.toList = l ++ 34 :: t.data.toList → Calls Try.prog 8 #[.string S] w fun e w' => e = .returned (.tuple #[.string s, .string t]) ∧ Below w.heap.size w w') := by
      show ∀ (S : ByteArray) (w : World), _
      intro S w hS
      refine zz_quoted_at S s t w (by rw [hS, hl]) ?_
      have : S.data.toList.length = S.size := by simp
      rw [← this, hS, List.length_append, List.length_cons]
      have : t.data.toList.length = t.size := by simp
      omega
    clear hl hq hsl
    go_enter Try.func4, Try.ntmps4
    go_wp2_with fail
    refine (zz_small s t _ h).mono ?_
    rintro e w' ⟨rfl, rfl⟩
    go_wp2_with fail
    refine (HC.out _).mono ?_
    rintro e w1 ⟨rfl, b1⟩
    obtain ⟨g, cap, W, hcv, hrow, hbW⟩ := conv_bytes w1 w'.heap.size l b1.size (by unfold maxLen; omega)
    have hB0 := b1.size
    have hB1 := hbW.size
    go_wp2_with (first
      | (at_builtin; refine wpList_append_row rfl (.tmp 31) (.tmp 32) 26 rfl (l := l) (n := l.length) (m := 1) rfl rfl (hrow.alloc _) _ [34] rfl rfl (src_34 _) (by omega) (by simp; omega) ?_; intro g1 cap1 W1 hrow1 hb1)
      | (at_builtin; refine wpList_append_row rfl (.tmp 34) (.tmp 35) 9 rfl (l := l ++ [34]) (n := l.length + 1) (m := t.size) (by simp) rfl hrow1 _ t.data.toList (by simp) rfl (src_string _ t) (by omega) (by have := hb1.size; simp at this; omega) ?_; intro g2 cap2 W2 hrow2 hb2; have hcv2 := conv_row' (n := l.length + 1 + t.size) (by simp; omega) hrow2)
      | (go_at_call 8; refine (HF.out _ _ (by simp)).mono ?_; rintro e w3 ⟨rfl, b3⟩))
    go_ret
    have c1 : Below w'.heap.size w' W := b1.trans hbW
    have c2 : Below w'.heap.size w' W1 := (c1.alloc c1.size _).trans hb1
    have c3 : Below w'.heap.size w' W2 := c2.trans hb2
    exact ⟨rfl, c3.trans (b3.mono c3.size)⟩
  · go_enter Try.func4, Try.ntmps4
    go_wp2_with fail
    refine (zz_large s t _ hs ht h).mono ?_
    rintro e w' ⟨rfl, rfl⟩
    go_wp2
    go_ret
    exact ⟨rfl, Below.refl _ _⟩

/-! ### THE ROW's STEP: WRITTEN OUT: LEAVE IT -/
set_option maxRecDepth 100000 in
theorem lifted (os : Os) (started : os.Started) (H : Type) (enc : TypeId × Value → H) :
    ReturnsInHanded {} Try.checked os 4 .any (Rows.fnUnquoteInvertsQuotingSpec.pre6 enc Try.prog Try.f4 Rows.fnUnquoteInvertsQuotingRow.domain false) (Rows.fnUnquoteInvertsQuotingSpec.post enc Try.prog Try.f4 false true false false) := by
  refine returnsInHanded_of_change (C := Try.checked) own started (by kernel_rfl) Try.func4
    (ChangeSpec.witness6 (enc := enc) (C := Try.checked) false ⟨#[], #[.string ByteArray.empty, .string ByteArray.empty], []⟩ 8 (by kernel_rfl) (by kernel_rfl) (by kernel_rfl) (by kernel_rfl)) ?_
  intro W base args ds gs before hval0 hW hcnd _
  have hval : ∀ (j : Nat) t v, Try.f4.params[j]? = some t → args[j]? = some v → Value.okWide Try.prog W .any base t v := hval0
  have hW' := hW
  obtain ⟨p, q, hA0, hV, rfl, hfz, hnd⟩ := hW
  have hA : DataW.TrodAll enc Try.prog W 0 (fun _ => true) true Try.f4.params.toList args.toList ds p := hA0
  rw [Try.params4] at hA hval
  obtain ⟨v0, vs0, d0, ds0, p0, q0, hargs, rfl, rfl, h0, r0⟩ := trodAll_cons hA
  obtain ⟨v1, vs1, d1, ds1, p1, q1, rfl, rfl, rfl, h1, r1⟩ := trodAll_cons r0
  obtain ⟨rfl, rfl, rfl⟩ := trodAll_nil r1
  obtain rfl : args = #[v0, v1] := by cases args; simp_all
  obtain ⟨rfl, rfl⟩ := trodVars_none hV
  obtain ⟨a0, rfl, rfl, rfl, w0⟩ := open_string Try.underlying9 (hval 0 9 v0 rfl rfl) h0
  obtain ⟨a1, rfl, rfl, rfl, w1⟩ := open_string Try.underlying9 (hval 1 9 v1 rfl rfl) h1
  clear hA0 hval0
  simp only [List.append_nil] at hW'
  refine (walk a0 a1 W w0 w1).mono fun e W' ⟨he, bel⟩ => ?_
  subst he
  exact ⟨_, rfl, _, _, _, [], [], [], hW', trodAll_mk1 (shut_bool Try.underlying4 _), trodAll_cons_mk (shut_string Try.underlying9 w0) (trodAll_cons_mk (shut_string Try.underlying9 w1) trodAll_mk0), rfl, bel.frame _, fun h => by cases h⟩

theorem over : Rows.fnUnquoteInvertsQuotingRow.holds Try.pinned (OpenSpec.ofChange Rows.fnUnquoteInvertsQuotingSpec) :=
  OpenClaim.holds_of_wide 4 Try.f4 rfl rfl rfl rfl rfl rfl rfl ⟨rfl, rfl, rfl, rfl, rfl⟩ rfl rfl rfl rfl rfl (by kernel_rfl) Try.func4 (by kernel_rfl)
    (of_decide_eq_true (by kernel_rfl)) (by unfold Func.isWrapper; first | (rw [if_pos (by decide +kernel)]; kernel_rfl) | (rw [if_neg (by decide +kernel)]; exact ⟨rfl, rfl⟩))
    (fun os started H enc _ => lifted os started H enc)

end Go.Proofs.Qxb6600538a.fnUnquoteInvertsQuoting
namespace Go.Proofs.Qxb6600538a
/-- THE STATEMENT. -/
theorem fnUnquoteInvertsQuoting_proved : Rows.FnUnquoteInvertsQuotingSaid :=
  fnUnquoteInvertsQuoting.over
end Go.Proofs.Qxb6600538a
