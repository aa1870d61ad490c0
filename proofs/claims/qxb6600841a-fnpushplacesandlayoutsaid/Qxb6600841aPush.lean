/- The walk of (*eventLog).push (function 29). -/
import Derived.Test.Qxb6600841aLog
import Derived.BigCall
import Derived.BigQuiet
import Derived.Deep.QuietTactic
import Derived.Deep.DeepCutAuto
import Derived.Deep.RegionLaw
namespace Go.Proofs.Qxb6600841a
open Go.RowKit

/-- What the log holds ahead of the entry: place 0 is no entry's. -/
def start : List Ent → List Ent
  | [] => [Ent.zero]
  | e :: t => e :: t

theorem start_cons {E : List Ent} (h : E ≠ []) : start E = E := by
  cases E with
  | nil => exact absurd rfl h
  | cons e t => rfl

/-- The world behind 'l.chunks, l.n = [][]entry{{{}}}, 1'. -/
theorem first_log (w : World) (B : Nat) (v0 n0 : Value) (box : Obj) (hB : w.heap[B]? = some (.cells #[v0, n0] 36 (0, 0))) :
    (∃ v cs, LogN (((((w.setCell ⟨B, 0, none⟩ (.slice (some ⟨w.heap.size + 1 + 1, 0, none⟩) 1 1)).setCell ⟨B, 1, none⟩ (.int .i64 1)).alloc box).alloc (.cells #[.int .i64 0, .int .i32 0, .int .u8 0, .bool false, .int .i64 0, .int .i64 0] 42)).alloc (.cells #[.slice (some ⟨w.heap.size + 1, 0, none⟩) 1 1] 54)) B 1 [Ent.zero] v cs) ∧
    (((((w.setCell ⟨B, 0, none⟩ (.slice (some ⟨w.heap.size + 1 + 1, 0, none⟩) 1 1)).setCell ⟨B, 1, none⟩ (.int .i64 1)).alloc box).alloc (.cells #[.int .i64 0, .int .i32 0, .int .u8 0, .bool false, .int .i64 0, .int .i64 0] 42)).alloc (.cells #[.slice (some ⟨w.heap.size + 1, 0, none⟩) 1 1] 54)).heap[w.heap.size]? = some box ∧
    Below B w (((((w.setCell ⟨B, 0, none⟩ (.slice (some ⟨w.heap.size + 1 + 1, 0, none⟩) 1 1)).setCell ⟨B, 1, none⟩ (.int .i64 1)).alloc box).alloc (.cells #[.int .i64 0, .int .i32 0, .int .u8 0, .bool false, .int .i64 0, .int .i64 0] 42)).alloc (.cells #[.slice (some ⟨w.heap.size + 1, 0, none⟩) 1 1] 54)) := by
  have hlt : B < w.heap.size := (Array.getElem?_eq_some_iff.1 hB).1
  obtain ⟨w1, hw1⟩ : ∃ w1, w1 = (w.setCell ⟨B, 0, none⟩ (.slice (some ⟨w.heap.size + 1 + 1, 0, none⟩) 1 1)).setCell ⟨B, 1, none⟩ (.int .i64 1) := ⟨_, rfl⟩
  have hs : w1.heap.size = w.heap.size := by rw [hw1]; simp
  have hB1 : w1.heap[B]? = some (.cells #[.slice (some ⟨w.heap.size + 1 + 1, 0, none⟩) 1 1, .int .i64 1] 36 (0, 0)) := by
    rw [hw1]
    simp [World.setCell, Array.getElem?_modify, hB]
  have hb1 : Below B w w1 := by
    rw [hw1]
    exact ((Below.refl B w).setCell (p := ⟨B, 0, none⟩) (Nat.le_refl _) _).setCell (p := ⟨B, 1, none⟩) (Nat.le_refl _) _
  rw [← hw1]
  obtain ⟨w2, hw2⟩ : ∃ w2, w2 = w1.alloc box := ⟨_, rfl⟩
  have hs2 : w2.heap.size = w.heap.size + 1 := by rw [hw2]; simp [hs]
  have hbox : w2.heap[w.heap.size]? = some box := by rw [hw2, ← hs]; exact heap_alloc_new w1 box
  have hB2 : w2.heap[B]? = w1.heap[B]? := by rw [hw2]; exact Below.heap_alloc w1 box B (by omega)
  rw [← hw2]
  obtain ⟨w3, hw3⟩ : ∃ w3, w3 = w2.alloc (.cells #[.int .i64 0, .int .i32 0, .int .u8 0, .bool false, .int .i64 0, .int .i64 0] 42) := ⟨_, rfl⟩
  have hs3 : w3.heap.size = w.heap.size + 1 + 1 := by rw [hw3]; simp [hs2]
  have hz3 : w3.heap[w.heap.size + 1]? = some (.cells #[.int .i64 0, .int .i32 0, .int .u8 0, .bool false, .int .i64 0, .int .i64 0] 42 (0, 0)) := by rw [hw3, ← hs2]; exact heap_alloc_new w2 _
  have hk3 : ∀ k, k < w2.heap.size → w3.heap[k]? = w2.heap[k]? := fun k hk => by rw [hw3]; exact Below.heap_alloc w2 _ k hk
  rw [← hw3]
  have hk4 : ∀ (o : Obj) k, k < w3.heap.size → (w3.alloc o).heap[k]? = w3.heap[k]? := fun o k hk => Below.heap_alloc w3 o k hk
  refine ⟨⟨_, _, logN_first (h1 := w.heap.size + 1) (h2 := w.heap.size + 1 + 1) ?_ ?_ ?_ (by omega) (by omega)⟩, ?_, ?_⟩
  · rw [hk4 _ B (by omega), hk3 B (by omega), hB2]; exact hB1
  · rw [← hs3]; exact heap_alloc_new w3 _
  · rw [hk4 _ _ (by omega)]; exact hz3
  · rw [hk4 _ _ (by omega), hk3 _ (by omega)]; exact hbox
  · have b2 : Below B w w2 := by rw [hw2]; exact hb1.alloc (by omega) _
    have b3 : Below B w w3 := by rw [hw3]; exact b2.alloc (by omega) _
    exact b3.alloc (by omega) _

/-- 'make([]entry, 1, 4096)': a row of 24576 cells. -/
theorem make_chunk : ∃ C : Array Value, C.size = 24576 ∧ ∀ w : World, (Instr.makeSlice 54 (.int .i64 1) (.int .i64 4096)).run Try.prog w = .ok (.slice (some ⟨w.heap.size, 0, none⟩) 1 4096) (w.alloc (.cells C 42)) := by
  obtain ⟨i0, hi0, hz0, hz1, hz2⟩ := info_parts Try.info42
  refine ⟨madeCells (Value.agg #[.int .i64 0, .int .i32 0, .int .u8 0, .bool false, .int .i64 0, .int .i64 0]).cells 24576, size_madeCells _ _, fun w => ?_⟩
  have := run_make (P := Try.prog) w 54 42 i0 _ Try.underlying54 hi0 hz0 .i64 .i64 1 4096 (by omega) (by omega) (by rw [hz2]; omega) (by omega)
  rw [hz1] at this
  exact this

theorem six_set (l : List Value) (a b c d e f : Value) (h : 6 ≤ l.length) : ((((((l.set 0 a).set 1 b).set 2 c).set 3 d).set 4 e).set 5 f).take 6 = [a, b, c, d, e, f] := by
  match l, h with
  | _ :: _ :: _ :: _ :: _ :: _ :: _, _ => rfl

theorem news_two (w : World) (o : Obj) (u : Value) : ∀ (j : Nat) (x : Value), [u][j]? = some x → ((w.alloc o).alloc (.cells #[u] 54)).cell? ((⟨w.heap.size + 1, 0, none⟩ : Addr).add j) = some x := by
  have hs : (w.alloc o).heap.size = w.heap.size + 1 := by simp
  have hb := heap_alloc_new (w.alloc o) (.cells #[u] 54)
  rw [hs] at hb
  exact World.news_of_block hb

theorem block_two {w w1 : World} {o o' : Obj} {k g : Nat} (hg : ((w.alloc o).alloc o').grownBy w1 (some g)) (hk : k < w.heap.size) (hne : ¬ k = g) : w1.heap[k]? = w.heap[k]? := by
  rw [hg.block k (by simp; omega) (by simpa using hne), Below.heap_alloc _ _ _ (by simp; omega), Below.heap_alloc _ _ _ hk]

/-- The log behind 'l.chunks = append(l.chunks, chunk)'. -/
theorem chunked' {w wc w1 : World} {B N i gc capc g1 cap1 : Nat} {E : List Ent} {cs : List Value} {e : Ent} {C : Array Value} {blk : Obj} (hL : LogN wc B N E (.slice (some ⟨gc, 0, none⟩) (i + 1) capc) cs) (hi : i + 1 = cs.length) (hfull : E.length = 4096 * (i + 1))
    (hC : C.size = 24576) (hC6 : C.toList.take 6 = e.cells)
    (hown1 : w1.ownsRow (B + 1) 54 1 (.slice (some ⟨g1, 0, none⟩) (i + 1 + 1) cap1) (i + 1 + 1) (cs ++ [.slice (some ⟨wc.heap.size, 0, none⟩) 1 4096])) (hgrow1 : ((wc.alloc (.cells C 42)).alloc blk).grownBy w1 (some gc)) (hbw : Below B w wc) :
    (∃ v' cs', LogN (w1.setCell ⟨B, 0, none⟩ (.slice (some ⟨g1, 0, none⟩) (i + 1 + 1) cap1)) B N (E ++ [e]) v' cs') ∧ Below B w (w1.setCell ⟨B, 0, none⟩ (.slice (some ⟨g1, 0, none⟩) (i + 1 + 1) cap1)) := by
  have hBl := hL.lt
  have hgc := (hL.own.lt gc rfl).1
  have hW : wc.grownBy ((wc.alloc (.cells C 42)).alloc blk) none := grownBy_none_alloc (World.grownBy_alloc wc _ none) _
  have hnew : ((wc.alloc (.cells C 42)).alloc blk).heap[wc.heap.size]? = some (.cells C 42 (0, 0)) := by
    rw [Below.heap_alloc _ _ _ (by simp)]; exact heap_alloc_new wc _
  have hc1 : ((wc.alloc (.cells C 42)).alloc blk).ownsRow (B + 1) 42 6 (.slice (some ⟨wc.heap.size, 0, none⟩) 1 4096) 1 e.cells :=
    ⟨rfl, .inr ⟨wc.heap.size, 4096, C, rfl, by omega, hnew, by omega, by unfold maxLen; omega, by omega, hC6⟩⟩
  have hfar : ∀ (j : Nat) (c : Value), cs[j]? = some c → c.ownBlock ≠ (Value.slice (some ⟨wc.heap.size, 0, none⟩) 1 4096).ownBlock := by
    intro j c hc e
    have := ((hL.chunk j c hc).lt wc.heap.size e).2
    omega
  rw [hi] at hown1 hfull ⊢
  refine ⟨⟨_, _, LogN.chunked (hL.grow hW) hfull hc1 hfar hown1 hgrow1⟩, ?_⟩
  have b1 : Below B w ((wc.alloc (.cells C 42)).alloc blk) := hbw.grown hW (by omega) (fun k hk => by cases hk)
  have b2 : Below B w w1 := b1.grown hgrow1 (by have := hW.size; omega) (fun k hk => by cases hk; omega)
  exact b2.setCell (p := ⟨B, 0, none⟩) (Nat.le_refl _) _

/-- The log behind '*last = append(*last, e)'. -/
theorem pushed' {w wc W w1 : World} {B N i gc capc gl capl ln g1 cap1 : Nat} {E : List Ent} {cs : List Value} {e : Ent} (hL : LogN wc B N E (.slice (some ⟨gc, 0, none⟩) (i + 1) capc) cs) (hi : i + 1 = cs.length)
    (hci : cs[i]? = some (.slice (some ⟨gl, 0, none⟩) (ck E i).length capl)) (hln : ln = (ck E i).length) (hlt : ln < 4096) (hW : wc.grownBy W none)
    (hown1 : w1.ownsRow (B + 1) 42 6 (.slice (some ⟨g1, 0, none⟩) (ln + 1) cap1) (ln + 1) (flat (ck E i) ++ e.cells)) (hgrow1 : W.grownBy w1 (some gl)) (hat1 : some gl = some g1 ∨ g1 = W.heap.size) (hbw : Below B w wc) :
    (∃ v' cs', LogN (w1.setCell ⟨gc, i, none⟩ (.slice (some ⟨g1, 0, none⟩) (ln + 1) cap1)) B N (E ++ [e]) v' cs') ∧ Below B w (w1.setCell ⟨gc, i, none⟩ (.slice (some ⟨g1, 0, none⟩) (ln + 1) cap1)) := by
  subst hln
  have hgl := ((hL.chunk i _ hci).lt gl rfl).1
  have hgc := (hL.own.lt gc rfl).1
  have hBl := hL.lt
  have hWs := hW.size
  rw [hi] at hL
  refine ⟨⟨_, _, LogN.pushed (hL.grow hW) hi hci hlt hown1 hgrow1 hat1⟩, ?_⟩
  have b1 : Below B w W := hbw.grown hW (by omega) (fun k hk => by cases hk)
  have b2 : Below B w w1 := b1.grown hgrow1 (by omega) (fun k hk => by cases hk; omega)
  exact b2.setCell (p := ⟨gc, i, none⟩) (by show B ≤ gc; omega) _

set_option maxHeartbeats 1000000 in
set_option maxRecDepth 100000 in
theorem push_any (w : World) (B : Nat) (E : List Ent) (v : Value) (cs : List Value) (s ns t : Int) (lg : Bool) (m nx : Int) (h : LogN w B E.length E v cs) (hE : E.length ≤ 70000) :
    Calls Try.prog 29 #[.pointer (some ⟨B, 0, none⟩), .agg #[.int .i64 s, .int .i32 ns, .int .u8 t, .bool lg, .int .i64 m, .int .i64 nx]] w fun r w' =>
      r = .returned (.int .i64 ((start E).length : Nat)) ∧ (∃ v' cs', LogN w' B ((start E).length + 1) (start E ++ [⟨s, ns, t, lg, m, nx⟩]) v' cs') ∧ Below B w w' := by
  have hlt := h.lt
  have hB0 : w.cell? ⟨B, 0, none⟩ = some v := by simp [World.cell?, h.head]
  have hB1 : w.cell? ⟨B, 1, none⟩ = some (.int .i64 (E.length : Nat)) := by simp [World.cell?, h.head]
  have hf0 : w.frozen? ⟨B, 0, none⟩ = false := by simp [World.frozen?, h.head]
  have hf1 : w.frozen? ⟨B, 1, none⟩ = false := by simp [World.frozen?, h.head]
  have hlt1 : B < w.heap.size + 1 := by omega
  have hlt2 : B < w.heap.size + 1 + 1 := by omega
  have hne0 : B ≠ w.heap.size := by omega
  have hne1 : B ≠ w.heap.size + 1 := by omega
  have hne2 : B ≠ w.heap.size + 1 + 1 := by omega
  go_enter Try.func29, Try.ntmps29
  go_upto_if 11 with fail
  go_cut [] (fun wx => (∃ v cs, LogN wx B (start E).length (start E) v cs) ∧ wx.heap[w.heap.size]? = some (.cells #[.int .i64 s, .int .i32 ns, .int .u8 t, .bool lg, .int .i64 m, .int .i64 nx] 42 (0, 0)) ∧ Below B w wx)
  case first =>
    by_cases hE0 : E = []
    · have hb : ((E.length : Int) == 0) = true := by rw [hE0]; rfl
      have HE : Hid (E = []) := hE0
      clear hE0
      go_wp2_with fail
      go_meet
      case rel =>
        rw [HE.out]
        exact first_log w B v _ _ h.head
    · have hb : ((E.length : Int) == 0) = false := by
        rw [beq_eq_false_iff_ne]
        intro e
        exact hE0 (List.eq_nil_of_length_eq_zero (by omega))
      have HE : Hid (E ≠ []) := hE0
      clear hE0
      go_wp2_with fail
      go_meet
      case rel =>
        rw [start_cons HE.out]
        exact ⟨⟨v, cs, h.grow (World.grownBy_alloc w _ none)⟩, heap_alloc_new w _, (Below.refl B w).alloc (by omega) _⟩
  case rest =>
    obtain ⟨⟨v1, cs1, hL⟩, hbox, hbw⟩ := hcut
    clear hB0 hB1 hf0 hf1 hlt1 hlt2 hne0 hne1 hne2 h
    have hE1p : 0 < (start E).length := by cases E <;> simp [start]
    have hE1l : (start E).length ≤ 70001 := by cases E <;> simp [start] at hE ⊢ <;> omega
    obtain ⟨E1, hE1⟩ : ∃ E1, E1 = start E := ⟨_, rfl⟩
    rw [← hE1] at hL hE1p hE1l
    have HE1 : Hid (E1 = start E) := hE1
    clear hE1
    obtain ⟨i, gc, capc, gl, capl, hi, rfl, hci, hg1, hg2, hg3, hg4, hcc, hcf, hb1, hb2⟩ := hL.last hE1p
    have hB0 := hL.cell0
    have hB1 := hL.cell1
    have hf0 := hL.froz 0
    have hf1 := hL.froz 1
    have hBlt := hL.lt
    have Hi : Hid (i + 1 = cs1.length) := hi
    have Hci : Hid (cs1[i]? = some (.slice (some ⟨gl, 0, none⟩) (ck E1 i).length capl)) := hci
    obtain ⟨ln, hln⟩ : ∃ ln, ln = (ck E1 i).length := ⟨_, rfl⟩
    have Hln : Hid (ln = (ck E1 i).length) := hln
    rw [← hln] at hcc
    have hln1 : ln ≤ 4096 := by rw [hln, ck_length]; omega
    obtain ⟨N, hN⟩ : ∃ N, N = E1.length := ⟨_, rfl⟩
    have HN : Hid (N = E1.length) := hN
    rw [← hN] at hB1 hE1p hE1l hL
    have hi20 : i ≤ 20 := by omega
    have hwi : wrap64 (i : Int) = (i : Int) := by unfold wrap64; omega
    rw [← hN] at hb1 hb2
    clear hi hci hln hN
    go_upto_region 3 with fail
    go_cut [5] (fun v5 wx => v5 = .pointer (some ⟨gc, i, none⟩) ∧ wc.grownBy wx none)
    case first =>
      go_region
      all_goals
        go_wp2_with fail
        go_meet
        case rel =>
          exact ⟨rfl, ⟨rfl, rfl, rfl, Nat.le_refl _, fun _ _ _ => rfl⟩⟩
    case rest =>
      obtain ⟨rfl, hgx⟩ := hcut
      have hL2 := hL.grow hgx
      have hbw2 : Below B w wc := hbw.grown hgx (by omega) (fun k hk => by cases hk)
      have hbox2 := (hgx.block w.heap.size (Array.getElem?_eq_some_iff.1 hbox).1 (by simp)).trans hbox
      have hbl : w.heap.size < wc.heap.size := (Array.getElem?_eq_some_iff.1 hbox2).1
      have hcc2 := hgx.cell hcc (by simp)
      have hcf2 : wc.frozen? ⟨gc, i, none⟩ = false := (World.frozen?_of_block (a := ⟨gc, i, none⟩) (hgx.block gc hg2 (by simp))).trans hcf
      have hgc2 : gc < wc.heap.size := Nat.lt_of_lt_of_le hg2 hgx.size
      have hgl2 : gl < wc.heap.size := Nat.lt_of_lt_of_le hg4 hgx.size
      have hBlt2 : B < wc.heap.size := hL2.lt
      clear hL hbw hbox hcc hcf hg2 hg4 hBlt hgx hB0 hB1 hf0 hf1
      have hB0 := hL2.cell0
      have hB1 := hL2.cell1
      have hf0 := hL2.froz 0
      have hf1 := hL2.froz 1
      have x0 : wc.cell? ⟨w.heap.size, 0, none⟩ = some (.int .i64 s) := by simp [World.cell?, hbox2]
      have x1 : wc.cell? ⟨w.heap.size, 1, none⟩ = some (.int .i32 ns) := by simp [World.cell?, hbox2]
      have x2 : wc.cell? ⟨w.heap.size, 2, none⟩ = some (.int .u8 t) := by simp [World.cell?, hbox2]
      have x3 : wc.cell? ⟨w.heap.size, 3, none⟩ = some (.bool lg) := by simp [World.cell?, hbox2]
      have x4 : wc.cell? ⟨w.heap.size, 4, none⟩ = some (.int .i64 m) := by simp [World.cell?, hbox2]
      have x5 : wc.cell? ⟨w.heap.size, 5, none⟩ = some (.int .i64 nx) := by simp [World.cell?, hbox2]
      go_upto_if 36 with fail
      go_cut [] (fun wx => (∃ v' cs', LogN wx B N (E1 ++ [⟨s, ns, t, lg, m, nx⟩]) v' cs') ∧ Below B w wx)
      case first =>
        by_cases hl : ln < 4096
        · have hl' : (ln : Int) < 4096 := by omega
          obtain ⟨i0, hi0, hz0, hz1, hz2⟩ := info_parts Try.info42
          have hown0 : wc.ownsRow (B + 1) 42 6 (.slice (some ⟨gl, 0, none⟩) ln capl) ln (flat (ck E1 i)) := by
            have := hL2.chunk i _ Hci.out
            rw [← Hln.out] at this
            exact this
          have hne : gc ≠ gl := by
            have h1 := kinds_apart hown0 hL2.own (by have := Hln.out; rw [ck_length] at this; have := HN.out; omega) (by decide)
            simp [Value.ownBlock] at h1
            omega
          have Hown : Hid (wc.ownsRow (B + 1) 42 6 (.slice (some ⟨gl, 0, none⟩) ln capl) ln (flat (ck E1 i))) := hown0
          clear hown0
          go_wp2_with fail
          go_region_law (refine step_append_lies _ rfl (.tmp 40) (.tmp 42) 54 rfl (B + 1) 42 i0 (.agg #[.int .i64 0, .int .i32 0, .int .u8 0, .bool false, .int .i64 0, .int .i64 0]) 6 32 Try.underlying54 hi0 hz0 hz1 hz2 rfl (by decide) (.slice (some ⟨gl, 0, none⟩) ln capl) ln (flat (ck E1 i)) rfl (Hown.out.alloc _) ⟨wc.heap.size, 0, none⟩ 1 1 (Ent.cells ⟨s, ns, t, lg, m, nx⟩) rfl rfl (World.news_of_block (heap_alloc_new wc _)) (Ent.cells_one _) (by decide) (by unfold maxLen; omega) (by omega) (by simp; omega) _ rfl ?_; intro g1 cap1 w1 hown1 hgrow1 hat1 hlt1; have hb3 : w1.heap[gc]? = wc.heap[gc]? := (hgrow1.block gc (by simp; omega) (by simp [Value.ownBlock]; omega)).trans (Below.heap_alloc wc _ gc hgc2); have hc3 := (World.cell?_of_block (a := ⟨gc, i, none⟩) hb3).trans hcc2; have hf3 := (World.frozen?_of_block (a := ⟨gc, i, none⟩) hb3).trans hcf2)
          all_goals
            go_wp2_with fail
            go_meet
            case rel => exact pushed' hL2 Hi.out Hci.out Hln.out hl (grownBy_none_drew (World.grownBy_alloc wc _ none)) hown1 hgrow1 hat1 hbw2
        · have hl' : ¬ (ln : Int) < 4096 := by omega
          obtain ⟨i0, hi0, hz0, hz1, hz2⟩ := info_parts Try.info54
          obtain ⟨C, hCs, hmk⟩ := make_chunk
          obtain ⟨c0, hc0⟩ : ∃ u, C[0]? = some u := ⟨C[0]'(by omega), by simp⟩
          obtain ⟨c1, hc1⟩ : ∃ u, C[1]? = some u := ⟨C[1]'(by omega), by simp⟩
          obtain ⟨c2, hc2⟩ : ∃ u, C[2]? = some u := ⟨C[2]'(by omega), by simp⟩
          obtain ⟨c3, hc3⟩ : ∃ u, C[3]? = some u := ⟨C[3]'(by omega), by simp⟩
          obtain ⟨c4, hc4⟩ : ∃ u, C[4]? = some u := ⟨C[4]'(by omega), by simp⟩
          obtain ⟨c5, hc5⟩ : ∃ u, C[5]? = some u := ⟨C[5]'(by omega), by simp⟩
          have Hown : Hid (wc.ownsRow (B + 1) 54 1 (.slice (some ⟨gc, 0, none⟩) (i + 1) capc) (i + 1) cs1) := by
            have := hL2.own
            rw [← Hi.out] at this
            exact this
          have hne : ¬ B = gc := by omega
          go_wp2_with (at_builtin; refine wpList_append_lies _ rfl (.tmp 53) (.tmp 55) 34 rfl (B + 1) 54 i0 (.slice none 0 0) 1 24 Try.underlying34 hi0 hz0 hz1 hz2 rfl (by decide) (.slice (some ⟨gc, 0, none⟩) (i + 1) capc) (i + 1) cs1 rfl ((Hown.out.alloc _).alloc _) ⟨wc.heap.size + 1, 0, none⟩ 1 1 [.slice (some ⟨wc.heap.size, 0, none⟩) 1 4096] rfl rfl (news_two _ _ _) (by intro u hu; simp at hu; subst hu; rfl) (by decide) (by unfold maxLen; omega) (by omega) (by simp; omega) _ rfl ?_; intro g1 cap1 w1 hown1 hgrow1 hat1 hlt1; have hb3 : w1.heap[B]? = wc.heap[B]? := block_two hgrow1 hBlt2 hne; have hc3 := (World.cell?_of_block (a := ⟨B, 0, none⟩) hb3).trans hB0; have hf3 := (World.frozen?_of_block (a := ⟨B, 0, none⟩) hb3).trans hf0)
          go_meet
          case rel =>
            exact chunked' hL2 Hi.out (by have h1 := Hln.out; rw [ck_length] at h1; have h2 := HN.out; omega) (by simp [hCs]) (by simp only [Array.toList_setIfInBounds]; exact six_set _ _ _ _ _ _ _ (by simp [hCs])) hown1 hgrow1 hbw2
      case rest =>
        obtain ⟨⟨v2, cs2, hL3⟩, hbw3⟩ := hcut
        clear hL2 hbw2 hbox2 hbl hcc2 hcf2 hgc2 hgl2 hBlt2 hB0 hB1 hf0 hf1 x0 x1 x2 x3 x4 x5
        have hB1 := hL3.cell1
        have hf1 := hL3.froz 1
        go_wp2
        go_ret
        have e1 : start E = E1 := HE1.out.symm
        have e2 : E1.length = N := HN.out.symm
        refine ⟨?_, ⟨v2, cs2, ?_⟩, hbw3.setCell (p := ⟨B, 1, none⟩) (Nat.le_refl _) _⟩
        · rw [e1, e2]; rfl
        · rw [e1, e2]; exact hL3.count (N + 1)
end Go.Proofs.Qxb6600841a
