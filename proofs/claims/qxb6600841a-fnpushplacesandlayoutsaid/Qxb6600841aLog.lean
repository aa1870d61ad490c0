/- The event log in memory: what it holds, and what an append does to it. No walk in this text. -/
import Derived.Test.Qxb6600841aProg
import Derived.WalkKit
import Derived.OwnWalk
import Derived.Deep.AppendLies
import Derived.OneCell
namespace Go.Proofs.Qxb6600841a
open Go.RowKit

theorem Try.info42 : (Try.prog.info? 42).map (fun i => (i.zero, i.size, i.bytes)) = some (some (.agg #[.int .i64 0, .int .i32 0, .int .u8 0, .bool false, .int .i64 0, .int .i64 0]), 6, 32) := by kernel_rfl
theorem Try.info54 : (Try.prog.info? 54).map (fun i => (i.zero, i.size, i.bytes)) = some (some (.slice none 0 0), 1, 24) := by kernel_rfl

/-- An entry. -/
structure Ent where
  sec : Int
  nsec : Int
  typ : Int
  large : Bool
  micros : Int
  next : Int

def Ent.cells (e : Ent) : List Value := [.int .i64 e.sec, .int .i32 e.nsec, .int .u8 e.typ, .bool e.large, .int .i64 e.micros, .int .i64 e.next]
def Ent.zero : Ent := ⟨0, 0, 0, false, 0, 0⟩

theorem Ent.cells_length (e : Ent) : e.cells.length = 6 := rfl
theorem Ent.cells_one (e : Ent) : ∀ u ∈ e.cells, u.oneCell' = true := by
  intro u hu
  simp only [Ent.cells, List.mem_cons, List.not_mem_nil, or_false] at hu
  rcases hu with rfl | rfl | rfl | rfl | rfl | rfl <;> rfl

def flat : List Ent → List Value
  | [] => []
  | e :: t => e.cells ++ flat t

theorem flat_length : ∀ l : List Ent, (flat l).length = l.length * 6
  | [] => rfl
  | e :: t => by rw [flat, List.length_append, flat_length t, Ent.cells_length, List.length_cons]; omega

theorem flat_append (b : List Ent) : ∀ a : List Ent, flat (a ++ b) = flat a ++ flat b
  | [] => rfl
  | e :: t => by rw [List.cons_append, flat, flat_append b t, flat, List.append_assoc]

theorem flat_at : ∀ (l : List Ent) (k : Nat) (e : Ent) (j : Nat) (u : Value), l[k]? = some e → e.cells[j]? = some u → (flat l)[6 * k + j]? = some u
  | [], k, e, j, u, h, _ => by simp at h
  | e' :: t, 0, e, j, u, h, hj => by
    simp at h; subst h
    have hj6 : j < e'.cells.length := (List.getElem?_eq_some_iff.1 hj).1
    rw [flat, Nat.mul_zero, Nat.zero_add, List.getElem?_append_left hj6]
    exact hj
  | e' :: t, k + 1, e, j, u, h, hj => by
    have := flat_at t k e j u (by simpa using h) hj
    rw [flat, List.getElem?_append_right (by rw [Ent.cells_length]; omega), Ent.cells_length, show 6 * (k + 1) + j - 6 = 6 * k + j by omega]
    exact this

/-- The i-th chunk of the places. -/
def ck (E : List Ent) (i : Nat) : List Ent := (E.drop (4096 * i)).take 4096

theorem ck_length (E : List Ent) (i : Nat) : (ck E i).length = min 4096 (E.length - 4096 * i) := by simp [ck]

theorem ck_at {E : List Ent} {i k : Nat} {e : Ent} (hk : k < 4096) (h : E[4096 * i + k]? = some e) : (ck E i)[k]? = some e := by
  simp [ck, hk, h]

theorem ck_snoc_old {E : List Ent} {e : Ent} {i : Nat} (h : 4096 * i + 4096 ≤ E.length) : ck (E ++ [e]) i = ck E i := by
  unfold ck
  rw [List.drop_append_of_le_length (by omega), List.take_append_of_le_length (by simp; omega)]

theorem ck_snoc_last {E : List Ent} {e : Ent} {i : Nat} (h : 4096 * i ≤ E.length) (h2 : E.length < 4096 * i + 4096) : ck (E ++ [e]) i = ck E i ++ [e] := by
  unfold ck
  rw [List.drop_append_of_le_length h, List.take_of_length_le (by simp; omega), List.take_of_length_le (by simp; omega)]

/-- How many chunks. -/
def nch (n : Nat) : Nat := (n + 4095) / 4096

/-- The log in block B: N places are counted; E is what the chunks hold. -/
structure LogN (w : World) (B N : Nat) (E : List Ent) (v : Value) (cs : List Value) : Prop where
  head : w.heap[B]? = some (.cells #[v, .int .i64 (N : Int)] 36 (0, 0))
  own : w.ownsRow (B + 1) 54 1 v cs.length cs
  len : cs.length = nch E.length
  chunk : ∀ (i : Nat) (c : Value), cs[i]? = some c → w.ownsRow (B + 1) 42 6 c (ck E i).length (flat (ck E i))
  apart : ∀ (i j : Nat) (c d : Value), cs[i]? = some c → cs[j]? = some d → i ≠ j → c.ownBlock ≠ d.ownBlock

theorem LogN.lt {w : World} {B N : Nat} {E : List Ent} {v : Value} {cs : List Value} (h : LogN w B N E v cs) : B < w.heap.size := (Array.getElem?_eq_some_iff.1 h.head).1

/-- New blocks alone. -/
theorem LogN.grow {w w' : World} {B N : Nat} {E : List Ent} {v : Value} {cs : List Value} (h : LogN w B N E v cs) (hg : w.grownBy w' none) : LogN w' B N E v cs where
  head := (hg.block B h.lt (by simp)).trans h.head
  own := h.own.kept hg (by cases v.ownBlock <;> simp)
  len := h.len
  chunk := fun i c hc => (h.chunk i c hc).kept hg (by cases c.ownBlock <;> simp)
  apart := h.apart

theorem grownBy_none_alloc {w w' : World} (h : w.grownBy w' none) (o : Obj) : w.grownBy (w'.alloc o) none :=
  ⟨h.os, h.tape, h.output, by simp; have := h.size; omega, fun k hk hne => (Below.heap_alloc w' o k (by have := h.size; omega)).trans (h.block k hk hne)⟩

theorem grownBy_none_drew {w w' : World} (h : w.grownBy w' none) : w.grownBy w'.drew none := ⟨h.os, h.tape, h.output, h.size, h.block⟩

theorem grownBy_none_trans {a b c : World} (h : a.grownBy b none) (k : b.grownBy c none) : a.grownBy c none :=
  ⟨k.os.trans h.os, k.tape.trans h.tape, k.output.trans h.output, Nat.le_trans h.size k.size, fun i hi hne => (k.block i (Nat.lt_of_lt_of_le hi h.size) hne).trans (h.block i hi hne)⟩

/-- A row of one kind lies not where a row of another kind lies. -/
theorem kinds_apart {w : World} {b1 b2 : Nat} {e1 e2 : TypeId} {s1 s2 n1 n2 : Nat} {v1 v2 : Value} {x1 x2 : List Value} (h1 : w.ownsRow b1 e1 s1 v1 n1 x1) (h2 : w.ownsRow b2 e2 s2 v2 n2 x2) (hp : 0 < n1) (hne : e1 ≠ e2) : v1.ownBlock ≠ v2.ownBlock := by
  rcases h1.2 with ⟨_, h0⟩ | ⟨g, cap, cur, rfl, _, hg, _⟩
  · omega
  · rcases h2.2 with ⟨rfl, _⟩ | ⟨g', cap', cur', rfl, _, hg', _⟩
    · simp [Value.ownBlock]
    · intro e
      have e' : g = g' := by simpa [Value.ownBlock] using e
      subst e'
      rw [hg] at hg'
      simp at hg'
      exact hne hg'.2

/-- The count is stored. -/
theorem LogN.count {w : World} {B N : Nat} {E : List Ent} {v : Value} {cs : List Value} (h : LogN w B N E v cs) (M : Nat) : LogN (w.setCell ⟨B, 1, none⟩ (.int .i64 (M : Int))) B M E v cs where
  head := by simp [World.setCell, Array.getElem?_modify, h.head]
  own := ownsRow_setCell_below h.own (a := ⟨B, 1, none⟩) (by simp) _
  len := h.len
  chunk := fun i c hc => ownsRow_setCell_below (h.chunk i c hc) (a := ⟨B, 1, none⟩) (by simp) _
  apart := h.apart

theorem block_base {w : World} {base n size : Nat} {e : TypeId} {v : Value} {xs : List Value} (h : w.ownsRow base e size v n xs) {k : Nat} (hk : k < base) : some k ≠ v.ownBlock := by
  intro e
  have := (h.lt k e.symm).1
  omega

theorem nch_same {n : Nat} (h1 : 0 < n) (h2 : n - 4096 * (nch n - 1) < 4096) : nch (n + 1) = nch n := by
  unfold nch at *; omega

theorem nch_next {n : Nat} (h2 : n = 4096 * nch n) : nch (n + 1) = nch n + 1 := by
  unfold nch at *; omega

/-- AN ENTRY APPENDED TO THE LAST CHUNK, the chunk stored back. -/
theorem LogN.pushed {w w' : World} {B N : Nat} {E : List Ent} {cs : List Value} {gc capc i g' cap' : Nat} {c : Value} {e : Ent}
    (h : LogN w B N E (.slice (some ⟨gc, 0, none⟩) cs.length capc) cs) (hi : i + 1 = cs.length) (hc : cs[i]? = some c) (hlt : (ck E i).length < 4096)
    (hown : w'.ownsRow (B + 1) 42 6 (.slice (some ⟨g', 0, none⟩) ((ck E i).length + 1) cap') ((ck E i).length + 1) (flat (ck E i) ++ e.cells)) (hg : w.grownBy w' c.ownBlock) (hat : c.ownBlock = some g' ∨ g' = w.heap.size) :
    LogN (w'.setCell ⟨gc, i, none⟩ (.slice (some ⟨g', 0, none⟩) ((ck E i).length + 1) cap')) B N (E ++ [e]) (.slice (some ⟨gc, 0, none⟩) cs.length capc) (cs.set i (.slice (some ⟨g', 0, none⟩) ((ck E i).length + 1) cap')) := by
  have hlen := h.len
  have hckl := ck_length E i
  have hnn : 0 < nch E.length := by omega
  have hE : 4096 * i < E.length ∧ E.length ≤ 4096 * i + 4096 := by unfold nch at *; omega
  have hpos : 0 < (ck E i).length := by omega
  have hcown := h.chunk i c hc
  have hown1 : w'.ownsRow (B + 1) 54 1 (.slice (some ⟨gc, 0, none⟩) cs.length capc) cs.length cs := h.own.kept hg (Or.inr (kinds_apart hcown h.own hpos (by decide)).symm)
  have hgcB : B + 1 ≤ gc := (h.own.lt gc rfl).1
  have hst := hown1.stored i (.slice (some ⟨g', 0, none⟩) ((ck E i).length + 1) cap')
  refine ⟨?_, ?_, ?_, ?_, ?_⟩
  · rw [Below.heap_setCell _ _ _ _ (by simp; omega), hg.block B h.lt (block_base hcown (by omega))]
    exact h.head
  · rw [List.length_set]; exact hst.1
  · rw [List.length_set, h.len, List.length_append]
    exact (nch_same (by omega) (by rw [← h.len]; rw [show cs.length - 1 = i by omega]; omega)).symm
  · intro j d hd
    by_cases hji : j = i
    · subst hji
      rw [List.getElem?_set_self (by omega)] at hd
      obtain rfl := Option.some.inj hd
      rw [ck_snoc_last (by omega) (by omega), flat_append, List.length_append]
      refine ownsRow_setCell_other ?_ ?_ _
      · simpa [flat] using hown
      · exact kinds_apart hown hown1 (by omega) (by decide)
    · rw [List.getElem?_set_ne (Ne.symm hji)] at hd
      have hjlt : j < cs.length := (List.getElem?_eq_some_iff.1 hd).1
      have hd0 := h.chunk j d hd
      have hjl := ck_length E j
      rw [ck_snoc_old (by omega)]
      have hd1 : w'.ownsRow (B + 1) 42 6 d (ck E j).length (flat (ck E j)) := hd0.kept hg (Or.inr (h.apart j i d c hd hc hji))
      exact ownsRow_setCell_other (a := ⟨gc, i, none⟩) hd1 (kinds_apart hd1 hown1 (by omega) (by decide)) _
  · have hfar : ∀ j d, cs[j]? = some d → j ≠ i → d.ownBlock ≠ some g' := by
      intro j d hd hji
      rcases hat with hat | hat
      · rw [← hat]; exact h.apart j i d c hd hc hji
      · intro e
        have := (h.chunk j d hd).lt g' e
        omega
    intro j k d d' hd hd' hjk
    by_cases hji : j = i
    · subst hji
      rw [List.getElem?_set_self (by omega)] at hd
      obtain rfl := Option.some.inj hd
      rw [List.getElem?_set_ne hjk] at hd'
      exact (hfar k d' hd' (Ne.symm hjk)).symm
    · rw [List.getElem?_set_ne (Ne.symm hji)] at hd
      by_cases hki : k = i
      · subst hki
        rw [List.getElem?_set_self (by omega)] at hd'
        obtain rfl := Option.some.inj hd'
        exact hfar j d hd hji
      · rw [List.getElem?_set_ne (Ne.symm hki)] at hd'
        exact h.apart j k d d' hd hd' hjk

/-- A NEW CHUNK, appended to the chunks. -/
theorem LogN.chunked {w w' : World} {B N : Nat} {E : List Ent} {cs : List Value} {g' cap' : Nat} {v c1 : Value} {e : Ent}
    (h : LogN w B N E v cs) (hfull : E.length = 4096 * cs.length) (hc1 : w.ownsRow (B + 1) 42 6 c1 1 e.cells) (hfar : ∀ (i : Nat) (c : Value), cs[i]? = some c → c.ownBlock ≠ c1.ownBlock)
    (hown : w'.ownsRow (B + 1) 54 1 (.slice (some ⟨g', 0, none⟩) (cs.length + 1) cap') (cs.length + 1) (cs ++ [c1])) (hg : w.grownBy w' v.ownBlock) :
    LogN (w'.setCell ⟨B, 0, none⟩ (.slice (some ⟨g', 0, none⟩) (cs.length + 1) cap')) B N (E ++ [e]) (.slice (some ⟨g', 0, none⟩) (cs.length + 1) cap') (cs ++ [c1]) := by
  have hlen := h.len
  refine ⟨?_, ?_, ?_, ?_, ?_⟩
  · have hb := (hg.block B h.lt (block_base h.own (by omega))).trans h.head
    simp [World.setCell, Array.getElem?_modify, hb]
  · rw [List.length_append]; exact ownsRow_setCell_below hown (a := ⟨B, 0, none⟩) (by simp) _
  · rw [List.length_append, List.length_append, h.len]
    exact (nch_next (by rw [← h.len]; exact hfull)).symm
  · intro j d hd
    refine ownsRow_setCell_below ?_ (a := ⟨B, 0, none⟩) (by simp) _
    by_cases hj : j < cs.length
    · rw [List.getElem?_append_left hj] at hd
      have hjl := ck_length E j
      rw [ck_snoc_old (by omega)]
      exact (h.chunk j d hd).kept hg (Or.inr (kinds_apart (h.chunk j d hd) h.own (by omega) (by decide)))
    · have hj2 : j = cs.length := by
        have := (List.getElem?_eq_some_iff.1 hd).1
        simp at this; omega
      subst hj2
      rw [List.getElem?_append_right (Nat.le_refl _)] at hd
      simp at hd
      subst hd
      have e0 : ck E cs.length = [] := by
        apply List.eq_nil_of_length_eq_zero
        rw [ck_length]; omega
      rw [ck_snoc_last (by omega) (by omega), e0]
      simp only [List.nil_append, List.length_cons, List.length_nil, flat, List.append_nil]
      exact hc1.kept hg (Or.inr (kinds_apart hc1 h.own (by omega) (by decide)))
  · intro j k d d' hd hd' hjk
    have hcase : ∀ (j : Nat) (d : Value), (cs ++ [c1])[j]? = some d → cs[j]? = some d ∨ (j = cs.length ∧ d = c1) := by
      intro j d hd
      by_cases hj : j < cs.length
      · rw [List.getElem?_append_left hj] at hd; exact .inl hd
      · have hj2 : j = cs.length := by
          have := (List.getElem?_eq_some_iff.1 hd).1
          simp at this; omega
        subst hj2
        rw [List.getElem?_append_right (Nat.le_refl _)] at hd
        simp at hd
        exact .inr ⟨rfl, hd.symm⟩
    rcases hcase j d hd with hj | ⟨hj, rfl⟩
    · rcases hcase k d' hd' with hk | ⟨hk, rfl⟩
      · exact h.apart j k d d' hj hk hjk
      · exact hfar j d hj
    · rcases hcase k d' hd' with hk | ⟨hk, rfl⟩
      · exact (hfar k d' hk).symm
      · omega

/-- The log of a first push: place 0 is no entry's. -/
theorem logN_first {w : World} {B h1 h2 : Nat} (hB : w.heap[B]? = some (.cells #[.slice (some ⟨h2, 0, none⟩) 1 1, .int .i64 1] 36 (0, 0))) (hh2 : w.heap[h2]? = some (.cells #[.slice (some ⟨h1, 0, none⟩) 1 1] 54 (0, 0)))
    (hh1 : w.heap[h1]? = some (.cells Ent.zero.cells.toArray 42 (0, 0))) (hb1 : B < h1) (hb2 : B < h2) : LogN w B 1 [Ent.zero] (.slice (some ⟨h2, 0, none⟩) 1 1) [.slice (some ⟨h1, 0, none⟩) 1 1] where
  head := hB
  own := ⟨rfl, .inr ⟨h2, 1, _, rfl, hb2, hh2, Nat.le_refl _, by unfold maxLen; omega, rfl, rfl⟩⟩
  len := rfl
  chunk := by
    intro i c hc
    have hi : i = 0 := by
      have := (List.getElem?_eq_some_iff.1 hc).1
      simpa using this
    subst hi
    simp at hc
    subst hc
    exact ⟨rfl, .inr ⟨h1, 1, _, rfl, hb1, hh1, Nat.le_refl _, by unfold maxLen; omega, rfl, rfl⟩⟩
  apart := by
    intro i j c d hc hd hij
    have hi : i = 0 := by
      have := (List.getElem?_eq_some_iff.1 hc).1
      simpa using this
    have hj : j = 0 := by
      have := (List.getElem?_eq_some_iff.1 hd).1
      simpa using this
    omega

/-- The empty log. -/
theorem logN_empty {w : World} {B : Nat} (hB : w.heap[B]? = some (.cells #[.slice none 0 0, .int .i64 0] 36 (0, 0))) : LogN w B 0 [] (.slice none 0 0) [] where
  head := hB
  own := World.ownsRow_nil _ _ _ _
  len := rfl
  chunk := by intro i c hc; simp at hc
  apart := by intro i j c d hc; simp at hc

theorem LogN.cell0 {w : World} {B N : Nat} {E : List Ent} {v : Value} {cs : List Value} (h : LogN w B N E v cs) : w.cell? ⟨B, 0, none⟩ = some v := by simp [World.cell?, h.head]
theorem LogN.cell1 {w : World} {B N : Nat} {E : List Ent} {v : Value} {cs : List Value} (h : LogN w B N E v cs) : w.cell? ⟨B, 1, none⟩ = some (.int .i64 (N : Int)) := by simp [World.cell?, h.head]
theorem LogN.froz {w : World} {B N : Nat} {E : List Ent} {v : Value} {cs : List Value} (h : LogN w B N E v cs) (j : Nat) : w.frozen? ⟨B, j, none⟩ = false := by simp [World.frozen?, h.head]

/-- Chunk i: where it stands among the chunks, and where its entries lie. -/
theorem LogN.nth {w : World} {B N : Nat} {E : List Ent} {v : Value} {cs : List Value} (h : LogN w B N E v cs) {i : Nat} (hi : 4096 * i < E.length) :
    ∃ gc capc gl capl, v = .slice (some ⟨gc, 0, none⟩) cs.length capc ∧ cs[i]? = some (.slice (some ⟨gl, 0, none⟩) (ck E i).length capl) ∧ i < cs.length ∧ B < gc ∧ gc < w.heap.size ∧ B < gl ∧ gl < w.heap.size ∧
      w.cell? ⟨gc, i, none⟩ = some (.slice (some ⟨gl, 0, none⟩) (ck E i).length capl) ∧ w.frozen? ⟨gc, i, none⟩ = false := by
  have hlen := h.len
  have hic : i < cs.length := by unfold nch at hlen; omega
  obtain ⟨gc, capc, rfl, hb1, hb2⟩ := h.own.form (by omega)
  have hc : cs[i]? = some cs[i] := List.getElem?_eq_getElem hic
  have hown := h.chunk i _ hc
  have hl := ck_length E i
  obtain ⟨gl, capl, hv, hb3, hb4⟩ := hown.form (by omega)
  rw [hv] at hc
  have hcell := h.own.cells (g := gc) rfl i _ hc
  rw [Addr.add_lit, Nat.zero_add] at hcell
  exact ⟨gc, capc, gl, capl, rfl, hc, hic, hb1, hb2, hb3, hb4, hcell, h.own.frozenAt i⟩

/-- The last chunk. -/
theorem LogN.last {w : World} {B N : Nat} {E : List Ent} {v : Value} {cs : List Value} (h : LogN w B N E v cs) (hE : 0 < E.length) :
    ∃ i gc capc gl capl, i + 1 = cs.length ∧ v = .slice (some ⟨gc, 0, none⟩) (i + 1) capc ∧ cs[i]? = some (.slice (some ⟨gl, 0, none⟩) (ck E i).length capl) ∧ B < gc ∧ gc < w.heap.size ∧ B < gl ∧ gl < w.heap.size ∧
      w.cell? ⟨gc, i, none⟩ = some (.slice (some ⟨gl, 0, none⟩) (ck E i).length capl) ∧ w.frozen? ⟨gc, i, none⟩ = false ∧ 4096 * i < E.length ∧ E.length ≤ 4096 * i + 4096 := by
  have hlen := h.len
  have hi : 4096 * (cs.length - 1) < E.length ∧ E.length ≤ 4096 * (cs.length - 1) + 4096 ∧ 0 < cs.length := by unfold nch at hlen; omega
  obtain ⟨gc, capc, gl, capl, hv, hc, _, h1, h2, h3, h4, h5, h6⟩ := h.nth hi.1
  exact ⟨cs.length - 1, gc, capc, gl, capl, by omega, by rw [hv, show cs.length - 1 + 1 = cs.length by omega], hc, h1, h2, h3, h4, h5, h6, hi.1, hi.2.1⟩

end Go.Proofs.Qxb6600841a
