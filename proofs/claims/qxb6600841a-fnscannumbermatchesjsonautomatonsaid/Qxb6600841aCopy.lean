/- What both laws on scanNumber begin with: the bound on the length, and the copy of the line. -/
import Derived.Test.Qxb6600841aScan
import Derived.OwnWalk
import Derived.Laws.CopyOwn
import Derived.WalkSpells
namespace Go.Proofs.Qxb6600841a
open Go.RowKit Go.Proofs.Qxb6600841a.Num

theorem Try.info5 : (Try.prog.info? 5).map (fun i => (i.zero, i.size, i.bytes)) = some (some (.int .u8 0), 1, 1) := by kernel_rfl
theorem Try.size5 : (Try.prog.info? 5).map (·.size) = some 1 := by kernel_rfl

/-- A slice of bytes that came in, not nil: its first n elements. -/
def Bytes (w : World) (x : Addr) (n : Nat) (L : List Int) : Prop := L.length = n ∧ ∀ j, j < n → w.cell? (x.add j) = some (.int .u8 (byteAt L j))

theorem Bytes.later {w w' : World} {x : Addr} {n : Nat} {L : List Int} (h : Bytes w x n L) (hb : w.grownBy w' none) : Bytes w' x n L :=
  ⟨h.1, fun j hj => hb.cell (h.2 j hj) (by simp)⟩

/-- The cells of a line. -/
def cellsOf (L : List Int) : List Value := L.map (Value.int .u8)

theorem cellsOf_at {L : List Int} {j : Nat} (h : j < L.length) : (cellsOf L)[j]? = some (.int .u8 (byteAt L j)) := by
  simp [cellsOf, byteAt, List.getD, List.getElem?_eq_getElem h]

theorem splice_whole {cur cs : List Value} (h : cs.length = cur.length) : splice cur 0 cs = cs := by
  simp [splice, h]

theorem line_of_heap {w : World} {g n : Nat} {L : List Int} (hl : L.length = n) (h : w.heap[g]? = some (.cells (cellsOf L).toArray 5 (0, 0))) : Line w g 0 n L := by
  refine ⟨hl, fun j hj => ?_⟩
  simp only [World.cell?, h, Nat.zero_add]
  have := cellsOf_at (L := L) (j := j) (by omega)
  simpa using this

theorem Line.drop {w : World} {b off n i : Nat} {L : List Int} (h : Line w b off n L) (_hi : i ≤ n) : Line w b (off + i) (n - i) (L.drop i) := by
  refine ⟨by rw [List.length_drop, h.1], fun j hj => ?_⟩
  rw [show off + i + j = off + (i + j) by omega, h.2 (i + j) (by omega)]
  congr 2
  simp [byteAt, List.getD]

theorem Line.take {w : World} {b off n m : Nat} {L : List Int} (h : Line w b off n L) (hm : m ≤ n) : Line w b off m (L.take m) := by
  refine ⟨by rw [List.length_take, h.1]; omega, fun j hj => ?_⟩
  rw [h.2 j (by omega)]
  congr 2
  simp [byteAt, List.getD, hj]

/-- 'zzc := make([]byte, n); copy(zzc, line)': what the copy does behind the make. -/
theorem run_copy_line {w w1 : World} {x : Addr} {n cap : Nat} {L : List Int} (hB : Bytes w x n L)
    (hown : w1.ownsRow w.heap.size 5 1 (.slice (some ⟨w.heap.size, 0, none⟩) n n) n (madeCells (Value.int .u8 0).cells (n * 1)).toList) (hgrow : w.grownBy w1 none) :
    ∃ w2, (Builtin.copy_ #[22, 22] 3 #[.slice (some ⟨w.heap.size, 0, none⟩) n n, .slice (some x) n cap]).run Try.prog w1 = .ok (.int .i64 (n : Int)) w2 ∧ Line w2 w.heap.size 0 n L ∧ Below w.heap.size w w2 := by
  obtain ⟨cur, hg, hcur⟩ : ∃ cur : Array Value, w1.heap[w.heap.size]? = some (.cells cur 5 (0, 0)) ∧ cur.size = n := by
    rcases hown.2 with ⟨h, _⟩ | ⟨g, c, cur, h, _, hg, _, _, hs, _⟩
    · simp at h
    · simp at h
      obtain ⟨rfl, rfl⟩ := h
      exact ⟨cur, hg, by simpa using hs⟩
  have hB1 := hB.later hgrow
  have hlen : (cellsOf L).length = n := by simp [cellsOf, hB.1]
  have hr := run_copy_row (P := Try.prog) w1 22 22 3 5 w.heap.size 0 n n x n cap cur 5 (cellsOf L) Try.underlying22 Try.size5 hg (by rw [hlen]; simp)
    (fun j v hj => by
      have hjn : j < n := by
        have := (List.getElem?_eq_some_iff.1 hj).1
        omega
      rw [cellsOf_at (by rw [hB.1]; exact hjn)] at hj
      rw [hB1.2 j hjn]
      exact hj)
    (by rw [hlen, hcur]; omega)
    (by intro v hv; obtain ⟨z, _, rfl⟩ := List.mem_map.1 hv; rfl)
  have e : cur.toList.take 0 ++ cellsOf L ++ cur.toList.drop (0 + (cellsOf L).length) = cellsOf L := by
    rw [List.drop_of_length_le (by simp; omega)]; simp
  rw [e, hlen] at hr
  refine ⟨_, hr, line_of_heap hB.1 (setRow_heap w1 w.heap.size cur _ 5 _ hg), ?_⟩
  exact below_setRow ((Below.refl _ w).grown hgrow (Nat.le_refl _) (fun k h => by cases h)) (Nat.le_refl _) _

end Go.Proofs.Qxb6600841a
