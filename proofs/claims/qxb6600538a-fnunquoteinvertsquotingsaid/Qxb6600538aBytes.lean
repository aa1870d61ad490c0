/- A row of bytes that the call has made, with or without the mark that '[]byte(s)' leaves behind its last cell: what an append, of a byte or of a string, makes of it. -/
import Derived.Test.Qxb6600538aQuote
import Derived.Deep.AppendSrc
import Derived.Deep.Upon
import Derived.Deep.MidRow
import Derived.Lib.ConvBytes
namespace Go.Proofs.Qxb6600538a
open Go.RowKit

structure Row (w : World) (B g cap : Nat) (l : List UInt8) : Prop where
  base : B ≤ g
  lt : g < w.heap.size
  le : l.length ≤ cap
  max : cap ≤ maxLen
  cells : ∀ j (hj : j < l.length), w.cell? ⟨g, j, none⟩ = some (.int .u8 (l[j].toNat : Int))
  spare : ∀ j, j < cap → (w.cell? ⟨g, j, none⟩).isSome = true ∧ w.frozen? ⟨g, j, none⟩ = false

theorem Row.kept {w w' : World} {B g cap : Nat} {l : List UInt8} (h : Row w B g cap l) (hs : w.heap.size ≤ w'.heap.size) (hb : w'.heap[g]? = w.heap[g]?) : Row w' B g cap l := by
  have hc : ∀ j, w'.cell? ⟨g, j, none⟩ = w.cell? ⟨g, j, none⟩ := fun j => World.cell?_of_block (a := ⟨g, j, none⟩) hb
  have hf : ∀ j, w'.frozen? ⟨g, j, none⟩ = w.frozen? ⟨g, j, none⟩ := fun j => World.frozen?_of_block (a := ⟨g, j, none⟩) hb
  exact ⟨h.base, Nat.lt_of_lt_of_le h.lt hs, h.le, h.max, fun j hj => (hc j).trans (h.cells j hj), fun j hj => by rw [hc, hf]; exact h.spare j hj⟩

theorem Row.alloc {w : World} {B g cap : Nat} {l : List UInt8} (h : Row w B g cap l) (o : Obj) : Row (w.alloc o) B g cap l :=
  h.kept (by simp) (Below.heap_alloc w o g h.lt)

/-- '[]byte(s)'. -/
theorem row_conv (w : World) (B : Nat) (s : ByteArray) (hB : B ≤ w.heap.size) (hs : s.size ≤ maxLen) : Row (Lib.bytesWorld w 5 s) B w.heap.size (grownCap w s.size 0 5) s.data.toList := by
  have hn := Lib.bytesWorld_at_new w 5 s
  have hge := grownCap_ge w s.size 0 5
  have hsz : (Lib.bytesCells w 5 s).size = grownCap w s.size 0 5 := by
    simp [Lib.bytesCells]; omega
  refine ⟨hB, by rw [Lib.bytesWorld_size]; omega, by simpa using hge, grownCap_le_maxLen w s.size 0 5 hs, ?_, ?_⟩
  · intro j hj
    have hj' : j < s.size := by simpa using hj
    rw [Lib.bytesWorld_cell w 5 s j hj']
    simp [List.getD, List.getElem?_eq_getElem hj]
  · intro j hj
    constructor
    · simp [World.cell?, hn, hsz, hj]
    · simp only [World.frozen?, hn, hsz]
      simp
      omega

theorem below_conv (w : World) (B : Nat) (s : ByteArray) (hB : B ≤ w.heap.size) : Below B w (Lib.bytesWorld w 5 s) := by
  refine ⟨?_, ?_, ?_, by rw [Lib.bytesWorld_size]; omega, fun k hk => Lib.bytesWorld_at_old w 5 s k (by omega)⟩
  · unfold Lib.bytesWorld World.freeze; split <;> rfl
  · unfold Lib.bytesWorld World.freeze; split <;> rfl
  · unfold Lib.bytesWorld World.freeze; split <;> rfl

theorem tape_setCells (g : Nat) : ∀ (vs : List Value) (o : Nat) (w : World), (w.setCells g o vs).tape = w.tape
  | [], _, _ => rfl
  | v :: vs, o, w => by
    show ((w.setCell ⟨g, o, none⟩ v).setCells g (o + 1) vs).tape = _
    rw [tape_setCells g vs]; rfl

theorem size_setCells (g : Nat) : ∀ (vs : List Value) (o : Nat) (w : World), (w.setCells g o vs).heap.size = w.heap.size
  | [], _, _ => rfl
  | v :: vs, o, w => by
    show ((w.setCell ⟨g, o, none⟩ v).setCells g (o + 1) vs).heap.size = _
    rw [size_setCells g vs]; simp [World.setCell]

theorem below_setCells {w : World} {B g : Nat} (hB : B ≤ g) (hg : g < w.heap.size) (o : Nat) (vs : List Value) : Below B w (w.setCells g o vs) :=
  ⟨World.os_setCells w g o vs, tape_setCells g vs o w, World.output_setCells w g o vs, by rw [size_setCells]; exact Nat.le_refl _, fun k hk => World.heap_setCells_other w g o vs (by omega) (by omega)⟩

/-- What an append makes of such a row. -/
theorem run_append_row {w : World} {B g cap : Nat} {l : List UInt8} (h : Row w B g cap l) (tx ty : TypeId) (x : Value) (news : List UInt8) (hs : Src Try.prog 1 tx x news.length (Lib.byteCells news) w)
    (hb : l.length + news.length ≤ 140737488355328) (hB : B ≤ w.heap.size) :
    ∃ g' cap' w', (Builtin.append_ #[26, tx] ty #[.slice (some ⟨g, 0, none⟩) l.length cap, x]).run Try.prog w = .ok (.slice (some ⟨g', 0, none⟩) (l.length + news.length) cap') w' ∧ Row w' B g' cap' (l ++ news) ∧ Below B w w' := by
  obtain ⟨i0, hi, hz0, hz1, hz2⟩ := info_parts Try.info5
  have hs' : Src Try.prog i0.size tx x news.length (Lib.byteCells news) w := by rw [hz1]; exact hs
  by_cases hroom : l.length + news.length ≤ cap
  · have hr := run_append_room_src (P := Try.prog) w 26 tx ty 5 i0 Try.underlying26 hi g 0 l.length cap x news.length (Lib.byteCells news) hs' hroom
      (fun j hj => by rw [hz1]; simp only [Nat.zero_add, Nat.mul_one]; exact (h.spare _ (by rw [Lib.byteCells_length] at hj; omega)).1)
      (fun j hj => by rw [hz1]; simp only [Nat.zero_add, Nat.mul_one]; exact (h.spare _ (by rw [Lib.byteCells_length] at hj; omega)).2)
    rw [hz1] at hr
    simp only [Nat.zero_add, Nat.mul_one] at hr
    refine ⟨g, cap, _, hr, ⟨h.base, by rw [size_setCells]; exact h.lt, by simpa using hroom, h.max, ?_, ?_⟩, below_setCells h.base h.lt _ _⟩
    · intro j hj
      by_cases hjl : j < l.length
      · rw [World.cell?_setCells_out g _ _ w _ (fun _ _ => Or.inl hjl), h.cells j hjl]
        simp [hjl]
      · have hj2 : j - l.length < (Lib.byteCells news).length := by rw [Lib.byteCells_length]; simp at hj; omega
        have := World.cell?_setCells_in g (Lib.byteCells news) l.length w (fun t ht => (h.spare _ (by rw [Lib.byteCells_length] at ht; omega)).1) (j - l.length) hj2
        rw [show l.length + (j - l.length) = j by omega] at this
        rw [this]
        simp [Lib.byteCells, List.getElem_append_right (by omega : l.length ≤ j)]
    · intro j hj
      exact ⟨World.isSome_setCells g _ _ w _ (h.spare j hj).1, by rw [World.frozen?_setCells]; exact (h.spare j hj).2⟩
  · have hold : (Builtin.firstCells i0.size l.length (.slice (some ⟨g, 0, none⟩) l.length cap)).run Try.prog w.drew = .ok (Lib.byteCells l).toArray w.drew := by
      refine run_firstCells_some w.drew i0.size l.length ⟨g, 0, none⟩ l.length cap (Lib.byteCells l) (by rw [hz1, Lib.byteCells_length, Nat.mul_one]) ?_
      intro j u hj
      have hjl : j < l.length := by
        have := (List.getElem?_eq_some_iff.1 hj).1
        rwa [Lib.byteCells_length] at this
      have hc := h.cells j hjl
      simp [Lib.byteCells, List.getElem?_eq_getElem hjl] at hj
      subst hj
      rw [show (⟨g, 0, none⟩ : Addr).add j = ⟨g, j, none⟩ by unfold Addr.add; split <;> simp_all]
      simpa using hc
    have hr := run_append_grow_src (P := Try.prog) w 26 tx ty 5 i0 (.int .u8 0) Try.underlying26 hi hz0 (some ⟨g, 0, none⟩) l.length cap (Lib.byteCells l) hold x news.length (Lib.byteCells news) hs' (by omega) (by omega)
      (growslice_fits (by omega) (by rw [hz2]; omega))
    have hge := grownCap_ge w (l.length + news.length) cap 5
    have hmax : l.length + news.length ≤ maxLen := by unfold maxLen; omega
    have hle := grownCap_le_maxLen w (l.length + news.length) cap 5 hmax
    obtain ⟨C, hC⟩ : ∃ C : Array Value, C = ((Lib.byteCells l) ++ (Lib.byteCells news)).toArray ++ Builtin.zeroCells (Value.int .u8 0).cells (grownCap w (l.length + news.length) cap 5 - (l.length + news.length)) := ⟨_, rfl⟩
    rw [← hC] at hr
    have hCs : C.size = grownCap w (l.length + news.length) cap 5 := by
      rw [hC]; simp [size_zeroCells, Lib.byteCells_length, Value.cells]; omega
    have hnew : (w.drew.alloc (.cells C 5)).heap[w.heap.size]? = some (.cells C 5 (0, 0)) := heap_alloc_new w.drew _
    refine ⟨w.heap.size, _, _, hr, ⟨hB, by simp, by simpa using hge, hle, ?_, ?_⟩, ((Below.refl B w).drew).alloc hB _⟩
    · intro j hj
      have hj' : j < l.length + news.length := by simpa using hj
      rw [Lib.cell_of_heap hnew]
      have : C[j]? = (Lib.byteCells (l ++ news))[j]? := by
        rw [hC, Lib.byteCells_append]
        simp only [Array.getElem?_append, List.size_toArray, List.length_append, Lib.byteCells_length]
        rw [if_pos hj']
        simp
      show C[j]? = _
      rw [this]
      unfold Lib.byteCells
      rw [List.getElem?_map, List.getElem?_eq_getElem hj]
      rfl
    · intro j hj
      rw [Lib.cell_of_heap hnew]
      refine ⟨?_, Lib.frozen_of_heap hnew j⟩
      show (C[j]?).isSome = true
      simp [hCs, hj]

/-- 'string(b)' of such a row. -/
theorem conv_row {w : World} {B g cap : Nat} {l : List UInt8} (h : Row w B g cap l) :
    (convert 26 9 (.slice (some ⟨g, 0, none⟩) l.length cap)).run Try.prog w = .ok (.string ⟨l.toArray⟩) w := by
  refine run_convert_bytes_back w 26 9 5 ⟨g, 0, none⟩ cap l Try.underlying26 Try.underlying5 Try.underlying9 ?_
  intro j hj
  rw [show (⟨g, 0, none⟩ : Addr).add j = ⟨g, j, none⟩ by unfold Addr.add; split <;> simp_all]
  exact h.cells j hj

/-- The append, for the walk. -/
theorem wpList_append_row {w : World} {ops : Array Oper} {rest : List Oper} {o : Oper} {a : Act} {Q : Exit → Act → World → Prop} (hgd : o.guard = none) (sl xo : Operand) (tx : TypeId)
    (ho : o.op = .call { callee := .builtin .append, args := #[sl, xo], argTypes := #[26, tx] })
    {B g cap n m : Nat} {l : List UInt8} (hn : l.length = n) (hsl : a.eval sl = .slice (some ⟨g, 0, none⟩) n cap) (h : Row w B g cap l) (x : Value) (news : List UInt8) (hm : news.length = m) (hx : a.eval xo = x)
    (hs : Src Try.prog 1 tx x news.length (Lib.byteCells news) w) (hb : n + m ≤ 140737488355328) (hB : B ≤ w.heap.size)
    (hK : ∀ g' cap' w', Row w' B g' cap' (l ++ news) → Below B w w' → wpList Try.prog ops Q rest (a.put o.dst (.slice (some ⟨g', 0, none⟩) (n + m) cap')) w') : wpList Try.prog ops Q (o :: rest) a w := by
  subst hn hm
  refine wpList_plain hgd fun K hK' => ?_
  obtain ⟨g', cap', w', hr, h2, h3⟩ := run_append_row h tx o.type x news hs hb hB
  unfold Oper.wp execOp
  simp only [ho, resolve, invoke, builtin, Sem.run_bind, Sem.run_pure, Result.andThen_ok, List.map_toArray, List.map_cons, List.map_nil, hsl, hx, hr]
  exact hK' _ _ (hK g' cap' w' h2 h3)

theorem src_string (w : World) (s : ByteArray) : Src Try.prog 1 9 (.string s) s.data.toList.length (Lib.byteCells s.data.toList) w := by
  have h := Src.ofString (P := Try.prog) w Try.underlying9 s
  have e : s.data.toList.length = s.size := by simp
  rw [e]
  exact h

theorem src_byte (w : World) (c : UInt8) : Src Try.prog 1 26 (.slice (some ⟨w.heap.size, 0, none⟩) 1 1) [c].length (Lib.byteCells [c]) (w.alloc (.cells #[.int .u8 (c.toNat : Int)] 5)) := by
  refine Src.ofSlice (P := Try.prog) _ Try.underlying26 ⟨w.heap.size, 0, none⟩ 1 1 (Lib.byteCells [c]) rfl ?_ one_cell
  exact cells_one (by simp)

theorem conv_bytes (w : World) (B : Nat) (l : List UInt8) (hB : B ≤ w.heap.size) (hl : l.length ≤ maxLen) :
    ∃ g cap W, (convert 9 26 (.string ⟨l.toArray⟩)).run Try.prog w = .ok (.slice (some ⟨g, 0, none⟩) l.length cap) W ∧ Row W B g cap l ∧ Below B w W := by
  have h1 := Lib.run_convert_string_bytes (P := Try.prog) w 9 26 5 ⟨l.toArray⟩ Try.underlying9 Try.underlying26 Try.underlying5
  have e : (⟨l.toArray⟩ : ByteArray).size = l.length := by simp [ByteArray.size]
  have h2 := row_conv w B ⟨l.toArray⟩ hB (by rw [e]; exact hl)
  have h3 := below_conv w B ⟨l.toArray⟩ hB
  rw [e] at h1 h2
  exact ⟨_, _, _, h1, by simpa using h2, h3⟩

end Go.Proofs.Qxb6600538a
