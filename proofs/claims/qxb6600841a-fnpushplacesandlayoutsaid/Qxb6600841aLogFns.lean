/- The walks of the shims on the log: ZZMakeEntry (18), ZZPush (17), ZZLogN (19), ZZLogChunkCount (20), ZZLogChunkLen (21), ZZLogEntry (22). -/
import Derived.Test.Qxb6600841aPush
namespace Go.Proofs.Qxb6600841a
open Go.RowKit

theorem make_any (s ns t : Int) (lg : Bool) (m nx : Int) (w : World) :
    Calls Try.prog 18 #[.int .i64 s, .int .i32 ns, .int .u8 t, .bool lg, .int .i64 m, .int .i64 nx] w fun r w' =>
      r = .returned (.agg #[.int .i64 s, .int .i32 ns, .int .u8 t, .bool lg, .int .i64 m, .int .i64 nx]) ∧ w.grownBy w' none := by
  go_enter Try.func18, Try.ntmps18
  go_wp2
  refine bodyPost_ret (v := .agg #[.int .i64 s, .int .i32 ns, .int .u8 t, .bool lg, .int .i64 m, .int .i64 nx]) (by simp [results, Try.results18, go_sem]) rfl ⟨rfl, World.grownBy_alloc w _ none⟩

set_option maxHeartbeats 1000000 in
theorem zz_push_any (w : World) (B : Nat) (E : List Ent) (v : Value) (cs : List Value) (s ns t : Int) (lg : Bool) (m nx : Int) (h : LogN w B E.length E v cs) (hE : E.length ≤ 70000) :
    Calls Try.prog 17 #[.pointer (some ⟨B, 0, none⟩), .agg #[.int .i64 s, .int .i32 ns, .int .u8 t, .bool lg, .int .i64 m, .int .i64 nx]] w fun r w' =>
      r = .returned (.int .i64 ((start E).length : Nat)) ∧ (∃ v' cs', LogN w' B ((start E).length + 1) (start E ++ [⟨s, ns, t, lg, m, nx⟩]) v' cs') ∧ Below B w w' := by
  have hlt := h.lt
  go_enter Try.func17, Try.ntmps17
  go_wp2_with fail
  refine (push_any _ B E v cs s ns t lg m nx (h.grow (World.grownBy_alloc w _ none)) hE).mono ?_
  rintro r w1 ⟨rfl, hL, hb⟩
  go_wp2
  go_ret
  exact ⟨rfl, hL, ((Below.refl B w).alloc (by omega) _).trans hb⟩

theorem logn_any (w : World) (B N : Nat) (E : List Ent) (v : Value) (cs : List Value) (h : LogN w B N E v cs) :
    Calls Try.prog 19 #[.pointer (some ⟨B, 0, none⟩)] w fun r w' => r = .returned (.int .i64 (N : Int)) ∧ w' = w := by
  have h1 := h.cell1
  go_enter Try.func19, Try.ntmps19
  go_wp2
  go_ret
  exact ⟨rfl, rfl⟩

theorem count_any (w : World) (B N : Nat) (E : List Ent) (v : Value) (cs : List Value) (h : LogN w B N E v cs) :
    Calls Try.prog 20 #[.pointer (some ⟨B, 0, none⟩)] w fun r w' => r = .returned (.int .i64 (nch E.length : Nat)) ∧ w' = w := by
  have h1 := h.cell0
  rw [← h.len]
  obtain ⟨a, c, hv⟩ : ∃ a c, v = .slice a cs.length c := by
    rcases h.own.2 with ⟨h2, h3⟩ | ⟨g, cap, _, h2, _⟩
    · exact ⟨none, 0, by rw [h2, h3]⟩
    · exact ⟨_, _, h2⟩
  rw [hv] at h1
  clear h hv
  go_enter Try.func20, Try.ntmps20
  go_wp2
  go_ret
  exact ⟨rfl, rfl⟩

theorem len_any (w : World) (B N : Nat) (E : List Ent) (v : Value) (cs : List Value) (h : LogN w B N E v cs) (i : Nat) (hi : 4096 * i < E.length) :
    Calls Try.prog 21 #[.pointer (some ⟨B, 0, none⟩), .int .i64 (i : Int)] w fun r w' => r = .returned (.int .i64 ((ck E i).length : Nat)) ∧ w' = w := by
  obtain ⟨gc, capc, gl, capl, rfl, hc, hic, _, _, _, _, hcell, _⟩ := h.nth hi
  have h1 := h.cell0
  have hi1 : (i : Int) < (cs.length : Int) := by omega
  have hi2 : (0 : Int) ≤ (i : Int) := by omega
  clear h hc
  go_enter Try.func21, Try.ntmps21
  go_wp2
  go_ret
  exact ⟨rfl, rfl⟩

theorem grownBy_none_drewN {w w' : World} (h : w.grownBy w' none) (n : Nat) : w.grownBy (w'.drewN n) none := ⟨h.os, h.tape, h.output, h.size, h.block⟩

/-- The cells of an entry in its chunk. -/
theorem LogN.entry {w : World} {B N : Nat} {E : List Ent} {v : Value} {cs : List Value} (h : LogN w B N E v cs) {i k : Nat} {e : Ent} (hk : k < 4096) (he : E[4096 * i + k]? = some e) :
    ∃ gc capc gl capl, v = .slice (some ⟨gc, 0, none⟩) cs.length capc ∧ i < cs.length ∧ w.cell? ⟨gc, i, none⟩ = some (.slice (some ⟨gl, 0, none⟩) (ck E i).length capl) ∧ k < (ck E i).length ∧
      ∀ j u, e.cells[j]? = some u → w.cell? ⟨gl, k * 6 + j, none⟩ = some u := by
  have hlt : 4096 * i + k < E.length := (List.getElem?_eq_some_iff.1 he).1
  obtain ⟨gc, capc, gl, capl, hv, hc, hic, _, _, _, _, hcell, _⟩ := h.nth (i := i) (by omega)
  refine ⟨gc, capc, gl, capl, hv, hic, hcell, by rw [ck_length]; omega, ?_⟩
  intro j u hj
  have := (h.chunk i _ hc).cells (g := gl) rfl (6 * k + j) u (flat_at _ k e j u (ck_at hk he) hj)
  rw [Addr.add_lit, Nat.zero_add, Nat.mul_comm] at this
  exact this

set_option maxHeartbeats 1000000 in
set_option maxRecDepth 100000 in
theorem entry_any (w : World) (B N : Nat) (E : List Ent) (v : Value) (cs : List Value) (h : LogN w B N E v cs) (_hE : E.length ≤ 100000) (i k : Nat) (s ns t : Int) (lg : Bool) (m nx : Int) (hk : k < 4096) (he : E[4096 * i + k]? = some ⟨s, ns, t, lg, m, nx⟩) :
    Calls Try.prog 22 #[.pointer (some ⟨B, 0, none⟩), .int .i64 (i : Int), .int .i64 (k : Int)] w fun r w' =>
      r = .returned (.tuple #[.int .i64 s, .int .i32 ns, .int .u8 t, .bool lg, .int .i64 m, .int .i64 nx]) ∧ w.grownBy w' none := by
  have hlt : 4096 * i + k < E.length := (List.getElem?_eq_some_iff.1 he).1
  obtain ⟨gc, capc, gl, capl, rfl, hic, hcell, hkl, hx⟩ := h.entry hk he
  have h1 := h.cell0
  have hi1 : (i : Int) < (cs.length : Int) := by omega
  have hk1 : (k : Int) < ((ck E i).length : Int) := by omega
  obtain ⟨ln, hln⟩ : ∃ ln, ln = (ck E i).length := ⟨_, rfl⟩
  rw [← hln] at hcell hk1
  have x0 : w.cell? ⟨gl, k * 6, none⟩ = some (.int .i64 s) := hx 0 _ rfl
  have x1 := hx 1 _ rfl
  have x2 := hx 2 _ rfl
  have x3 := hx 3 _ rfl
  have x4 := hx 4 _ rfl
  have x5 := hx 5 _ rfl
  clear h he hx hln hkl
  go_enter Try.func22, Try.ntmps22
  go_wp2
  go_quiet (fail)
  go_wp2
  refine bodyPost_ret (v := .tuple #[.int .i64 s, .int .i32 ns, .int .u8 t, .bool lg, .int .i64 m, .int .i64 nx]) (by simp [results, Try.results22, go_sem]) rfl ⟨rfl, ?_⟩
  exact grownBy_none_drewN (World.grownBy_alloc w _ none) nq

/-- .. at numbers that are spelt otherwise. -/
theorem entry_at (w : World) (B N : Nat) (E : List Ent) (v : Value) (cs : List Value) (h : LogN w B N E v cs) (hE : E.length ≤ 100000) (i k : Nat) (x y : Int) (hx : x = i) (hy : y = k) (e : Ent) (hk : k < 4096) (he : E[4096 * i + k]? = some e) :
    Calls Try.prog 22 #[.pointer (some ⟨B, 0, none⟩), .int .i64 x, .int .i64 y] w fun r w' =>
      r = .returned (.tuple #[.int .i64 e.sec, .int .i32 e.nsec, .int .u8 e.typ, .bool e.large, .int .i64 e.micros, .int .i64 e.next]) ∧ w.grownBy w' none := by
  subst hx hy
  exact entry_any w B N E v cs h hE i k e.sec e.nsec e.typ e.large e.micros e.next hk he

/-- The k-th push (from 0). -/
theorem push_at (w : World) (B : Nat) (E : List Ent) (v : Value) (cs : List Value) (s ns t : Int) (lg : Bool) (m nx : Int) (h : LogN w B E.length E v cs) (hE : E.length ≤ 70000) (k : Nat) (hk : (start E).length = k + 1) :
    Calls Try.prog 17 #[.pointer (some ⟨B, 0, none⟩), .agg #[.int .i64 s, .int .i32 ns, .int .u8 t, .bool lg, .int .i64 m, .int .i64 nx]] w fun r w' =>
      r = .returned (.int .i64 ((k : Int) + 1)) ∧ Below B w w' ∧ ∃ E' v' cs', LogN w' B (k + 2) E' v' cs' ∧ Hid (E' = start E ++ [⟨s, ns, t, lg, m, nx⟩]) ∧ Hid (E'.length = k + 2) := by
  refine (zz_push_any w B E v cs s ns t lg m nx h hE).mono ?_
  rintro r w' ⟨rfl, ⟨v', cs', hL⟩, hb⟩
  rw [hk] at hL
  refine ⟨by rw [hk]; rfl, hb, _, v', cs', hL, rfl, ?_⟩
  show _ = _
  rw [List.length_append, hk]; rfl

theorem last_is {E E' : List Ent} {k : Nat} {e : Ent} (hk : (start E).length = k + 1) (hE' : E' = start E ++ [e]) : E'[k + 1]? = some e := by
  rw [hE', List.getElem?_append_right (by omega), hk]; simp

end Go.Proofs.Qxb6600841a
