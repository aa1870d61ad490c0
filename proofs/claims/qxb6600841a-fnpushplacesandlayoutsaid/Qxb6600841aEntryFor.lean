/- The walk of b1entryFor (function 16). -/
import Derived.Test.Qxb6600841aLogFns
namespace Go.Proofs.Qxb6600841a
open Go.RowKit

/-- What a payload holds: n numbers from an address on (or none at all). -/
def Pay (w : World) (b off n : Nat) (L : Nat → Int) : Prop := ∀ j, j < n → w.cell? ⟨b, off + j, none⟩ = some (.int .i64 (L j))

theorem mod_nat (a n : Nat) : ((a : Int) % (n : Int)).toNat = a % n := by
  rw [← Int.natCast_emod]; rfl

theorem mod_lt' (a n : Nat) (h : 0 < n) : (a : Int) % (n : Int) < (n : Int) ∧ 0 ≤ (a : Int) % (n : Int) := by
  have := Nat.mod_lt a h
  rw [← Int.natCast_emod]; omega

def entNone (k : Nat) : Ent := ⟨(k : Int) - 3, (k : Int) % 1000, (k : Int) % 256, (k : Int) % 3 == 0, (k : Int) * 7, (k : Int) + 1⟩
def entSome (L : Nat → Int) (n k : Nat) : Ent :=
  ⟨L (k % n), wrap32 (L ((k + 1) % n)), L ((k + 2) % n) % 256, bits BinOp.and IntKind.i64 (bits BinOp.xor IntKind.i64 (L (k % n)) (L ((k + 1) % n))) 1 == 1, L ((k + 1) % n), L ((k + 2) % n)⟩

/-- The six results, as the caller sees them. -/
def Ent.tuple (e : Ent) : Value := .tuple #[.int .i64 e.sec, .int .i32 e.nsec, .int .u8 e.typ, .bool e.large, .int .i64 e.micros, .int .i64 e.next]

set_option maxHeartbeats 1000000 in
theorem for_none (a : Option Addr) (c k : Nat) (hk : k ≤ 70000) (w : World) :
    Calls Try.prog 16 #[.slice a 0 c, .int .i64 (k : Int)] w fun r w' => r = .returned (entNone k).tuple ∧ w' = w := by
  go_enter Try.func16, Try.ntmps16
  go_wp2
  exact bodyPost_ret (v := (entNone k).tuple) (by simp [results, Try.results16, go_sem, Ent.tuple, entNone]) rfl ⟨rfl, rfl⟩

set_option maxHeartbeats 1000000 in
theorem for_some (b off n c k : Nat) (L : Nat → Int) (hn : 0 < n) (hn2 : n ≤ 70000) (hk : k ≤ 70000) (w : World) (hP : Pay w b off n L) :
    Calls Try.prog 16 #[.slice (some ⟨b, off, none⟩) n c, .int .i64 (k : Int)] w fun r w' => r = .returned (entSome L n k).tuple ∧ w' = w := by
  have hz : ((n : Int) == 0) = false := by rw [beq_eq_false_iff_ne]; omega
  have hne : ¬ (n : Int) = 0 := by omega
  have j0 : ((k : Int) % (n : Int)).toNat = k % n := mod_nat k n
  have j1 : (((k : Int) + 1) % (n : Int)).toNat = (k + 1) % n := mod_nat (k + 1) n
  have j2 : (((k : Int) + 2) % (n : Int)).toNat = (k + 2) % n := mod_nat (k + 2) n
  obtain ⟨b0, b0'⟩ := mod_lt' k n hn
  obtain ⟨b1, b1'⟩ : ((k : Int) + 1) % (n : Int) < (n : Int) ∧ 0 ≤ ((k : Int) + 1) % (n : Int) := mod_lt' (k + 1) n hn
  obtain ⟨b2, b2'⟩ : ((k : Int) + 2) % (n : Int) < (n : Int) ∧ 0 ≤ ((k : Int) + 2) % (n : Int) := mod_lt' (k + 2) n hn
  have c0 := hP (k % n) (Nat.mod_lt _ hn)
  have c1 := hP ((k + 1) % n) (Nat.mod_lt _ hn)
  have c2 := hP ((k + 2) % n) (Nat.mod_lt _ hn)
  clear hP
  go_enter Try.func16, Try.ntmps16
  go_wp2
  exact bodyPost_ret (v := (entSome L n k).tuple) (by simp [results, Try.results16, go_sem, Ent.tuple, entSome]) rfl ⟨rfl, rfl⟩
end Go.Proofs.Qxb6600841a
