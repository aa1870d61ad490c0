/- The plain mathematics of the JSON number automaton: run greedily it answers what 'Num.scan' answers. No Go in sight. -/
import Derived.Test.Qxb6600841aPlainNum
namespace Go.Proofs.Qxb6600841a.Num

def isE (c : Int) : Bool := decide (c = 101) || decide (c = 69)
def isS (c : Int) : Bool := decide (c = 43) || decide (c = 45)
def isN (c : Int) : Bool := decide (49 ≤ c) && decide (c ≤ 57)

/-- The next state; none where the byte cannot go on. -/
def stp (st : Nat) (c : Int) : Option Nat :=
  match st with
  | 0 => if c = 45 then some 1 else if c = 48 then some 2 else if isN c = true then some 3 else none
  | 1 => if c = 48 then some 2 else if isN c = true then some 3 else none
  | 2 => if c = 46 then some 4 else if isE c = true then some 6 else none
  | 3 => if isd c = true then some 3 else if c = 46 then some 4 else if isE c = true then some 6 else none
  | 4 => if isd c = true then some 5 else none
  | 5 => if isd c = true then some 5 else if isE c = true then some 6 else none
  | 6 => if isS c = true then some 7 else if isd c = true then some 8 else none
  | 7 => if isd c = true then some 8 else none
  | 8 => if isd c = true then some 8 else none
  | _ => none

/-- Where the automaton stops, and behind how many bytes. -/
def auto : Nat → List Int → Nat × Nat
  | st, [] => (st, 0)
  | st, c :: t => match stp st c with
    | none => (st, 0)
    | some s => ((auto s t).1, (auto s t).2 + 1)

def acc (st : Nat) : Bool := st == 2 || (st == 3 || (st == 5 || st == 8))

/-- The answer, k bytes having gone before. -/
def fin (k : Nat) (p : Nat × Nat) : Option Nat := if acc p.1 = true then some (k + p.2) else none

theorem fin_next {k st s : Nat} {c : Int} {t : List Int} (h : stp st c = some s) : fin k (auto st (c :: t)) = fin (k + 1) (auto s t) := by
  rw [auto, h]
  simp only [fin]
  split
  · congr 1; omega
  · rfl

theorem fin_stop {k st : Nat} {c : Int} {t : List Int} (h : stp st c = none) : fin k (auto st (c :: t)) = if acc st = true then some k else none := by
  rw [auto, h]; simp [fin]

theorem fin_nil {k st : Nat} : fin k (auto st []) = if acc st = true then some k else none := rfl

theorem fin8 : ∀ (l : List Int) (k : Nat), fin k (auto 8 l) = some (k + dl l)
  | [], k => by rw [fin_nil]; rfl
  | c :: t, k => by
    by_cases h : isd c = true
    · rw [fin_next (s := 8) (by simp [stp, h]), fin8 t, dl, if_pos h]; congr 1; omega
    · rw [fin_stop (by simp [stp, h]), dl, if_neg h]; rfl

theorem fin7 (l : List Int) (k : Nat) : fin k (auto 7 l) = if dl l = 0 then none else some (k + dl l) := by
  cases l with
  | nil => rw [fin_nil]; rfl
  | cons c t =>
    by_cases h : isd c = true
    · rw [fin_next (s := 8) (by simp [stp, h]), fin8, dl, if_pos h, if_neg (by omega)]; congr 1; omega
    · rw [fin_stop (by simp [stp, h]), dl, if_neg h]; rfl

theorem isS_iff (c : Int) : isS c = true ↔ (c = 43 ∨ c = 45) := by simp [isS]
theorem isE_iff (c : Int) : isE c = true ↔ (c = 101 ∨ c = 69) := by simp [isE]
theorem isN_iff (c : Int) : isN c = true ↔ (49 ≤ c ∧ c ≤ 57) := by simp [isN]
theorem isd_iff (c : Int) : isd c = true ↔ (48 ≤ c ∧ c ≤ 57) := by simp [isd]

theorem fin6 (l : List Int) (k : Nat) : fin k (auto 6 l) = if dl (l.drop (es l)) = 0 then none else some (k + es l + dl (l.drop (es l))) := by
  cases l with
  | nil => rw [fin_nil]; rfl
  | cons c t =>
    by_cases hs : isS c = true
    · rw [fin_next (s := 7) (by simp [stp, hs]), fin7, es, if_pos ((isS_iff c).1 hs)]; rfl
    · have he : es (c :: t) = 0 := by rw [es, if_neg (fun h => hs ((isS_iff c).2 h))]
      rw [he, List.drop_zero]
      by_cases h : isd c = true
      · rw [fin_next (s := 8) (by simp [stp, hs, h]), fin8, dl, if_pos h, if_neg (by omega)]; congr 1; omega
      · rw [fin_stop (by simp [stp, hs, h]), dl, if_neg h]; rfl

/-- An exponent, or nothing. -/
theorem fin_exp {k : Nat} {c : Int} {t : List Int} (h : isE c = true) : fin (k + 1) (auto 6 t) = (ep (c :: t)).bind fun d => some (k + d) := by
  rw [fin6, ep, if_pos ((isE_iff c).1 h)]
  split
  · rfl
  · rw [Option.bind_some]; congr 1; omega

theorem ep_else {c : Int} {t : List Int} (h : ¬ isE c = true) : ep (c :: t) = some 0 := by
  rw [ep, if_neg (fun e => h ((isE_iff c).2 e))]

theorem E_not_d {c : Int} (h : isE c = true) : ¬ isd c = true := by
  intro hd
  have h1 := (isE_iff c).1 h
  have h2 := (isd_iff c).1 hd
  omega

theorem fin5 : ∀ (l : List Int) (k : Nat), fin k (auto 5 l) = (ep (l.drop (dl l))).bind fun d => some (k + dl l + d)
  | [], k => by rw [fin_nil]; rfl
  | c :: t, k => by
    by_cases h : isd c = true
    · rw [fin_next (s := 5) (by simp [stp, h]), fin5 t, dl, if_pos h, List.drop_succ_cons]
      congr 1; funext d; congr 1; omega
    · rw [dl, if_neg h, List.drop_zero]
      by_cases he : isE c = true
      · rw [fin_next (s := 6) (by simp [stp, h, he]), fin_exp he]; rfl
      · rw [fin_stop (by simp [stp, h, he]), ep_else he]; rfl

theorem fin4 (l : List Int) (k : Nat) : fin k (auto 4 l) = if dl l = 0 then none else (ep (l.drop (dl l))).bind fun d => some (k + dl l + d) := by
  cases l with
  | nil => rw [fin_nil]; rfl
  | cons c t =>
    by_cases h : isd c = true
    · rw [fin_next (s := 5) (by simp [stp, h]), fin5, dl, if_pos h, if_neg (by omega), List.drop_succ_cons]
      congr 1; funext d; congr 1; omega
    · rw [fin_stop (by simp [stp, h]), dl, if_neg h]; rfl

/-- What is behind the integer part, k bytes having gone before. -/
def tl (k : Nat) (l : List Int) : Option Nat := (fp l).bind fun c => (ep (l.drop c)).bind fun d => some (k + c + d)

theorem tl_dot {k : Nat} {c : Int} {t : List Int} (h : c = 46) : fin (k + 1) (auto 4 t) = tl k (c :: t) := by
  rw [fin4]
  unfold tl
  rw [fp, if_pos h]
  split
  · rfl
  · rw [Option.bind_some, Nat.add_comm 1, List.drop_succ_cons]
    congr 1; funext d; congr 1; omega

theorem tl_else {k : Nat} {c : Int} {t : List Int} (h : ¬ c = 46) : tl k (c :: t) = (ep (c :: t)).bind fun d => some (k + d) := by
  unfold tl
  rw [fp, if_neg h]; rfl

theorem fin2 (l : List Int) (k : Nat) : fin k (auto 2 l) = tl k l := by
  cases l with
  | nil => rw [fin_nil]; rfl
  | cons c t =>
    by_cases h : c = 46
    · rw [fin_next (s := 4) (by simp [stp, h]), tl_dot h]
    · rw [tl_else h]
      by_cases he : isE c = true
      · rw [fin_next (s := 6) (by simp [stp, h, he]), fin_exp he]
      · rw [fin_stop (by simp [stp, h, he]), ep_else he]; rfl

theorem fin3 : ∀ (l : List Int) (k : Nat), fin k (auto 3 l) = tl (k + dl l) (l.drop (dl l))
  | [], k => by rw [fin_nil]; rfl
  | c :: t, k => by
    by_cases hd : isd c = true
    · rw [fin_next (s := 3) (by simp [stp, hd]), fin3 t, dl, if_pos hd, List.drop_succ_cons]
      congr 1; omega
    · rw [dl, if_neg hd, List.drop_zero, Nat.add_zero]
      by_cases h : c = 46
      · rw [fin_next (s := 4) (by rw [h]; rfl), tl_dot h]
      · rw [tl_else h]
        by_cases he : isE c = true
        · rw [fin_next (s := 6) (by simp [stp, hd, h, he]), fin_exp he]
        · rw [fin_stop (by simp [stp, hd, h, he]), ep_else he]; rfl

/-- An integer part. -/
theorem fin_int {st k : Nat} {c : Int} {t : List Int} (h0 : c = 48 → stp st c = some 2) (h1 : ¬ c = 48 → isN c = true → stp st c = some 3) (h2 : ¬ c = 48 → ¬ isN c = true → stp st c = none) (ha : acc st = false) :
    fin k (auto st (c :: t)) = (ip (c :: t)).bind fun b => tl (k + b) ((c :: t).drop b) := by
  rw [ip]
  by_cases hz : c = 48
  · rw [if_pos hz, fin_next (h0 hz), fin2]; rfl
  · rw [if_neg hz]
    by_cases hn : isN c = true
    · rw [if_pos ((isN_iff c).1 hn), fin_next (h1 hz hn), fin3, Option.bind_some, Nat.add_comm 1, List.drop_succ_cons]
      congr 1; omega
    · rw [if_neg (fun e => hn ((isN_iff c).2 e)), fin_stop (h2 hz hn), ha]; rfl

theorem fin1 (l : List Int) (k : Nat) : fin k (auto 1 l) = (ip l).bind fun b => tl (k + b) (l.drop b) := by
  cases l with
  | nil => rw [fin_nil]; rfl
  | cons c t => exact fin_int (by intro h; simp [stp, h]) (by intro h h'; simp [stp, h, h']) (by intro h h'; simp [stp, h, h']) rfl

/-- The automaton's answer is scan's. -/
theorem fin0 (l : List Int) : fin 0 (auto 0 l) = scan l := by
  have e : scan l = (ip (l.drop (sgn l))).bind fun b => tl (sgn l + b) ((l.drop (sgn l)).drop b) := by
    unfold scan tailOf tl
    congr 1; funext b
    rw [List.drop_drop]
    congr 1; funext c
    rw [List.drop_drop]
  rw [e]
  cases l with
  | nil => rw [fin_nil]; rfl
  | cons c t =>
    by_cases h : c = 45
    · rw [fin_next (s := 1) (by simp [stp, h]), fin1, sgn, if_pos h]; rfl
    · rw [sgn, if_neg h, List.drop_zero]
      exact fin_int (by intro h; simp [stp, h]) (by intro h' h''; simp [stp, h, h', h'']) (by intro h' h''; simp [stp, h, h', h'']) rfl

end Go.Proofs.Qxb6600841a.Num
