/- The plain mathematics of 'scanNumber': no Go in sight. A line is a list of numbers (its bytes). -/
namespace Go.Proofs.Qxb6600841a.Num

def isd (c : Int) : Bool := decide (48 ≤ c) && decide (c ≤ 57)

/-- How many digits a text opens with. -/
def dl : List Int → Nat
  | [] => 0
  | c :: t => if isd c = true then dl t + 1 else 0

/-- The length of the sign. -/
def sgn : List Int → Nat
  | [] => 0
  | c :: _ => if c = 45 then 1 else 0

/-- The length of the integer part. -/
def ip : List Int → Option Nat
  | [] => none
  | c :: t => if c = 48 then some 1 else if 49 ≤ c ∧ c ≤ 57 then some (1 + dl t) else none

/-- The length of the fraction. -/
def fp : List Int → Option Nat
  | [] => some 0
  | c :: t => if c = 46 then (if dl t = 0 then none else some (1 + dl t)) else some 0

/-- The length of the exponent's sign. -/
def es : List Int → Nat
  | [] => 0
  | c :: _ => if c = 43 ∨ c = 45 then 1 else 0

/-- The length of the exponent. -/
def ep : List Int → Option Nat
  | [] => some 0
  | c :: t => if c = 101 ∨ c = 69 then (if dl (t.drop (es t)) = 0 then none else some (1 + es t + dl (t.drop (es t)))) else some 0

/-- What is behind the integer part. -/
def tailOf (l : List Int) (a : Nat) : Option Nat := (fp (l.drop a)).bind fun c => (ep (l.drop (a + c))).bind fun d => some (a + c + d)

/-- The length of the number that a text opens with. -/
def scan (l : List Int) : Option Nat := (ip (l.drop (sgn l))).bind fun b => tailOf l (sgn l + b)

theorem dl_le : ∀ l : List Int, dl l ≤ l.length
  | [] => Nat.le_refl _
  | c :: t => by
    have := dl_le t
    rw [dl]; split <;> simp <;> omega

theorem sgn_le (l : List Int) : sgn l ≤ l.length := by
  cases l with
  | nil => exact Nat.le_refl _
  | cons c t => rw [sgn]; split <;> simp

theorem es_le (l : List Int) : es l ≤ l.length := by
  cases l with
  | nil => exact Nat.le_refl _
  | cons c t => rw [es]; split <;> simp

theorem ip_some {l : List Int} {b : Nat} (h : ip l = some b) : 1 ≤ b ∧ b ≤ l.length := by
  cases l with
  | nil => simp [ip] at h
  | cons c t =>
    have := dl_le t
    rw [ip] at h
    split at h
    · simp at h; subst h; simp
    · split at h
      · simp at h; subst h; simp; omega
      · simp at h

theorem fp_some {l : List Int} {b : Nat} (h : fp l = some b) : b ≤ l.length := by
  cases l with
  | nil => simp [fp] at h; omega
  | cons c t =>
    have := dl_le t
    rw [fp] at h
    split at h
    · split at h
      · simp at h
      · simp at h; subst h; simp; omega
    · simp at h; subst h; simp

theorem ep_some {l : List Int} {b : Nat} (h : ep l = some b) : b ≤ l.length := by
  cases l with
  | nil => simp [ep] at h; omega
  | cons c t =>
    have h1 := es_le t
    have h2 := dl_le (t.drop (es t))
    simp at h2
    rw [ep] at h
    split at h
    · split at h
      · simp at h
      · simp at h; subst h; simp; omega
    · simp at h; subst h; simp

theorem tailOf_some {l : List Int} {a m : Nat} (ha : a ≤ l.length) (h : tailOf l a = some m) : a ≤ m ∧ m ≤ l.length := by
  unfold tailOf at h
  obtain ⟨c, hc, h⟩ := Option.bind_eq_some_iff.1 h
  obtain ⟨d, hd, h⟩ := Option.bind_eq_some_iff.1 h
  have h1 := fp_some hc
  have h2 := ep_some hd
  simp at h h1 h2
  omega

theorem scan_some {l : List Int} {m : Nat} (h : scan l = some m) : 1 ≤ m ∧ m ≤ l.length := by
  unfold scan at h
  obtain ⟨b, hb, h⟩ := Option.bind_eq_some_iff.1 h
  have h1 := ip_some hb
  have h2 := sgn_le l
  simp at h1
  have := tailOf_some (by omega) h
  omega

/-! ### The number cut out by itself -/

theorem dl_take : ∀ (l : List Int) (k : Nat), dl l ≤ k → dl (l.take k) = dl l
  | [], k, _ => by simp
  | c :: t, 0, h => by
    have h0 : dl (c :: t) = 0 := by omega
    rw [h0]; rfl
  | c :: t, k + 1, h => by
    rw [List.take_succ_cons, dl, dl]
    by_cases hc : isd c = true
    · rw [if_pos hc, if_pos hc]
      rw [dl, if_pos hc] at h
      rw [dl_take t k (by omega)]
    · rw [if_neg hc, if_neg hc]

theorem sgn_take (l : List Int) (k : Nat) (hk : 1 ≤ k) : sgn (l.take k) = sgn l := by
  cases l with
  | nil => simp
  | cons c t =>
    obtain ⟨k, rfl⟩ : ∃ j, k = j + 1 := ⟨k - 1, by omega⟩
    rw [List.take_succ_cons]; rfl

theorem es_take (l : List Int) (k : Nat) (hk : 1 ≤ k) : es (l.take k) = es l := by
  cases l with
  | nil => simp
  | cons c t =>
    obtain ⟨k, rfl⟩ : ∃ j, k = j + 1 := ⟨k - 1, by omega⟩
    rw [List.take_succ_cons]; rfl

theorem ip_take {l : List Int} {b k : Nat} (h : ip l = some b) (hk : b ≤ k) : ip (l.take k) = some b := by
  cases l with
  | nil => simp [ip] at h
  | cons c t =>
    have h1 := (ip_some h).1
    obtain ⟨k, rfl⟩ : ∃ j, k = j + 1 := ⟨k - 1, by omega⟩
    rw [List.take_succ_cons]
    rw [ip] at h ⊢
    split at h
    · rename_i hc; rw [if_pos hc]; exact h
    · rename_i hc
      rw [if_neg hc]
      split at h
      · rename_i hd
        simp at h
        rw [if_pos hd, dl_take t k (by omega), h]
      · simp at h

theorem fp_take {l : List Int} {b k : Nat} (h : fp l = some b) (hk : b ≤ k) : fp (l.take k) = some b := by
  cases l with
  | nil => simpa using h
  | cons c t =>
    cases k with
    | zero =>
      have : b = 0 := by omega
      subst this; rfl
    | succ k =>
      rw [List.take_succ_cons]
      rw [fp] at h ⊢
      split at h
      · rename_i hc
        rw [if_pos hc]
        split at h
        · simp at h
        · rename_i hd
          simp at h
          rw [dl_take t k (by omega), if_neg hd, h]
      · rename_i hc; rw [if_neg hc]; exact h

theorem ep_take {l : List Int} {b : Nat} (h : ep l = some b) : ep (l.take b) = some b := by
  cases l with
  | nil => simpa using h
  | cons c t =>
    cases b with
    | zero => rfl
    | succ b =>
      rw [List.take_succ_cons]
      rw [ep] at h ⊢
      split at h
      · rename_i hc
        rw [if_pos hc]
        split at h
        · simp at h
        · rename_i hd
          simp at h
          have hes : es (t.take b) = es t := es_take t b (by omega)
          have hdr : (t.take b).drop (es t) = (t.drop (es t)).take (b - es t) := by rw [List.drop_take]
          have hdl : dl ((t.take b).drop (es t)) = dl (t.drop (es t)) := by rw [hdr]; exact dl_take _ _ (by omega)
          rw [hes, hdl, if_neg hd]
          congr 1
      · simp at h

/-- What is found is found whole again when it is cut out by itself. -/
theorem scan_take {l : List Int} {m : Nat} (h : scan l = some m) : scan (l.take m) = some m := by
  have hm := scan_some h
  unfold scan at h
  obtain ⟨b, hb, h⟩ := Option.bind_eq_some_iff.1 h
  unfold tailOf at h
  obtain ⟨c, hc, h⟩ := Option.bind_eq_some_iff.1 h
  obtain ⟨d, hd, h⟩ := Option.bind_eq_some_iff.1 h
  simp at h
  have hs := sgn_take l m (by omega)
  unfold scan tailOf
  rw [hs, List.drop_take, ip_take hb (by omega), Option.bind_some, List.drop_take, fp_take hc (by omega), Option.bind_some, List.drop_take]
  have e : m - (sgn l + b + c) = d := by omega
  rw [e, ep_take hd, Option.bind_some, h]

/-- The answer as 'scanNumber' gives it. -/
def res (i : Nat) : Option Nat → Int
  | none => -1
  | some m => (i : Int) + m

end Go.Proofs.Qxb6600841a.Num
