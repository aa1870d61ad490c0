/- The plain mathematics of 'unquote' and of the backslash-parity model: no Go in sight. -/
namespace Go.Proofs.Qxb6600538a.Uq

/-- What 'unquote' answers on what is left of the text: the text and what follows the closing quote. -/
def uq : List UInt8 → List UInt8 × List UInt8
  | [] => ([], [])
  | [c] => if c = 92 then ([], []) else if c = 34 then ([], []) else ([c], [])
  | c :: d :: t => if c = 92 then (d :: (uq t).1, (uq t).2) else if c = 34 then ([], d :: t) else (c :: (uq (d :: t)).1, (uq (d :: t)).2)

theorem uq_nil : uq [] = ([], []) := rfl
theorem uq_last : uq [92] = ([], []) := rfl
theorem uq_esc (d : UInt8) (t : List UInt8) : uq (92 :: d :: t) = (d :: (uq t).1, (uq t).2) := by
  rw [uq]; simp
theorem uq_quote (t : List UInt8) : uq (34 :: t) = ([], t) := by
  cases t with
  | nil => rfl
  | cons d t => rw [uq]; simp
theorem uq_plain (c : UInt8) (t : List UInt8) (h1 : c ≠ 92) (h2 : c ≠ 34) : uq (c :: t) = (c :: (uq t).1, (uq t).2) := by
  cases t with
  | nil => simp [uq, h1, h2]
  | cons d t => rw [uq]; simp [h1, h2]

/-- What the parity model answers on what is left, 'even' saying whether an even run of backslashes stands right before it. -/
def par : Bool → List UInt8 → List UInt8 × List UInt8
  | _, [] => ([], [])
  | true, c :: t => if c = 34 then ([], t) else if c = 92 then par false t else (c :: (par true t).1, (par true t).2)
  | false, c :: t => if c = 92 then (c :: (par true t).1, (par true t).2) else (c :: (par true t).1, (par true t).2)

theorem par_false (c : UInt8) (t : List UInt8) : par false (c :: t) = (c :: (par true t).1, (par true t).2) := by
  rw [par]; split <;> rfl

theorem par_eq : ∀ (n : Nat) (l : List UInt8), l.length ≤ n → par true l = uq l
  | _, [], _ => rfl
  | 0, _ :: _, h => by simp at h
  | n + 1, c :: t, h => by
    have ih := par_eq n
    by_cases h2 : c = 34
    · subst h2; rw [uq_quote, par]; simp
    by_cases h1 : c = 92
    · subst h1
      rw [par]; simp
      cases t with
      | nil => rfl
      | cons d t' => rw [par_false, uq_esc, ih t' (by simp at h; omega)]
    · rw [uq_plain c t h1 h2, par]; simp [h1, h2, ih t (by simpa using h)]

theorem par_uq (l : List UInt8) : par true l = uq l := par_eq l.length l (Nat.le_refl _)

/-- What 'quoteBody' writes. -/
def qb : List UInt8 → List UInt8
  | [] => []
  | c :: t => if c = 92 ∨ c = 34 then 92 :: c :: qb t else c :: qb t

theorem qb_length_le : ∀ l : List UInt8, (qb l).length ≤ 2 * l.length
  | [] => by simp [qb]
  | c :: t => by
    have := qb_length_le t
    rw [qb]; split <;> simp <;> omega

theorem qb_append (l : List UInt8) : ∀ r : List UInt8, qb (r ++ l) = qb r ++ qb l
  | [] => rfl
  | c :: t => by
    have := qb_append l t
    rw [List.cons_append, qb, qb, this]
    split <;> simp

/-- unquote inverts quoting. -/
theorem uq_qb (rest : List UInt8) : ∀ t : List UInt8, uq (qb t ++ 34 :: rest) = (t, rest)
  | [] => by rw [qb, List.nil_append, uq_quote]
  | c :: t => by
    have ih := uq_qb rest t
    rw [qb]
    by_cases h : c = 92 ∨ c = 34
    · rw [if_pos h, List.cons_append, List.cons_append, uq_esc, ih]
    · rw [if_neg h, List.cons_append, uq_plain c _ (fun e => h (.inl e)) (fun e => h (.inr e)), ih]

theorem uq_length : ∀ (n : Nat) (l : List UInt8), l.length ≤ n → (uq l).1.length ≤ l.length
  | _, [], _ => by simp [uq]
  | 0, _ :: _, h => by simp at h
  | n + 1, c :: t, h => by
    have ih := uq_length n
    by_cases h2 : c = 34
    · subst h2; rw [uq_quote]; simp
    by_cases h1 : c = 92
    · subst h1
      cases t with
      | nil => simp [uq]
      | cons d t' =>
        have := ih t' (by simp at h; omega)
        rw [uq_esc]; simp; omega
    · have := ih t (by simpa using h)
      rw [uq_plain c t h1 h2]; simpa using this

end Go.Proofs.Qxb6600538a.Uq
