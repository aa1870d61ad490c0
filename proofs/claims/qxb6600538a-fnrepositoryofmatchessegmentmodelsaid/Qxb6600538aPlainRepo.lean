/- The plain mathematics of 'repositoryOf' and of the segment model: no Go in sight. -/
import Derived.Lib.Strings
import Derived.Lib.LastIndexByte
namespace Go.Proofs.Qxb6600538a.Repo

/-- What stands before the last slash; nothing where there is none. -/
def cut : List UInt8 → Option (List UInt8)
  | [] => none
  | c :: t => match cut t with
    | some a => some (c :: a)
    | none => if c = 47 then some [] else none

theorem cut_none : ∀ {l : List UInt8}, 47 ∉ l → cut l = none
  | [], _ => rfl
  | c :: t, h => by
    have h1 : 47 ∉ t := fun e => h (List.mem_cons_of_mem _ e)
    have h2 : c ≠ 47 := fun e => h (by rw [e]; exact List.mem_cons_self)
    rw [cut, cut_none h1]; simp [h2]

theorem cut_some (b : List UInt8) (hb : 47 ∉ b) : ∀ a : List UInt8, cut (a ++ 47 :: b) = some a
  | [] => by rw [List.nil_append, cut, cut_none hb]; simp
  | c :: t => by rw [List.cons_append, cut, cut_some b hb t]

/-- The last slash cut off k times over. -/
def it : Nat → List UInt8 → Option (List UInt8)
  | 0, l => some l
  | k + 1, l => (it k l).bind cut

/-- '/v2/'. -/
def pre : List UInt8 := [47, 118, 50, 47]

def repo (l : List UInt8) : List UInt8 := (it 2 (Lib.trimPrefix l pre)).getD []

theorem it_two (a b c : List UInt8) (hb : 47 ∉ b) (hc : 47 ∉ c) : it 2 (a ++ 47 :: (b ++ 47 :: c)) = some a := by
  show ((some (a ++ 47 :: (b ++ 47 :: c))).bind cut).bind cut = some a
  have e : a ++ 47 :: (b ++ 47 :: c) = (a ++ 47 :: b) ++ 47 :: c := by simp
  rw [Option.bind_some, e, cut_some c hc, Option.bind_some, cut_some b hb]

theorem trim_pre (l : List UInt8) : Lib.trimPrefix (pre ++ l) pre = l := by
  unfold Lib.trimPrefix
  have : Lib.hasPrefix (pre ++ l) pre = true := by simp [Lib.hasPrefix, pre, List.isPrefixOf]
  rw [if_pos this]; simp

theorem repo_built (a b c : List UInt8) (hb : 47 ∉ b) (hc : 47 ∉ c) : repo (pre ++ (a ++ 47 :: (b ++ 47 :: c))) = a := by
  unfold repo
  rw [trim_pre, it_two a b c hb hc]; rfl

/-! ### What LastIndex says -/

theorem cut_of_last_none (s : ByteArray) (h : ∀ j, j < s.size → ((s.data[j]!).toNat : Int) ≠ 47) : cut s.data.toList = none := by
  apply cut_none
  intro hm
  obtain ⟨j, hj, e⟩ := List.getElem_of_mem hm
  have hj' : j < s.size := by simpa using hj
  apply h j hj'
  rw [getElem!_pos s.data j (by simpa using hj')]
  have : s.data[j]'(by simpa using hj') = 47 := by simpa using e
  rw [this]; rfl

theorem cut_of_last_some (s : ByteArray) (i : Nat) (hi : i < s.size) (h : ((s.data[i]!).toNat : Int) = 47) (hn : ∀ j, i < j → j < s.size → ((s.data[j]!).toNat : Int) ≠ 47) :
    cut s.data.toList = some (s.data.toList.take i) := by
  have hl : i < s.data.toList.length := by simpa using hi
  have e : s.data.toList = s.data.toList.take i ++ 47 :: s.data.toList.drop (i + 1) := by
    have h0 : s.data.toList[i] = 47 := by
      rw [getElem!_pos s.data i (by simpa using hi)] at h
      apply UInt8.toNat_inj.1
      show (s.data.toList[i]).toNat = 47
      simpa using (by omega : (s.data[i]'(by simpa using hi)).toNat = 47)
    rw [← h0, List.getElem_cons_drop, List.take_append_drop]
  have hb : 47 ∉ s.data.toList.drop (i + 1) := by
    intro hm
    obtain ⟨j, hj, e⟩ := List.getElem_of_mem hm
    have hj' : i + 1 + j < s.size := by simp at hj; omega
    apply hn (i + 1 + j) (by omega) hj'
    rw [getElem!_pos s.data (i + 1 + j) (by simpa using hj')]
    have : s.data[i + 1 + j]'(by simpa using hj') = 47 := by simpa using e
    rw [this]; rfl
  rw [e, cut_some _ hb]
  congr 1
  rw [← e]

/-! ### The segment model -/

/-- How many slashes. -/
def cnt (l : List UInt8) : Nat := l.countP (fun c => c == 47)

theorem cnt_append (a b : List UInt8) : cnt (a ++ b) = cnt a + cnt b := by simp [cnt]
theorem cnt_le (l : List UInt8) : cnt l ≤ l.length := List.countP_le_length

theorem not_mem_of_cnt {l : List UInt8} (h : cnt l = 0) : 47 ∉ l := by
  intro hm
  have := List.countP_eq_zero.1 h 47 hm
  simp at this

/-- The first slash. -/
theorem split_one : ∀ {l : List UInt8}, 1 ≤ cnt l → ∃ a b, l = a ++ 47 :: b ∧ 47 ∉ a ∧ cnt b + 1 = cnt l
  | [], h => by simp [cnt] at h
  | c :: t, h => by
    by_cases hc : c = 47
    · subst hc
      exact ⟨[], t, rfl, by simp, by simp [cnt]⟩
    · have e : cnt (c :: t) = cnt t := by simp [cnt, hc]
      obtain ⟨a, b, h1, h2, h3⟩ := split_one (l := t) (by omega)
      exact ⟨c :: a, b, by rw [h1]; rfl, by simp [h2, Ne.symm hc], by omega⟩

theorem it_few {l : List UInt8} (h : cnt l < 2) : it 2 l = none := by
  show ((some l).bind cut).bind cut = none
  rw [Option.bind_some]
  by_cases h0 : cnt l = 0
  · rw [cut_none (not_mem_of_cnt h0)]; rfl
  · obtain ⟨a, b, rfl, ha, hb⟩ := split_one (l := l) (by omega)
    rw [cut_some b (not_mem_of_cnt (by omega)), Option.bind_some, cut_none ha]

theorem it_many {a b : List UInt8} (h : cnt b = 1) : it 2 (a ++ 47 :: b) = some a := by
  obtain ⟨c, d, rfl, hc, hd⟩ := split_one (l := b) (by omega)
  exact it_two a c d hc (not_mem_of_cnt (by omega))

end Go.Proofs.Qxb6600538a.Repo
