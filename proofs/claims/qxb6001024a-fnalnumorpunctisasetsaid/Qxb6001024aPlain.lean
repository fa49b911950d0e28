/-
  The plain law of the statement on AlnumOr: no Go in sight.
-/
import Derived.Lib.IndexAny
namespace Go.Proofs.Qxb6001024a.Plain

/-- A letter or a digit of ASCII. -/
def alnum (c : UInt8) : Bool := (97 ≤ c.toNat && c.toNat ≤ 122) || (65 ≤ c.toNat && c.toNat ≤ 90) || (48 ≤ c.toNat && c.toNat ≤ 57)

/-- Is the byte among them? -/
def has (l : List UInt8) (c : UInt8) : Bool := l.contains c

/-- AlnumOr. -/
def alnumOr (s p : List UInt8) : Bool := s.all fun c => alnum c || p.contains c

/-- zzB1AlnumTable. -/
def table : List UInt8 := [65, 66, 67, 68, 69, 70, 71, 72, 73, 74, 75, 76, 77, 78, 79, 80, 81, 82, 83, 84, 85, 86, 87, 88, 89, 90, 97, 98, 99, 100, 101, 102, 103, 104, 105, 106, 107, 108, 109, 110, 111, 112, 113, 114, 115, 116, 117, 118, 119, 120, 121, 122, 48, 49, 50, 51, 52, 53, 54, 55, 56, 57]

theorem table_alnum : ∀ c ∈ table, alnum c = true := by decide

/-- What is kept of q. -/
def part (q : List UInt8) : List UInt8 := q.filter fun c => table.contains c

theorem part_snoc (q : List UInt8) (c : UInt8) : part (q ++ [c]) = part q ++ (if table.contains c then [c] else []) := by
  unfold part
  rw [List.filter_append]
  congr 1
  simp [List.filter_cons]

theorem part_le (q : List UInt8) : (part q).length ≤ q.length := List.length_filter_le _ _

theorem part_alnum (q : List UInt8) : ∀ c ∈ part q, alnum c = true := by
  intro c hc
  have := (List.mem_filter.1 hc).2
  exact table_alnum c (by simpa using this)

theorem or_congr {s p q : List UInt8} (h : ∀ c, (alnum c || p.contains c) = (alnum c || q.contains c)) : alnumOr s p = alnumOr s q := by
  unfold alnumOr
  congr 1
  funext c
  exact h c

theorem swap (s p q : List UInt8) : alnumOr s (p ++ q) = alnumOr s (q ++ p) := by
  refine or_congr fun c => ?_
  congr 1
  rw [Bool.eq_iff_iff]
  simp [or_comm]

theorem more (s p q : List UInt8) (h : alnumOr s p = true) : alnumOr s (p ++ q) = true := by
  unfold alnumOr at h ⊢
  rw [List.all_eq_true] at h ⊢
  intro c hc
  have := h c hc
  rw [Bool.or_eq_true] at this ⊢
  rcases this with g | g
  · exact .inl g
  · refine .inr ?_
    simp at g ⊢
    exact .inl g

theorem twice (s p : List UInt8) : alnumOr s (p ++ p) = alnumOr s p := by
  refine or_congr fun c => ?_
  congr 1
  rw [Bool.eq_iff_iff]
  simp

theorem idle (s p d : List UInt8) (hd : ∀ c ∈ d, alnum c = true) : alnumOr s (p ++ d) = alnumOr s p := by
  refine or_congr fun c => ?_
  rw [Bool.eq_iff_iff]
  simp only [Bool.or_eq_true, List.contains_eq_mem, List.mem_append, decide_eq_true_eq]
  constructor
  · rintro (h | h | h)
    · exact .inl h
    · exact .inr h
    · exact .inl (hd c h)
  · rintro (h | h)
    · exact .inl h
    · exact .inr (.inl h)

theorem idle' (s p d : List UInt8) (hd : ∀ c ∈ d, alnum c = true) : alnumOr s (d ++ p) = alnumOr s p := by
  rw [swap]; exact idle s p d hd

theorem self (s : List UInt8) : alnumOr s s = true := by
  unfold alnumOr
  rw [List.all_eq_true]
  intro c hc
  simp [hc]

/-- The loop's step. -/
theorem all_of {s : List UInt8} {p : List UInt8} (h : ∀ i, i < s.length → ∀ c, s[i]? = some c → (alnum c || p.contains c) = true) : alnumOr s p = true := by
  unfold alnumOr
  rw [List.all_eq_true]
  intro c hc
  obtain ⟨i, hi, e⟩ := List.mem_iff_getElem.1 hc
  exact h i hi c (by rw [List.getElem?_eq_getElem hi, e])

theorem not_of {s p : List UInt8} {i : Nat} {c : UInt8} (h : s[i]? = some c) (hc : (alnum c || p.contains c) = false) : alnumOr s p = false := by
  unfold alnumOr
  rw [List.all_eq_false]
  exact ⟨c, List.mem_of_getElem? h, by rw [hc]; simp⟩

theorem index_neg {p : List UInt8} {c : UInt8} (h : p.contains c = false) : Lib.indexByte p c < 0 := by
  rw [Lib.contains_iff_indexByte] at h
  have := of_decide_eq_false h
  omega
theorem index_nonneg {p : List UInt8} {c : UInt8} (h : p.contains c = true) : 0 ≤ Lib.indexByte p c := by
  rw [Lib.contains_iff_indexByte] at h
  exact of_decide_eq_true h

end Go.Proofs.Qxb6001024a.Plain
