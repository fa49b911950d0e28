/-
  The plain law of the three statements on linesBeginning: counts and first places of a test on numbers, and the test 'a line of d begins with p at i'. No Go in sight.
-/
import Derived.Lib.IndexMore
namespace Go.Proofs.Qxb6000904a.Plain
open Go.Lib

/-- How many i below k pass the test. -/
def cnt (f : Nat → Bool) : Nat → Nat
  | 0 => 0
  | k + 1 => cnt f k + (if f k then 1 else 0)

/-- The least i below k that passes, or -1. -/
def fst (f : Nat → Bool) : Nat → Int
  | 0 => -1
  | k + 1 => if cnt f k = 0 then (if f k then (k : Int) else -1) else fst f k

theorem cnt_le (f : Nat → Bool) : ∀ k, cnt f k ≤ k
  | 0 => Nat.le_refl _
  | k + 1 => by have := cnt_le f k; unfold cnt; split <;> omega

theorem cnt_hit {f : Nat → Bool} {k : Nat} (h : f k = true) : cnt f (k + 1) = cnt f k + 1 := by simp [cnt, h]
theorem cnt_miss {f : Nat → Bool} {k : Nat} (h : f k = false) : cnt f (k + 1) = cnt f k := by simp [cnt, h]
theorem fst_hit {f : Nat → Bool} {k : Nat} (h : f k = true) (h0 : cnt f k = 0) : fst f (k + 1) = k := by simp [fst, h, h0]
theorem fst_old {f : Nat → Bool} {k : Nat} (h0 : cnt f k ≠ 0) : fst f (k + 1) = fst f k := by simp [fst, h0]

/-- What 'fst' says. -/
theorem fst_spec (f : Nat → Bool) : ∀ k, (cnt f k = 0 ∧ fst f k = -1 ∧ ∀ i, i < k → f i = false) ∨ (0 < cnt f k ∧ ∃ m : Nat, fst f k = m ∧ m < k ∧ f m = true ∧ ∀ i, i < m → f i = false)
  | 0 => .inl ⟨rfl, rfl, fun i h => absurd h (Nat.not_lt_zero _)⟩
  | k + 1 => by
    rcases fst_spec f k with ⟨h0, h1, h2⟩ | ⟨h0, m, h1, h2, h3, h4⟩
    · cases h : f k with
      | true => exact .inr ⟨by simp [cnt, h], k, by simp [fst, h, h0], by omega, h, h2⟩
      | false =>
        refine .inl ⟨by simp [cnt, h, h0], by simp [fst, h, h0], fun i hi => ?_⟩
        by_cases e : i = k
        · rw [e]; exact h
        · exact h2 i (by omega)
    · refine .inr ⟨by unfold cnt; omega, m, ?_, by omega, h3, h4⟩
      rw [fst_old (by omega)]; exact h1

theorem fst_miss {f : Nat → Bool} {k : Nat} (h : f k = false) : fst f (k + 1) = fst f k := by
  by_cases h0 : cnt f k = 0
  · rcases fst_spec f k with ⟨_, h1, _⟩ | ⟨h1, _⟩
    · simp [fst, h, h0, h1]
    · omega
  · exact fst_old h0

theorem fst_ge (f : Nat → Bool) (k : Nat) : -1 ≤ fst f k ∧ fst f k ≤ k := by
  rcases fst_spec f k with ⟨_, h1, _⟩ | ⟨_, m, h1, h2, _⟩ <;> omega

/-- Where nothing passes in between, neither turns. -/
theorem cnt_skip {f : Nat → Bool} {k : Nat} : ∀ {m : Nat}, (∀ i, k ≤ i → i < k + m → f i = false) → cnt f (k + m) = cnt f k ∧ fst f (k + m) = fst f k
  | 0, _ => ⟨rfl, rfl⟩
  | m + 1, h => by
    have ih := cnt_skip (f := f) (k := k) (m := m) (fun i h1 h2 => h i h1 (by omega))
    have hm : f (k + m) = false := h (k + m) (by omega) (by omega)
    exact ⟨(cnt_miss hm).trans ih.1, (fst_miss hm).trans ih.2⟩

theorem cnt_congr {f g : Nat → Bool} : ∀ {k : Nat}, (∀ i, i < k → f i = g i) → cnt f k = cnt g k ∧ fst f k = fst g k
  | 0, _ => ⟨rfl, rfl⟩
  | k + 1, h => by
    have ih := cnt_congr (f := f) (g := g) (k := k) (fun i hi => h i (by omega))
    have hk := h k (by omega)
    exact ⟨by simp [cnt, hk, ih.1], by simp [fst, hk, ih.1, ih.2]⟩

theorem cnt_le_of {f g : Nat → Bool} (h : ∀ i, g i = true → f i = true) : ∀ k, cnt g k ≤ cnt f k
  | 0 => Nat.le_refl _
  | k + 1 => by
    have ih := cnt_le_of h k
    unfold cnt
    cases hg : g k with
    | true => simp [h k hg]; exact ih
    | false => simp; split <;> omega

/-- Fewer pass: the first comes no earlier. -/
theorem fst_le_of {f g : Nat → Bool} (h : ∀ i, g i = true → f i = true) (k : Nat) (hg : 0 < cnt g k) : 0 ≤ fst f k ∧ fst f k ≤ fst g k := by
  rcases fst_spec g k with ⟨h0, _, _⟩ | ⟨_, m, h1, h2, h3, h4⟩
  · omega
  · have hf : 0 < cnt f k := Nat.lt_of_lt_of_le hg (cnt_le_of h k)
    rcases fst_spec f k with ⟨h0, _, _⟩ | ⟨_, n, g1, g2, g3, g4⟩
    · omega
    · refine ⟨by omega, ?_⟩
      rw [h1, g1]
      rcases Nat.lt_or_ge m n with hmn | hmn
      · have := g4 m hmn; rw [h m h3] at this; cases this
      · omega

theorem fst_none {f : Nat → Bool} {k : Nat} (h : cnt f k = 0) : fst f k = -1 := by
  rcases fst_spec f k with ⟨_, h1, _⟩ | ⟨h1, _⟩
  · exact h1
  · omega

/-- Two stretches behind one another. -/
theorem cnt_add (f g : Nat → Bool) (a : Nat) : ∀ (b : Nat), (∀ j, j < b → f (a + j) = g j) → cnt f (a + b) = cnt f a + cnt g b
  | 0, _ => rfl
  | b + 1, h => by
    have ih := cnt_add f g a b (fun j hj => h j (by omega))
    have hb := h b (by omega)
    show cnt f (a + b) + (if f (a + b) then 1 else 0) = cnt f a + (cnt g b + (if g b then 1 else 0))
    rw [ih, hb]; omega

theorem fst_add (f g : Nat → Bool) (a : Nat) : ∀ (b : Nat), (∀ j, j < b → f (a + j) = g j) → fst f (a + b) = if 0 < cnt f a then fst f a else if 0 < cnt g b then (a : Int) + fst g b else -1
  | 0, _ => by
    show fst f a = _
    by_cases h : 0 < cnt f a
    · rw [if_pos h]
    · rw [if_neg h, if_neg (by simp [cnt])]; exact fst_none (by omega)
  | b + 1, h => by
    have ih := fst_add f g a b (fun j hj => h j (by omega))
    have hc := cnt_add f g a b (fun j hj => h j (by omega))
    have hb := h b (by omega)
    show (if cnt f (a + b) = 0 then (if f (a + b) then ((a + b : Nat) : Int) else -1) else fst f (a + b)) = _
    by_cases ha : 0 < cnt f a
    · rw [if_neg (by omega), ih, if_pos ha, if_pos ha]
    · rw [if_neg ha] at ih ⊢
      by_cases hg : 0 < cnt g b
      · rw [if_neg (by omega), ih, if_pos hg, if_pos (by unfold cnt; omega), fst_old (by omega)]
      · rw [if_pos (by omega), hb]
        cases hgb : g b with
        | true =>
          have h1 := cnt_hit hgb
          have h2 : fst g (b + 1) = (b : Int) := fst_hit hgb (by omega)
          rw [if_pos rfl, if_pos (by omega), h2]
          omega
        | false =>
          have h1 := cnt_miss hgb
          rw [if_neg (by decide), if_neg (by omega)]

/-- Does a line of d that begins with p begin at i? -/
def hit (d p : List UInt8) (i : Nat) : Bool := occAt d p i && (i == 0 || d[i - 1]? == some 10)

def cntL (d p : List UInt8) (k : Nat) : Nat := cnt (hit d p) k
def fstL (d p : List UInt8) (k : Nat) : Int := fst (hit d p) k
/-- How many lines of d begin with p; where the first does. -/
def lines (d p : List UInt8) : Nat := cntL d p (d.length + 1)
def first (d p : List UInt8) : Int := fstL d p (d.length + 1)

theorem occAt_drop (d p : List UInt8) (k i : Nat) : occAt (d.drop k) p i = occAt d p (k + i) := by
  simp [occAt, List.drop_drop]

/-- The search from k on finds nothing. -/
theorem search_none {d p : List UInt8} {k : Nat} (hk : k ≤ d.length) (h : index (d.drop k) p = -1) : cntL d p k = lines d p ∧ fstL d p k = first d p := by
  rcases index_spec (d.drop k) p with ⟨_, h2⟩ | ⟨i, h2, _⟩
  · have hs := cnt_skip (f := hit d p) (k := k) (m := d.length + 1 - k) (fun i h3 h4 => by
      have := h2 (i - k) (by simp; omega)
      rw [occAt_drop, show k + (i - k) = i from by omega] at this
      simp [hit, this])
    rw [show k + (d.length + 1 - k) = d.length + 1 from by omega] at hs
    exact ⟨hs.1.symm, hs.2.symm⟩
  · omega

/-- The search from k on finds p at k + i. -/
theorem search_some {d p : List UInt8} {k i : Nat} (hp : p ≠ []) (h : index (d.drop k) p = i) :
    k + i < d.length ∧ occAt d p (k + i) = true ∧ cntL d p (k + i) = cntL d p k ∧ fstL d p (k + i) = fstL d p k := by
  rcases index_spec (d.drop k) p with ⟨h1, _⟩ | ⟨j, h1, h2, h3, h4⟩
  · omega
  · obtain rfl : j = i := by omega
    have ho : occAt d p (k + j) = true := by rw [← occAt_drop]; exact h3
    have hr := occAt_room ho
    have hl : 0 < p.length := List.length_pos_iff.2 hp
    have hs := cnt_skip (f := hit d p) (k := k) (m := j) (fun i h5 h6 => by
      have := h4 (i - k) (by omega)
      rw [occAt_drop, show k + (i - k) = i from by omega] at this
      simp [hit, this])
    refine ⟨?_, ho, hs.1, hs.2⟩
    rcases hr with hr | hr
    · omega
    · exact absurd hr hp

theorem hit_zero {d p : List UInt8} (h : occAt d p 0 = true) : hit d p 0 = true := by simp [hit, h]
theorem hit_line {d p : List UInt8} {i : Nat} (h : occAt d p i = true) (hn : d[i - 1]? = some 10) : hit d p i = true := by simp [hit, h, hn]
theorem hit_not {d p : List UInt8} {i : Nat} (h0 : i ≠ 0) (hn : d[i - 1]? ≠ some 10) : hit d p i = false := by
  simp [hit, h0, hn]

/-! ### the first law -/
theorem occAt_shorter {d p t : List UInt8} {i : Nat} (h : occAt d (p ++ t) i = true) : occAt d p i = true := by
  unfold occAt at h ⊢
  rw [List.isPrefixOf_iff_prefix] at h ⊢
  exact (List.prefix_append p t).trans h

theorem hit_shorter (d p t : List UInt8) (i : Nat) (h : hit d (p ++ t) i = true) : hit d p i = true := by
  unfold hit at h ⊢
  rw [Bool.and_eq_true] at h ⊢
  exact ⟨occAt_shorter h.1, h.2⟩

theorem fewer (d p t : List UInt8) : lines d (p ++ t) ≤ lines d p := cnt_le_of (hit_shorter d p t) _
theorem no_later (d p t : List UInt8) (h : 0 < lines d (p ++ t)) : 0 ≤ first d p ∧ first d p ≤ first d (p ++ t) := fst_le_of (hit_shorter d p t) _ h
theorem first_none (d p : List UInt8) (h : lines d p = 0) : first d p = -1 := fst_none h

theorem lines_le (d p : List UInt8) : lines d p ≤ d.length + 1 := cnt_le _ _
theorem first_ge (d p : List UInt8) : -1 ≤ first d p ∧ first d p ≤ d.length + 1 := by
  have := fst_ge (hit d p) (d.length + 1); unfold first fstL; omega

/-! ### the third law -/
theorem occAt_append_right (a b p : List UInt8) (j : Nat) : occAt (a ++ b) p (a.length + j) = occAt b p j := by
  unfold occAt
  rw [List.drop_append, List.drop_eq_nil_of_le (by omega)]
  simp

theorem hit_right {a b p : List UInt8} (ha : a = [] ∨ a[a.length - 1]? = some 10) (j : Nat) : hit (a ++ b) p (a.length + j) = hit b p j := by
  unfold hit
  rw [occAt_append_right]
  congr 1
  cases j with
  | zero =>
    rcases ha with rfl | ha
    · simp
    · have hl : 0 < a.length := by
        cases a with
        | nil => simp at ha
        | cons x t => simp
      have : (a ++ b)[a.length - 1]? = some 10 := by rw [List.getElem?_append_left (by omega)]; exact ha
      simp [this]
  | succ j =>
    have : (a ++ b)[a.length + (j + 1) - 1]? = b[j + 1 - 1]? := by
      rw [show a.length + (j + 1) - 1 = a.length + j from by omega, List.getElem?_append_right (by omega)]
      simp
    rw [this]
    simp

/-- Where p occurs, it stands byte by byte. -/
theorem occAt_get {d p : List UInt8} {i : Nat} (h : occAt d p i = true) (j : Nat) (hj : j < p.length) : d[i + j]? = p[j]? := by
  unfold occAt at h
  rw [List.isPrefixOf_iff_prefix] at h
  obtain ⟨t, ht⟩ := h
  have : (d.drop i)[j]? = p[j]? := by rw [← ht, List.getElem?_append_left hj]
  rw [← this, List.getElem?_drop]

theorem occAt_left {a b p : List UInt8} {i : Nat} (hi : i + p.length ≤ a.length) : occAt (a ++ b) p i = occAt a p i := by
  unfold occAt
  rw [List.drop_append_of_le_length (by omega)]
  rw [Bool.eq_iff_iff, List.isPrefixOf_iff_prefix, List.isPrefixOf_iff_prefix]
  constructor
  · intro h
    exact List.prefix_of_prefix_length_le h (List.prefix_append _ _) (by simp; omega)
  · intro h
    exact h.trans (List.prefix_append _ _)

theorem hit_left {a b p : List UInt8} (ha : a = [] ∨ a[a.length - 1]? = some 10) (hp : ∀ x ∈ p, x ≠ 10) (i : Nat) (hi : i < a.length) : hit (a ++ b) p i = hit a p i := by
  have hne : a[a.length - 1]? = some 10 := by
    rcases ha with rfl | ha
    · simp at hi
    · exact ha
  have ho : occAt (a ++ b) p i = occAt a p i := by
    by_cases hl : i + p.length ≤ a.length
    · exact occAt_left hl
    · have hj : a.length - 1 - i < p.length := by omega
      have key : ∀ d : List UInt8, d[a.length - 1]? = some 10 → occAt d p i = false := fun d hd => by
        cases h : occAt d p i with
        | false => rfl
        | true =>
          exfalso
          have e := occAt_get h (a.length - 1 - i) hj
          rw [show i + (a.length - 1 - i) = a.length - 1 from by omega, hd] at e
          exact hp 10 (List.mem_of_getElem? e.symm) rfl
      rw [key a hne, key (a ++ b) (by rw [List.getElem?_append_left (by omega)]; exact hne)]
  unfold hit
  rw [ho]
  congr 1
  rw [List.getElem?_append_left (by omega)]

theorem hit_end {a p : List UInt8} (hp : p ≠ []) : hit a p a.length = false := by
  have : occAt a p a.length = false := by
    unfold occAt
    rw [List.drop_length]
    cases p with
    | nil => exact absurd rfl hp
    | cons x t => rfl
  simp [hit, this]

theorem lines_concat {a b p : List UInt8} (hp0 : p ≠ []) (ha : a = [] ∨ a[a.length - 1]? = some 10) (hp : ∀ x ∈ p, x ≠ 10) :
    lines (a ++ b) p = lines a p + lines b p ∧ first (a ++ b) p = if 0 < lines a p then first a p else if 0 < lines b p then (a.length : Int) + first b p else -1 := by
  have hr : ∀ j, j < b.length + 1 → hit (a ++ b) p (a.length + j) = hit b p j := fun j _ => hit_right ha j
  have hl := cnt_congr (f := hit (a ++ b) p) (g := hit a p) (k := a.length) (fun i hi => hit_left ha hp i hi)
  have c := cnt_add (hit (a ++ b) p) (hit b p) a.length (b.length + 1) hr
  have f := fst_add (hit (a ++ b) p) (hit b p) a.length (b.length + 1) hr
  have e1 : lines a p = cnt (hit a p) a.length := cnt_miss (hit_end hp0)
  have e2 : first a p = fst (hit a p) a.length := fst_miss (hit_end hp0)
  have e3 : lines (a ++ b) p = cnt (hit (a ++ b) p) (a.length + (b.length + 1)) := by unfold lines cntL; rw [List.length_append]; rfl
  have e4 : first (a ++ b) p = fst (hit (a ++ b) p) (a.length + (b.length + 1)) := by unfold first fstL; rw [List.length_append]; rfl
  have e5 : lines b p = cnt (hit b p) (b.length + 1) := rfl
  have e6 : first b p = fst (hit b p) (b.length + 1) := rfl
  rw [e1, e2, e3, e4, e5, e6, c, f, hl.1, hl.2]
  exact ⟨rfl, rfl⟩

end Go.Proofs.Qxb6000904a.Plain
