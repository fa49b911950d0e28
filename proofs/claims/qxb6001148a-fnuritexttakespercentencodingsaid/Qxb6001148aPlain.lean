/-
  The plain law of the two statements on isURIText: no Go in sight.
-/
import Derived.Lib.IndexAny
namespace Go.Proofs.Qxb6001148a.Plain

def alpha (c : UInt8) : Bool := (65 ≤ c.toNat && c.toNat ≤ 90) || (97 ≤ c.toNat && c.toNat ≤ 122)
def digit (c : UInt8) : Bool := 48 ≤ c.toNat && c.toNat ≤ 57
def hex (c : UInt8) : Bool := (48 ≤ c.toNat && c.toNat ≤ 57) || (65 ≤ c.toNat && c.toNat ≤ 70) || (97 ≤ c.toNat && c.toNat ≤ 102)

/-- The bytes of the constant in isURIText. -/
def punct : List UInt8 := [45, 46, 95, 126, 33, 36, 38, 39, 40, 41, 42, 43, 44, 59, 61]

/-- Is the byte among them? -/
def has (l : List UInt8) (c : UInt8) : Bool := l.contains c

/-- May the byte stand alone? -/
def ok (x : List UInt8) (c : UInt8) : Bool := alpha c || digit c || has punct c || has x c

/-- isURIText. -/
def uri (x : List UInt8) : List UInt8 → Bool
  | [] => true
  | [c] => ok x c
  | [c, d] => ok x c && ok x d
  | c :: a :: b :: r => if ok x c then uri x (a :: b :: r) else if c == 37 && hex a && hex b then uri x r else false

theorem uri_ok {x : List UInt8} {c : UInt8} (t : List UInt8) (h : ok x c = true) : uri x (c :: t) = uri x t := by
  match t with
  | [] => simp [uri, h]
  | [d] => simp [uri, h]
  | a :: b :: r => rw [uri]; simp [h]

theorem uri_pct {x : List UInt8} {c a b : UInt8} (r : List UInt8) (h : ok x c = false) (hc : c = 37) (ha : hex a = true) (hb : hex b = true) : uri x (c :: a :: b :: r) = uri x r := by
  subst hc
  rw [uri]
  simp [h, ha, hb]

/-- A byte that may not stand alone and begins no percent-encoded octet. -/
theorem uri_bad {x : List UInt8} {c : UInt8} (t : List UInt8) (h : ok x c = false) (hn : ¬ (c = 37 ∧ ∃ a b r, t = a :: b :: r ∧ hex a = true ∧ hex b = true)) : uri x (c :: t) = false := by
  match t with
  | [] => simp [uri, h]
  | [d] => simp [uri, h]
  | a :: b :: r =>
    rw [uri]
    simp only [h, Bool.false_eq_true, if_false]
    rw [if_neg]
    intro g
    simp only [Bool.and_eq_true, beq_iff_eq] at g
    exact hn ⟨g.1.1, a, b, r, rfl, g.1.2, g.2⟩

/-! ### without a percent sign -/
def allOk (x l : List UInt8) : Bool := l.all (ok x)

theorem uri_plain {x : List UInt8} : ∀ (l : List UInt8), (∀ c ∈ l, c ≠ 37) → uri x l = allOk x l
  | [], _ => rfl
  | c :: t, h => by
    have ht := uri_plain (x := x) t (fun d hd => h d (List.mem_cons_of_mem _ hd))
    unfold allOk at ht ⊢
    cases hc : ok x c with
    | true => rw [uri_ok t hc, ht]; simp [hc]
    | false => rw [uri_bad t hc (fun g => h c List.mem_cons_self g.1)]; simp [hc]

/-- zzb1AloneOK. -/
def alone : List UInt8 := [65, 66, 67, 68, 69, 70, 71, 72, 73, 74, 75, 76, 77, 78, 79, 80, 81, 82, 83, 84, 85, 86, 87, 88, 89, 90, 97, 98, 99, 100, 101, 102, 103, 104, 105, 106, 107, 108, 109, 110, 111, 112, 113, 114, 115, 116, 117, 118, 119, 120, 121, 122, 48, 49, 50, 51, 52, 53, 54, 55, 56, 57, 45, 46, 95, 126, 33, 36, 38, 39, 40, 41, 42, 43, 44, 59, 61]

theorem alone_fin : ∀ n : Fin 256, has alone (UInt8.ofNat n.val) = (alpha (UInt8.ofNat n.val) || digit (UInt8.ofNat n.val) || has punct (UInt8.ofNat n.val)) := by decide +kernel

theorem alone_eq (c : UInt8) : has alone c = (alpha c || digit c || has punct c) := by
  have := alone_fin ⟨c.toNat, c.toNat_lt⟩
  simpa using this

theorem ok_eq (x : List UInt8) (c : UInt8) : ok x c = (has alone c || has x c) := by rw [alone_eq]; rfl

theorem allOk_of {x l : List UInt8} (h : ∀ i, i < l.length → ∀ c, l[i]? = some c → ok x c = true) : allOk x l = true := by
  unfold allOk
  rw [List.all_eq_true]
  intro c hc
  obtain ⟨i, hi, e⟩ := List.mem_iff_getElem.1 hc
  exact h i hi c (by rw [List.getElem?_eq_getElem hi, e])

theorem allOk_not {x l : List UInt8} {i : Nat} {c : UInt8} (h : l[i]? = some c) (hc : ok x c = false) : allOk x l = false := by
  unfold allOk
  rw [List.all_eq_false]
  exact ⟨c, List.mem_of_getElem? h, by rw [hc]; simp⟩

/-! ### percent-encoded -/
theorem ok_hex {x : List UInt8} {c : UInt8} (h : hex c = true) : ok x c = true := by
  have : (alpha c || digit c) = true := by
    unfold hex at h
    unfold alpha digit
    simp at h ⊢
    omega
  unfold ok
  rw [this]
  simp

theorem uri_octet {x : List UInt8} {a b : UInt8} (r : List UInt8) (ha : hex a = true) (hb : hex b = true) : uri x (37 :: a :: b :: r) = uri x r := by
  cases h : ok x 37 with
  | true => rw [uri_ok _ h, uri_ok _ (ok_hex ha), uri_ok _ (ok_hex hb)]
  | false => exact uri_pct r h rfl ha hb

/-- What is behind such a text alone decides. -/
def Idle (x l : List UInt8) : Prop := ∀ r, uri x (l ++ r) = uri x r

theorem Idle.nil (x : List UInt8) : Idle x [] := fun _ => rfl
theorem Idle.octet {x l : List UInt8} (h : Idle x l) {a b : UInt8} (ha : hex a = true) (hb : hex b = true) : Idle x (l ++ [37, a, b]) := fun r => by
  rw [List.append_assoc, h]
  exact uri_octet r ha hb
theorem Idle.uri {x l : List UInt8} (h : Idle x l) : Plain.uri x l = true := by
  have := h []
  rw [List.append_nil] at this
  rw [this]; rfl

/-! ### indexByte -/
theorem index_neg {p : List UInt8} {c : UInt8} (h : has p c = false) : Lib.indexByte p c < 0 := by
  unfold has at h
  rw [Lib.contains_iff_indexByte] at h
  have := of_decide_eq_false h
  omega
theorem index_nonneg {p : List UInt8} {c : UInt8} (h : has p c = true) : 0 ≤ Lib.indexByte p c := by
  unfold has at h
  rw [Lib.contains_iff_indexByte] at h
  exact of_decide_eq_true h

/-! ### c | 0x20, c >> 4, c & 15 -/
theorem or_alpha : ∀ n : Fin 256, (decide (97 ≤ n.val ||| 32) && decide (n.val ||| 32 ≤ 122)) = alpha (UInt8.ofNat n.val) := by decide +kernel
theorem or_hex : ∀ n : Fin 256, (decide (97 ≤ n.val ||| 32) && decide (n.val ||| 32 ≤ 102)) = (decide (65 ≤ n.val ∧ n.val ≤ 70) || decide (97 ≤ n.val ∧ n.val ≤ 102)) := by decide +kernel

theorem alpha_or (c : UInt8) : alpha c = true ↔ 97 ≤ c.toNat ||| 32 ∧ c.toNat ||| 32 ≤ 122 := by
  have := or_alpha ⟨c.toNat, c.toNat_lt⟩
  simp only [UInt8.ofNat_toNat] at this
  rw [← this]
  simp

theorem hex_or (c : UInt8) : hex c = true ↔ (48 ≤ c.toNat ∧ c.toNat ≤ 57) ∨ (97 ≤ c.toNat ||| 32 ∧ c.toNat ||| 32 ≤ 102) := by
  have h := or_hex ⟨c.toNat, c.toNat_lt⟩
  have h' : (97 ≤ c.toNat ||| 32 ∧ c.toNat ||| 32 ≤ 102) ↔ (65 ≤ c.toNat ∧ c.toNat ≤ 70) ∨ (97 ≤ c.toNat ∧ c.toNat ≤ 102) := by
    have := congrArg (· = true) h
    simpa using this
  rw [h']
  unfold hex
  simp [or_assoc]

end Go.Proofs.Qxb6001148a.Plain
