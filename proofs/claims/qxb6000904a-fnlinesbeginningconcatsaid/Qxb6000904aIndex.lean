/-
  bytes.Index by the shelf's contract, in this seat's words; and what a slice of bytes that came in holds.
-/
import Derived.Test.Qxb6000904aShelf
import Derived.Test.Qxb6000904aTop
import Derived.Shelf.Bytes.SlIndexWhole
namespace Go.Proofs.Qxb6000904a
open Go.RowKit

def nums (l : List UInt8) : List Int := l.map fun x => (x.toNat : Int)
theorem nums_length (l : List UInt8) : (nums l).length = l.length := by simp [nums]
theorem bytesOf_nums (l : List UInt8) : Lib.bytesOf (nums l) = l := by
  simp [Lib.bytesOf, nums, Function.comp_def]
theorem nums_range (l : List UInt8) : ∀ x ∈ nums l, 0 ≤ x ∧ x < 256 := by
  intro x hx
  obtain ⟨b, _, rfl⟩ := List.mem_map.1 hx
  have := b.toNat_lt
  omega
theorem nums_getD (l : List UInt8) (i : Nat) (h : i < l.length) : (nums l).getD i 0 = (l[i].toNat : Int) := by
  simp [nums, List.getD, h]

theorem add_plain (b o i : Nat) : (⟨b, o, none⟩ : Addr).add i = ⟨b, o + i, none⟩ := Lib.add_plain' b o i

theorem Holds.nums {w : World} {x : Addr} {n c : Nat} {l : List UInt8} (h : Holds w (.slice (some x) n c) l) : ∀ i, i < l.length → w.cell? (x.add i) = some (.int .u8 ((nums l).getD i 0)) := by
  intro i hi
  obtain ⟨a', c', e, _, _, _, hc⟩ := h
  simp only [Value.slice.injEq] at e
  obtain ⟨rfl, _, _⟩ := e
  obtain ⟨b, o, e, hcc⟩ := hc (by intro e; subst e; simp at hi)
  obtain rfl := Option.some.inj e
  rw [add_plain, hcc i hi, nums_getD l i hi]

theorem indexSaid : IndexSaid := by
  intro v u d p w m h1 h2 hp hd hpl hm
  obtain ⟨a, c, rfl⟩ := h1.shape
  obtain ⟨a', c', rfl⟩ := h2.shape
  have hlp : 0 < p.length := List.length_pos_iff.2 hp
  obtain ⟨b2, o2, rfl, hc2⟩ : ∃ b o, a' = some ⟨b, o, none⟩ ∧ ∀ i (h : i < p.length), w.cell? ⟨b, o + i, none⟩ = some (.int .u8 (p[i].toNat : Int)) := by
    obtain ⟨_, _, e, _, _, _, hc⟩ := h2
    simp only [Value.slice.injEq] at e
    obtain ⟨rfl, _, _⟩ := e
    exact hc hp
  cases a with
  | none =>
    obtain ⟨a3, c3, e, g1, g2, g3, _⟩ := h1
    simp only [Value.slice.injEq] at e
    obtain ⟨rfl, _, rfl⟩ := e
    obtain rfl := g3 rfl
    obtain rfl : d = [] := List.length_eq_zero_iff.1 (by omega)
    have h := Any.bytes_Index_nil { Try.laysM185 with } (some ⟨b2, o2, none⟩) p.length c' w (by omega) (fun _ => ⟨b2, o2, _, rfl, hc2 0 hlp⟩)
    refine h.mono fun e w' ⟨he, hw⟩ => ⟨?_, 0, hw⟩
    rw [he, if_neg (by omega)]
    cases p with
    | nil => exact absurd rfl hp
    | cons y t => rfl
  | some x =>
    have hcap : d.length ≤ c := by
      obtain ⟨_, _, e, g1, _⟩ := h1
      simp only [Value.slice.injEq] at e
      omega
    have h := Any.bytes_Index_at { Try.laysM185 with } x ⟨b2, o2, none⟩ d.length c p.length c' (nums d) (nums p) m w (nums_length d) (nums_length p) (nums_range d) (nums_range p) h1.nums h2.nums hcap (by omega) (by omega) hm
    rw [bytesOf_nums, bytesOf_nums] at h
    exact h

theorem byte_of_wf {x : Int} (h : (Lit.int .u8 x).wf = true) : 0 ≤ x ∧ x < 256 := by
  have h1 : IntKind.u8.min = 0 := rfl
  have h2 : IntKind.u8.max = 255 := rfl
  simp only [Lit.wf, Bool.and_eq_true, decide_eq_true_eq] at h
  omega

/-- A slice of bytes that came in, as the shell's 'IsRow' tells it, holds its bytes. -/
theorem holds_of_row {w : World} {a : Option Addr} {len cap : Nat} {zs : List Int}
    (h : (a = none ∧ len = 0 ∧ cap = 0 ∧ zs = []) ∨ ∃ x, a = some x ∧ len ≤ cap ∧ cap ≤ maxLen ∧ zs.length = cap ∧ (∀ i, i < zs.length → w.cell? (x.add i) = some (.int .u8 (zs.getD i 0))) ∧ ∀ n ∈ zs, (Lit.int .u8 n).wf = true) :
    ∃ l, Holds w (.slice a len cap) l := by
  rcases h with ⟨rfl, rfl, rfl, rfl⟩ | ⟨x, rfl, h1, h2, h3, h4, h5⟩
  · exact ⟨[], none, 0, rfl, Nat.le_refl _, Nat.zero_le _, fun _ => rfl, fun h => absurd rfl h⟩
  · have hl : (Lib.bytesOf (zs.take len)).length = len := by rw [Lib.bytesOf_length, List.length_take]; omega
    refine ⟨Lib.bytesOf (zs.take len), some x, cap, by rw [hl], by omega, h2, fun e => (by cases e), fun hne => ?_⟩
    have hpos : 0 < len := by rw [← hl]; exact List.length_pos_iff.2 hne
    have hx : x = ⟨x.block, x.off, none⟩ := Lib.plain_of_cell (by simpa [Addr.add] using h4 0 (by omega))
    obtain ⟨b, o, sp⟩ := x
    simp only [Addr.mk.injEq, true_and] at hx
    subst hx
    refine ⟨b, o, rfl, fun i hi => ?_⟩
    have hi' : i < zs.length := by omega
    rw [← add_plain, h4 i hi']
    have hb := byte_of_wf (h5 zs[i] (List.getElem_mem hi'))
    simp only [Lib.bytesOf, List.getElem_map, List.getElem_take, UInt8.toNat_ofNat']
    rw [show zs.getD i 0 = zs[i] from by simp [List.getD, hi']]
    congr 2
    omega

end Go.Proofs.Qxb6000904a
