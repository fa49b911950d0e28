/-
  Slices of bytes as the walks of this seat tell them: 'Holds w v l': the value v is a slice of the bytes l in the world w. 'buf n l': a new row of n bytes of which the first are l, the rest zero.
-/
import Derived.Test.Qxb6000904aRows
import Derived.Test.Qxb6000904aPlain
import Derived.WalkKit
import Derived.Below
import Derived.OwnWalk
namespace Go.Proofs.Qxb6000904a
open Go.RowKit

def byteV (x : UInt8) : Value := .int .u8 (x.toNat : Int)

def Holds (w : World) (v : Value) (l : List UInt8) : Prop :=
  ∃ a c, v = .slice a l.length c ∧ l.length ≤ c ∧ c ≤ maxLen ∧ (a = none → c = 0) ∧
    (l ≠ [] → ∃ b o, a = some ⟨b, o, none⟩ ∧ ∀ i (h : i < l.length), w.cell? ⟨b, o + i, none⟩ = some (.int .u8 (l[i].toNat : Int)))

theorem Holds.later {w w' : World} {v : Value} {l : List UInt8} (h : Holds w v l) (hb : Below w.heap.size w w') : Holds w' v l := by
  obtain ⟨a, c, rfl, h1, h2, h3, h4⟩ := h
  refine ⟨a, c, rfl, h1, h2, h3, fun hl => ?_⟩
  obtain ⟨b, o, rfl, hc⟩ := h4 hl
  refine ⟨b, o, rfl, fun i hi => ?_⟩
  have := hc i hi
  rw [hb.cell (World.block_lt_of_cell? w ⟨b, o + i, none⟩ this)]
  exact this

/-- A new row of n bytes: the first are l, the rest zero. -/
def buf (n : Nat) (l : List UInt8) : Array Value := (l.map byteV ++ List.replicate (n - l.length) (Value.int .u8 0)).toArray

theorem buf_make (n : Nat) : madeCells #[.int .u8 0] (n * 1) = buf n [] := by
  apply Array.toList_inj.1
  rw [toList_madeCells_one]
  simp [buf]

theorem buf_zero {n : Nat} {l : List UInt8} (h : l.length < n) : (buf n l)[l.length]? = some (.int .u8 0) := by
  unfold buf
  rw [List.getElem?_toArray, List.getElem?_append_right (by simp)]
  rw [List.getElem?_replicate]
  simp
  omega

theorem buf_set {n : Nat} {l : List UInt8} (h : l.length < n) (x : UInt8) : (buf n l).setIfInBounds l.length (.int .u8 (x.toNat : Int)) = buf n (l ++ [x]) := by
  apply Array.toList_inj.1
  simp only [buf, Array.toList_setIfInBounds, List.length_append, List.length_cons, List.length_nil, List.map_append, List.map_cons, List.map_nil]
  rw [List.set_append_right _ _ (by simp)]
  simp only [List.length_map, Nat.sub_self, List.append_assoc]
  congr 1
  obtain ⟨m, hm⟩ : ∃ m, n - l.length = m + 1 := ⟨n - l.length - 1, by omega⟩
  rw [hm, show n - (l.length + (0 + 1)) = m from by omega, List.replicate_succ]
  rfl

theorem buf_get {n : Nat} {l : List UInt8} (i : Nat) (h : i < l.length) : (buf n l)[i]? = some (.int .u8 (l[i].toNat : Int)) := by
  simp [buf, List.getElem?_append_left, h, byteV]

theorem holds_new (w : World) (n : Nat) (l : List UInt8) (hn : l.length = n) (hm : n ≤ maxLen) : Holds (w.alloc (.cells (buf n l) 5)) (.slice (some ⟨w.heap.size, 0, none⟩) n n) l := by
  subst hn
  refine ⟨some ⟨w.heap.size, 0, none⟩, l.length, rfl, Nat.le_refl _, hm, fun h => (by cases h), fun _ => ⟨w.heap.size, 0, rfl, fun i hi => ?_⟩⟩
  rw [World.cell?_alloc_at _ _ _ _ rfl, Nat.zero_add]
  exact buf_get i hi

theorem Try.info5 : (Try.prog.info? 5).map (fun i => (i.zero, i.size, i.bytes)) = some (some (.int .u8 0), 1, 1) := by kernel_rfl

theorem run_make5 (w : World) (n : Nat) (hn : n ≤ 281474976710656) : (Instr.makeSlice 22 (.int .i64 (n : Int)) (.int .i64 (n : Int))).run Try.prog w = .ok (.slice (some ⟨w.heap.size, 0, none⟩) n n) (w.alloc (.cells (buf n []) 5)) := by
  obtain ⟨i0, hi, hz0, hz1, hz2⟩ := info_parts Try.info5
  have h := run_make (P := Try.prog) w 22 5 i0 (.int .u8 0) Try.underlying22 hi hz0 .i64 .i64 (n : Int) (n : Int) (by omega) (by omega) (by rw [hz2]; omega) (by omega)
  rw [h, hz1, Int.toNat_natCast]
  rw [show (Value.int IntKind.u8 0).cells = #[.int .u8 0] from rfl, buf_make]

end Go.Proofs.Qxb6000904a
