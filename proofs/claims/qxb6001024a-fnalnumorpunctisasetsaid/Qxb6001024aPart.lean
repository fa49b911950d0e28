/-
  The walk of zzB1AlnumPart.
-/
import Derived.Test.Qxb6001024aWalks
import Derived.Laws.IdiomStrings
namespace Go.Proofs.Qxb6001024a
open Go.RowKit Plain
set_option linter.unusedVariables false

theorem Try.info5 : (Try.prog.info? 5).map (fun i => (i.zero, i.size, i.bytes)) = some (some (.int .u8 0), 1, 1) := by kernel_rfl

theorem ret_str {a b : List UInt8} (h : a = b) : Ending.returned (.string ⟨a.toArray⟩) = .returned (.string ⟨b.toArray⟩) := by rw [h]

def byteV (x : UInt8) : Value := .int .u8 (x.toNat : Int)

theorem byteV_one (l : List UInt8) : ∀ u ∈ l.map byteV, u.oneCell' = true := by
  intro u hu
  obtain ⟨x, _, rfl⟩ := List.mem_map.1 hu
  rfl

theorem table_call (x : UInt8) (w : World) : Calls Try.prog 10 #[.string ⟨#[65, 66, 67, 68, 69, 70, 71, 72, 73, 74, 75, 76, 77, 78, 79, 80, 81, 82, 83, 84, 85, 86, 87, 88, 89, 90, 97, 98, 99, 100, 101, 102, 103, 104, 105, 106, 107, 108, 109, 110, 111, 112, 113, 114, 115, 116, 117, 118, 119, 120, 121, 122, 48, 49, 50, 51, 52, 53, 54, 55, 56, 57]⟩, .int .u8 (x.toNat : Int)] w fun e w' => e = .returned (.bool (has table x)) ∧ w' = w :=
  hasByte _ x w (by decide)

theorem take_snoc (s : ByteArray) (k : Nat) (h : k < s.size) : s.data.toList.take (k + 1) = s.data.toList.take k ++ [s[k]] := by
  rw [List.take_succ_eq_append_getElem (by simpa using h)]; rfl

set_option maxHeartbeats 1000000 in
theorem part_any (q : ByteArray) (w : World) (hq : q.size ≤ 1048576) :
    Calls Try.prog 8 #[.string q] w fun e w' => e = .returned (.string ⟨(Plain.part q.data.toList).toArray⟩) ∧ Below w.heap.size w w' := by
  obtain ⟨i0, hi, hz0, hz1, hz2⟩ := info_parts Try.info5
  go_enter Try.func8, Try.ntmps8
  go_wp2_with (at_make; refine wpList_make_own _ rfl _ _ 26 rfl w.heap.size 5 i0 (.int .u8 0) 1 Try.underlying26 hi hz0 hz1 _ _ _ q.size rfl rfl (by omega) (by rw [hz2]; omega) (by unfold maxLen; omega) (Nat.le_refl _) ?_)
  intro w1 hown hgrow
  have HB1 : Hid (Below w.heap.size w w1) := hid ((Below.refl _ w).grown hgrow (Nat.le_refl _) (fun k h => by cases h))
  have HO1 := hid hown
  clear hown hgrow
  go_wp2
  go_loopw [3, 4] (fun d i wr => ∃ (k : Nat) (acc : List UInt8), k ≤ q.size ∧ i = .int .i64 k ∧ d = .slice (some ⟨w.heap.size, 0, none⟩) acc.length q.size ∧ acc.length ≤ k ∧ Hid (acc = Plain.part (q.data.toList.take k)) ∧ Hid (wr.ownsRow w.heap.size 5 1 (.slice (some ⟨w.heap.size, 0, none⟩) acc.length q.size) acc.length (acc.map byteV)) ∧ Hid (Below w.heap.size w wr)) (fun _ i _ => q.size - (intOf i).toNat)
  case atStart => exact ⟨0, [], Nat.zero_le _, rfl, rfl, Nat.le_refl _, hid rfl, HO1, HB1⟩
  case round =>
    obtain ⟨k, acc, hk, rfl, rfl, hal, HA, HO, HB⟩ := hrel
    clear HO1 HB1
    by_cases hlt : k < q.size
    · have HS := hid (take_snoc q k hlt)
      obtain ⟨x, hx⟩ : ∃ x, q[k] = x := ⟨_, rfl⟩
      rw [hx] at HS
      cases ht : has table x with
      | true =>
        have HT := hid (fun w => (table_call x w))
        rw [ht] at HT
        have HP : Hid (acc ++ [x] = Plain.part (q.data.toList.take (k + 1))) := hid (by rw [HS.out, part_snoc, ← HA.out]; rw [if_pos (show table.contains x = true from ht)])
        clear ht
        go_wp2_with (first | (go_at_call 10; refine (HT.out _).mono ?_; rintro e w' ⟨rfl, rfl⟩) | (at_builtin; refine wpList_append_fits _ rfl (.tmp 18) (.tmp 22) 26 rfl w.heap.size 5 i0 1 Try.underlying26 hi hz1 w.heap.size acc.length q.size (acc.map byteV) rfl (HO.out.alloc _) ⟨w'.heap.size, 0, none⟩ 1 1 [byteV x] rfl rfl (cell_one_new _ _ _) (byteV_one [x]) (by omega) ?_))
        intro w2 hown hgrow
        have HO2 := hid hown
        have HB2 : Hid (Below w.heap.size w w2) := hid ((HB.out.alloc (HB.out.size) _).grown hgrow (by have := HB.out.size; simp; omega) (fun k h => by cases h; exact Nat.le_refl _))
        clear hown hgrow HO HB
        go_wp2
        go_roundw
        case rel => exact ⟨k + 1, acc ++ [x], by omega, by go_num, by simp, by simp; omega, HP, hid (by simpa using HO2.out), HB2⟩
        case measure => simp [intOf]; omega
      | false =>
        have HT := hid (fun w => (table_call x w))
        rw [ht] at HT
        have HP : Hid (acc = Plain.part (q.data.toList.take (k + 1))) := hid (by rw [HS.out, part_snoc, ← HA.out]; rw [if_neg (by rw [show table.contains x = false from ht]; decide)]; simp)
        clear ht
        go_wp2_with (go_at_call 10; refine (HT.out _).mono ?_; rintro e w' ⟨rfl, rfl⟩)
        go_roundw
        case rel => exact ⟨k + 1, acc, by omega, by go_num, rfl, by omega, HP, HO, HB⟩
        case measure => simp [intOf]; omega
    · have hconv : (convert 26 9 (.slice (some ⟨w.heap.size, 0, none⟩) acc.length q.size)).run Try.prog wr = .ok (.string ⟨acc.toArray⟩) wr :=
        run_convert_bytes_back wr 26 9 5 ⟨w.heap.size, 0, none⟩ q.size acc Try.underlying26 Try.underlying5 Try.underlying9 (fun j hj => by
          have := HO.out.cells (g := w.heap.size) rfl j (byteV acc[j]) (by simp [hj])
          exact this)
      have HF : Hid (acc = Plain.part q.data.toList) := hid (by rw [HA.out, List.take_of_length_le (by rw [size_list]; omega)])
      go_wp2
      go_ret
      exact ⟨ret_str HF.out, HB.out⟩

end Go.Proofs.Qxb6001024a
