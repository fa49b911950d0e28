/-
  The walks of isAlpha, isHex, isURIText and its shim, hasByteB1, hexDigitB1 and of the two bounds on lengths.
-/
import Derived.Test.Qxb6001148aRows
import Derived.Test.Qxb6001148aPlain
import Derived.Test.Qxb6001148aShelf
import Derived.WalkKit
import Derived.Below
import Derived.OwnWalk
import Derived.Outline
import Derived.WalkSpells
import Derived.WalkLawsBesides
import Derived.Lib.IndexBytes
import Derived.Laws.BitsAllLaws
namespace Go.Proofs.Qxb6001148a
open Go.RowKit Plain
set_option linter.unusedVariables false

theorem hid {q : Prop} (h : q) : Hid q := h
theorem ret_bool {a b : Bool} (h : a = b) : Ending.returned (.bool a) = .returned (.bool b) := by rw [h]
theorem get_some (s : ByteArray) (k : Nat) (h : k < s.size) : s.data.toList[k]? = some s[k] := Lib.data_getElem? s k h
theorem size_list (s : ByteArray) : s.data.toList.length = s.size := by simp

theorem or32 (x : UInt8) : bits .or .u8 (x.toNat : Int) 32 = ((x.toNat ||| 32 : Nat) : Int) := u8_or_nat x.toNat 32 x.toNat_lt (by decide)

set_option maxHeartbeats 400000 in
theorem isAlpha (x : UInt8) (w : World) :
    Calls Try.prog 31 #[.int .u8 (x.toNat : Int)] w fun e w' => e = .returned (.bool (alpha x)) ∧ w' = w := by
  have h := alpha_or x
  have ho := or32 x
  generalize x.toNat ||| 32 = v at h ho
  by_cases g : 97 ≤ v
  · by_cases g' : v ≤ 122
    · have HA := hid (h.2 ⟨g, g'⟩)
      clear h
      go_enter Try.func31, Try.ntmps31
      go_wp2
      go_ret
      exact ⟨ret_bool (by rw [HA.out]; exact decide_eq_true (by omega)), rfl⟩
    · have HA : Hid (alpha x = false) := hid (Bool.eq_false_iff.2 (fun e => g' (h.1 e).2))
      clear h
      go_enter Try.func31, Try.ntmps31
      go_wp2
      go_ret
      exact ⟨ret_bool (by rw [HA.out]; exact decide_eq_false (by omega)), rfl⟩
  · have HA : Hid (alpha x = false) := hid (Bool.eq_false_iff.2 (fun e => g (h.1 e).1))
    clear h
    go_enter Try.func31, Try.ntmps31
    go_wp2
    go_ret
    exact ⟨ret_bool HA.out.symm, rfl⟩


set_option maxHeartbeats 400000 in
theorem bytes22 (s p : ByteArray) (w : World) (h0 : s.size ≤ maxLen) (h1 : p.size ≤ maxLen) :
    Calls Try.prog 22 #[.string s, .string p] w fun e w' => e = .returned (.bool (decide (s.size + p.size ≤ 1048576))) ∧ w' = w := by
  unfold maxLen at h0 h1
  by_cases g0 : s.size ≤ 1048576
  · by_cases g1 : p.size ≤ 1048576
    · by_cases g3 : s.size + p.size ≤ 1048576
      · rw [decide_eq_true g3]
        go_enter Try.func22, Try.ntmps22
        go_wp2
        go_ret
        exact ⟨rfl, rfl⟩
      · rw [decide_eq_false (by omega)]
        go_enter Try.func22, Try.ntmps22
        go_wp2
        go_ret
        exact ⟨rfl, rfl⟩
    · rw [decide_eq_false (by omega)]
      go_enter Try.func22, Try.ntmps22
      go_wp2
      all_goals
        go_ret
        exact ⟨rfl, rfl⟩
  · rw [decide_eq_false (by omega)]
    go_enter Try.func22, Try.ntmps22
    go_wp2
    all_goals
      go_ret
      exact ⟨rfl, rfl⟩

set_option maxHeartbeats 400000 in
theorem bytes24 (s p : ByteArray) (w : World) (h0 : s.size ≤ maxLen) (h1 : p.size ≤ maxLen) :
    Calls Try.prog 24 #[.string s, .string p] w fun e w' => e = .returned (.bool (decide (s.size + p.size ≤ 1048576))) ∧ w' = w := by
  unfold maxLen at h0 h1
  by_cases g0 : s.size ≤ 1048576
  · by_cases g1 : p.size ≤ 1048576
    · by_cases g3 : s.size + p.size ≤ 1048576
      · rw [decide_eq_true g3]
        go_enter Try.func24, Try.ntmps24
        go_wp2
        go_ret
        exact ⟨rfl, rfl⟩
      · rw [decide_eq_false (by omega)]
        go_enter Try.func24, Try.ntmps24
        go_wp2
        go_ret
        exact ⟨rfl, rfl⟩
    · rw [decide_eq_false (by omega)]
      go_enter Try.func24, Try.ntmps24
      go_wp2
      all_goals
        go_ret
        exact ⟨rfl, rfl⟩
  · rw [decide_eq_false (by omega)]
    go_enter Try.func24, Try.ntmps24
    go_wp2
    all_goals
      go_ret
      exact ⟨rfl, rfl⟩

theorem has_none {l : List UInt8} {c : UInt8} (h : ∀ i, i < l.length → l[i]? ≠ some c) : has l c = false := by
  unfold has
  cases e : l.contains c with
  | false => rfl
  | true =>
    exfalso
    obtain ⟨i, hi, he⟩ := List.mem_iff_getElem.1 (by simpa using e)
    exact h i hi (by rw [List.getElem?_eq_getElem hi, he])
theorem has_hit {l : List UInt8} {c : UInt8} {k : Nat} (h : l[k]? = some c) : has l c = true := by
  unfold has
  simp
  exact List.mem_of_getElem? h

set_option maxHeartbeats 400000 in
/-- hasByteB1. -/
theorem hasByte (t : ByteArray) (c : UInt8) (w : World) (ht : t.size ≤ 1048576) :
    Calls Try.prog 16 #[.string t, .int .u8 (c.toNat : Int)] w fun e w' => e = .returned (.bool (has t.data.toList c)) ∧ w' = w := by
  go_enter Try.func16, Try.ntmps16
  go_wp2
  go_loop [5] (fun i => ∃ k : Nat, k ≤ t.size ∧ i = .int .i64 k ∧ Hid (∀ i, i < k → t.data.toList[i]? ≠ some c)) (fun i => t.size - (intOf i).toNat)
  case atStart => exact ⟨0, Nat.zero_le _, rfl, hid (fun i hi => absurd hi (Nat.not_lt_zero _))⟩
  case round =>
    obtain ⟨k, hk, rfl, HK⟩ := hrel
    by_cases hlt : k < t.size
    · have HG := hid (get_some t k hlt)
      by_cases hx : t[k] = c
      · have hxb : ((t[k].toNat : Int) == (c.toNat : Int)) = true := by rw [hx]; simp
        have HX := hid hx
        clear hx
        go_wp2
        go_ret
        exact ⟨ret_bool (has_hit (HG.out.trans (by rw [HX.out]))).symm, rfl⟩
      · have hxb : ((t[k].toNat : Int) == (c.toNat : Int)) = false := by
          rw [beq_eq_false_iff_ne]
          intro e
          exact hx (UInt8.toNat_inj.1 (by omega))
        have HX := hid hx
        clear hx
        go_wp2
        go_round
        case rel =>
          refine ⟨k + 1, by omega, by go_num, hid (fun i hi => ?_)⟩
          by_cases e : i = k
          · rw [e, HG.out]; simpa using HX.out
          · exact HK.out i (by omega)
        case measure => simp [intOf]; omega
    · go_wp2
      go_ret
      exact ⟨ret_bool (has_none (fun i hi => HK.out i (by rw [size_list] at hi; omega))).symm, rfl⟩

set_option maxHeartbeats 400000 in
theorem isHex (x : UInt8) (w : World) :
    Calls Try.prog 33 #[.int .u8 (x.toNat : Int)] w fun e w' => e = .returned (.bool (hex x)) ∧ w' = w := by
  have h := hex_or x
  have ho := or32 x
  have hx8 : x.toNat < 256 := x.toNat_lt
  have hlow : x.toNat ||| 32 < 256 := Nat.or_lt_two_pow (n := 8) x.toNat_lt (by decide)
  generalize x.toNat ||| 32 = v at h ho hlow
  by_cases g : 48 ≤ x.toNat ∧ x.toNat ≤ 57
  · obtain ⟨g1, g2⟩ := g
    have HA := hid (h.2 (.inl ⟨g1, g2⟩))
    clear h
    go_enter Try.func33, Try.ntmps33
    go_wp2
    go_ret
    exact ⟨ret_bool (by rw [HA.out]), rfl⟩
  · have g' : x.toNat < 48 ∨ 58 ≤ x.toNat := by omega
    by_cases k : 97 ≤ v
    · by_cases k' : v ≤ 102
      · have HA := hid (h.2 (.inr ⟨k, k'⟩))
        clear h g
        rcases g' with g' | g'
        all_goals
          go_enter Try.func33, Try.ntmps33
          go_wp2
          all_goals
            go_ret
            exact ⟨ret_bool (by rw [HA.out]; simp; omega), rfl⟩
      · have HA : Hid (hex x = false) := hid (Bool.eq_false_iff.2 (fun e => by rcases h.1 e with q | q; exact g q; exact k' q.2))
        clear h g
        rcases g' with g' | g'
        all_goals
          go_enter Try.func33, Try.ntmps33
          go_wp2
          all_goals
            go_ret
            exact ⟨ret_bool (by rw [HA.out]; simp; omega), rfl⟩
    · have HA : Hid (hex x = false) := hid (Bool.eq_false_iff.2 (fun e => by rcases h.1 e with q | q; exact g q; exact k q.1))
      clear h g
      rcases g' with g' | g'
      all_goals
        go_enter Try.func33, Try.ntmps33
        go_wp2
        all_goals
          go_ret
          exact ⟨ret_bool (by rw [HA.out]; try (simp; omega)), rfl⟩

end Go.Proofs.Qxb6001148a
