/-
  The walks of zzB1HasByte, AlnumOr, zzB1AlnumPart, of the bound on lengths and of FnAlnumOrPunctIsASet.
-/
import Derived.Test.Qxb6001024aRows
import Derived.Test.Qxb6001024aPlain
import Derived.Test.Qxb6001024aShelf
import Derived.WalkKit
import Derived.Below
import Derived.OwnWalk
import Derived.Outline
import Derived.WalkSpells
import Derived.WalkLawsBesides
import Derived.Lib.IndexBytes
namespace Go.Proofs.Qxb6001024a
open Go.RowKit Plain
set_option linter.unusedVariables false

theorem hid {q : Prop} (h : q) : Hid q := h
theorem ret_bool {a b : Bool} (h : a = b) : Ending.returned (.bool a) = .returned (.bool b) := by rw [h]

theorem get_some (s : ByteArray) (k : Nat) (h : k < s.size) : s.data.toList[k]? = some s[k] := Lib.data_getElem? s k h
theorem size_list (s : ByteArray) : s.data.toList.length = s.size := by simp

set_option maxHeartbeats 400000 in
theorem bytes7 (s p q : ByteArray) (w : World) (h0 : s.size ≤ maxLen) (h1 : p.size ≤ maxLen) (h2 : q.size ≤ maxLen) :
    Calls Try.prog 7 #[.string s, .string p, .string q] w fun e w' => e = .returned (.bool (decide (s.size + p.size + q.size ≤ 1048576))) ∧ w' = w := by
  unfold maxLen at h0 h1 h2
  by_cases g0 : s.size ≤ 1048576
  · by_cases g1 : p.size ≤ 1048576
    · by_cases g2 : q.size ≤ 1048576
      · by_cases g3 : s.size + p.size ≤ 1048576
        · by_cases g4 : s.size + p.size + q.size ≤ 1048576
          · rw [decide_eq_true g4]
            go_enter Try.func7, Try.ntmps7
            go_wp2
            go_ret
            exact ⟨rfl, rfl⟩
          · rw [decide_eq_false g4]
            go_enter Try.func7, Try.ntmps7
            go_wp2
            go_ret
            exact ⟨rfl, rfl⟩
        · rw [decide_eq_false (by omega)]
          go_enter Try.func7, Try.ntmps7
          go_wp2
          go_ret
          exact ⟨rfl, rfl⟩
      · rw [decide_eq_false (by omega)]
        go_enter Try.func7, Try.ntmps7
        go_wp2
        all_goals
          go_ret
          exact ⟨rfl, rfl⟩
    · rw [decide_eq_false (by omega)]
      go_enter Try.func7, Try.ntmps7
      go_wp2
      all_goals
        go_ret
        exact ⟨rfl, rfl⟩
  · rw [decide_eq_false (by omega)]
    go_enter Try.func7, Try.ntmps7
    go_wp2
    all_goals
      go_ret
      exact ⟨rfl, rfl⟩

theorem contains_none {l : List UInt8} {c : UInt8} (h : ∀ i, i < l.length → l[i]? ≠ some c) : has l c = false := by
  unfold has
  cases e : l.contains c with
  | false => rfl
  | true =>
    exfalso
    obtain ⟨i, hi, he⟩ := List.mem_iff_getElem.1 (by simpa using e)
    exact h i hi (by rw [List.getElem?_eq_getElem hi, he])
theorem contains_hit {l : List UInt8} {c : UInt8} {k : Nat} (h : l[k]? = some c) : has l c = true := by
  unfold has
  simp
  exact List.mem_of_getElem? h

set_option maxHeartbeats 400000 in
/-- zzB1HasByte. -/
theorem hasByte (t : ByteArray) (c : UInt8) (w : World) (ht : t.size ≤ 1048576) :
    Calls Try.prog 10 #[.string t, .int .u8 (c.toNat : Int)] w fun e w' => e = .returned (.bool (has t.data.toList c)) ∧ w' = w := by
  go_enter Try.func10, Try.ntmps10
  go_wp2
  go_loop [5] (fun i => ∃ k : Nat, k ≤ t.size ∧ i = .int .i64 k ∧ Hid (∀ i, i < k → t.data.toList[i]? ≠ some c)) (fun i => t.size - (intOf i).toNat)
  case atStart => exact ⟨0, Nat.zero_le _, rfl, hid (fun i hi => absurd hi (Nat.not_lt_zero _))⟩
  case round =>
    obtain ⟨k, hk, rfl, HK⟩ := hrel
    by_cases hlt : k < t.size
    · have HG := hid (get_some t k hlt)
      by_cases hx : t[k] = c
      · have hxb : ((t[k].toNat : Int) == (c.toNat : Int)) = true := by rw [hx]; simp
        have HX := hid hx
        clear hx
        go_wp2
        go_ret
        exact ⟨ret_bool (contains_hit (HG.out.trans (by rw [HX.out]))).symm, rfl⟩
      · have hxb : ((t[k].toNat : Int) == (c.toNat : Int)) = false := by
          rw [beq_eq_false_iff_ne]
          intro e
          exact hx (UInt8.toNat_inj.1 (by omega))
        have HX := hid hx
        clear hx
        go_wp2
        go_round
        case rel =>
          refine ⟨k + 1, by omega, by go_num, hid (fun i hi => ?_)⟩
          by_cases e : i = k
          · rw [e, HG.out]; simpa using HX.out
          · exact HK.out i (by omega)
        case measure => simp [intOf]; omega
    · go_wp2
      go_ret
      exact ⟨ret_bool (contains_none (fun i hi => HK.out i (by rw [size_list] at hi; omega))).symm, rfl⟩


set_option maxHeartbeats 2000000 in
/-- AlnumOr. -/
theorem alnumOr_any (s p : ByteArray) (w : World) (hs : s.size ≤ 1048576) :
    Calls Try.prog 6 #[.string s, .string p] w fun e w' => e = .returned (.bool (alnumOr s.data.toList p.data.toList)) ∧ w' = w := by
  have HI : Hid (∀ (c : UInt8) (w : World), Calls Try.prog 9 #[.string p, .int .u8 (c.toNat : Int)] w fun e w' => e = .returned (.int .i64 (Lib.indexByte p.data.toList c)) ∧ w' = w) := hid (fun c w => by
    have h := Any.strings_IndexByte Try.lays137 p (c.toNat : Int) w
    rw [Lib.byte_back] at h
    exact h)
  go_enter Try.func6, Try.ntmps6
  go_wp2
  go_loop [5] (fun i => ∃ k : Nat, k ≤ s.size ∧ i = .int .i64 k ∧ Hid (∀ i, i < k → ∀ c, s.data.toList[i]? = some c → (alnum c || p.data.toList.contains c) = true)) (fun i => s.size - (intOf i).toNat)
  case atStart => exact ⟨0, Nat.zero_le _, rfl, hid (fun i hi => absurd hi (Nat.not_lt_zero _))⟩
  case round =>
    obtain ⟨k, hk, rfl, HK⟩ := hrel
    by_cases hlt : k < s.size
    · have HG := hid (get_some s k hlt)
      obtain ⟨x, hx⟩ : ∃ x, s[k] = x := ⟨_, rfl⟩
      rw [hx] at HG
      have hx8 : x.toNat < 256 := x.toNat_lt
      have HStep : Hid ((alnum x || p.data.toList.contains x) = true → ∀ i, i < k + 1 → ∀ c, s.data.toList[i]? = some c → (alnum c || p.data.toList.contains c) = true) := hid (fun g i hi c hc => by
        by_cases e : i = k
        · rw [e, HG.out] at hc
          rw [← Option.some.inj hc]; exact g
        · exact HK.out i (by omega) c hc)
      rcases (show (97 ≤ x.toNat ∧ x.toNat ≤ 122) ∨ (65 ≤ x.toNat ∧ x.toNat ≤ 90) ∨ (48 ≤ x.toNat ∧ x.toNat ≤ 57) ∨ (x.toNat < 48 ∨ (58 ≤ x.toNat ∧ x.toNat ≤ 64) ∨ (91 ≤ x.toNat ∧ x.toNat ≤ 96) ∨ 123 ≤ x.toNat) from by omega) with g | g | g | g
      · have HA : Hid (alnum x = true) := hid (by unfold alnum; simp; omega)
        go_wp2
        go_round
        case rel => exact ⟨k + 1, by omega, by go_num, hid (HStep.out (by rw [HA.out]; rfl))⟩
        case measure => simp [intOf]; omega
      · have HA : Hid (alnum x = true) := hid (by unfold alnum; simp; omega)
        go_wp2
        go_round
        case rel => exact ⟨k + 1, by omega, by go_num, hid (HStep.out (by rw [HA.out]; rfl))⟩
        case measure => simp [intOf]; omega
      · have HA : Hid (alnum x = true) := hid (by unfold alnum; simp; omega)
        go_wp2
        go_round
        case rel => exact ⟨k + 1, by omega, by go_num, hid (HStep.out (by rw [HA.out]; rfl))⟩
        case measure => simp [intOf]; omega
      · have HA : Hid (alnum x = false) := hid (by unfold alnum; simp; omega)
        have HC := hid (HI.out x w)
        cases hc : p.data.toList.contains x with
        | true =>
          have hn := index_nonneg hc
          have HR : Hid ((alnum x || p.data.toList.contains x) = true) := hid (by rw [hc]; simp)
          generalize Lib.indexByte p.data.toList x = r at HC hn
          clear hc
          rcases g with g | g | g | g
          all_goals
            first | (have d1 : decide ((x.toNat : Int) ≤ 122) = true := decide_eq_true (by omega)) | (have d1 : decide ((x.toNat : Int) ≤ 122) = false := decide_eq_false (by omega))
            first | (have d2 : decide ((x.toNat : Int) ≤ 90) = true := decide_eq_true (by omega)) | (have d2 : decide ((x.toNat : Int) ≤ 90) = false := decide_eq_false (by omega))
            first | (have d3 : decide ((x.toNat : Int) ≤ 57) = true := decide_eq_true (by omega)) | (have d3 : decide ((x.toNat : Int) ≤ 57) = false := decide_eq_false (by omega))
            go_wp2_with (go_at_call 9; refine HC.out.mono ?_; rintro e w' ⟨rfl, rfl⟩)
            go_round
            case rel => exact ⟨k + 1, by omega, by go_num, hid (HStep.out HR.out)⟩
            case measure => simp [intOf]; omega
        | false =>
          have hn := index_neg hc
          have HR : Hid (alnumOr s.data.toList p.data.toList = false) := hid (not_of HG.out (by rw [hc, HA.out]; rfl))
          generalize Lib.indexByte p.data.toList x = r at HC hn
          clear hc
          rcases g with g | g | g | g
          all_goals
            first | (have d1 : decide ((x.toNat : Int) ≤ 122) = true := decide_eq_true (by omega)) | (have d1 : decide ((x.toNat : Int) ≤ 122) = false := decide_eq_false (by omega))
            first | (have d2 : decide ((x.toNat : Int) ≤ 90) = true := decide_eq_true (by omega)) | (have d2 : decide ((x.toNat : Int) ≤ 90) = false := decide_eq_false (by omega))
            first | (have d3 : decide ((x.toNat : Int) ≤ 57) = true := decide_eq_true (by omega)) | (have d3 : decide ((x.toNat : Int) ≤ 57) = false := decide_eq_false (by omega))
            go_wp2_with (go_at_call 9; refine HC.out.mono ?_; rintro e w' ⟨rfl, rfl⟩)
            go_ret
            exact ⟨ret_bool HR.out.symm, rfl⟩
    · go_wp2
      go_ret
      exact ⟨ret_bool (all_of (fun i hi => HK.out i (by rw [size_list] at hi; omega))).symm, rfl⟩

end Go.Proofs.Qxb6001024a
