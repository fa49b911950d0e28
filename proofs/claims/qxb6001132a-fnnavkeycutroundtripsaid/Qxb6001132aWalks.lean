/-
  The walks of zzHasUnderscore, navKey, cutClassKey, of the bound on lengths and of FnNavKeyCutRoundTrip.
-/
import Derived.Test.Qxb6001132aRows
import Derived.Test.Qxb6001132aShelf
import Derived.Shelf.Small.Wraps
import Derived.Shelf.Strings.Cut
import Derived.WalkKit
import Derived.Below
import Derived.OwnWalk
import Derived.Outline
import Derived.WalkSpells
import Derived.WalkLawsBesides
import Derived.Lib.IndexMore
namespace Go.Proofs.Qxb6001132a
open Go.RowKit
set_option linter.unusedVariables false

theorem hid {q : Prop} (h : q) : Hid q := h
theorem ret_bool {a b : Bool} (h : a = b) : Ending.returned (.bool a) = .returned (.bool b) := by rw [h]
theorem get_some (s : ByteArray) (k : Nat) (h : k < s.size) : s.data.toList[k]? = some s[k] := Lib.data_getElem? s k h
theorem size_list (s : ByteArray) : s.data.toList.length = s.size := by simp
theorem cat_list (p q : ByteArray) : (p ++ q).data.toList = p.data.toList ++ q.data.toList := by simp
theorem back (s : ByteArray) : (⟨s.data.toList.toArray⟩ : ByteArray) = s := rfl

/-! ### The plain law -/
/-- Does the byte '_' stand in l? -/
def hasU (l : List UInt8) : Bool := l.contains 95

theorem hasU_hit {l : List UInt8} {k : Nat} (h : l[k]? = some 95) : hasU l = true := by
  unfold hasU
  simp
  exact List.mem_of_getElem? h
theorem hasU_none {l : List UInt8} (h : ∀ i, i < l.length → l[i]? ≠ some 95) : hasU l = false := by
  unfold hasU
  cases e : l.contains 95 with
  | false => rfl
  | true =>
    exfalso
    obtain ⟨i, hi, he⟩ := List.mem_iff_getElem.1 (by simpa using e)
    exact h i hi (by rw [List.getElem?_eq_getElem hi, he])

theorem trim_key (c r : List UInt8) : Lib.hasPrefix (c ++ r) c = true ∧ Lib.trimPrefix (c ++ r) c = r := by
  have h : Lib.hasPrefix (c ++ r) c = true := by
    unfold Lib.hasPrefix
    rw [List.isPrefixOf_iff_prefix]
    exact List.prefix_append c r
  refine ⟨h, ?_⟩
  unfold Lib.trimPrefix
  rw [if_pos h]
  simp

theorem index_key (i f : List UInt8) (h : hasU i = false) : Lib.index (i ++ [95] ++ f) [95] = i.length := by
  refine Lib.index_first (i := i.length) (by simp) ?_ ?_
  · unfold Lib.occAt
    rw [List.append_assoc, List.drop_append, List.drop_length]
    simp
  · intro j hj
    cases e : Lib.occAt (i ++ [95] ++ f) [95] j with
    | false => rfl
    | true =>
      exfalso
      have := Lib.occAt_head rfl e
      rw [List.append_assoc, List.getElem?_append_left hj] at this
      unfold hasU at h
      have hm : (95 : UInt8) ∈ i := List.mem_of_getElem? this
      simp at h
      exact h hm

theorem cut_key (i f : List UInt8) (h : hasU i = false) : Lib.cut (i ++ [95] ++ f) [95] = (i, f, true) := by
  unfold Lib.cut
  rw [index_key i f h, if_pos (by omega)]
  simp only [Int.toNat_natCast, List.length_cons, List.length_nil]
  congr 1
  · rw [List.append_assoc, List.take_append_of_le_length (by omega), List.take_length]
  · congr 1
    rw [show i.length + (0 + 1) = (i ++ [95]).length from by simp, List.drop_left]

/-! ### The walks -/
set_option maxHeartbeats 400000 in
theorem bytes7 (s p : ByteArray) (w : World) (h0 : s.size ≤ maxLen) (h1 : p.size ≤ maxLen) :
    Calls Try.prog 7 #[.string s, .string p] w fun e w' => e = .returned (.bool (decide (s.size + p.size ≤ 1048576))) ∧ w' = w := by
  unfold maxLen at h0 h1
  by_cases g0 : s.size ≤ 1048576
  · by_cases g1 : p.size ≤ 1048576
    · by_cases g3 : s.size + p.size ≤ 1048576
      · rw [decide_eq_true g3]
        go_enter Try.func7, Try.ntmps7
        go_wp2
        go_ret
        exact ⟨rfl, rfl⟩
      · rw [decide_eq_false (by omega)]
        go_enter Try.func7, Try.ntmps7
        go_wp2
        go_ret
        exact ⟨rfl, rfl⟩
    · rw [decide_eq_false (by omega)]
      go_enter Try.func7, Try.ntmps7
      go_wp2
      all_goals
        go_ret
        exact ⟨rfl, rfl⟩
  · rw [decide_eq_false (by omega)]
    go_enter Try.func7, Try.ntmps7
    go_wp2
    all_goals
      go_ret
      exact ⟨rfl, rfl⟩

set_option maxHeartbeats 400000 in
theorem hasUnderscore (t : ByteArray) (w : World) (ht : t.size ≤ 1048576) :
    Calls Try.prog 8 #[.string t] w fun e w' => e = .returned (.bool (hasU t.data.toList)) ∧ w' = w := by
  go_enter Try.func8, Try.ntmps8
  go_wp2
  go_loop [3] (fun i => ∃ k : Nat, k ≤ t.size ∧ i = .int .i64 k ∧ Hid (∀ i, i < k → t.data.toList[i]? ≠ some 95)) (fun i => t.size - (intOf i).toNat)
  case atStart => exact ⟨0, Nat.zero_le _, rfl, hid (fun i hi => absurd hi (Nat.not_lt_zero _))⟩
  case round =>
    obtain ⟨k, hk, rfl, HK⟩ := hrel
    by_cases hlt : k < t.size
    · have HG := hid (get_some t k hlt)
      by_cases hx : t[k] = 95
      · have hxb : ((t[k].toNat : Int) == 95) = true := by rw [hx]; rfl
        have HX := hid hx
        clear hx
        go_wp2
        go_ret
        exact ⟨ret_bool (hasU_hit (HG.out.trans (by rw [HX.out]))).symm, rfl⟩
      · have hxb : ((t[k].toNat : Int) == 95) = false := by
          rw [beq_eq_false_iff_ne]
          intro e
          exact hx (UInt8.toNat_inj.1 (show t[k].toNat = 95 by omega))
        have HX := hid hx
        clear hx
        go_wp2
        go_round
        case rel =>
          refine ⟨k + 1, by omega, by go_num, hid (fun i hi => ?_)⟩
          by_cases e : i = k
          · rw [e, HG.out]; simpa using HX.out
          · exact HK.out i (by omega)
        case measure => simp [intOf]; omega
    · go_wp2
      go_ret
      exact ⟨ret_bool (hasU_none (fun i hi => HK.out i (by rw [size_list] at hi; omega))).symm, rfl⟩


/-- The key that navKey builds. -/
def key (id fig : ByteArray) : ByteArray := ⟨#[99, 108, 97, 115, 115, 95]⟩ ++ id ++ ⟨#[95]⟩ ++ fig

theorem key_list (id fig : ByteArray) : (key id fig).data.toList = [99, 108, 97, 115, 115, 95] ++ (id.data.toList ++ [95] ++ fig.data.toList) := by
  unfold key
  rw [cat_list, cat_list, cat_list]
  simp

theorem key_size (id fig : ByteArray) : (key id fig).size = 7 + id.size + fig.size := by
  have h := congrArg List.length (key_list id fig)
  rw [size_list] at h
  simp at h
  rw [h]
  have h1 := size_list id
  have h2 := size_list fig
  simp at h1 h2
  omega

set_option maxHeartbeats 400000 in
theorem navKey (id fig : ByteArray) (w : World) (hne : id.toList.isEmpty = false) (hs : id.size + fig.size ≤ 1048576) :
    Calls Try.prog 9 #[.string id, .string fig] w fun e w' => e = .returned (.string (key id fig)) ∧ w' = w := by
  have HK : Hid (⟨#[99, 108, 97, 115, 115, 95]⟩ ++ id ++ ⟨#[95]⟩ ++ fig = key id fig) := hid rfl
  go_enter Try.func9, Try.ntmps9
  go_wp2
  go_ret
  exact ⟨by rw [← HK.out]; rfl, rfl⟩


/-- What is left of the key behind its head. -/
def rest (id fig : ByteArray) : ByteArray := ⟨(id.data.toList ++ [95] ++ fig.data.toList).toArray⟩

theorem rest_list (id fig : ByteArray) : (rest id fig).data.toList = id.data.toList ++ [95] ++ fig.data.toList := rfl
theorem rest_size (id fig : ByteArray) : (rest id fig).size = 1 + id.size + fig.size := by
  rw [← size_list, rest_list]
  simp only [List.length_append, List.length_cons, List.length_nil, size_list]
  omega

theorem below_drewN {B : Nat} {a w : World} (h : Below B a w) (q : Nat) : Below B a (w.drewN q) := ⟨h.os, h.tape, h.output, h.size, h.block⟩

set_option maxHeartbeats 400000 in
theorem cutClassKey16 (id fig : ByteArray) (w : World) (m : Int) (hm : w.cell? ⟨0, 0, none⟩ = some (.int .i64 m)) (hne : id.toList.isEmpty = false) (hu : hasU id.data.toList = false) (hs : id.size + fig.size ≤ 1048576) :
    Calls Try.prog 16 #[.string (key id fig)] w fun e w' => e = .returned (.tuple #[.string id, .string fig, .bool true]) ∧ Below w.heap.size w w' := by
  have C1 : Hid (Calls Try.prog 19 #[.string (key id fig), .string ⟨#[99, 108, 97, 115, 115, 95]⟩] w fun e w' => e = .returned (.tuple #[.string (rest id fig), .bool true]) ∧ w' = w) := hid (by
    have h := Any.strings_CutPrefix Try.lays103 (key id fig) ⟨#[99, 108, 97, 115, 115, 95]⟩ w
    have t := trim_key [99, 108, 97, 115, 115, 95] (id.data.toList ++ [95] ++ fig.data.toList)
    rw [key_list, show (⟨#[99, 108, 97, 115, 115, 95]⟩ : ByteArray).data.toList = [99, 108, 97, 115, 115, 95] from rfl, t.1, t.2] at h
    exact h)
  have C2 : Hid (Calls Try.prog 20 #[.string (rest id fig), .string ⟨#[95]⟩] w fun e w' => e = .returned (.tuple #[.string id, .string fig, .bool true]) ∧ ∃ n, w' = w.drewN n) := hid (by
    have h := Any.strings_Cut { Try.laysM145 with } (rest id fig) ⟨#[95]⟩ m w (by rw [rest_size]; omega) hm
    rw [rest_list, show (⟨#[95]⟩ : ByteArray).data.toList = [95] from rfl, cut_key _ _ hu] at h
    exact h)
  clear hm hu
  generalize key id fig = K at C1 ⊢
  generalize rest id fig = R at C1 C2
  go_enter Try.func16, Try.ntmps16
  go_wp2_with (first | (go_at_call 19; refine C1.out.mono ?_; rintro e w' ⟨rfl, rfl⟩) | (go_at_call 20; refine C2.out.mono ?_; rintro e w' ⟨rfl, n, rfl⟩))
  go_ret3
  exact ⟨rfl, below_drewN (Below.refl _ _) _⟩

set_option maxHeartbeats 400000 in
theorem cutClassKey (id fig : ByteArray) (w : World) (m : Int) (hm : w.cell? ⟨0, 0, none⟩ = some (.int .i64 m)) (hne : id.toList.isEmpty = false) (hu : hasU id.data.toList = false) (hs : id.size + fig.size ≤ 1048576) :
    Calls Try.prog 10 #[.string (key id fig)] w fun e w' => e = .returned (.tuple #[.string id, .string fig, .bool true]) ∧ Below w.heap.size w w' := by
  have C := hid (cutClassKey16 id fig w m hm hne hu hs)
  clear hm hne hu hs
  generalize key id fig = K at C ⊢
  go_enter Try.func10, Try.ntmps10
  go_wp2_with (go_at_call 16; refine C.out.mono ?_; rintro e w' ⟨rfl, hb⟩)
  go_ret3
  exact ⟨rfl, hb⟩

set_option maxHeartbeats 1000000 in
theorem round_main (id fig : ByteArray) (w : World) (m : Int) (hm : w.cell? ⟨0, 0, none⟩ = some (.int .i64 m)) (hne : id.toList.isEmpty = false) (hu : hasU id.data.toList = false) (hs : id.size + fig.size ≤ 1048576) :
    Calls Try.prog 3 #[.string id, .string fig] w fun e w' => e = .returned (.bool true) ∧ Below w.heap.size w w' := by
  have HB := hid (bytes7 id fig w (by unfold maxLen; omega) (by unfold maxLen; omega))
  rw [decide_eq_true hs] at HB
  have HU := hid (hasUnderscore id w (by omega))
  rw [hu] at HU
  have HN := hid (navKey id fig w hne hs)
  have HC := hid (cutClassKey id fig w m hm hne hu hs)
  clear hm hu
  generalize key id fig = K at HN HC
  go_enter Try.func3, Try.ntmps3
  go_wp2_with (first | (go_at_call 7; refine HB.out.mono ?_; rintro e w' ⟨rfl, rfl⟩) | (go_at_call 8; refine HU.out.mono ?_; rintro e w' ⟨rfl, rfl⟩) | (go_at_call 9; refine HN.out.mono ?_; rintro e w' ⟨rfl, rfl⟩) | (go_at_call 10; refine HC.out.mono ?_; rintro e w' ⟨rfl, hb⟩))
  go_ret
  exact ⟨rfl, by assumption⟩

set_option maxHeartbeats 1000000 in
theorem round_small (id fig : ByteArray) (w : World) (h0 : id.size ≤ maxLen) (h1 : fig.size ≤ maxLen) (hs : ¬ (id.size + fig.size ≤ 1048576 ∧ id.toList.isEmpty = false ∧ hasU id.data.toList = false)) :
    Calls Try.prog 3 #[.string id, .string fig] w fun e w' => e = .returned (.bool true) ∧ Below w.heap.size w w' := by
  have HB := hid (bytes7 id fig w h0 h1)
  unfold maxLen at h0 h1
  by_cases g : id.size + fig.size ≤ 1048576
  · rw [decide_eq_true g] at HB
    cases he : id.toList.isEmpty with
    | true =>
      clear hs
      go_enter Try.func3, Try.ntmps3
      go_wp2_with (go_at_call 7; refine HB.out.mono ?_; rintro e w' ⟨rfl, rfl⟩)
      go_ret
      exact ⟨rfl, Below.refl _ _⟩
    | false =>
      have hu : hasU id.data.toList = true := by
        cases hu : hasU id.data.toList with
        | true => rfl
        | false => exact absurd ⟨g, he, hu⟩ hs
      have HU := hid (hasUnderscore id w (by omega))
      rw [hu] at HU
      clear hs hu
      go_enter Try.func3, Try.ntmps3
      go_wp2_with (first | (go_at_call 7; refine HB.out.mono ?_; rintro e w' ⟨rfl, rfl⟩) | (go_at_call 8; refine HU.out.mono ?_; rintro e w' ⟨rfl, rfl⟩))
      go_ret
      exact ⟨rfl, Below.refl _ _⟩
  · rw [decide_eq_false g] at HB
    clear hs
    go_enter Try.func3, Try.ntmps3
    go_wp2_with (go_at_call 7; refine HB.out.mono ?_; rintro e w' ⟨rfl, rfl⟩)
    go_ret
    exact ⟨rfl, Below.refl _ _⟩

theorem round_any (id fig : ByteArray) (w : World) (m : Int) (hm : w.cell? ⟨0, 0, none⟩ = some (.int .i64 m)) (h0 : id.size ≤ maxLen) (h1 : fig.size ≤ maxLen) :
    Calls Try.prog 3 #[.string id, .string fig] w fun e w' => e = .returned (.bool true) ∧ Below w.heap.size w w' := by
  by_cases hs : id.size + fig.size ≤ 1048576 ∧ id.toList.isEmpty = false ∧ hasU id.data.toList = false
  · exact round_main id fig w m hm hs.2.1 hs.2.2 hs.1
  · exact round_small id fig w h0 h1 hs

end Go.Proofs.Qxb6001132a
