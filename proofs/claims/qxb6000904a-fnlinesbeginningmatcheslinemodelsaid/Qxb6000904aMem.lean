/-
  The walks of zzClone, zzConcat, zzHasNewline and of the three bounds on lengths. Each is walked once.
-/
import Derived.Test.Qxb6000904aRows
import Derived.Test.Qxb6000904aHolds
import Derived.Lib.SliceRun
import Derived.WalkKit
import Derived.Below
import Derived.OwnWalk
import Derived.Outline
import Derived.WalkSpells
import Derived.WalkLawsBesides
namespace Go.Proofs.Qxb6000904a
open Go.RowKit
set_option linter.unusedVariables false

set_option maxHeartbeats 400000 in
theorem bytes24 (a0 a1 a2 : Option Addr) (n0 n1 n2 c0 c1 c2 : Nat) (w : World) (h0 : n0 ≤ maxLen) (h1 : n1 ≤ maxLen) (h2 : n2 ≤ maxLen) :
    Calls Try.prog 24 #[.slice a0 n0 c0, .slice a1 n1 c1, .slice a2 n2 c2] w fun e w' => e = .returned (.bool (decide (n0 + n1 + n2 ≤ 1048576))) ∧ w' = w := by
  unfold maxLen at h0 h1 h2
  by_cases g0 : n0 ≤ 1048576
  · by_cases g1 : n1 ≤ 1048576
    · by_cases g2 : n2 ≤ 1048576
      · by_cases g3 : n0 + n1 ≤ 1048576
        · by_cases g4 : n0 + n1 + n2 ≤ 1048576
          · rw [decide_eq_true g4]
            go_enter Try.func24, Try.ntmps24
            go_wp2
            go_ret
            exact ⟨rfl, rfl⟩
          · rw [decide_eq_false g4]
            go_enter Try.func24, Try.ntmps24
            go_wp2
            go_ret
            exact ⟨rfl, rfl⟩
        · rw [decide_eq_false (by omega)]
          go_enter Try.func24, Try.ntmps24
          go_wp2
          go_ret
          exact ⟨rfl, rfl⟩
      · rw [decide_eq_false (by omega)]
        go_enter Try.func24, Try.ntmps24
        go_wp2
        all_goals
          go_ret
          exact ⟨rfl, rfl⟩
    · rw [decide_eq_false (by omega)]
      go_enter Try.func24, Try.ntmps24
      go_wp2
      all_goals
        go_ret
        exact ⟨rfl, rfl⟩
  · rw [decide_eq_false (by omega)]
    go_enter Try.func24, Try.ntmps24
    go_wp2
    all_goals
      go_ret
      exact ⟨rfl, rfl⟩


theorem take_snoc (l : List UInt8) (k : Nat) (h : k < l.length) : l.take (k + 1) = l.take k ++ [l[k]] := List.take_succ_eq_append_getElem h

/-- One store of the loop. -/
theorem buf_step (w : World) (n : Nat) (l : List UInt8) (k : Nat) (h : k < l.length) (hn : l.length ≤ n) : w.alloc (.cells ((buf n (l.take k)).setIfInBounds k (.int .u8 (l[k].toNat : Int))) 5) = w.alloc (.cells (buf n (l.take (k + 1))) 5) := by
  have hl : (l.take k).length = k := by simp; omega
  have := buf_set (n := n) (l := l.take k) (by omega) l[k]
  rw [hl] at this
  rw [this, take_snoc l k h]

/-- What a round reads of a slice of bytes that came in. -/
def Cells (w : World) (a : Option Addr) (l : List UInt8) : Prop :=
  l ≠ [] → ∃ b o, a = some ⟨b, o, none⟩ ∧ ∀ i (h : i < l.length), w.cell? ⟨b, o + i, none⟩ = some (.int .u8 (l[i].toNat : Int))

theorem Cells.at {w : World} {a : Option Addr} {l : List UInt8} (h : Cells w a l) (k : Nat) (hk : k < l.length) : ∃ b o, a = some ⟨b, o, none⟩ ∧ w.cell? ⟨b, o + k, none⟩ = some (.int .u8 (l[k].toNat : Int)) ∧ b < w.heap.size := by
  obtain ⟨b, o, ha, hc⟩ := h (by intro e; subst e; simp at hk)
  exact ⟨b, o, ha, hc k hk, World.block_lt_of_cell? w ⟨b, o + k, none⟩ (hc k hk)⟩

theorem buf_at (n k : Nat) (l : List UInt8) (hk : k < l.length) (hn : k < n) : (buf n (l.take k))[k]? = some (.int .u8 0) := by
  have := buf_zero (n := n) (l := l.take k) (by simp; omega)
  simpa [Nat.min_eq_left (Nat.le_of_lt hk)] using this

set_option maxHeartbeats 400000 in
theorem clone_some (a : Addr) (c n : Nat) (l : List UInt8) (w : World) (hl : n ≤ 1048576) (hn : n = l.length) (hc : Cells w (some a) l) :
    Calls Try.prog 12 #[.slice (some a) n c] w fun e w' => e = .returned (.slice (some ⟨w.heap.size, 0, none⟩) n n) ∧ w' = w.alloc (.cells (buf n l) 5) := by
  have q22 := fun (w : World) (a : Option Addr) (n c n' c' : Nat) => Lib.run_eql_slice_nil (P := Try.prog) w 22 5 a n c n' c' Try.underlying22
  have hmk := fun (w : World) => run_make5 w n (by omega)
  have HN : Hid (n = l.length) := hn
  have HC : Hid (Cells w (some a) l) := hc
  clear hc hn
  go_enter Try.func12, Try.ntmps12
  go_wp2
  go_loopw [4] (fun i wr => ∃ k : Nat, k ≤ n ∧ i = .int .i64 k ∧ wr = w.alloc (.cells (buf n (l.take k)) 5)) (fun i _ => n - (intOf i).toNat)
  case atStart => exact ⟨0, Nat.zero_le _, rfl, rfl⟩
  case round =>
    obtain ⟨k, hk, rfl, rfl⟩ := hrel
    by_cases hlt : k < n
    · have hkl : k < l.length := by have := HN.out; omega
      obtain ⟨b, o, ha, hck, hbl⟩ := HC.out.at k hkl
      obtain rfl : a = ⟨b, o, none⟩ := Option.some.inj ha
      clear ha
      have hz := buf_at n k l hkl hlt
      have HS : Hid (w.alloc (.cells ((buf n (l.take k)).setIfInBounds k (.int .u8 (l[k].toNat : Int))) 5) = w.alloc (.cells (buf n (l.take (k + 1))) 5)) := buf_step w n l k hkl (by have := HN.out; omega)
      generalize l[k].toNat = x at hck HS
      go_wp2
      go_roundw
      case rel => exact ⟨k + 1, by omega, by go_num, HS.out⟩
      case measure => simp [intOf]; omega
    · have : k = n := by omega
      subst this
      go_wp2
      go_ret
      refine ⟨rfl, ?_⟩
      rw [List.take_of_length_le (by have := HN.out; omega)]

set_option maxHeartbeats 400000 in
theorem clone_nil (w : World) : Calls Try.prog 12 #[.slice none 0 0] w fun e w' => e = .returned (.slice none 0 0) ∧ w' = w := by
  have q22 := fun (w : World) (a : Option Addr) (n c n' c' : Nat) => Lib.run_eql_slice_nil (P := Try.prog) w 22 5 a n c n' c' Try.underlying22
  go_enter Try.func12, Try.ntmps12
  go_wp2
  go_ret
  exact ⟨rfl, rfl⟩

/-- zzClone: a slice of the same bytes; nothing old has turned. -/
theorem clone (v : Value) (l : List UInt8) (w : World) (h : Holds w v l) (hl : l.length ≤ 1048576) :
    Calls Try.prog 12 #[v] w fun e w' => ∃ v', e = .returned v' ∧ Holds w' v' l ∧ Below w.heap.size w w' := by
  have h0 := h
  obtain ⟨a, c, rfl, h1, h2, h3, h4⟩ := h
  cases a with
  | none =>
    obtain rfl := h3 rfl
    obtain rfl : l = [] := List.length_eq_zero_iff.1 (by omega)
    exact (clone_nil w).mono fun e w' ⟨he, hw⟩ => ⟨_, he, by rw [hw]; exact h0, by rw [hw]; exact Below.refl _ _⟩
  | some x =>
    refine (clone_some x c l.length l w hl rfl h4).mono fun e w' ⟨he, hw⟩ => ⟨_, he, ?_, ?_⟩
    · rw [hw]; exact holds_new w l.length l rfl (by unfold maxLen; omega)
    · rw [hw]; exact (Below.refl _ _).alloc (Nat.le_refl _) _

set_option maxHeartbeats 800000 in
theorem concat_any (a0 a1 : Option Addr) (c0 c1 n m : Nat) (l r : List UInt8) (w : World) (hl : n ≤ 1048576) (hr : m ≤ 1048576) (hn : n = l.length) (hm : m = r.length) (hc0 : Cells w a0 l) (hc1 : Cells w a1 r) :
    Calls Try.prog 18 #[.slice a0 n c0, .slice a1 m c1] w fun e w' => e = .returned (.slice (some ⟨w.heap.size, 0, none⟩) (n + m) (n + m)) ∧ w' = w.alloc (.cells (buf (n + m) (l ++ r)) 5) := by
  have hmk := fun (w : World) => run_make5 w (n + m) (by omega)
  rw [show ((n + m : Nat) : Int) = (n : Int) + (m : Int) from by omega] at hmk
  have HN : Hid (n = l.length) := hn
  have HM : Hid (m = r.length) := hm
  have HC0 : Hid (Cells w a0 l) := hc0
  have HC1 : Hid (Cells w a1 r) := hc1
  clear hc0 hc1 hn hm
  go_enter Try.func18, Try.ntmps18
  go_wp2
  go_loopw [6] (fun i wr => ∃ k : Nat, k ≤ n ∧ i = .int .i64 k ∧ wr = w.alloc (.cells (buf (n + m) (l.take k)) 5)) (fun i _ => n - (intOf i).toNat)
  case atStart => exact ⟨0, Nat.zero_le _, rfl, rfl⟩
  case round =>
    obtain ⟨k, hk, rfl, rfl⟩ := hrel
    by_cases hlt : k < n
    · have hkl : k < l.length := by have := HN.out; omega
      obtain ⟨b, o, rfl, hck, hbl⟩ := HC0.out.at k hkl
      have hz := buf_at (n + m) k l hkl (by omega)
      have HS : Hid (w.alloc (.cells ((buf (n + m) (l.take k)).setIfInBounds k (.int .u8 (l[k].toNat : Int))) 5) = w.alloc (.cells (buf (n + m) (l.take (k + 1))) 5)) := buf_step w (n + m) l k hkl (by have := HN.out; omega)
      generalize l[k].toNat = x at hck HS
      go_wp2
      go_roundw
      case rel => exact ⟨k + 1, by omega, by go_num, HS.out⟩
      case measure => simp [intOf]; omega
    · have : k = n := by omega
      subst this
      go_wp2
      go_loopw [7] (fun i wr => ∃ j : Nat, j ≤ m ∧ i = .int .i64 j ∧ wr = w.alloc (.cells (buf (k + m) (l ++ r.take j)) 5)) (fun i _ => m - (intOf i).toNat)
      case atStart => exact ⟨0, Nat.zero_le _, rfl, by rw [List.take_of_length_le (by have := HN.out; omega)]; simp⟩
      case round =>
        obtain ⟨j, hj, rfl, rfl⟩ := hrel
        by_cases hlt2 : j < m
        · have hjr : j < r.length := by have := HM.out; omega
          obtain ⟨b, o, rfl, hck, hbl⟩ := HC1.out.at j hjr
          have HLen : Hid ((l ++ r.take j).length = k + j) := by
            have := HN.out
            show _ = _
            simp; omega
          have hz : (buf (k + m) (l ++ r.take j))[k + j]? = some (.int .u8 0) := by
            have := buf_zero (n := k + m) (l := l ++ r.take j) (by rw [HLen.out]; omega)
            rw [HLen.out] at this; exact this
          have HS : Hid (w.alloc (.cells ((buf (k + m) (l ++ r.take j)).setIfInBounds (k + j) (.int .u8 (r[j].toNat : Int))) 5) = w.alloc (.cells (buf (k + m) (l ++ r.take (j + 1))) 5)) := by
            have := buf_set (n := k + m) (l := l ++ r.take j) (by rw [HLen.out]; omega) r[j]
            rw [HLen.out] at this
            show _ = _
            rw [this, take_snoc r j hjr, List.append_assoc]
          generalize r[j].toNat = x at hck HS
          go_wp2
          go_roundw
          case rel => exact ⟨j + 1, by omega, by go_num, HS.out⟩
          case measure => simp [intOf]; omega
        · have : j = m := by omega
          subst this
          go_wp2
          go_ret
          refine ⟨rfl, ?_⟩
          rw [List.take_of_length_le (by have := HM.out; omega)]

/-- zzConcat: a slice of the two's bytes; nothing old has turned. -/
theorem concat (v u : Value) (l r : List UInt8) (w : World) (h : Holds w v l) (h' : Holds w u r) (hl : l.length ≤ 1048576) (hr : r.length ≤ 1048576) :
    Calls Try.prog 18 #[v, u] w fun e w' => ∃ v', e = .returned v' ∧ Holds w' v' (l ++ r) ∧ Below w.heap.size w w' := by
  obtain ⟨a, c, rfl, h1, h2, h3, h4⟩ := h
  obtain ⟨a', c', rfl, h1', h2', h3', h4'⟩ := h'
  refine (concat_any a a' c c' l.length r.length l r w hl hr rfl rfl h4 h4').mono fun e w' ⟨he, hw⟩ => ⟨_, he, ?_, ?_⟩
  · rw [hw]; exact holds_new w (l.length + r.length) (l ++ r) (by simp) (by unfold maxLen; omega)
  · rw [hw]; exact (Below.refl _ _).alloc (Nat.le_refl _) _

end Go.Proofs.Qxb6000904a
