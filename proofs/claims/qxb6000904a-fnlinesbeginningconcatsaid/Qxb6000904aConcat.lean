/-
  The walks of zzHasNewline and of FnLinesBeginningConcat.
-/
import Derived.Test.Qxb6000904aTop
namespace Go.Proofs.Qxb6000904a
open Go.RowKit
set_option linter.unusedVariables false

theorem ret_bool' {a b : Bool} (h : a = b) : Ending.returned (.bool a) = .returned (.bool b) := by rw [h]

theorem Holds.cells' {w : World} {a : Option Addr} {n c : Nat} {l : List UInt8} (h : Holds w (.slice a n c) l) : Cells w a l := by
  obtain ⟨a', c', e, _, _, _, h⟩ := h
  simp only [Value.slice.injEq] at e
  obtain ⟨rfl, _, _⟩ := e
  exact h

def hasNL (l : List UInt8) : Bool := l.contains 10

theorem hasNL_hit {l : List UInt8} {k : Nat} (h : l[k]? = some 10) : hasNL l = true := by
  unfold hasNL
  simp
  exact List.mem_of_getElem? h
theorem hasNL_none {l : List UInt8} (h : ∀ i, i < l.length → l[i]? ≠ some 10) : hasNL l = false := by
  unfold hasNL
  cases e : l.contains 10 with
  | false => rfl
  | true =>
    exfalso
    obtain ⟨i, hi, he⟩ := List.mem_iff_getElem.1 (by simpa using e)
    exact h i hi (by rw [List.getElem?_eq_getElem hi, he])
theorem hasNL_false {l : List UInt8} (h : hasNL l = false) : ∀ x ∈ l, x ≠ 10 := by
  intro x hx e
  subst e
  unfold hasNL at h
  simp at h
  exact h hx

set_option maxHeartbeats 400000 in
theorem hasNewline (a : Option Addr) (n c : Nat) (l : List UInt8) (w : World) (en : n = l.length) (hn : n ≤ 1048576) (hc : Cells w a l) :
    Calls Try.prog 23 #[.slice a n c] w fun e w' => e = .returned (.bool (hasNL l)) ∧ w' = w := by
  have EN := hid en
  have HC := hid hc
  clear en hc
  go_enter Try.func23, Try.ntmps23
  go_wp2
  go_loop [3] (fun i => ∃ k : Nat, k ≤ n ∧ i = .int .i64 k ∧ Hid (∀ i, i < k → l[i]? ≠ some 10)) (fun i => n - (intOf i).toNat)
  case atStart => exact ⟨0, Nat.zero_le _, rfl, hid (fun i hi => absurd hi (Nat.not_lt_zero _))⟩
  case round =>
    obtain ⟨k, hk, rfl, HK⟩ := hrel
    by_cases hlt : k < n
    · obtain ⟨b, o, rfl, hck, hbl⟩ := HC.out.at k (by have := EN.out; omega)
      have HG := hid (show l[k]? = some (l[k]'(by have := EN.out; omega)) from List.getElem?_eq_getElem _)
      generalize l[k]'(by have := EN.out; omega) = x at hck HG
      by_cases hx : x = 10
      · subst hx
        go_wp2
        go_ret
        exact ⟨ret_bool' (hasNL_hit HG.out).symm, rfl⟩
      · have hxb : ((x.toNat : Int) == 10) = false := by
          rw [beq_eq_false_iff_ne]
          intro e
          exact hx (UInt8.toNat_inj.1 (show x.toNat = 10 by omega))
        have HX := hid hx
        clear hx
        go_wp2
        go_round
        case rel =>
          refine ⟨k + 1, by omega, by go_num, hid (fun i hi => ?_)⟩
          by_cases e : i = k
          · rw [e, HG.out]; simpa using HX.out
          · exact HK.out i (by omega)
        case measure => simp [intOf]; omega
    · go_wp2
      go_ret
      exact ⟨ret_bool' (hasNL_none (fun i hi => HK.out i (by have := EN.out; omega))).symm, rfl⟩

set_option maxHeartbeats 400000 in
theorem bytes22 (a0 a1 a2 : Option Addr) (n0 n1 n2 c0 c1 c2 : Nat) (w : World) (h0 : n0 ≤ maxLen) (h1 : n1 ≤ maxLen) (h2 : n2 ≤ maxLen) :
    Calls Try.prog 22 #[.slice a0 n0 c0, .slice a1 n1 c1, .slice a2 n2 c2] w fun e w' => e = .returned (.bool (decide (n0 + n1 + n2 ≤ 1048576))) ∧ w' = w := by
  unfold maxLen at h0 h1 h2
  by_cases g0 : n0 ≤ 1048576
  · by_cases g1 : n1 ≤ 1048576
    · by_cases g2 : n2 ≤ 1048576
      · by_cases g3 : n0 + n1 ≤ 1048576
        · by_cases g4 : n0 + n1 + n2 ≤ 1048576
          · rw [decide_eq_true g4]
            go_enter Try.func22, Try.ntmps22
            go_wp2
            go_ret
            exact ⟨rfl, rfl⟩
          · rw [decide_eq_false g4]
            go_enter Try.func22, Try.ntmps22
            go_wp2
            go_ret
            exact ⟨rfl, rfl⟩
        · rw [decide_eq_false (by omega)]
          go_enter Try.func22, Try.ntmps22
          go_wp2
          go_ret
          exact ⟨rfl, rfl⟩
      · rw [decide_eq_false (by omega)]
        go_enter Try.func22, Try.ntmps22
        go_wp2
        all_goals
          go_ret
          exact ⟨rfl, rfl⟩
    · rw [decide_eq_false (by omega)]
      go_enter Try.func22, Try.ntmps22
      go_wp2
      all_goals
        go_ret
        exact ⟨rfl, rfl⟩
  · rw [decide_eq_false (by omega)]
    go_enter Try.func22, Try.ntmps22
    go_wp2
    all_goals
      go_ret
      exact ⟨rfl, rfl⟩

open Plain in
/-- The part of FnLinesBeginningConcat behind the tests. -/
theorem plain_concat {a b p : List UInt8} (hp0 : p ≠ []) (ha : a = [] ∨ a[a.length - 1]? = some 10) (hp : hasNL p = false) :
    ((lines (a ++ b) p : Nat) : Int) = (lines a p : Int) + (lines b p : Int) ∧ (0 < lines a p → first (a ++ b) p = first a p) ∧ (lines a p = 0 → 0 < lines b p → first (a ++ b) p = (a.length : Int) + first b p) ∧ (lines a p = 0 → lines b p = 0 → first (a ++ b) p = -1) := by
  have h := lines_concat (b := b) hp0 ha (hasNL_false hp)
  refine ⟨by omega, fun g => ?_, fun g g' => ?_, fun g g' => ?_⟩
  · rw [h.2, if_pos g]
  · rw [h.2, if_neg (by omega), if_pos g']
  · rw [h.2, if_neg (by omega), if_neg (by omega)]


/-- zzClone once more, the value's shape told. -/
theorem clone' (v : Value) (l : List UInt8) (n : Nat) (w : World) (en : n = l.length) (h : Holds w v l) (hl : l.length ≤ 1048576) :
    Calls Try.prog 12 #[v] w fun e w' => ∃ a c, e = .returned (.slice a n c) ∧ Holds w' (.slice a n c) l ∧ Below w.heap.size w w' := by
  refine (clone v l w h hl).mono fun e w' ⟨v', he, h1, h2⟩ => ?_
  obtain ⟨a, c, rfl⟩ := h1.shape
  subst en
  exact ⟨a, c, he, h1, h2⟩

open Plain in
set_option maxHeartbeats 2000000 in
theorem concat_main (hI : IndexSaid) (a0 a1 a2 : Option Addr) (n0 n1 n2 c0 c1 c2 : Nat) (a b p : List UInt8) (w : World) (m : Int) (e0 : n0 = a.length) (e1 : n1 = b.length) (e2 : n2 = p.length)
    (h0 : Holds w (.slice a0 n0 c0) a) (h1 : Holds w (.slice a1 n1 c1) b) (h2 : Holds w (.slice a2 n2 c2) p) (hm : w.cell? ⟨0, 0, none⟩ = some (.int .i64 m))
    (hs : n0 + n1 + n2 ≤ 1048576) (g1 : n2 ≤ 4096) (g4 : 0 < n2) (hnl : hasNL p = false) (ha : a = [] ∨ a[a.length - 1]? = some 10) :
    Calls Try.prog 7 #[.slice a0 n0 c0, .slice a1 n1 c1, .slice a2 n2 c2] w fun e w' => e = .returned (.bool true) ∧ Below w.heap.size w w' := by
  have hp : p ≠ [] := by intro e; subst e; simp at e2; omega
  have PC := hid (plain_concat (b := b) hp ha hnl)
  have HB := hid (bytes22 a0 a1 a2 n0 n1 n2 c0 c1 c2 w (by unfold maxLen; omega) (by unfold maxLen; omega) (by unfold maxLen; omega))
  rw [decide_eq_true hs] at HB
  have HN := hid (hasNewline a2 n2 c2 p w e2 (by omega) h2.cells')
  rw [hnl] at HN
  have HL : Hid ((n0 = 0) ∨ (0 < n0 ∧ ∃ b o, a0 = some ⟨b, o, none⟩ ∧ w.cell? ⟨b, o + (n0 - 1), none⟩ = some (.int .u8 10))) := hid (by
    by_cases g : n0 = 0
    · exact .inl g
    · refine .inr ⟨by omega, ?_⟩
      obtain ⟨b, o, h1, h2, _⟩ := h0.cells'.at (n0 - 1) (by omega)
      refine ⟨b, o, h1, ?_⟩
      rw [h2]
      rcases ha with rfl | ha
      · simp at e0; omega
      · subst e0
        rw [List.getElem?_eq_getElem (by omega)] at ha
        rw [Option.some.inj ha]
        rfl)
  have H0 := hid h0
  have H1 := hid h1
  have H2 := hid h2
  have HM := hid hm
  have HP := hid hp
  have HI := hid hI
  have E0 := hid e0
  have E1 := hid e1
  have E2 := hid e2
  clear h0 h1 h2 hm hp hI e0 e1 e2 hnl ha
  have hn1 : ((n2 : Int) == 0) = false := by simp; omega
  rcases HL.out with g0 | ⟨g0, bb, oo, rfl, hcell⟩
  all_goals (try (have hz0 : decide ((0 : Int) < (n0 : Int)) = false := by simp; omega))
  all_goals (try (have hz1 : ((n0 : Int) - 1).toNat = n0 - 1 := by omega))
  all_goals (try (have hz2 : ¬ (0 : Int) < (n0 : Int) := by omega))
  all_goals (try (have hz3 : (0 : Int) < (n0 : Int) := by omega))
  all_goals clear HL
  all_goals (try (clear g0))
  all_goals
    go_enter Try.func7, Try.ntmps7
    go_wp2_with (first | (go_at_call 22; refine HB.out.mono ?_; rintro e w' ⟨rfl, rfl⟩) | (go_at_call 23; refine HN.out.mono ?_; rintro e w' ⟨rfl, rfl⟩))
    refine (clone' _ a n0 _ E0.out H0.out (by have := E0.out; omega)).mono ?_
    rintro e w1 ⟨x0, y0, rfl, k0, b1⟩
    have K0 := hid k0
    have B1 := hid b1
    have K1 := hid (H1.out.later b1)
    have K2 := hid (H2.out.later b1)
    have M1 := hid (cell_below b1 HM.out)
    clear k0 b1 H0 H1 H2 HM HB HN
    try clear hcell
    go_wp2_with fail
    refine (clone _ b _ K1.out (by have := E1.out; omega)).mono ?_
    rintro e w2 ⟨v1, rfl, k1, b2⟩
    have L1 := hid k1
    have L0 := hid (K0.out.later b2)
    have L2 := hid (K2.out.later b2)
    have M2 := hid (cell_below b2 M1.out)
    have B2 := hid (below_trans B1.out b2)
    clear k1 b2 K0 K1 K2 M1 B1
    go_wp2_with fail
    refine (clone _ p _ L2.out (by have := E2.out; omega)).mono ?_
    rintro e w3 ⟨v2, rfl, k2, b3⟩
    have N2 := hid k2
    have N0 := hid (L0.out.later b3)
    have N1 := hid (L1.out.later b3)
    have M3 := hid (cell_below b3 M2.out)
    have B3 := hid (below_trans B2.out b3)
    clear k2 b3 L0 L1 L2 M2 B2
    go_wp2_with fail
    refine (concat _ _ a b _ N0.out N1.out (by have := E0.out; omega) (by have := E1.out; omega)).mono ?_
    rintro e w4 ⟨v3, rfl, k3, b4⟩
    have O3 := hid k3
    have O0 := hid (N0.out.later b4)
    have O1 := hid (N1.out.later b4)
    have O2 := hid (N2.out.later b4)
    have M4 := hid (cell_below b4 M3.out)
    have B4 := hid (below_trans B3.out b4)
    clear k3 b4 N0 N1 N2 M3 B3
    go_wp2_with fail
    refine (shim HI.out _ _ a p _ m O0.out O2.out HP.out (by have := E0.out; omega) (by have := E2.out; omega) M4.out).mono ?_
    rintro e w5 ⟨rfl, b5⟩
    have P1 := hid (O1.out.later b5)
    have P2 := hid (O2.out.later b5)
    have P3 := hid (O3.out.later b5)
    have M5 := hid (cell_below b5 M4.out)
    have B5 := hid (below_trans B4.out b5)
    clear b5 O0 O1 O2 O3 M4 B4
    go_wp2_with fail
    refine (shim HI.out _ _ b p _ m P1.out P2.out HP.out (by have := E1.out; omega) (by have := E2.out; omega) M5.out).mono ?_
    rintro e w6 ⟨rfl, b6⟩
    have R2 := hid (P2.out.later b6)
    have R3 := hid (P3.out.later b6)
    have M6 := hid (cell_below b6 M5.out)
    have B6 := hid (below_trans B5.out b6)
    clear b6 P1 P2 P3 M5 B5
    go_wp2_with fail
    refine (shim HI.out _ _ (a ++ b) p _ m R3.out R2.out HP.out (by have := E0.out; have := E1.out; simp; omega) (by have := E2.out; omega) M6.out).mono ?_
    rintro e w7 ⟨rfl, b7⟩
    have B7 := hid (below_trans B6.out b7)
    clear b7 R2 R3 M6 B6
    have f0 := PC.out
    have l1 := lines_le a p
    have l2 := lines_le b p
    have l3 := first_ge b p
    have hl0 := E0.out
    have hl1 := E1.out
    rw [← hl0] at l1 f0
    rw [← hl1] at l2 l3
    clear PC E0 E1 E2 HP HI hl0 hl1
    generalize lines (a ++ b) p = x2 at f0 ⊢
    generalize first (a ++ b) p = y2 at f0 ⊢
    generalize lines a p = xa at f0 l1 ⊢
    generalize first a p = ya at f0 ⊢
    generalize lines b p = xb at f0 l2 ⊢
    generalize first b p = yb at f0 l3 ⊢
    obtain ⟨f1, f2, f3, f4⟩ := f0
    have hq : ((x2 : Int) != (xa : Int) + (xb : Int)) = false := by simp; omega
    clear f1
    by_cases g5 : 0 < xa
    · have hy := f2 g5
      subst hy
      clear f2 f3 f4
      go_wp2
      go_ret
      exact ⟨rfl, B7.out⟩
    · by_cases g6 : 0 < xb
      · have hy := f3 (by omega) g6
        subst hy
        clear f2 f3 f4
        go_wp2
        go_ret
        exact ⟨rfl, B7.out⟩
      · have hy := f4 (by omega) (by omega)
        subst hy
        clear f2 f3 f4
        go_wp2
        go_ret
        exact ⟨rfl, B7.out⟩


set_option maxHeartbeats 1000000 in
/-- The ways out ahead of the look at the third text. -/
theorem concat_small (a0 a1 a2 : Option Addr) (n0 n1 n2 c0 c1 c2 : Nat) (w : World) (h0 : n0 ≤ maxLen) (h1 : n1 ≤ maxLen) (h2 : n2 ≤ maxLen)
    (hs : ¬ (n0 + n1 + n2 ≤ 1048576 ∧ n2 ≤ 4096 ∧ 0 < n2)) :
    Calls Try.prog 7 #[.slice a0 n0 c0, .slice a1 n1 c1, .slice a2 n2 c2] w fun e w' => e = .returned (.bool true) ∧ Below w.heap.size w w' := by
  have HB := hid (bytes22 a0 a1 a2 n0 n1 n2 c0 c1 c2 w h0 h1 h2)
  unfold maxLen at h0 h1 h2
  by_cases g : n0 + n1 + n2 ≤ 1048576
  · rw [decide_eq_true g] at HB
    by_cases g1 : n2 ≤ 4096
    · have hn1 : ((n2 : Int) == 0) = true := by simp; omega
      clear hs
      go_enter Try.func7, Try.ntmps7
      go_wp2_with (go_at_call 22; refine HB.out.mono ?_; rintro e w' ⟨rfl, rfl⟩)
      go_ret
      exact ⟨rfl, Below.refl _ _⟩
    · clear hs
      go_enter Try.func7, Try.ntmps7
      go_wp2_with (go_at_call 22; refine HB.out.mono ?_; rintro e w' ⟨rfl, rfl⟩)
      go_ret
      exact ⟨rfl, Below.refl _ _⟩
  · rw [decide_eq_false g] at HB
    clear hs
    go_enter Try.func7, Try.ntmps7
    go_wp2_with (go_at_call 22; refine HB.out.mono ?_; rintro e w' ⟨rfl, rfl⟩)
    go_ret
    exact ⟨rfl, Below.refl _ _⟩

set_option maxHeartbeats 1000000 in
/-- The third text holds a newline. -/
theorem concat_nl (a0 a1 a2 : Option Addr) (n0 n1 n2 c0 c1 c2 : Nat) (p : List UInt8) (w : World) (e2 : n2 = p.length) (hc : Cells w a2 p)
    (hs : n0 + n1 + n2 ≤ 1048576) (g1 : n2 ≤ 4096) (g4 : 0 < n2) (hnl : hasNL p = true) :
    Calls Try.prog 7 #[.slice a0 n0 c0, .slice a1 n1 c1, .slice a2 n2 c2] w fun e w' => e = .returned (.bool true) ∧ Below w.heap.size w w' := by
  have HB := hid (bytes22 a0 a1 a2 n0 n1 n2 c0 c1 c2 w (by unfold maxLen; omega) (by unfold maxLen; omega) (by unfold maxLen; omega))
  rw [decide_eq_true hs] at HB
  have HN := hid (hasNewline a2 n2 c2 p w e2 (by omega) hc)
  rw [hnl] at HN
  clear hnl hc e2
  have hn1 : ((n2 : Int) == 0) = false := by simp; omega
  go_enter Try.func7, Try.ntmps7
  go_wp2_with (first | (go_at_call 22; refine HB.out.mono ?_; rintro e w' ⟨rfl, rfl⟩) | (go_at_call 23; refine HN.out.mono ?_; rintro e w' ⟨rfl, rfl⟩))
  go_ret
  exact ⟨rfl, Below.refl _ _⟩

set_option maxHeartbeats 1000000 in
/-- The first text does not end with a newline. -/
theorem concat_open (b o : Nat) (a1 a2 : Option Addr) (n0 n1 n2 c0 c1 c2 : Nat) (p : List UInt8) (x : UInt8) (w : World) (e2 : n2 = p.length) (hc : Cells w a2 p)
    (hs : n0 + n1 + n2 ≤ 1048576) (g1 : n2 ≤ 4096) (g4 : 0 < n2) (hnl : hasNL p = false) (g0 : 0 < n0) (hcell : w.cell? ⟨b, o + (n0 - 1), none⟩ = some (.int .u8 (x.toNat : Int))) (hx : x ≠ 10) :
    Calls Try.prog 7 #[.slice (some ⟨b, o, none⟩) n0 c0, .slice a1 n1 c1, .slice a2 n2 c2] w fun e w' => e = .returned (.bool true) ∧ Below w.heap.size w w' := by
  have HB := hid (bytes22 (some ⟨b, o, none⟩) a1 a2 n0 n1 n2 c0 c1 c2 w (by unfold maxLen; omega) (by unfold maxLen; omega) (by unfold maxLen; omega))
  rw [decide_eq_true hs] at HB
  have HN := hid (hasNewline a2 n2 c2 p w e2 (by omega) hc)
  rw [hnl] at HN
  clear hnl hc e2
  have hn1 : ((n2 : Int) == 0) = false := by simp; omega
  have hxb : ((x.toNat : Int) != 10) = true := by
    rw [bne_iff_ne]
    intro e
    exact hx (UInt8.toNat_inj.1 (show x.toNat = 10 by omega))
  have hz1 : ((n0 : Int) - 1).toNat = n0 - 1 := by omega
  have hz3 : (0 : Int) < (n0 : Int) := by omega
  clear hx
  go_enter Try.func7, Try.ntmps7
  go_wp2_with (first | (go_at_call 22; refine HB.out.mono ?_; rintro e w' ⟨rfl, rfl⟩) | (go_at_call 23; refine HN.out.mono ?_; rintro e w' ⟨rfl, rfl⟩))
  go_ret
  exact ⟨rfl, Below.refl _ _⟩

theorem concat_all (hI : IndexSaid) (v0 v1 v2 : Value) (a b p : List UInt8) (w : World) (m : Int) (h0 : Holds w v0 a) (h1 : Holds w v1 b) (h2 : Holds w v2 p) (hm : w.cell? ⟨0, 0, none⟩ = some (.int .i64 m)) :
    Calls Try.prog 7 #[v0, v1, v2] w fun e w' => e = .returned (.bool true) ∧ Below w.heap.size w w' := by
  have l0 : a.length ≤ maxLen := by obtain ⟨a, c, rfl, g1, g2, _⟩ := h0; omega
  have l1 : b.length ≤ maxLen := by obtain ⟨a, c, rfl, g1, g2, _⟩ := h1; omega
  have l2 : p.length ≤ maxLen := by obtain ⟨a, c, rfl, g1, g2, _⟩ := h2; omega
  obtain ⟨a0, c0, rfl⟩ := h0.shape
  obtain ⟨a1, c1, rfl⟩ := h1.shape
  obtain ⟨a2, c2, rfl⟩ := h2.shape
  by_cases g : a.length + b.length + p.length ≤ 1048576 ∧ p.length ≤ 4096 ∧ 0 < p.length
  · obtain ⟨g1, g2, g3⟩ := g
    cases hnl : hasNL p with
    | true => exact concat_nl a0 a1 a2 _ _ _ c0 c1 c2 p w rfl h2.cells' g1 g2 g3 hnl
    | false =>
      by_cases ha : a = [] ∨ a[a.length - 1]? = some 10
      · exact concat_main hI a0 a1 a2 _ _ _ c0 c1 c2 a b p w m rfl rfl rfl h0 h1 h2 hm g1 g2 g3 hnl ha
      · have hne : a ≠ [] := fun e => ha (.inl e)
        have hpos : 0 < a.length := List.length_pos_iff.2 hne
        obtain ⟨bb, oo, rfl, hcell, _⟩ := h0.cells'.at (a.length - 1) (by omega)
        exact concat_open bb oo a1 a2 _ _ _ c0 c1 c2 p _ w rfl h2.cells' g1 g2 g3 hnl hpos hcell (fun e => ha (.inr (by rw [List.getElem?_eq_getElem (by omega), e])))
  · exact concat_small a0 a1 a2 _ _ _ c0 c1 c2 w l0 l1 l2 g

end Go.Proofs.Qxb6000904a
