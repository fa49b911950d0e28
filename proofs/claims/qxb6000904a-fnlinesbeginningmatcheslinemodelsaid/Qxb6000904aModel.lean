/-
  The walks of zzHasPrefixAt, zzModelLines and of FnLinesBeginningMatchesLineModel.
-/
import Derived.Test.Qxb6000904aTop
import Derived.Deep.QuietTactic
import Derived.BigQuiet
namespace Go.Proofs.Qxb6000904a
open Go.RowKit
set_option linter.unusedVariables false

theorem occ_iff {d p : List UInt8} {s : Nat} (hs : s ≤ d.length) : Lib.occAt d p s = true ↔ s + p.length ≤ d.length ∧ ∀ i, i < p.length → d[s + i]? = p[i]? := by
  constructor
  · intro h
    refine ⟨?_, fun i hi => Plain.occAt_get h i hi⟩
    rcases Lib.occAt_room h with g | g
    · exact g
    · subst g; simpa using hs
  · rintro ⟨h1, h2⟩
    unfold Lib.occAt
    rw [List.isPrefixOf_iff_prefix, List.prefix_iff_eq_take]
    apply List.ext_getElem?
    intro i
    rw [List.getElem?_take]
    split
    · rw [List.getElem?_drop, h2 i ‹_›]
    · exact List.getElem?_eq_none (by omega)

theorem ret_bool {a b : Bool} (h : a = b) : Ending.returned (.bool a) = .returned (.bool b) := by rw [h]

set_option maxHeartbeats 1000000 in
theorem hasPrefixAt_short (a1 a2 : Option Addr) (n m c1 c2 s : Nat) (w : World) (hn : n ≤ 1048576) (hm : m ≤ 1048576) (hs : s ≤ n) (h : n - s < m) :
    Calls Try.prog 30 #[.slice a1 n c1, .int .i64 (s : Int), .slice a2 m c2] w fun e w' => e = .returned (.bool false) ∧ w' = w := by
  go_enter Try.func30, Try.ntmps30
  go_wp2
  go_ret
  exact ⟨rfl, rfl⟩

set_option maxHeartbeats 1000000 in
theorem hasPrefixAt_long (a1 a2 : Option Addr) (n m c1 c2 s : Nat) (d p : List UInt8) (w : World) (en : n = d.length) (em : m = p.length) (hc1 : Cells w a1 d) (hc2 : Cells w a2 p) (hn : n ≤ 1048576) (hm : m ≤ 1048576) (h : s + m ≤ n) :
    Calls Try.prog 30 #[.slice a1 n c1, .int .i64 (s : Int), .slice a2 m c2] w fun e w' => e = .returned (.bool (Lib.occAt d p s)) ∧ ∃ q, w' = w.drewN q := by
  have EN := hid en
  have EM := hid em
  have C1 := hid hc1
  have C2 := hid hc2
  clear en em hc1 hc2
  go_enter Try.func30, Try.ntmps30
  go_wp2
  go_loopw [7] (fun i wr => ∃ j q : Nat, j ≤ m ∧ i = .int .i64 j ∧ Hid (∀ i, i < j → d[s + i]? = p[i]?) ∧ wr = w.drewN q) (fun i _ => m - (intOf i).toNat)
  case atStart => exact ⟨0, 0, Nat.zero_le _, rfl, hid (fun i hi => absurd hi (Nat.not_lt_zero _)), rfl⟩
  case round =>
    obtain ⟨j, q, hj, rfl, HJ, rfl⟩ := hrel
    by_cases hlt : j < m
    · obtain ⟨b, o, rfl, hck, hbl⟩ := C1.out.at (s + j) (by have := EN.out; omega)
      obtain ⟨b', o', rfl, hck', hbl'⟩ := C2.out.at j (by have := EM.out; omega)
      have HG := hid (show d[s + j]? = some (d[s + j]'(by have := EN.out; omega)) from List.getElem?_eq_getElem _)
      have HG' := hid (show p[j]? = some (p[j]'(by have := EM.out; omega)) from List.getElem?_eq_getElem _)
      generalize d[s + j]'(by have := EN.out; omega) = x at hck HG
      generalize p[j]'(by have := EM.out; omega) = y at hck' HG'
      have hadr : ((s : Int) + (j : Int)).toNat = s + j := by omega
      have hi1 : (s : Int) + (j : Int) < (n : Int) := by omega
      have hi2 : (j : Int) < (m : Int) := by omega
      have hi0 : 0 ≤ (s : Int) + (j : Int) := by omega
      go_wp2_with fail
      go_quiet (fail)
      by_cases hxy : x = y
      · subst hxy
        go_wp2
        go_roundw
        case rel =>
          refine ⟨j + 1, q + nq, by omega, by go_num, hid (fun i hi => ?_), by first | rfl | exact (drewN_drewN w q nq)⟩
          by_cases e : i = j
          · rw [e, HG.out, HG'.out]
          · exact HJ.out i (by omega)
        case measure => simp [intOf]; omega
      · have hxb : ((x.toNat : Int) != (y.toNat : Int)) = true := by
          rw [bne_iff_ne]
          intro e
          exact hxy (UInt8.toNat_inj.1 (by omega))
        have HF : Hid (Lib.occAt d p s = false) := hid (by
          cases e : Lib.occAt d p s with
          | false => rfl
          | true =>
            exfalso
            have g := ((occ_iff (by have := EN.out; omega)).1 e).2 j (by have := EM.out; omega)
            rw [HG.out, HG'.out] at g
            exact hxy (Option.some.inj g))
        clear hxy
        go_wp2
        go_ret
        exact ⟨ret_bool HF.out.symm, q + nq, by first | rfl | exact drewN_drewN w q nq⟩
    · have HT : Hid (Lib.occAt d p s = true) := hid ((occ_iff (by have := EN.out; omega)).2 ⟨by have := EN.out; have := EM.out; omega, fun i hi => HJ.out i (by have := EM.out; omega)⟩)
      go_wp2
      go_ret
      exact ⟨ret_bool HT.out.symm, _, rfl⟩

theorem hasPrefixAt (a1 a2 : Option Addr) (n m c1 c2 s : Nat) (d p : List UInt8) (w : World) (en : n = d.length) (em : m = p.length) (hc1 : Cells w a1 d) (hc2 : Cells w a2 p) (hn : n ≤ 1048576) (hm : m ≤ 1048576) (h : s ≤ n) :
    Calls Try.prog 30 #[.slice a1 n c1, .int .i64 (s : Int), .slice a2 m c2] w fun e w' => e = .returned (.bool (Lib.occAt d p s)) ∧ ∃ q, w' = w.drewN q := by
  by_cases g : s + m ≤ n
  · exact hasPrefixAt_long a1 a2 n m c1 c2 s d p w en em hc1 hc2 hn hm g
  · refine (hasPrefixAt_short a1 a2 n m c1 c2 s w hn hm h (by omega)).mono fun e w' ⟨he, hw⟩ => ⟨?_, 0, hw⟩
    rw [he]
    have : Lib.occAt d p s = false := by
      cases e : Lib.occAt d p s with
      | false => rfl
      | true => have := ((occ_iff (by omega)).1 e).1; omega
    rw [this]

theorem Cells.drewN {w : World} {a : Option Addr} {l : List UInt8} (h : Cells w a l) (q : Nat) : Cells (w.drewN q) a l := h

section
open Plain
theorem m_hit {d p : List UInt8} {k : Nat} (ho : Lib.occAt d p k = true) (h : k = 0 ∨ d[k - 1]? = some 10) :
    ((cntL d p k : Nat) : Int) + 1 = ((cntL d p (k + 1) : Nat) : Int) ∧ (cntL d p k = 0 → (k : Int) = fstL d p (k + 1)) ∧ (cntL d p k ≠ 0 → fstL d p k = fstL d p (k + 1)) := by
  have hh : hit d p k = true := by
    rcases h with h | h
    · subst h; exact hit_zero ho
    · exact hit_line ho h
  have e1 : cntL d p (k + 1) = cntL d p k + 1 := cnt_hit hh
  exact ⟨by omega, fun h0 => (fst_hit hh h0).symm, fun h0 => (fst_old h0).symm⟩

theorem m_miss {d p : List UInt8} {k : Nat} (h : Lib.occAt d p k = false ∨ (k ≠ 0 ∧ d[k - 1]? ≠ some 10)) :
    ((cntL d p k : Nat) : Int) = ((cntL d p (k + 1) : Nat) : Int) ∧ fstL d p k = fstL d p (k + 1) := by
  have hh : hit d p k = false := by
    rcases h with h | h
    · simp [hit, h]
    · exact hit_not h.1 h.2
  have e1 : cntL d p (k + 1) = cntL d p k := cnt_miss hh
  have e2 : fstL d p (k + 1) = fstL d p k := fst_miss hh
  exact ⟨by omega, by omega⟩
end

open Plain in
set_option maxHeartbeats 2000000 in
theorem modelLines (a1 a2 : Option Addr) (n m c1 c2 : Nat) (d p : List UInt8) (w : World) (en : n = d.length) (em : m = p.length) (hc1 : Cells w a1 d) (hc2 : Cells w a2 p) (hn : n ≤ 1048576) (hm : m ≤ 1048576) :
    Calls Try.prog 21 #[.slice a1 n c1, .slice a2 m c2] w fun e w' => e = .returned (.tuple #[.int .i64 (lines d p : Int), .int .i64 (first d p)]) ∧ ∃ q, w' = w.drewN q := by
  have EN := hid en
  have C1 := hid hc1
  have HP : Hid (∀ s, s ≤ n → ∀ q, Calls Try.prog 30 #[.slice a1 n c1, .int .i64 (s : Int), .slice a2 m c2] (w.drewN q) fun e w' => e = .returned (.bool (Lib.occAt d p s)) ∧ ∃ q', w' = (w.drewN q).drewN q') :=
    hid (fun s hs q => hasPrefixAt a1 a2 n m c1 c2 s d p (w.drewN q) en em (hc1.drewN q) (hc2.drewN q) hn hm hs)
  clear en em hc1 hc2
  go_enter Try.func21, Try.ntmps21
  go_wp2
  go_loopw [6, 7, 8] (fun t f i wr => ∃ k q : Nat, k ≤ n + 1 ∧ t = .int .i64 (cntL d p k : Int) ∧ f = .int .i64 (fstL d p k) ∧ i = .int .i64 k ∧ wr = w.drewN q) (fun _ _ i _ => n + 1 - (intOf i).toNat)
  case atStart => exact ⟨0, 0, Nat.zero_le _, rfl, rfl, rfl, rfl⟩
  case round =>
    obtain ⟨k, q, hk, rfl, rfl, rfl, rfl⟩ := hrel
    have hcl : cntL d p k ≤ k := cnt_le (hit d p) k
    by_cases hlt : k ≤ n
    · have HCall := hid (HP.out k hlt q)
      by_cases hk0 : k = 0
      · have hkb : decide ((0 : Int) < (k : Int)) = false := by simp; omega
        have hc0 : ((cntL d p k : Int) == 0) = true := by simp; omega
        have HK := hid hk0
        have HC0 : Hid (cntL d p k = 0) := hid (by omega)
        have hkk : ¬ (0 : Int) < (k : Int) := by omega
        clear hk0
        cases ho : Lib.occAt d p k with
        | true =>
          rw [ho] at HCall
          have HR := hid (m_hit ho (.inl HK.out))
          clear ho
          go_wp2_with (go_at_call 30; refine HCall.out.mono ?_; rintro e w' ⟨rfl, q', rfl⟩)
          go_roundw
          case rel => exact ⟨k + 1, q + q', by omega, int_eq HR.out.1, int_eq (HR.out.2.1 HC0.out), by go_num, rfl⟩
          case measure => simp [intOf]; omega
        | false =>
          rw [ho] at HCall
          have HR := hid (m_miss (.inl ho))
          clear ho
          go_wp2_with (go_at_call 30; refine HCall.out.mono ?_; rintro e w' ⟨rfl, q', rfl⟩)
          go_roundw
          case rel => exact ⟨k + 1, q + q', by omega, int_eq HR.out.1, int_eq HR.out.2, by go_num, rfl⟩
          case measure => simp [intOf]; omega
      · obtain ⟨b, o, rfl, hck, hbl⟩ := C1.out.at (k - 1) (by have := EN.out; omega)
        have hkk : (0 : Int) < (k : Int) := by omega
        have hadr : ((k : Int) - 1).toNat = k - 1 := by omega
        have hi1 : (k : Int) - 1 < (n : Int) := by omega
        have HK := hid hk0
        have HG := hid (show d[k - 1]? = some (d[k - 1]'(by have := EN.out; omega)) from List.getElem?_eq_getElem _)
        generalize d[k - 1]'(by have := EN.out; omega) = x at hck HG
        clear hk0
        by_cases hx : x = 10
        · subst hx
          cases ho : Lib.occAt d p k with
          | true =>
            rw [ho] at HCall
            have HR := hid (m_hit ho (.inr HG.out))
            clear ho
            by_cases hc0 : cntL d p k = 0
            · have hcb : ((cntL d p k : Int) == 0) = true := by simp [hc0]
              have HC0 := hid hc0
              clear hc0
              go_wp2_with (go_at_call 30; refine HCall.out.mono ?_; rintro e w' ⟨rfl, q', rfl⟩)
              go_roundw
              case rel => exact ⟨k + 1, q + q', by omega, int_eq HR.out.1, int_eq (HR.out.2.1 HC0.out), by go_num, rfl⟩
              case measure => simp [intOf]; omega
            · have hcb : ((cntL d p k : Int) == 0) = false := by simp; omega
              have HC0 := hid hc0
              clear hc0
              go_wp2_with (go_at_call 30; refine HCall.out.mono ?_; rintro e w' ⟨rfl, q', rfl⟩)
              go_roundw
              case rel => exact ⟨k + 1, q + q', by omega, int_eq HR.out.1, int_eq (HR.out.2.2 HC0.out), by go_num, rfl⟩
              case measure => simp [intOf]; omega
          | false =>
            rw [ho] at HCall
            have HR := hid (m_miss (.inl ho))
            clear ho
            go_wp2_with (go_at_call 30; refine HCall.out.mono ?_; rintro e w' ⟨rfl, q', rfl⟩)
            go_roundw
            case rel => exact ⟨k + 1, q + q', by omega, int_eq HR.out.1, int_eq HR.out.2, by go_num, rfl⟩
            case measure => simp [intOf]; omega
        · have hxb : ((x.toNat : Int) != 10) = true := by
            rw [bne_iff_ne]
            intro e
            exact hx (UInt8.toNat_inj.1 (show x.toNat = 10 by omega))
          have HR := hid (m_miss (p := p) (.inr ⟨HK.out, by rw [HG.out]; simpa using hx⟩))
          clear hx HCall
          go_wp2
          go_roundw
          case rel => exact ⟨k + 1, q, by omega, int_eq HR.out.1, int_eq HR.out.2, by go_num, rfl⟩
          case measure => simp [intOf]; omega
    · have HK : Hid (k = d.length + 1) := hid (by have := EN.out; omega)
      go_wp2
      go_ret2
      exact ⟨ret2_int (by rw [HK.out]; rfl) (by rw [HK.out]; rfl), q, rfl⟩


set_option maxHeartbeats 400000 in
theorem bytes19 (a0 a1 : Option Addr) (n0 n1 c0 c1 : Nat) (w : World) (h0 : n0 ≤ maxLen) (h1 : n1 ≤ maxLen) :
    Calls Try.prog 19 #[.slice a0 n0 c0, .slice a1 n1 c1] w fun e w' => e = .returned (.bool (decide (n0 + n1 ≤ 1048576))) ∧ w' = w := by
  unfold maxLen at h0 h1
  by_cases g0 : n0 ≤ 1048576
  · by_cases g1 : n1 ≤ 1048576
    · by_cases g3 : n0 + n1 ≤ 1048576
      · rw [decide_eq_true g3]
        go_enter Try.func19, Try.ntmps19
        go_wp2
        go_ret
        exact ⟨rfl, rfl⟩
      · rw [decide_eq_false (by omega)]
        go_enter Try.func19, Try.ntmps19
        go_wp2
        go_ret
        exact ⟨rfl, rfl⟩
    · rw [decide_eq_false (by omega)]
      go_enter Try.func19, Try.ntmps19
      go_wp2
      all_goals
        go_ret
        exact ⟨rfl, rfl⟩
  · rw [decide_eq_false (by omega)]
    go_enter Try.func19, Try.ntmps19
    go_wp2
    all_goals
      go_ret
      exact ⟨rfl, rfl⟩

theorem Holds.cells {w : World} {a : Option Addr} {n c : Nat} {l : List UInt8} (h : Holds w (.slice a n c) l) : Cells w a l := by
  obtain ⟨a', c', e, _, _, _, h⟩ := h
  simp only [Value.slice.injEq] at e
  obtain ⟨rfl, _, _⟩ := e
  exact h

open Plain in
theorem modelLines_holds (v u : Value) (d p : List UInt8) (w : World) (h1 : Holds w v d) (h2 : Holds w u p) (hd : d.length ≤ 1048576) (hpl : p.length ≤ 1048576) :
    Calls Try.prog 21 #[v, u] w fun e w' => e = .returned (.tuple #[.int .i64 (lines d p : Int), .int .i64 (first d p)]) ∧ Below w.heap.size w w' := by
  obtain ⟨a, c, rfl⟩ := h1.shape
  obtain ⟨a', c', rfl⟩ := h2.shape
  refine (modelLines a a' _ _ c c' d p w rfl rfl h1.cells h2.cells hd hpl).mono fun e w' ⟨he, q, hw⟩ => ⟨he, ?_⟩
  rw [hw]
  exact below_drewN (Below.refl _ _) _

open Plain in
set_option maxHeartbeats 1000000 in
theorem matches_main (hI : IndexSaid) (a0 a1 : Option Addr) (n0 n1 c0 c1 : Nat) (d p : List UInt8) (w : World) (m : Int) (e0 : n0 = d.length) (e1 : n1 = p.length)
    (h0 : Holds w (.slice a0 n0 c0) d) (h1 : Holds w (.slice a1 n1 c1) p) (hm : w.cell? ⟨0, 0, none⟩ = some (.int .i64 m))
    (hs : n0 + n1 ≤ 1048576) (g1 : n1 ≤ 4096) (g4 : 0 < n1) :
    Calls Try.prog 6 #[.slice a0 n0 c0, .slice a1 n1 c1] w fun e w' => e = .returned (.bool true) ∧ Below w.heap.size w w' := by
  have hp : p ≠ [] := by intro e; subst e; simp at e1; omega
  have HB := hid (bytes19 a0 a1 n0 n1 c0 c1 w (by unfold maxLen; omega) (by unfold maxLen; omega))
  rw [decide_eq_true hs] at HB
  have H0 := hid h0
  have H1 := hid h1
  have HM := hid hm
  have HP := hid hp
  have HI := hid hI
  have E0 := hid e0
  have E1 := hid e1
  clear h0 h1 hm hp hI e0 e1
  have hn1 : ((n1 : Int) == 0) = false := by simp; omega
  go_enter Try.func6, Try.ntmps6
  go_wp2_with (go_at_call 19; refine HB.out.mono ?_; rintro e w' ⟨rfl, rfl⟩)
  refine (clone _ d _ H0.out (by have := E0.out; omega)).mono ?_
  rintro e w1 ⟨v0, rfl, k0, b1⟩
  have K0 := hid k0
  have B1 := hid b1
  have K1 := hid (H1.out.later b1)
  have M1 := hid (cell_below b1 HM.out)
  clear k0 b1 H0 H1 HM HB
  go_wp2_with fail
  refine (clone _ p _ K1.out (by have := E1.out; omega)).mono ?_
  rintro e w2 ⟨v1, rfl, k1, b2⟩
  have L1 := hid k1
  have L0 := hid (K0.out.later b2)
  have M2 := hid (cell_below b2 M1.out)
  have B2 := hid (below_trans B1.out b2)
  clear k1 b2 K0 K1 M1 B1
  go_wp2_with fail
  refine (shim HI.out _ _ d p _ m L0.out L1.out HP.out (by have := E0.out; omega) (by have := E1.out; omega) M2.out).mono ?_
  rintro e w3 ⟨rfl, b3⟩
  have N0 := hid (L0.out.later b3)
  have N1 := hid (L1.out.later b3)
  have B3 := hid (below_trans B2.out b3)
  clear b3 L0 L1 M2 B2
  go_wp2_with fail
  refine (modelLines_holds _ _ d p _ N0.out N1.out (by have := E0.out; omega) (by have := E1.out; omega)).mono ?_
  rintro e w4 ⟨rfl, b4⟩
  have B4 := hid (below_trans B3.out b4)
  clear b4 N0 N1 B3
  generalize (lines d p : Int) = x1
  generalize first d p = y1
  go_wp2
  go_ret
  exact ⟨rfl, B4.out⟩

set_option maxHeartbeats 1000000 in
theorem matches_small (a0 a1 : Option Addr) (n0 n1 c0 c1 : Nat) (w : World) (h0 : n0 ≤ maxLen) (h1 : n1 ≤ maxLen)
    (hs : ¬ (n0 + n1 ≤ 1048576 ∧ n1 ≤ 4096 ∧ 0 < n1)) :
    Calls Try.prog 6 #[.slice a0 n0 c0, .slice a1 n1 c1] w fun e w' => e = .returned (.bool true) ∧ Below w.heap.size w w' := by
  have HB := hid (bytes19 a0 a1 n0 n1 c0 c1 w h0 h1)
  unfold maxLen at h0 h1
  by_cases g : n0 + n1 ≤ 1048576
  · rw [decide_eq_true g] at HB
    by_cases g1 : n1 ≤ 4096
    · have hn1 : ((n1 : Int) == 0) = true := by simp; omega
      clear hs
      go_enter Try.func6, Try.ntmps6
      go_wp2_with (go_at_call 19; refine HB.out.mono ?_; rintro e w' ⟨rfl, rfl⟩)
      go_ret
      exact ⟨rfl, Below.refl _ _⟩
    · clear hs
      go_enter Try.func6, Try.ntmps6
      go_wp2_with (go_at_call 19; refine HB.out.mono ?_; rintro e w' ⟨rfl, rfl⟩)
      go_ret
      exact ⟨rfl, Below.refl _ _⟩
  · rw [decide_eq_false g] at HB
    clear hs
    go_enter Try.func6, Try.ntmps6
    go_wp2_with (go_at_call 19; refine HB.out.mono ?_; rintro e w' ⟨rfl, rfl⟩)
    go_ret
    exact ⟨rfl, Below.refl _ _⟩

theorem matches_any (hI : IndexSaid) (v0 v1 : Value) (d p : List UInt8) (w : World) (m : Int) (h0 : Holds w v0 d) (h1 : Holds w v1 p) (hm : w.cell? ⟨0, 0, none⟩ = some (.int .i64 m)) :
    Calls Try.prog 6 #[v0, v1] w fun e w' => e = .returned (.bool true) ∧ Below w.heap.size w w' := by
  have l0 : d.length ≤ maxLen := by obtain ⟨a, c, rfl, g1, g2, _⟩ := h0; omega
  have l1 : p.length ≤ maxLen := by obtain ⟨a, c, rfl, g1, g2, _⟩ := h1; omega
  obtain ⟨a0, c0, rfl⟩ := h0.shape
  obtain ⟨a1, c1, rfl⟩ := h1.shape
  by_cases g : d.length + p.length ≤ 1048576 ∧ p.length ≤ 4096 ∧ 0 < p.length
  · exact matches_main hI a0 a1 _ _ c0 c1 d p w m rfl rfl h0 h1 hm g.1 g.2.1 g.2.2
  · exact matches_small a0 a1 _ _ c0 c1 w l0 l1 g

end Go.Proofs.Qxb6000904a
