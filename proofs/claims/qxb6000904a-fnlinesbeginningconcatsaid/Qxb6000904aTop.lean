/-
  The shim of linesBeginning, what a slice that came in holds, and the walk of FnLinesBeginningLongerPrefixFewer.
-/
import Derived.Test.Qxb6000904aLines
import Derived.WalkKit
import Derived.Below
import Derived.Outline
import Derived.WalkSpells
import Derived.WalkLawsBesides
namespace Go.Proofs.Qxb6000904a
open Go.RowKit
set_option linter.unusedVariables false

theorem Holds.shape {w : World} {v : Value} {l : List UInt8} (h : Holds w v l) : ∃ a c, v = .slice a l.length c := by
  obtain ⟨a, c, e, _⟩ := h
  exact ⟨a, c, e⟩

open Plain in
set_option maxHeartbeats 400000 in
theorem shim (hI : IndexSaid) (v u : Value) (d p : List UInt8) (w : World) (m : Int) (h1 : Holds w v d) (h2 : Holds w u p) (hp : p ≠ []) (hd : d.length ≤ 1048576) (hpl : p.length ≤ 1048576) (hm : w.cell? ⟨0, 0, none⟩ = some (.int .i64 m)) :
    Calls Try.prog 20 #[v, u] w fun e w' => e = .returned (.tuple #[.int .i64 (lines d p : Int), .int .i64 (first d p)]) ∧ Below w.heap.size w w' := by
  have hc : Calls Try.prog 29 #[v, u] w fun e w' => e = .returned (.tuple #[.int .i64 (lines d p : Int), .int .i64 (first d p)]) ∧ ∃ q, w' = w.drewN q := by
    obtain ⟨a, c, rfl⟩ := h1.shape
    obtain ⟨a', c', rfl⟩ := h2.shape
    exact linesBeginning hI a a' _ _ c c' d p w m rfl rfl h1 h2 hp hd hpl hm
  have HC := hid hc
  clear hc h1 h2 hp hd hpl hm hI
  generalize (lines d p : Int) = x at HC ⊢
  generalize first d p = y at HC ⊢
  go_enter Try.func20, Try.ntmps20
  go_wp2_with (go_at_call 29; refine HC.out.mono ?_; rintro e w' ⟨rfl, q', rfl⟩)
  go_ret2
  exact ⟨rfl, below_drewN (Below.refl _ _) _⟩

theorem cell_below {w w' : World} {v : Value} (hb : Below w.heap.size w w') {a : Addr} (h : w.cell? a = some v) : w'.cell? a = some v := by
  rw [hb.cell (World.block_lt_of_cell? w a h)]; exact h

theorem below_trans {w w1 w2 : World} (h : Below w.heap.size w w1) (h' : Below w1.heap.size w1 w2) : Below w.heap.size w w2 := h.trans (h'.mono h.size)

open Plain in
set_option maxHeartbeats 1000000 in
theorem longer_main (hI : IndexSaid) (a0 a1 a2 : Option Addr) (n0 n1 n2 c0 c1 c2 : Nat) (d p t : List UInt8) (w : World) (m : Int) (e0 : n0 = d.length) (e1 : n1 = p.length) (e2 : n2 = t.length)
    (h0 : Holds w (.slice a0 n0 c0) d) (h1 : Holds w (.slice a1 n1 c1) p) (h2 : Holds w (.slice a2 n2 c2) t) (hm : w.cell? ⟨0, 0, none⟩ = some (.int .i64 m))
    (hs : n0 + n1 + n2 ≤ 1048576) (g1 : n1 ≤ 4096) (g2 : n2 ≤ 4096) (g3 : n1 + n2 ≤ 4096) (g4 : 0 < n1) :
    Calls Try.prog 8 #[.slice a0 n0 c0, .slice a1 n1 c1, .slice a2 n2 c2] w fun e w' => e = .returned (.bool true) ∧ Below w.heap.size w w' := by
  have hp : p ≠ [] := by intro e; subst e; simp at e1; omega
  have HB := hid (bytes24 a0 a1 a2 n0 n1 n2 c0 c1 c2 w (by unfold maxLen; omega) (by unfold maxLen; omega) (by unfold maxLen; omega))
  rw [decide_eq_true hs] at HB
  have H0 := hid h0
  have H1 := hid h1
  have H2 := hid h2
  have HM := hid hm
  have HP := hid hp
  have HI := hid hI
  have E0 := hid e0
  have E1 := hid e1
  have E2 := hid e2
  clear h0 h1 h2 hm hp hI e0 e1 e2
  have hn1 : ((n1 : Int) == 0) = false := by simp; omega
  go_enter Try.func8, Try.ntmps8
  go_wp2_with (go_at_call 24; refine HB.out.mono ?_; rintro e w' ⟨rfl, rfl⟩)
  refine (clone _ d _ H0.out (by have := E0.out; omega)).mono ?_
  rintro e w1 ⟨v0, rfl, k0, b1⟩
  have K0 := hid k0
  have B1 := hid b1
  have K1 := hid (H1.out.later b1)
  have K2 := hid (H2.out.later b1)
  have M1 := hid (cell_below b1 HM.out)
  clear k0 b1 H0 H1 H2 HM HB
  go_wp2_with fail
  refine (clone _ p _ K1.out (by have := E1.out; omega)).mono ?_
  rintro e w2 ⟨v1, rfl, k1, b2⟩
  have L1 := hid k1
  have L0 := hid (K0.out.later b2)
  have L2 := hid (K2.out.later b2)
  have M2 := hid (cell_below b2 M1.out)
  have B2 := hid (below_trans B1.out b2)
  clear k1 b2 K0 K1 K2 M1 B1
  go_wp2_with fail
  refine (clone _ t _ L2.out (by have := E2.out; omega)).mono ?_
  rintro e w3 ⟨v2, rfl, k2, b3⟩
  have N2 := hid k2
  have N0 := hid (L0.out.later b3)
  have N1 := hid (L1.out.later b3)
  have M3 := hid (cell_below b3 M2.out)
  have B3 := hid (below_trans B2.out b3)
  clear k2 b3 L0 L1 L2 M2 B2
  go_wp2_with fail
  refine (concat _ _ p t _ N1.out N2.out (by have := E1.out; omega) (by have := E2.out; omega)).mono ?_
  rintro e w4 ⟨v3, rfl, k3, b4⟩
  have O3 := hid k3
  have O0 := hid (N0.out.later b4)
  have O1 := hid (N1.out.later b4)
  have M4 := hid (cell_below b4 M3.out)
  have B4 := hid (below_trans B3.out b4)
  clear k3 b4 N0 N1 N2 M3 B3
  go_wp2_with fail
  refine (shim HI.out _ _ d p _ m O0.out O1.out HP.out (by have := E0.out; omega) (by have := E1.out; omega) M4.out).mono ?_
  rintro e w5 ⟨rfl, b5⟩
  have P0 := hid (O0.out.later b5)
  have P3 := hid (O3.out.later b5)
  have M5 := hid (cell_below b5 M4.out)
  have B5 := hid (below_trans B4.out b5)
  clear b5 O0 O1 O3 M4 B4
  go_wp2_with fail
  refine (shim HI.out _ _ d (p ++ t) _ m P0.out P3.out (by simp [HP.out]) (by have := E0.out; omega) (by have := E1.out; have := E2.out; simp; omega) M5.out).mono ?_
  rintro e w6 ⟨rfl, b6⟩
  have B6 := hid (below_trans B5.out b6)
  clear b6 P0 P3 M5 B5
  have f1 := fewer d p t
  have f2 := no_later d p t
  have f3 := first_none d (p ++ t)
  generalize lines d (p ++ t) = x2 at f1 f2 f3 ⊢
  generalize lines d p = x1 at f1 ⊢
  generalize first d (p ++ t) = y2 at f2 f3 ⊢
  generalize first d p = y1 at f2 ⊢
  by_cases hx : x2 = 0
  · have hy := f3 hx
    subst hx
    subst hy
    clear f1 f2 f3
    go_wp2
    go_ret
    exact ⟨rfl, B6.out⟩
  · have hy := f2 (by omega)
    clear f2 f3
    obtain ⟨hy1, hy2⟩ := hy
    have hx1 : (0 : Int) < (x2 : Int) := by omega
    go_wp2
    go_ret
    exact ⟨rfl, B6.out⟩


set_option maxHeartbeats 1000000 in
theorem longer_small (a0 a1 a2 : Option Addr) (n0 n1 n2 c0 c1 c2 : Nat) (w : World) (h0 : n0 ≤ maxLen) (h1 : n1 ≤ maxLen) (h2 : n2 ≤ maxLen)
    (hs : ¬ (n0 + n1 + n2 ≤ 1048576 ∧ n1 ≤ 4096 ∧ n2 ≤ 4096 ∧ n1 + n2 ≤ 4096 ∧ 0 < n1)) :
    Calls Try.prog 8 #[.slice a0 n0 c0, .slice a1 n1 c1, .slice a2 n2 c2] w fun e w' => e = .returned (.bool true) ∧ Below w.heap.size w w' := by
  have HB := hid (bytes24 a0 a1 a2 n0 n1 n2 c0 c1 c2 w h0 h1 h2)
  unfold maxLen at h0 h1 h2
  by_cases g : n0 + n1 + n2 ≤ 1048576
  · rw [decide_eq_true g] at HB
    by_cases g1 : n1 ≤ 4096
    · by_cases g2 : n2 ≤ 4096
      · by_cases g3 : n1 + n2 ≤ 4096
        · have hn1 : ((n1 : Int) == 0) = true := by simp; omega
          clear hs
          go_enter Try.func8, Try.ntmps8
          go_wp2_with (go_at_call 24; refine HB.out.mono ?_; rintro e w' ⟨rfl, rfl⟩)
          go_ret
          exact ⟨rfl, Below.refl _ _⟩
        · clear hs
          go_enter Try.func8, Try.ntmps8
          go_wp2_with (go_at_call 24; refine HB.out.mono ?_; rintro e w' ⟨rfl, rfl⟩)
          go_ret
          exact ⟨rfl, Below.refl _ _⟩
      · clear hs
        go_enter Try.func8, Try.ntmps8
        go_wp2_with (go_at_call 24; refine HB.out.mono ?_; rintro e w' ⟨rfl, rfl⟩)
        go_ret
        exact ⟨rfl, Below.refl _ _⟩
    · clear hs
      go_enter Try.func8, Try.ntmps8
      go_wp2_with (go_at_call 24; refine HB.out.mono ?_; rintro e w' ⟨rfl, rfl⟩)
      go_ret
      exact ⟨rfl, Below.refl _ _⟩
  · rw [decide_eq_false g] at HB
    clear hs
    go_enter Try.func8, Try.ntmps8
    go_wp2_with (go_at_call 24; refine HB.out.mono ?_; rintro e w' ⟨rfl, rfl⟩)
    go_ret
    exact ⟨rfl, Below.refl _ _⟩

theorem longer_any (hI : IndexSaid) (v0 v1 v2 : Value) (d p t : List UInt8) (w : World) (m : Int) (h0 : Holds w v0 d) (h1 : Holds w v1 p) (h2 : Holds w v2 t) (hm : w.cell? ⟨0, 0, none⟩ = some (.int .i64 m)) :
    Calls Try.prog 8 #[v0, v1, v2] w fun e w' => e = .returned (.bool true) ∧ Below w.heap.size w w' := by
  have l0 : d.length ≤ maxLen := by obtain ⟨a, c, rfl, g1, g2, _⟩ := h0; omega
  have l1 : p.length ≤ maxLen := by obtain ⟨a, c, rfl, g1, g2, _⟩ := h1; omega
  have l2 : t.length ≤ maxLen := by obtain ⟨a, c, rfl, g1, g2, _⟩ := h2; omega
  obtain ⟨a0, c0, rfl⟩ := h0.shape
  obtain ⟨a1, c1, rfl⟩ := h1.shape
  obtain ⟨a2, c2, rfl⟩ := h2.shape
  by_cases g : d.length + p.length + t.length ≤ 1048576 ∧ p.length ≤ 4096 ∧ t.length ≤ 4096 ∧ p.length + t.length ≤ 4096 ∧ 0 < p.length
  · exact longer_main hI a0 a1 a2 _ _ _ c0 c1 c2 d p t w m rfl rfl rfl h0 h1 h2 hm g.1 g.2.1 g.2.2.1 g.2.2.2.1 g.2.2.2.2
  · exact longer_small a0 a1 a2 _ _ _ c0 c1 c2 w l0 l1 l2 g

end Go.Proofs.Qxb6000904a
