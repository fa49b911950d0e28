/-
  The walk of linesBeginning (over the contract of bytes.Index) and of its shim.
-/
import Derived.Test.Qxb6000904aHolds
import Derived.Test.Qxb6000904aMem
import Derived.WalkKit
import Derived.Below
import Derived.Outline
import Derived.WalkSpells
import Derived.WalkLawsBesides
namespace Go.Proofs.Qxb6000904a
open Go.RowKit
set_option linter.unusedVariables false

/-- 'data[k:]'. -/
def tailS (a : Option Addr) (n c k : Nat) : Value := sliced a k n c 1

theorem run_tail (W : World) (a : Option Addr) (n c k : Nat) (hk : k ≤ n) : (Instr.slice 22 (.slice a n c) (some (.int .i64 (k : Int))) none none).run Try.prog W = .ok (tailS a n c k) W := by
  have ht' : Try.prog.underlying 22 = some (.slice (Try.prog.elem 22)) := by simp [Program.elem, Try.underlying22]
  have he : Try.prog.elem 22 = 5 := by simp [Program.elem, Try.underlying22]
  have hz : (Go.sizeOf 5).run Try.prog W = .ok 1 W := by kernel_rfl
  rw [run_slice_l W 22 _ _ _ ht' .i64 _ (by omega) (by omega), he, hz]
  rfl

theorem Holds.tail {w : World} {a : Option Addr} {c : Nat} {l : List UInt8} (h : Holds w (.slice a l.length c) l) (k : Nat) (hk : k ≤ l.length) : Holds w (tailS a l.length c k) (l.drop k) := by
  obtain ⟨a', c', e, h1, h2, h3, h4⟩ := h
  simp only [Value.slice.injEq, true_and] at e
  obtain ⟨rfl, rfl⟩ := e
  refine ⟨if c = k then a else a.map (·.add (k * 1)), c - k, by simp [tailS, sliced], by simp; omega, by omega, ?_, ?_⟩
  · intro e
    split at e
    · omega
    · rw [h3 (by simpa using e)]; omega
  · intro hne
    have hkl : k < l.length := by
      rcases Nat.lt_or_ge k l.length with g | g
      · exact g
      · exact absurd (List.drop_eq_nil_of_le g) hne
    obtain ⟨b, o, rfl, hc⟩ := h4 (by intro e; subst e; simp at hkl)
    refine ⟨b, o + k, ?_, fun i hi => ?_⟩
    · rw [if_neg (by omega)]
      simp only [Option.map_some, Nat.mul_one]
      congr 1
      unfold Addr.add
      split <;> simp_all
    · rw [List.length_drop] at hi
      rw [Nat.add_assoc, hc (k + i) (by omega)]
      simp

/-- bytes.Index, as this seat's walks take it. -/
def IndexSaid : Prop := ∀ (v u : Value) (d p : List UInt8) (w : World) (m : Int), Holds w v d → Holds w u p → p ≠ [] → d.length ≤ 1048576 → p.length ≤ 1048576 → w.cell? ⟨0, 0, none⟩ = some (.int .i64 m) →
  Calls Try.prog 32 #[v, u] w fun e w' => e = .returned (.int .i64 (Lib.index d p)) ∧ ∃ q, w' = w.drewN q

theorem below_drewN {B : Nat} {a w : World} (h : Below B a w) (q : Nat) : Below B a (w.drewN q) := ⟨h.os, h.tape, h.output, h.size, h.block⟩

theorem index_cases (l p : List UInt8) : Lib.index l p = -1 ∨ ∃ i : Nat, Lib.index l p = (i : Int) := by
  rcases Lib.index_spec l p with ⟨h, _⟩ | ⟨i, h, _⟩
  · exact .inl h
  · exact .inr ⟨i, h⟩

theorem hid {q : Prop} (h : q) : Hid q := h
theorem drewN_drewN (w : World) (a b : Nat) : (w.drewN a).drewN b = w.drewN (a + b) := by simp [World.drewN, Nat.add_assoc]

theorem ret2_int {k k' : IntKind} {a b c d : Int} (h : a = b) (h' : c = d) : Ending.returned (.tuple #[.int k a, .int k' c]) = .returned (.tuple #[.int k b, .int k' d]) := by rw [h, h']
theorem int_eq {k : IntKind} {a b : Int} (h : a = b) : Value.int k a = .int k b := by rw [h]

section
open Plain
theorem step_hit {d p : List UInt8} {k i : Nat} (hs : k + i < d.length ∧ Lib.occAt d p (k + i) = true ∧ cntL d p (k + i) = cntL d p k ∧ fstL d p (k + i) = fstL d p k) (h : k + i = 0 ∨ d[k + i - 1]? = some 10) :
    ((cntL d p k : Nat) : Int) + 1 = ((cntL d p (k + i + 1) : Nat) : Int) ∧ (cntL d p k = 0 → (k : Int) + (i : Int) = fstL d p (k + i + 1)) ∧ (cntL d p k ≠ 0 → fstL d p k = fstL d p (k + i + 1)) := by
  obtain ⟨h1, h2, h3, h4⟩ := hs
  have hh : hit d p (k + i) = true := by
    rcases h with h | h
    · rw [h] at h2 ⊢; exact hit_zero h2
    · exact hit_line h2 h
  have e1 : cntL d p (k + i + 1) = cntL d p (k + i) + 1 := cnt_hit hh
  refine ⟨by omega, fun h0 => ?_, fun h0 => ?_⟩
  · have : fstL d p (k + i + 1) = ((k + i : Nat) : Int) := fst_hit hh (show cntL d p (k + i) = 0 by omega)
    omega
  · have : fstL d p (k + i + 1) = fstL d p (k + i) := fst_old (show cntL d p (k + i) ≠ 0 by omega)
    omega

theorem step_miss {d p : List UInt8} {k i : Nat} (hs : k + i < d.length ∧ Lib.occAt d p (k + i) = true ∧ cntL d p (k + i) = cntL d p k ∧ fstL d p (k + i) = fstL d p k) (h0 : k + i ≠ 0) (h : d[k + i - 1]? ≠ some 10) :
    ((cntL d p k : Nat) : Int) = ((cntL d p (k + i + 1) : Nat) : Int) ∧ fstL d p k = fstL d p (k + i + 1) := by
  obtain ⟨h1, h2, h3, h4⟩ := hs
  have hh := hit_not (p := p) h0 h
  have e1 : cntL d p (k + i + 1) = cntL d p (k + i) := cnt_miss hh
  have e2 : fstL d p (k + i + 1) = fstL d p (k + i) := fst_miss hh
  exact ⟨by omega, by omega⟩
end

open Plain in
set_option maxHeartbeats 1000000 in
theorem linesBeginning (hI : IndexSaid) (a1 a2 : Option Addr) (n k2 c1 c2 : Nat) (d p : List UInt8) (w : World) (m : Int) (hn : n = d.length) (hk2 : k2 = p.length) (h1 : Holds w (.slice a1 n c1) d) (h2 : Holds w (.slice a2 k2 c2) p) (hp : p ≠ [])
    (hd : n ≤ 1048576) (hpl : k2 ≤ 1048576) (hm : w.cell? ⟨0, 0, none⟩ = some (.int .i64 m)) :
    Calls Try.prog 29 #[.slice a1 n c1, .slice a2 k2 c2] w fun e w' => e = .returned (.tuple #[.int .i64 (lines d p : Int), .int .i64 (first d p)]) ∧ ∃ q, w' = w.drewN q := by
  have HI : Hid (∀ k, k ≤ n → ∀ q, Calls Try.prog 32 #[tailS a1 n c1 k, .slice a2 k2 c2] (w.drewN q) fun e w' => e = .returned (.int .i64 (Lib.index (d.drop k) p)) ∧ ∃ q', w' = (w.drewN q).drewN q') := by
    intro k hk q
    subst hn
    exact hI _ _ (d.drop k) p (w.drewN q) m ((h1.tail k hk).later (below_drewN (Below.refl _ _) q)) (h2.later (below_drewN (Below.refl _ _) q)) hp (by simp; omega) (by omega) hm
  have HT : ∀ (W : World) (k : Nat), k ≤ n → (Instr.slice 22 (.slice a1 n c1) (some (.int .i64 (k : Int))) none none).run Try.prog W = .ok (tailS a1 n c1 k) W := fun W k hk => run_tail W a1 n c1 k hk
  have HN : Hid (n = d.length) := hn
  have HC : Hid (Cells w a1 d) := by subst hn; obtain ⟨a, c, e, _, _, _, h⟩ := h1; simp only [Value.slice.injEq, true_and] at e; obtain ⟨rfl, rfl⟩ := e; exact h
  have HP : Hid (p ≠ []) := hp
  clear h1 h2 hm hn hk2 hp hI
  go_enter Try.func29, Try.ntmps29
  go_wp2
  go_loopw [4, 5, 6] (fun t f i wr => ∃ k q : Nat, k ≤ n ∧ t = .int .i64 (cntL d p k : Int) ∧ f = .int .i64 (fstL d p k) ∧ i = .int .i64 k ∧ wr = w.drewN q) (fun _ _ i _ => n - (intOf i).toNat)
  case atStart => exact ⟨0, 0, Nat.zero_le _, rfl, rfl, rfl, rfl⟩
  case round =>
    obtain ⟨k, q, hk, rfl, rfl, rfl, rfl⟩ := hrel
    have hcall := HI.out k hk q
    rcases index_cases (d.drop k) p with e | ⟨i, e⟩
    · rw [e] at hcall
      have HE : Hid (Lib.index (d.drop k) p = -1) := e
      have HCall := hid hcall
      clear e hcall
      go_wp2_with (go_at_call 32; refine HCall.out.mono ?_; rintro e w' ⟨rfl, q', rfl⟩)
      go_ret2
      have hs := search_none (by have := HN.out; omega) HE.out
      exact ⟨ret2_int (by rw [hs.1]) hs.2, q + q', rfl⟩
    · rw [e] at hcall
      have hs := search_some HP.out e
      have HCall := hid hcall
      have HS := hid hs
      have hki : k + i < n := by have := HN.out; have := hs.1; omega
      have hcl := cnt_le (hit d p) k
      have hcl' : cntL d p k ≤ k := hcl
      clear e hcall hcl hs
      by_cases hz : k + i = 0
      · have hz0 : (((k : Int) + (i : Int)) == 0) = true := by simp; omega
        have hcb : ((cntL d p k : Int) == 0) = true := by simp; omega
        have HR := hid (step_hit HS.out (.inl hz))
        have HC0 : Hid (cntL d p k = 0) := hid (by omega)
        clear hz
        go_wp2_with (go_at_call 32; refine HCall.out.mono ?_; rintro e w' ⟨rfl, q', rfl⟩)
        go_roundw
        case rel => exact ⟨k + i + 1, q + q', by omega, int_eq HR.out.1, int_eq (HR.out.2.1 HC0.out), by go_num, rfl⟩
        case measure => simp [intOf]; omega
      · obtain ⟨b, o, rfl, hck, hbl⟩ := HC.out.at (k + i - 1) (by have := HN.out; omega)
        have hidx : (0 : Int) ≤ (k : Int) + (i : Int) - 1 := by omega
        have hadr : ((k : Int) + (i : Int) - 1).toNat = k + i - 1 := by omega
        have hne0 : (((k : Int) + (i : Int)) == 0) = false := by simp; omega
        have HG := hid (show d[k + i - 1]? = some (d[k + i - 1]'(by have := HN.out; omega)) from List.getElem?_eq_getElem _)
        have HZ := hid hz
        generalize d[k + i - 1]'(by have := HN.out; omega) = x at hck HG
        clear hz
        by_cases hx : x = 10
        · subst hx
          have HR := hid (step_hit HS.out (.inr HG.out))
          by_cases hc0 : cntL d p k = 0
          · have hcb : ((cntL d p k : Int) == 0) = true := by simp [hc0]
            have HC0 := hid hc0
            clear hc0
            go_wp2_with (go_at_call 32; refine HCall.out.mono ?_; rintro e w' ⟨rfl, q', rfl⟩)
            go_roundw
            case rel => exact ⟨k + i + 1, q + q', by omega, int_eq HR.out.1, int_eq (HR.out.2.1 HC0.out), by go_num, rfl⟩
            case measure => simp [intOf]; omega
          · have hcb : ((cntL d p k : Int) == 0) = false := by simp; omega
            have HC0 := hid hc0
            clear hc0
            go_wp2_with (go_at_call 32; refine HCall.out.mono ?_; rintro e w' ⟨rfl, q', rfl⟩)
            go_roundw
            case rel => exact ⟨k + i + 1, q + q', by omega, int_eq HR.out.1, int_eq (HR.out.2.2 HC0.out), by go_num, rfl⟩
            case measure => simp [intOf]; omega
        · have hxb : ((x.toNat : Int) == 10) = false := by
            rw [beq_eq_false_iff_ne]
            intro e
            exact hx (UInt8.toNat_inj.1 (show x.toNat = 10 by omega))
          have HR := hid (step_miss HS.out HZ.out (by rw [HG.out]; simpa using hx))
          have HX := hid hx
          clear hx
          go_wp2_with (go_at_call 32; refine HCall.out.mono ?_; rintro e w' ⟨rfl, q', rfl⟩)
          go_roundw
          case rel => exact ⟨k + i + 1, q + q', by omega, int_eq HR.out.1, int_eq HR.out.2, by go_num, rfl⟩
          case measure => simp [intOf]; omega

end Go.Proofs.Qxb6000904a
