/-
  The walk of FnURITextExactWithoutPercent.
-/
import Derived.Test.Qxb6001148aUri
namespace Go.Proofs.Qxb6001148a
open Go.RowKit Plain
set_option linter.unusedVariables false

theorem no_pct {l : List UInt8} (h : has l 37 = false) : ∀ c ∈ l, c ≠ 37 := by
  intro c hc e
  subst e
  unfold has at h
  simp at h
  exact h hc

theorem alone_call (x : UInt8) (w : World) : Calls Try.prog 16 #[.string ⟨#[65, 66, 67, 68, 69, 70, 71, 72, 73, 74, 75, 76, 77, 78, 79, 80, 81, 82, 83, 84, 85, 86, 87, 88, 89, 90, 97, 98, 99, 100, 101, 102, 103, 104, 105, 106, 107, 108, 109, 110, 111, 112, 113, 114, 115, 116, 117, 118, 119, 120, 121, 122, 48, 49, 50, 51, 52, 53, 54, 55, 56, 57, 45, 46, 95, 126, 33, 36, 38, 39, 40, 41, 42, 43, 44, 59, 61]⟩, .int .u8 (x.toNat : Int)] w fun r w' => r = .returned (.bool (has alone x)) ∧ w' = w :=
  hasByte _ x w (by decide)

set_option maxHeartbeats 2000000 in
theorem exact_main (s e : ByteArray) (w : World) (h0 : s.size ≤ 65536) (h1 : e.size ≤ 4096) (hp : has s.data.toList 37 = false) :
    Calls Try.prog 9 #[.string s, .string e] w fun r w' => r = .returned (.bool true) ∧ w' = w := by
  have HB := hid (bytes22 s e w (by unfold maxLen; omega) (by unfold maxLen; omega))
  rw [decide_eq_true (by omega)] at HB
  have H37 : Hid (Calls Try.prog 16 #[.string s, .int .u8 37] w fun r w' => r = .returned (.bool false) ∧ w' = w) := hid (by
    have h := hasByte s 37 w (by omega)
    rw [hp] at h
    exact h)
  have HU := hid (shim s e w (by omega))
  rw [uri_plain _ (no_pct hp)] at HU
  clear hp
  go_enter Try.func9, Try.ntmps9
  go_wp2_with (first | (go_at_call 22; refine HB.out.mono ?_; rintro e w' ⟨rfl, rfl⟩) | (go_at_call 16; refine H37.out.mono ?_; rintro e w' ⟨rfl, rfl⟩))
  clear HB H37
  go_loop [5, 6] (fun t i => ∃ k : Nat, k ≤ s.size ∧ t = .bool true ∧ i = .int .i64 k ∧ Hid (∀ i, i < k → ∀ c, s.data.toList[i]? = some c → ok e.data.toList c = true)) (fun _ i => s.size - (intOf i).toNat)
  case atStart => exact ⟨0, Nat.zero_le _, rfl, rfl, hid (fun i hi => absurd hi (Nat.not_lt_zero _))⟩
  case round =>
    obtain ⟨k, hk, rfl, rfl, HK⟩ := hrel
    by_cases hlt : k < s.size
    · have HG := hid (get_some s k hlt)
      obtain ⟨x, hx⟩ : ∃ x, s[k] = x := ⟨_, rfl⟩
      rw [hx] at HG
      have HA := hid (alone_call x)
      have HE := hid (fun w => hasByte e x w (by omega))
      have HStep : Hid (ok e.data.toList x = true → ∀ i, i < k + 1 → ∀ c, s.data.toList[i]? = some c → ok e.data.toList c = true) := hid (fun g i hi c hc => by
        by_cases q : i = k
        · rw [q, HG.out] at hc
          rw [← Option.some.inj hc]; exact g
        · exact HK.out i (by omega) c hc)
      have HOK := hid (ok_eq e.data.toList x)
      cases ha : has alone x with
      | true =>
        rw [ha] at HA
        have HR := hid (HStep.out (by rw [HOK.out, ha]; rfl))
        clear ha
        go_wp2_with (go_at_call 16; refine (HA.out _).mono ?_; rintro e w' ⟨rfl, rfl⟩)
        go_round
        case rel => exact ⟨k + 1, by omega, rfl, by go_num, HR⟩
        case measure => simp [intOf]; omega
      | false =>
        rw [ha] at HA
        cases he : has e.data.toList x with
        | true =>
          rw [he] at HE
          have HR := hid (HStep.out (by rw [HOK.out, he]; simp))
          clear ha he
          go_wp2_with (first | (go_at_call_of 16 (Value.string e); refine (HE.out _).mono ?_; rintro e w' ⟨rfl, rfl⟩) | (go_at_call 16; refine (HA.out _).mono ?_; rintro e w' ⟨rfl, rfl⟩))
          go_round
          case rel => exact ⟨k + 1, by omega, rfl, by go_num, HR⟩
          case measure => simp [intOf]; omega
        | false =>
          rw [he] at HE
          have HF : Hid (allOk e.data.toList s.data.toList = false) := hid (allOk_not HG.out (by rw [HOK.out, ha, he]; rfl))
          rw [HF.out] at HU
          clear ha he
          go_wp2_with (first | (go_at_call_of 16 (Value.string e); refine (HE.out _).mono ?_; rintro e w' ⟨rfl, rfl⟩) | (go_at_call 16; refine (HA.out _).mono ?_; rintro e w' ⟨rfl, rfl⟩) | (go_at_call 23; refine HU.out.mono ?_; rintro e w' ⟨rfl, rfl⟩))
          go_ret
          exact ⟨rfl, rfl⟩
    · have HF : Hid (allOk e.data.toList s.data.toList = true) := hid (allOk_of (fun i hi => HK.out i (by rw [size_list] at hi; omega)))
      rw [HF.out] at HU
      go_wp2_with (go_at_call 23; refine HU.out.mono ?_; rintro e w' ⟨rfl, rfl⟩)
      go_ret
      exact ⟨rfl, rfl⟩


set_option maxHeartbeats 1000000 in
theorem exact_small (s e : ByteArray) (w : World) (h0 : s.size ≤ maxLen) (h1 : e.size ≤ maxLen) (hn : ¬ (s.size ≤ 65536 ∧ e.size ≤ 4096 ∧ has s.data.toList 37 = false)) :
    Calls Try.prog 9 #[.string s, .string e] w fun r w' => r = .returned (.bool true) ∧ w' = w := by
  have HB := hid (bytes22 s e w h0 h1)
  unfold maxLen at h0 h1
  by_cases g : s.size + e.size ≤ 1048576
  · rw [decide_eq_true g] at HB
    by_cases g1 : s.size ≤ 65536
    · by_cases g2 : e.size ≤ 4096
      · have hp : has s.data.toList 37 = true := by
          cases hp : has s.data.toList 37 with
          | true => rfl
          | false => exact absurd ⟨g1, g2, hp⟩ hn
        have H37 : Hid (Calls Try.prog 16 #[.string s, .int .u8 37] w fun r w' => r = .returned (.bool true) ∧ w' = w) := hid (by
          have h := hasByte s 37 w (by omega)
          rw [hp] at h
          exact h)
        clear hn hp
        go_enter Try.func9, Try.ntmps9
        go_wp2_with (first | (go_at_call 22; refine HB.out.mono ?_; rintro e w' ⟨rfl, rfl⟩) | (go_at_call 16; refine H37.out.mono ?_; rintro e w' ⟨rfl, rfl⟩))
        go_ret
        exact ⟨rfl, rfl⟩
      · clear hn
        go_enter Try.func9, Try.ntmps9
        go_wp2_with (go_at_call 22; refine HB.out.mono ?_; rintro e w' ⟨rfl, rfl⟩)
        go_ret
        exact ⟨rfl, rfl⟩
    · clear hn
      go_enter Try.func9, Try.ntmps9
      go_wp2_with (go_at_call 22; refine HB.out.mono ?_; rintro e w' ⟨rfl, rfl⟩)
      go_ret
      exact ⟨rfl, rfl⟩
  · rw [decide_eq_false g] at HB
    clear hn
    go_enter Try.func9, Try.ntmps9
    go_wp2_with (go_at_call 22; refine HB.out.mono ?_; rintro e w' ⟨rfl, rfl⟩)
    go_ret
    exact ⟨rfl, rfl⟩

theorem exact_any (s e : ByteArray) (w : World) (h0 : s.size ≤ maxLen) (h1 : e.size ≤ maxLen) :
    Calls Try.prog 9 #[.string s, .string e] w fun r w' => r = .returned (.bool true) ∧ Below w.heap.size w w' := by
  have h : Calls Try.prog 9 #[.string s, .string e] w fun r w' => r = .returned (.bool true) ∧ w' = w := by
    by_cases hn : s.size ≤ 65536 ∧ e.size ≤ 4096 ∧ has s.data.toList 37 = false
    · exact exact_main s e w hn.1 hn.2.1 hn.2.2
    · exact exact_small s e w h0 h1 hn
  exact h.mono fun r w' ⟨hr, hw⟩ => ⟨hr, by rw [hw]; exact Below.refl _ _⟩

end Go.Proofs.Qxb6001148a
