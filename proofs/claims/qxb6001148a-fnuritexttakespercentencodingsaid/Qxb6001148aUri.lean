/-
  The walk of isURIText and of its shim.
-/
import Derived.Test.Qxb6001148aWalks
import Derived.Deep.RegionWith
namespace Go.Proofs.Qxb6001148a
open Go.RowKit Plain
set_option linter.unusedVariables false

theorem drop_get (s : ByteArray) (k : Nat) (h : k < s.size) : s.data.toList.drop k = s[k] :: s.data.toList.drop (k + 1) := by
  rw [List.drop_eq_getElem_cons (by simpa using h)]; rfl

theorem digit_of {x : UInt8} : digit x = true ↔ 48 ≤ x.toNat ∧ x.toNat ≤ 57 := by unfold digit; simp

theorem ok_false {e : List UInt8} {x : UInt8} (h1 : alpha x = false) (h2 : digit x = false) (h3 : has punct x = false) (h4 : has e x = false) : ok e x = false := by
  unfold ok; rw [h1, h2, h3, h4]; rfl

set_option maxHeartbeats 4000000 in
theorem isURIText (s e : ByteArray) (w : World) (hs : s.size ≤ 1048576) :
    Calls Try.prog 29 #[.string s, .string e] w fun r w' => r = .returned (.bool (uri e.data.toList s.data.toList)) ∧ w' = w := by
  have HE : Hid (∀ (c : UInt8) (w : World), Calls Try.prog 32 #[.string e, .int .u8 (c.toNat : Int)] w fun r w' => r = .returned (.int .i64 (Lib.indexByte e.data.toList c)) ∧ w' = w) := hid (fun c w => by
    have h := Any.strings_IndexByte Try.lays137 e (c.toNat : Int) w
    rw [Lib.byte_back] at h
    exact h)
  have HP : Hid (∀ (c : UInt8) (w : World), Calls Try.prog 32 #[.string ⟨#[45, 46, 95, 126, 33, 36, 38, 39, 40, 41, 42, 43, 44, 59, 61]⟩, .int .u8 (c.toNat : Int)] w fun r w' => r = .returned (.int .i64 (Lib.indexByte punct c)) ∧ w' = w) := hid (fun c w => by
    have h := Any.strings_IndexByte Try.lays137 ⟨#[45, 46, 95, 126, 33, 36, 38, 39, 40, 41, 42, 43, 44, 59, 61]⟩ (c.toNat : Int) w
    rw [Lib.byte_back] at h
    exact h)
  go_enter Try.func29, Try.ntmps29
  go_wp2
  go_loop [5] (fun i => ∃ k : Nat, k ≤ s.size ∧ i = .int .i64 k ∧ Hid (uri e.data.toList s.data.toList = uri e.data.toList (s.data.toList.drop k))) (fun i => s.size - (intOf i).toNat)
  case atStart => exact ⟨0, Nat.zero_le _, rfl, hid rfl⟩
  case round =>
    obtain ⟨k, hk, rfl, HK⟩ := hrel
    by_cases hlt : k < s.size
    · have HG := hid (drop_get s k hlt)
      obtain ⟨x, hx⟩ : ∃ x, s[k] = x := ⟨_, rfl⟩
      rw [hx] at HG
      have hx8 : x.toNat < 256 := x.toNat_lt
      have HA := hid (isAlpha x w)
      have HOk : Hid (ok e.data.toList x = true → uri e.data.toList s.data.toList = uri e.data.toList (s.data.toList.drop (k + 1))) := hid (fun g => by rw [HK.out, HG.out, uri_ok _ g])
      cases ha : alpha x with
      | true =>
        rw [ha] at HA
        have HR := hid (HOk.out (by unfold ok; rw [ha]; rfl))
        clear ha
        go_wp2_with (go_at_call 31; refine HA.out.mono ?_; rintro e w' ⟨rfl, rfl⟩)
        go_round
        case rel => exact ⟨k + 1, by omega, by go_num, HR⟩
        case measure => simp [intOf]; omega
      | false =>
        rw [ha] at HA
        have HAF := hid ha
        clear ha
        by_cases hd : 48 ≤ x.toNat ∧ x.toNat ≤ 57
        · have HR := hid (HOk.out (by unfold ok; rw [digit_of.2 hd]; simp))
          obtain ⟨g1, g2⟩ := hd
          have d1 : decide ((x.toNat : Int) ≤ 57) = true := decide_eq_true (by omega)
          go_wp2_with (go_at_call 31; refine HA.out.mono ?_; rintro e w' ⟨rfl, rfl⟩)
          go_round
          case rel => exact ⟨k + 1, by omega, by go_num, HR⟩
          case measure => simp [intOf]; omega
        · have HD : Hid (digit x = false) := hid (Bool.eq_false_iff.2 (fun q => hd (digit_of.1 q)))
          have hd' : x.toNat < 48 ∨ 58 ≤ x.toNat := by omega
          clear hd
          have P1 := hid (HP.out x w)
          have E1 := hid (HE.out x w)
          cases hp : has punct x with
          | true =>
            have hn := index_nonneg hp
            have HR := hid (HOk.out (by unfold ok; rw [hp]; simp))
            generalize Lib.indexByte punct x = r at P1 hn
            clear hp
            rcases hd' with hd' | hd'
            all_goals
              first | (have d1 : decide ((x.toNat : Int) ≤ 57) = true := decide_eq_true (by omega)) | (have d1 : decide ((x.toNat : Int) ≤ 57) = false := decide_eq_false (by omega))
              go_wp2_with (first | (go_at_call 31; refine HA.out.mono ?_; rintro e w' ⟨rfl, rfl⟩) | (go_at_call 32; refine P1.out.mono ?_; rintro e w' ⟨rfl, rfl⟩))
              go_round
              case rel => exact ⟨k + 1, by omega, by go_num, HR⟩
              case measure => simp [intOf]; omega
          | false =>
            have hn := index_neg hp
            have HPF := hid hp
            generalize Lib.indexByte punct x = r at P1 hn
            clear hp
            cases he : has e.data.toList x with
            | true =>
              have hn' := index_nonneg he
              have HR := hid (HOk.out (by unfold ok; rw [he]; simp))
              generalize Lib.indexByte e.data.toList x = r' at E1 hn'
              clear he
              rcases hd' with hd' | hd'
              all_goals
                first | (have d1 : decide ((x.toNat : Int) ≤ 57) = true := decide_eq_true (by omega)) | (have d1 : decide ((x.toNat : Int) ≤ 57) = false := decide_eq_false (by omega))
                go_wp2_with (first | (go_at_call 31; refine HA.out.mono ?_; rintro e w' ⟨rfl, rfl⟩) | (go_at_call_of 32 (Value.string e); refine E1.out.mono ?_; rintro e w' ⟨rfl, rfl⟩) | (go_at_call 32; refine P1.out.mono ?_; rintro e w' ⟨rfl, rfl⟩))
                go_round
                case rel => exact ⟨k + 1, by omega, by go_num, HR⟩
                case measure => simp [intOf]; omega
            | false =>
              have hn' := index_neg he
              have HNo := hid (ok_false HAF.out HD.out HPF.out he)
              generalize Lib.indexByte e.data.toList x = r' at E1 hn'
              clear he HOk
              by_cases h37 : x = 37
              · subst h37
                by_cases h2 : k + 2 < s.size
                · have HG1 := hid (drop_get s (k + 1) (by omega))
                  have HG2 := hid (drop_get s (k + 2) (by omega))
                  obtain ⟨y, hy⟩ : ∃ y, s[k + 1] = y := ⟨_, rfl⟩
                  obtain ⟨z, hz⟩ : ∃ z, s[k + 2] = z := ⟨_, rfl⟩
                  rw [hy] at HG1
                  rw [hz] at HG2
                  have HY := hid (isHex y w)
                  have HZ := hid (isHex z w)
                  have h2i : (k : Int) + 2 < (s.size : Int) := by omega
                  cases hyx : hex y with
                  | true =>
                    rw [hyx] at HY
                    cases hzx : hex z with
                    | true =>
                      rw [hzx] at HZ
                      have HR : Hid (uri e.data.toList s.data.toList = uri e.data.toList (s.data.toList.drop (k + 3))) := hid (by rw [HK.out, HG.out, HG1.out, HG2.out, uri_pct _ HNo.out rfl hyx hzx])
                      clear hyx hzx
                      go_wp2_with (first | (go_at_call 31; refine HA.out.mono ?_; rintro e w' ⟨rfl, rfl⟩) | (go_at_call_of 32 (Value.string e); refine E1.out.mono ?_; rintro e w' ⟨rfl, rfl⟩) | (go_at_call 32; refine P1.out.mono ?_; rintro e w' ⟨rfl, rfl⟩) | (go_at_call_of 33 (y); refine HY.out.mono ?_; rintro e w' ⟨rfl, rfl⟩) | (go_at_call_of 33 (z); refine HZ.out.mono ?_; rintro e w' ⟨rfl, rfl⟩))
                      go_round
                      case rel => exact ⟨k + 3, by omega, by go_num, HR⟩
                      case measure => simp [intOf]; omega
                    | false =>
                      rw [hzx] at HZ
                      have HR : Hid (uri e.data.toList s.data.toList = false) := hid (by
                        rw [HK.out, HG.out]
                        refine uri_bad _ HNo.out (fun q => ?_)
                        obtain ⟨_, a, b, t, q1, q2, q3⟩ := q
                        rw [HG1.out, HG2.out] at q1
                        simp only [List.cons.injEq] at q1
                        rw [← q1.2.1, hzx] at q3
                        cases q3)
                      clear hyx hzx
                      go_wp2_with (first | (go_at_call 31; refine HA.out.mono ?_; rintro e w' ⟨rfl, rfl⟩) | (go_at_call_of 32 (Value.string e); refine E1.out.mono ?_; rintro e w' ⟨rfl, rfl⟩) | (go_at_call 32; refine P1.out.mono ?_; rintro e w' ⟨rfl, rfl⟩) | (go_at_call_of 33 (y); refine HY.out.mono ?_; rintro e w' ⟨rfl, rfl⟩) | (go_at_call_of 33 (z); refine HZ.out.mono ?_; rintro e w' ⟨rfl, rfl⟩))
                      go_ret
                      exact ⟨ret_bool HR.out.symm, rfl⟩
                  | false =>
                    rw [hyx] at HY
                    have HR : Hid (uri e.data.toList s.data.toList = false) := hid (by
                      rw [HK.out, HG.out]
                      refine uri_bad _ HNo.out (fun q => ?_)
                      obtain ⟨_, a, b, t, q1, q2, q3⟩ := q
                      rw [HG1.out, HG2.out] at q1
                      simp only [List.cons.injEq] at q1
                      rw [← q1.1, hyx] at q2
                      cases q2)
                    clear hyx
                    go_wp2_with (first | (go_at_call 31; refine HA.out.mono ?_; rintro e w' ⟨rfl, rfl⟩) | (go_at_call_of 32 (Value.string e); refine E1.out.mono ?_; rintro e w' ⟨rfl, rfl⟩) | (go_at_call 32; refine P1.out.mono ?_; rintro e w' ⟨rfl, rfl⟩) | (go_at_call_of 33 (y); refine HY.out.mono ?_; rintro e w' ⟨rfl, rfl⟩))
                    go_ret
                    exact ⟨ret_bool HR.out.symm, rfl⟩
                · have HR : Hid (uri e.data.toList s.data.toList = false) := hid (by
                    rw [HK.out, HG.out]
                    refine uri_bad _ HNo.out (fun q => ?_)
                    obtain ⟨_, a, b, t, q1, _⟩ := q
                    have := congrArg List.length q1
                    rw [List.length_drop, size_list] at this
                    simp at this
                    omega)
                  go_wp2_with (first | (go_at_call 31; refine HA.out.mono ?_; rintro e w' ⟨rfl, rfl⟩) | (go_at_call_of 32 (Value.string e); refine E1.out.mono ?_; rintro e w' ⟨rfl, rfl⟩) | (go_at_call 32; refine P1.out.mono ?_; rintro e w' ⟨rfl, rfl⟩))
                  go_ret
                  exact ⟨ret_bool HR.out.symm, rfl⟩
              · have HR : Hid (uri e.data.toList s.data.toList = false) := hid (by
                  rw [HK.out, HG.out]
                  exact uri_bad _ HNo.out (fun q => h37 q.1))
                have hxb : ((x.toNat : Int) == 37) = false := by
                  rw [beq_eq_false_iff_ne]
                  intro q
                  exact h37 (UInt8.toNat_inj.1 (show x.toNat = 37 by omega))
                clear h37
                rcases hd' with hd' | hd'
                all_goals
                  first | (have d1 : decide ((x.toNat : Int) ≤ 57) = true := decide_eq_true (by omega)) | (have d1 : decide ((x.toNat : Int) ≤ 57) = false := decide_eq_false (by omega))
                  go_wp2_with (first | (go_at_call 31; refine HA.out.mono ?_; rintro e w' ⟨rfl, rfl⟩) | (go_at_call_of 32 (Value.string e); refine E1.out.mono ?_; rintro e w' ⟨rfl, rfl⟩) | (go_at_call 32; refine P1.out.mono ?_; rintro e w' ⟨rfl, rfl⟩))
                  go_ret
                  exact ⟨ret_bool HR.out.symm, rfl⟩
    · go_wp2
      go_ret
      exact ⟨ret_bool (by rw [HK.out, List.drop_eq_nil_of_le (by rw [size_list]; omega)]; rfl), rfl⟩


set_option maxHeartbeats 400000 in
theorem shim (s e : ByteArray) (w : World) (hs : s.size ≤ 1048576) :
    Calls Try.prog 23 #[.string s, .string e] w fun r w' => r = .returned (.bool (uri e.data.toList s.data.toList)) ∧ w' = w := by
  have H := hid (isURIText s e w hs)
  generalize uri e.data.toList s.data.toList = b at H ⊢
  go_enter Try.func23, Try.ntmps23
  go_wp2_with (go_at_call 29; refine H.out.mono ?_; rintro e w' ⟨rfl, rfl⟩)
  go_ret
  exact ⟨rfl, rfl⟩

end Go.Proofs.Qxb6001148a
