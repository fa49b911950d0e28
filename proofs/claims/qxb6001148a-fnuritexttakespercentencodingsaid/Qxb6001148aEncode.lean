/-
  The walk of hexDigitB1 and of FnURITextTakesPercentEncoding.
-/
import Derived.Test.Qxb6001148aUri
import Derived.Laws.IdiomStrings
namespace Go.Proofs.Qxb6001148a
open Go.RowKit Plain
set_option linter.unusedVariables false

theorem Try.info5 : (Try.prog.info? 5).map (fun i => (i.zero, i.size, i.bytes)) = some (some (.int .u8 0), 1, 1) := by kernel_rfl

def byteV (x : UInt8) : Value := .int .u8 (x.toNat : Int)

theorem byteV_one (l : List UInt8) : ∀ u ∈ l.map byteV, u.oneCell' = true := by
  intro u hu
  obtain ⟨x, _, rfl⟩ := List.mem_map.1 hu
  rfl

/-- hexDigitB1's byte. -/
def hd (n : Nat) (up : Bool) : UInt8 := UInt8.ofNat (if n < 10 then 48 + n else if up then 55 + n else 87 + n)

theorem hd_hex : ∀ (n : Fin 16) (up : Bool), hex (hd n.val up) = true := by decide
theorem hd_nat : ∀ (n : Fin 16) (up : Bool), (hd n.val up).toNat = (if n.val < 10 then 48 + n.val else if up then 55 + n.val else 87 + n.val) := by decide

theorem ret_int {k : IntKind} {a b : Int} (h : a = b) : Ending.returned (.int k a) = .returned (.int k b) := by rw [h]

set_option maxHeartbeats 400000 in
theorem hexDigit (n : Nat) (up : Bool) (w : World) (hn : n < 16) :
    Calls Try.prog 25 #[.int .u8 (n : Int), .bool up] w fun r w' => r = .returned (.int .u8 ((hd n up).toNat : Int)) ∧ w' = w := by
  have h := hd_nat ⟨n, hn⟩ up
  have H := hid h
  clear h
  by_cases g : n < 10
  · go_enter Try.func25, Try.ntmps25
    go_wp2
    go_ret
    exact ⟨ret_int (by rw [H.out]; simp [g]), rfl⟩
  · cases up with
    | true =>
      go_enter Try.func25, Try.ntmps25
      go_wp2
      go_ret
      exact ⟨ret_int (by rw [H.out]; simp [g]; omega), rfl⟩
    | false =>
      go_enter Try.func25, Try.ntmps25
      go_wp2
      go_ret
      exact ⟨ret_int (by rw [H.out]; simp [g]; omega), rfl⟩

theorem shr4 (x : UInt8) : x.toNat / 16 < 16 := by have := x.toNat_lt; omega


theorem digit_high (x : UInt8) (up : Bool) : ∃ A : UInt8, hex A = true ∧ ∀ w, Calls Try.prog 25 #[.int .u8 ((x.toNat : Int) / 16), .bool up] w fun r w' => r = .returned (.int .u8 (A.toNat : Int)) ∧ w' = w := by
  refine ⟨hd (x.toNat / 16) up, hd_hex ⟨x.toNat / 16, shr4 x⟩ up, fun w => ?_⟩
  have h := hexDigit (x.toNat / 16) up w (shr4 x)
  rw [show ((x.toNat / 16 : Nat) : Int) = (x.toNat : Int) / 16 from by omega] at h
  exact h

theorem digit_low (x : UInt8) (up : Bool) : ∃ A : UInt8, hex A = true ∧ ∀ w, Calls Try.prog 25 #[.int .u8 ((x.toNat : Int) % 16), .bool up] w fun r w' => r = .returned (.int .u8 (A.toNat : Int)) ∧ w' = w := by
  have h15 : x.toNat % 16 < 16 := Nat.mod_lt _ (by decide)
  refine ⟨hd (x.toNat % 16) up, hd_hex ⟨x.toNat % 16, h15⟩ up, fun w => ?_⟩
  have h := hexDigit (x.toNat % 16) up w h15
  rw [show ((x.toNat % 16 : Nat) : Int) = (x.toNat : Int) % 16 from by omega] at h
  exact h

theorem three_new (w : World) (a b c : Value) : ∀ (j : Nat) (u : Value), [a, b, c][j]? = some u → (w.alloc (.cells #[a, b, c] 5)).cell? ((⟨w.heap.size, 0, none⟩ : Addr).add j) = some u := by
  intro j u hj
  have he : (⟨w.heap.size, 0, none⟩ : Addr).add j = ⟨w.heap.size, j, none⟩ := by unfold Addr.add; split <;> simp_all
  rw [he, World.cell?_alloc_at _ _ _ _ rfl]
  simpa using hj

theorem three_one (a b c : UInt8) : ∀ u ∈ [Value.int .u8 (a.toNat : Int), .int .u8 (b.toNat : Int), .int .u8 (c.toNat : Int)], u.oneCell' = true := byteV_one [a, b, c]

set_option maxHeartbeats 1000000 in
theorem enc_main (raw e : ByteArray) (w : World) (h0 : raw.size ≤ 65536) (h1 : e.size ≤ 4096) :
    Calls Try.prog 10 #[.string raw, .string e] w fun r w' => r = .returned (.bool true) ∧ Below w.heap.size w w' := by
  obtain ⟨i0, hi, hz0, hz1, hz2⟩ := info_parts Try.info5
  have HB := hid (bytes24 raw e w (by unfold maxLen; omega) (by unfold maxLen; omega))
  rw [decide_eq_true (by omega)] at HB
  obtain ⟨cap, hcap⟩ : ∃ cap, cap = 3 * raw.size := ⟨_, rfl⟩
  have hmul : (3 : Int) * (raw.size : Int) = (cap : Int) := by omega
  have HCap := hid hcap
  have hcb : cap ≤ 196608 := by omega
  clear hcap
  go_enter Try.func10, Try.ntmps10
  go_wp2_with (first | (go_at_call 24; refine HB.out.mono ?_; rintro e w' ⟨rfl, hw'⟩; have hw2 := hw'.symm; subst hw2) | (at_make; refine wpList_make_own _ rfl _ _ 28 rfl w.heap.size 5 i0 (.int .u8 0) 1 Try.underlying28 hi hz0 hz1 _ _ _ cap rfl rfl (by omega) (by rw [hz2]; omega) (by unfold maxLen; omega) (Nat.le_refl _) ?_))
  intro w1 hown hgrow
  have HB1 : Hid (Below w.heap.size w w1) := hid ((Below.refl _ w).grown hgrow (Nat.le_refl _) (fun k h => by cases h))
  have HO1 := hid hown
  clear hown hgrow HB
  go_wp2
  go_loopw [5, 6] (fun d i wr => ∃ (k : Nat) (acc : List UInt8), k ≤ raw.size ∧ i = .int .i64 k ∧ d = .slice (some ⟨w.heap.size, 0, none⟩) acc.length cap ∧ acc.length = 3 * k ∧ Hid (Idle e.data.toList acc) ∧ Hid (wr.ownsRow w.heap.size 5 1 (.slice (some ⟨w.heap.size, 0, none⟩) acc.length cap) acc.length (acc.map byteV)) ∧ Hid (Below w.heap.size w wr)) (fun _ i _ => raw.size - (intOf i).toNat)
  case atStart => exact ⟨0, [], Nat.zero_le _, rfl, rfl, rfl, hid (Idle.nil _), HO1, HB1⟩
  case round =>
    obtain ⟨k, acc, hk, rfl, rfl, hal, HI, HO, HB⟩ := hrel
    clear HO1 HB1
    have HL := hid hal
    clear hal
    by_cases hlt : k < raw.size
    · obtain ⟨x, hx⟩ : ∃ x, raw[k] = x := ⟨_, rfl⟩
      have hx8 : x.toNat < 256 := x.toNat_lt
      obtain ⟨A, hA, H1⟩ := digit_high x ((k : Int) % 2 == 0)
      obtain ⟨B, hB, H2⟩ := digit_low x ((k : Int) % 2 == 0)
      have HA := hid hA
      have HBx := hid hB
      clear hA hB
      go_wp2_with fail
      refine (H1 _).mono ?_
      rintro e' w2 ⟨rfl, hw2⟩
      have hw3 := hw2.symm
      subst hw3
      clear hw2
      go_wp2_with fail
      refine (H2 _).mono ?_
      rintro e' w2 ⟨rfl, hw2⟩
      have hw3 := hw2.symm
      subst hw3
      clear hw2 H1 H2
      go_wp2_with (at_builtin; refine wpList_append_fits _ rfl (.tmp 37) (.tmp 46) 28 rfl w.heap.size 5 i0 1 Try.underlying28 hi hz1 w.heap.size acc.length cap (acc.map byteV) rfl (HO.out.alloc _) ⟨wr.heap.size, 0, none⟩ 3 3 [.int .u8 37, .int .u8 (A.toNat : Int), .int .u8 (B.toNat : Int)] rfl rfl (three_new _ _ _ _) (three_one 37 A B) (by have := HL.out; have := HCap.out; omega) ?_)
      intro w2 hown hgrow
      have HO2 := hid hown
      have HB2 : Hid (Below w.heap.size w w2) := hid ((HB.out.alloc (HB.out.size) _).grown hgrow (by have := HB.out.size; simp; omega) (fun k h => by cases h; exact Nat.le_refl _))
      have HI2 := hid (HI.out.octet HA.out HBx.out)
      have HO3 : Hid (w2.ownsRow w.heap.size 5 1 (.slice (some ⟨w.heap.size, 0, none⟩) (acc ++ [37, A, B]).length cap) (acc ++ [37, A, B]).length ((acc ++ [37, A, B]).map byteV)) := hid (by
        rw [List.map_append, List.length_append]
        exact HO2.out)
      clear hown hgrow HO HB HO2
      go_wp2
      go_roundw
      case rel => exact ⟨k + 1, acc ++ [37, A, B], by omega, by go_num, by simp, by have := HL.out; simp; omega, HI2, HO3, HB2⟩
      case measure => simp [intOf]; omega
    · have hconv : (convert 28 9 (.slice (some ⟨w.heap.size, 0, none⟩) acc.length cap)).run Try.prog wr = .ok (.string ⟨acc.toArray⟩) wr :=
        run_convert_bytes_back wr 28 9 5 ⟨w.heap.size, 0, none⟩ cap acc Try.underlying28 Try.underlying5 Try.underlying9 (fun j hj => by
          have := HO.out.cells (g := w.heap.size) rfl j (byteV acc[j]) (by simp [hj])
          exact this)
      have HU : Hid (Calls Try.prog 23 #[.string ⟨acc.toArray⟩, .string e] wr fun r w' => r = .returned (.bool true) ∧ w' = wr) := hid (by
        have h := shim ⟨acc.toArray⟩ e wr (by
          have h1 := size_list (⟨acc.toArray⟩ : ByteArray)
          have h2 := HL.out
          rw [← h1]
          show acc.length ≤ _
          omega)
        rw [show (⟨acc.toArray⟩ : ByteArray).data.toList = acc from rfl, HI.out.uri] at h
        exact h)
      go_wp2_with (go_at_call 23; refine HU.out.mono ?_; rintro e' w2 ⟨rfl, hw2⟩; have hw3 := hw2.symm; subst hw3)
      go_ret
      exact ⟨rfl, HB.out⟩

set_option maxHeartbeats 1000000 in
theorem enc_small (raw e : ByteArray) (w : World) (h0 : raw.size ≤ maxLen) (h1 : e.size ≤ maxLen) (hn : ¬ (raw.size ≤ 65536 ∧ e.size ≤ 4096)) :
    Calls Try.prog 10 #[.string raw, .string e] w fun r w' => r = .returned (.bool true) ∧ Below w.heap.size w w' := by
  have HB := hid (bytes24 raw e w h0 h1)
  unfold maxLen at h0 h1
  by_cases g : raw.size + e.size ≤ 1048576
  · rw [decide_eq_true g] at HB
    by_cases g1 : raw.size ≤ 65536
    · have g2 : ¬ e.size ≤ 4096 := fun q => hn ⟨g1, q⟩
      clear hn
      go_enter Try.func10, Try.ntmps10
      go_wp2_with (go_at_call 24; refine HB.out.mono ?_; rintro e w' ⟨rfl, rfl⟩)
      go_ret
      exact ⟨rfl, Below.refl _ _⟩
    · clear hn
      go_enter Try.func10, Try.ntmps10
      go_wp2_with (go_at_call 24; refine HB.out.mono ?_; rintro e w' ⟨rfl, rfl⟩)
      go_ret
      exact ⟨rfl, Below.refl _ _⟩
  · rw [decide_eq_false g] at HB
    clear hn
    go_enter Try.func10, Try.ntmps10
    go_wp2_with (go_at_call 24; refine HB.out.mono ?_; rintro e w' ⟨rfl, rfl⟩)
    go_ret
    exact ⟨rfl, Below.refl _ _⟩

theorem enc_any (raw e : ByteArray) (w : World) (h0 : raw.size ≤ maxLen) (h1 : e.size ≤ maxLen) :
    Calls Try.prog 10 #[.string raw, .string e] w fun r w' => r = .returned (.bool true) ∧ Below w.heap.size w w' := by
  by_cases hn : raw.size ≤ 65536 ∧ e.size ≤ 4096
  · exact enc_main raw e w hn.1 hn.2
  · exact enc_small raw e w h0 h1 hn

end Go.Proofs.Qxb6001148a
