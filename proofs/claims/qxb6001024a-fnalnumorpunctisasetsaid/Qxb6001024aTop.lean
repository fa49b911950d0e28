/-
  The walk of FnAlnumOrPunctIsASet.
-/
import Derived.Test.Qxb6001024aPart
namespace Go.Proofs.Qxb6001024a
open Go.RowKit Plain
set_option linter.unusedVariables false

theorem cat_list (p q : ByteArray) : (p ++ q).data.toList = p.data.toList ++ q.data.toList := by simp

theorem call_eq {s p : ByteArray} {b : Bool} (hs : s.size ≤ 1048576) (h : alnumOr s.data.toList p.data.toList = b) (w : World) : Calls Try.prog 6 #[.string s, .string p] w fun e w' => e = .returned (.bool b) ∧ w' = w := by
  rw [← h]; exact alnumOr_any s p w hs

def tableB : ByteArray := ⟨table.toArray⟩

set_option maxHeartbeats 1000000 in
theorem set_main (s p q : ByteArray) (w : World) (h0 : s.size ≤ 65536) (h1 : p.size ≤ 65536) (h2 : q.size ≤ 65536) (hs : s.size + p.size + q.size ≤ 1048576) :
    Calls Try.prog 4 #[.string s, .string p, .string q] w fun e w' => e = .returned (.bool true) ∧ Below w.heap.size w w' := by
  have HB := hid (bytes7 s p q w (by unfold maxLen; omega) (by unfold maxLen; omega) (by unfold maxLen; omega))
  rw [decide_eq_true hs] at HB
  obtain ⟨d, hd⟩ : ∃ d : ByteArray, d = ⟨(Plain.part q.data.toList).toArray⟩ := ⟨_, rfl⟩
  have HD := hid (part_any q w (by omega))
  rw [← hd] at HD
  have hdl : d.data.toList = Plain.part q.data.toList := by rw [hd]
  have hds : d.size ≤ 65536 := by
    have := part_le q.data.toList
    rw [← hdl, size_list, size_list] at this
    omega
  have hda : ∀ c ∈ d.data.toList, alnum c = true := by rw [hdl]; exact part_alnum _
  clear hd hdl
  have hs' : s.size ≤ 1048576 := by omega
  have f1 : alnumOr s.data.toList (q ++ p).data.toList = alnumOr s.data.toList (p ++ q).data.toList := by rw [cat_list, cat_list]; exact swap _ _ _
  have f2 : alnumOr s.data.toList p.data.toList = true → alnumOr s.data.toList (p ++ q).data.toList = true := fun h => by rw [cat_list]; exact more _ _ _ h
  have f3 : alnumOr s.data.toList (p ++ p).data.toList = alnumOr s.data.toList p.data.toList := by rw [cat_list]; exact twice _ _
  have f4 : alnumOr s.data.toList (p ++ tableB).data.toList = alnumOr s.data.toList p.data.toList := by rw [cat_list]; exact idle _ _ _ table_alnum
  have f5 : alnumOr s.data.toList (p ++ d).data.toList = alnumOr s.data.toList p.data.toList := by rw [cat_list]; exact idle _ _ _ hda
  have f6 : alnumOr s.data.toList (d ++ p).data.toList = alnumOr s.data.toList p.data.toList := by rw [cat_list]; exact idle' _ _ _ hda
  have f7 : alnumOr s.data.toList s.data.toList = true := self _
  have C1 := hid (call_eq hs' (rfl : alnumOr s.data.toList p.data.toList = _))
  have C2 := hid (call_eq hs' (rfl : alnumOr s.data.toList (p ++ q).data.toList = _))
  have C3 := hid (call_eq hs' f1)
  have C4 := hid (call_eq hs' f3)
  have C5 : Hid (∀ w, Calls Try.prog 6 #[.string s, .string (p ++ ⟨#[65, 66, 67, 68, 69, 70, 71, 72, 73, 74, 75, 76, 77, 78, 79, 80, 81, 82, 83, 84, 85, 86, 87, 88, 89, 90, 97, 98, 99, 100, 101, 102, 103, 104, 105, 106, 107, 108, 109, 110, 111, 112, 113, 114, 115, 116, 117, 118, 119, 120, 121, 122, 48, 49, 50, 51, 52, 53, 54, 55, 56, 57]⟩)] w fun e w' => e = .returned (.bool (alnumOr s.data.toList p.data.toList)) ∧ w' = w) := hid (call_eq hs' f4)
  have C6 := hid (call_eq hs' f5)
  have C7 := hid (call_eq hs' f6)
  have C8 := hid (call_eq hs' f7)
  clear f1 f3 f4 f5 f6 f7 hda
  generalize alnumOr s.data.toList (p ++ q).data.toList = spq at C2 C3 f2
  generalize alnumOr s.data.toList p.data.toList = sp at C1 C4 C5 C6 C7 f2
  go_enter Try.func4, Try.ntmps4
  go_wp2_with (go_at_call 7; refine HB.out.mono ?_; rintro e w' ⟨rfl, rfl⟩)
  refine (C1.out _).mono ?_
  rintro e w1 ⟨rfl, hw1⟩
  subst hw1
  have hb : (sp = true ∧ spq = true) ∨ (sp = false ∧ spq = true) ∨ (sp = false ∧ spq = false) := by
    cases sp <;> cases spq <;> simp_all
  clear f2
  rcases hb with ⟨rfl, rfl⟩ | ⟨rfl, rfl⟩ | ⟨rfl, rfl⟩
  all_goals
    go_wp2_with fail
    refine (C2.out _).mono ?_
    rintro e w2 ⟨rfl, hw2⟩
    subst hw2
    go_wp2_with fail
    refine (C3.out _).mono ?_
    rintro e w3 ⟨rfl, hw3⟩
    subst hw3
    go_wp2_with fail
    refine (C4.out _).mono ?_
    rintro e w4 ⟨rfl, hw4⟩
    subst hw4
    go_wp2_with fail
    refine (C5.out _).mono ?_
    rintro e w5 ⟨rfl, hw5⟩
    subst hw5
    go_wp2_with fail
    refine HD.out.mono ?_
    rintro e w6 ⟨rfl, hb6⟩
    have HB6 := hid hb6
    clear hb6
    go_wp2_with fail
    refine (C6.out _).mono ?_
    rintro e w7 ⟨rfl, hw7⟩
    subst hw7
    go_wp2_with fail
    refine (C7.out _).mono ?_
    rintro e w8 ⟨rfl, hw8⟩
    subst hw8
    go_wp2_with fail
    refine (C8.out _).mono ?_
    rintro e w9 ⟨rfl, hw9⟩
    subst hw9
    go_wp2
    go_ret
    exact ⟨rfl, HB6.out⟩

set_option maxHeartbeats 1000000 in
theorem set_small (s p q : ByteArray) (w : World) (h0 : s.size ≤ maxLen) (h1 : p.size ≤ maxLen) (h2 : q.size ≤ maxLen) (hn : ¬ (s.size ≤ 65536 ∧ p.size ≤ 65536 ∧ q.size ≤ 65536 ∧ s.size + p.size + q.size ≤ 1048576)) :
    Calls Try.prog 4 #[.string s, .string p, .string q] w fun e w' => e = .returned (.bool true) ∧ Below w.heap.size w w' := by
  have HB := hid (bytes7 s p q w h0 h1 h2)
  unfold maxLen at h0 h1 h2
  by_cases g : s.size + p.size + q.size ≤ 1048576
  · rw [decide_eq_true g] at HB
    by_cases g1 : s.size ≤ 65536
    · by_cases g2 : p.size ≤ 65536
      · have g3 : ¬ q.size ≤ 65536 := by omega
        clear hn
        go_enter Try.func4, Try.ntmps4
        go_wp2_with (go_at_call 7; refine HB.out.mono ?_; rintro e w' ⟨rfl, rfl⟩)
        go_ret
        exact ⟨rfl, Below.refl _ _⟩
      · clear hn
        go_enter Try.func4, Try.ntmps4
        go_wp2_with (go_at_call 7; refine HB.out.mono ?_; rintro e w' ⟨rfl, rfl⟩)
        go_ret
        exact ⟨rfl, Below.refl _ _⟩
    · clear hn
      go_enter Try.func4, Try.ntmps4
      go_wp2_with (go_at_call 7; refine HB.out.mono ?_; rintro e w' ⟨rfl, rfl⟩)
      go_ret
      exact ⟨rfl, Below.refl _ _⟩
  · rw [decide_eq_false g] at HB
    clear hn
    go_enter Try.func4, Try.ntmps4
    go_wp2_with (go_at_call 7; refine HB.out.mono ?_; rintro e w' ⟨rfl, rfl⟩)
    go_ret
    exact ⟨rfl, Below.refl _ _⟩

theorem set_any (s p q : ByteArray) (w : World) (h0 : s.size ≤ maxLen) (h1 : p.size ≤ maxLen) (h2 : q.size ≤ maxLen) :
    Calls Try.prog 4 #[.string s, .string p, .string q] w fun e w' => e = .returned (.bool true) ∧ Below w.heap.size w w' := by
  by_cases hn : s.size ≤ 65536 ∧ p.size ≤ 65536 ∧ q.size ≤ 65536 ∧ s.size + p.size + q.size ≤ 1048576
  · exact set_main s p q w hn.1 hn.2.1 hn.2.2.1 hn.2.2.2
  · exact set_small s p q w h0 h1 h2 hn

end Go.Proofs.Qxb6001024a
