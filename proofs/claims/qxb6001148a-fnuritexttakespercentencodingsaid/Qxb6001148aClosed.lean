/-
  The row's closed facts, by a light road. Three of them read the words of the translation's head out of a string of some hundred signs; reckoned straight the kernel wants some 8 GB for that string alone. Here the string's signs are laid out as a list once, and the three facts are reckoned over the list; the laws that lead there are stated over any program, so that nothing is reckoned on the way.
-/
import Derived.Test.Qxb6001148aRows
import Derived.JoinedOf
import Derived.KernelRfl
namespace Go.Proofs.Qxb6001148a
open Go

/-- Where the head's first word behind the main's own is the cut's. -/
theorem make_of (P : Program) (r : List (List Char)) (hw : behindMainWord (wordsSigns P.initOrder.toList) = "cut".toList :: r) : P.make = some .cut := by
  unfold Program.make
  rw [hw]
  rfl

theorem strip_cut (r : List (List Char)) : stripLifts liftWords ("cut".toList :: r) = ([], "cut".toList :: r) := rfl

theorem lifts_of (P : Program) (r : List (List Char)) (hw : behindMainWord (wordsSigns P.initOrder.toList) = "cut".toList :: r) : P.headLifts = [] := by
  unfold Program.headLifts
  rw [hw, strip_cut]
  rfl

theorem final_of (P : Program) (r : List (List Char)) (hw : behindMainWord (wordsSigns P.initOrder.toList) = "cut".toList :: r) : P.liftsFinal = false := by
  have hl := lifts_of P r hw
  unfold Program.liftsFinal
  rw [hw, hl]
  rfl

theorem enter_of (P : Program) (r : List (List Char)) (hw : behindMainWord (wordsSigns P.initOrder.toList) = "cut".toList :: r) (h1 : P.laysLater = false) (h2 : P.bearsReflect = false) (h3 : P.doorFits [] = true) : P.mayEnter = true := by
  unfold Program.mayEnter
  rw [hw]
  simp only [strip_cut, h1, h2, h3]
  rfl

set_option maxRecDepth 100000 in
/-- The head's signs as a list: the list is found by unification; the first word of it behind the main's own. -/
theorem head_signs : ∃ l, Try.prog.initOrder = String.ofList l ∧ (behindMainWord (wordsSigns l)).head? = some "cut".toList := ⟨_, rfl, by kernel_rfl⟩

theorem head_words : ∃ r, behindMainWord (wordsSigns Try.prog.initOrder.toList) = "cut".toList :: r := by
  obtain ⟨l, e, h⟩ := head_signs
  rw [e, String.toList_ofList]
  cases hl : behindMainWord (wordsSigns l) with
  | nil => rw [hl] at h; cases h
  | cons a r => rw [hl] at h; exact ⟨r, by rw [Option.some.inj h]⟩

theorem head_enter : Try.prog.mayEnter = true := by
  obtain ⟨r, hw⟩ := head_words
  exact enter_of Try.prog r hw (by kernel_rfl) (by kernel_rfl) (by kernel_rfl)
theorem head_final : Try.prog.liftsFinal = false := by
  obtain ⟨r, hw⟩ := head_words
  exact final_of Try.prog r hw
theorem head_make : Try.prog.make = some .cut := by
  obtain ⟨r, hw⟩ := head_words
  exact make_of Try.prog r hw

theorem fnURITextExactWithoutPercent_closed : joinedFacts Try.prog 9 Try.f9 Rows.fnURITextExactWithoutPercentSpec Rows.fnURITextExactWithoutPercentRow = true := by
  unfold joinedFacts
  rw [head_enter, head_final, head_make]
  kernel_rfl

theorem fnURITextTakesPercentEncoding_closed : joinedFacts Try.prog 10 Try.f10 Rows.fnURITextTakesPercentEncodingSpec Rows.fnURITextTakesPercentEncodingRow = true := by
  unfold joinedFacts
  rw [head_enter, head_final, head_make]
  kernel_rfl

end Go.Proofs.Qxb6001148a
