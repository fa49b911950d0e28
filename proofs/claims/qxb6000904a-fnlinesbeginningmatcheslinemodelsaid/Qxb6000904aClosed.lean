/-
  The row's closed facts, by a light road. Three of them read the words of the translation's head out of a string of some hundred signs; reckoned straight the kernel wants some 8 GB for that string alone. Here the string's signs are laid out as a list once, and the three facts are reckoned over the list; the laws that lead there are stated over any program, so that nothing is reckoned on the way.
-/
import Derived.Test.Qxb6000904aRows
import Derived.JoinedOf
import Derived.KernelRfl
namespace Go.Proofs.Qxb6000904a
open Go

/-- Does the word open the head, behind the main's own word? -/
theorem make_of (P : Program) (r : List (List Char)) (hw : behindMainWord (wordsSigns P.initOrder.toList) = "cut".toList :: r) : P.make = some .cut := by
  unfold Program.make
  rw [hw]
  rfl

theorem strip_cut (r : List (List Char)) : stripLifts liftWords ("cut".toList :: r) = ([], "cut".toList :: r) := rfl

theorem lifts_of (P : Program) (r : List (List Char)) (hw : behindMainWord (wordsSigns P.initOrder.toList) = "cut".toList :: r) : P.headLifts = [] := by
  unfold Program.headLifts
  rw [hw, strip_cut]
  rfl

theorem final_of (P : Program) (r : List (List Char)) (hw : behindMainWord (wordsSigns P.initOrder.toList) = "cut".toList :: r) : P.liftsFinal = false := by
  have hl := lifts_of P r hw
  unfold Program.liftsFinal
  rw [hw, hl]
  rfl

theorem enter_of (P : Program) (r : List (List Char)) (hw : behindMainWord (wordsSigns P.initOrder.toList) = "cut".toList :: r) (h1 : P.laysLater = false) (h2 : P.bearsReflect = false) (h3 : P.doorFits [] = true) : P.mayEnter = true := by
  unfold Program.mayEnter
  rw [hw]
  simp only [strip_cut, h1, h2, h3]
  rfl

def headSigns : List Char := List.map Char.ofNat [
  104, 97, 114, 110, 101, 115, 115, 32, 51, 100, 48, 100, 100, 53, 56, 54, 49, 52, 98, 100, 48, 54, 52, 57, 50, 57, 50, 100, 54, 56, 100, 99, 50, 57, 55, 49, 56, 48, 49, 49,
  49, 97, 52, 102, 100, 56, 56, 48, 99, 57, 48, 53, 56, 53, 56, 98, 53, 55, 98, 51, 99, 54, 48, 51, 98, 102, 55, 54, 98, 100, 51, 48, 32, 99, 117, 116, 32, 97, 116, 32,
  101, 120, 97, 109, 112, 108, 101, 46, 99, 111, 109, 47, 118, 111, 105, 100, 108, 105, 115, 116, 47, 118, 111, 105, 100, 108, 105, 115, 116, 47, 122, 122, 108, 97, 119, 115, 95, 114, 111, 111,
  116, 95, 98, 49, 46, 70, 110, 82, 101, 97, 100, 69, 108, 101, 109, 101, 110, 116, 82, 111, 117, 110, 100, 84, 114, 105, 112, 32, 101, 120, 97, 109, 112, 108, 101, 46, 99, 111, 109, 47,
  118, 111, 105, 100, 108, 105, 115, 116, 47, 118, 111, 105, 100, 108, 105, 115, 116, 47, 122, 122, 108, 97, 119, 115, 95, 114, 111, 111, 116, 95, 98, 49, 46, 70, 110, 82, 101, 97, 100, 69,
  108, 101, 109, 101, 110, 116, 67, 97, 110, 111, 110, 105, 99, 97, 108, 32, 101, 120, 97, 109, 112, 108, 101, 46, 99, 111, 109, 47, 118, 111, 105, 100, 108, 105, 115, 116, 47, 118, 111, 105,
  100, 108, 105, 115, 116, 47, 122, 122, 108, 97, 119, 115, 95, 114, 111, 111, 116, 95, 98, 49, 46, 70, 110, 82, 101, 97, 100, 69, 108, 101, 109, 101, 110, 116, 80, 114, 101, 102, 105, 120,
  70, 114, 101, 101, 65, 110, 100, 69, 120, 116, 101, 110, 100, 97, 98, 108, 101, 32, 101, 120, 97, 109, 112, 108, 101, 46, 99, 111, 109, 47, 118, 111, 105, 100, 108, 105, 115, 116, 47, 118,
  111, 105, 100, 108, 105, 115, 116, 47, 122, 122, 108, 97, 119, 115, 95, 114, 111, 111, 116, 95, 98, 49, 46, 70, 110, 76, 105, 110, 101, 115, 66, 101, 103, 105, 110, 110, 105, 110, 103, 77,
  97, 116, 99, 104, 101, 115, 76, 105, 110, 101, 77, 111, 100, 101, 108, 32, 101, 120, 97, 109, 112, 108, 101, 46, 99, 111, 109, 47, 118, 111, 105, 100, 108, 105, 115, 116, 47, 118, 111, 105,
  100, 108, 105, 115, 116, 47, 122, 122, 108, 97, 119, 115, 95, 114, 111, 111, 116, 95, 98, 49, 46, 70, 110, 76, 105, 110, 101, 115, 66, 101, 103, 105, 110, 110, 105, 110, 103, 67, 111, 110,
  99, 97, 116, 32, 101, 120, 97, 109, 112, 108, 101, 46, 99, 111, 109, 47, 118, 111, 105, 100, 108, 105, 115, 116, 47, 118, 111, 105, 100, 108, 105, 115, 116, 47, 122, 122, 108, 97, 119, 115,
  95, 114, 111, 111, 116, 95, 98, 49, 46, 70, 110, 76, 105, 110, 101, 115, 66, 101, 103, 105, 110, 110, 105, 110, 103, 76, 111, 110, 103, 101, 114, 80, 114, 101, 102, 105, 120, 70, 101, 119,
  101, 114, 32, 101, 120, 97, 109, 112, 108, 101, 46, 99, 111, 109, 47, 118, 111, 105, 100, 108, 105, 115, 116, 47, 118, 111, 105, 100, 108, 105, 115, 116, 47, 122, 122, 108, 97, 119, 115, 95,
  114, 111, 111, 116, 95, 98, 49, 46, 70, 110, 70, 111, 108, 100, 85, 82, 73, 73, 100, 101, 109, 112, 111, 116, 101, 110, 116, 32, 101, 120, 97, 109, 112, 108, 101, 46, 99, 111, 109, 47,
  118, 111, 105, 100, 108, 105, 115, 116, 47, 118, 111, 105, 100, 108, 105, 115, 116, 47, 122, 122, 108, 97, 119, 115, 95, 114, 111, 111, 116, 95, 98, 49, 46, 70, 110, 70, 111, 108, 100, 85,
  82, 73, 79, 110, 108, 121, 76, 111, 119, 101, 114, 115, 67, 97, 112, 105, 116, 97, 108, 115]

theorem head_eq : Try.prog.initOrder.toList = headSigns := by
  have e : Try.prog.initOrder = String.ofList headSigns := by kernel_rfl
  rw [e]
  exact String.toList_ofList

def headRest : List (List Char) := (behindMainWord (wordsSigns headSigns)).tail

theorem words_eq : behindMainWord (wordsSigns headSigns) = "cut".toList :: headRest := by kernel_rfl

theorem head_words : behindMainWord (wordsSigns Try.prog.initOrder.toList) = "cut".toList :: headRest :=
  (congrArg (fun l => behindMainWord (wordsSigns l)) head_eq).trans words_eq

theorem head_enter : Try.prog.mayEnter = true := enter_of Try.prog headRest head_words (by kernel_rfl) (by kernel_rfl) (by kernel_rfl)
theorem head_final : Try.prog.liftsFinal = false := final_of Try.prog headRest head_words
theorem head_make : Try.prog.make = some .cut := make_of Try.prog headRest head_words

theorem fnLinesBeginningMatchesLineModel_closed : joinedFacts Try.prog 6 Try.f6 Rows.fnLinesBeginningMatchesLineModelSpec Rows.fnLinesBeginningMatchesLineModelRow = true := by
  unfold joinedFacts
  rw [head_enter, head_final, head_make]
  kernel_rfl

theorem fnLinesBeginningConcat_closed : joinedFacts Try.prog 7 Try.f7 Rows.fnLinesBeginningConcatSpec Rows.fnLinesBeginningConcatRow = true := by
  unfold joinedFacts
  rw [head_enter, head_final, head_make]
  kernel_rfl

theorem fnLinesBeginningLongerPrefixFewer_closed : joinedFacts Try.prog 8 Try.f8 Rows.fnLinesBeginningLongerPrefixFewerSpec Rows.fnLinesBeginningLongerPrefixFewerRow = true := by
  unfold joinedFacts
  rw [head_enter, head_final, head_make]
  kernel_rfl

end Go.Proofs.Qxb6000904a
