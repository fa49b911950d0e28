/-
  The row's closed facts, by a light road. Three of them read the words of the translation's head out of a string of some hundred signs; reckoned straight the kernel wants some 8 GB for that string alone. Here the string's signs are laid out as a list once, and the three facts are reckoned over the list; the laws that lead there are stated over any program, so that nothing is reckoned on the way.
-/
import Derived.Test.Qxb6001148aRows
import Derived.JoinedOf
import Derived.KernelRfl
namespace Go.Proofs.Qxb6001148a
open Go

/-- Does the word open the head, behind the main's own word? -/
theorem make_of (P : Program) (r : List (List Char)) (hw : behindMainWord (wordsSigns P.initOrder.toList) = "cut".toList :: r) : P.make = some .cut := by
  unfold Program.make
  rw [hw]
  rfl

theorem strip_cut (r : List (List Char)) : stripLifts liftWords ("cut".toList :: r) = ([], "cut".toList :: r) := rfl

theorem lifts_of (P : Program) (r : List (List Char)) (hw : behindMainWord (wordsSigns P.initOrder.toList) = "cut".toList :: r) : P.headLifts = [] := by
  unfold Program.headLifts
  rw [hw, strip_cut]
  rfl

theorem final_of (P : Program) (r : List (List Char)) (hw : behindMainWord (wordsSigns P.initOrder.toList) = "cut".toList :: r) : P.liftsFinal = false := by
  have hl := lifts_of P r hw
  unfold Program.liftsFinal
  rw [hw, hl]
  rfl

theorem enter_of (P : Program) (r : List (List Char)) (hw : behindMainWord (wordsSigns P.initOrder.toList) = "cut".toList :: r) (h1 : P.laysLater = false) (h2 : P.bearsReflect = false) (h3 : P.doorFits [] = true) : P.mayEnter = true := by
  unfold Program.mayEnter
  rw [hw]
  simp only [strip_cut, h1, h2, h3]
  rfl

def headSigns : List Char := List.map Char.ofNat [
  104, 97, 114, 110, 101, 115, 115, 32, 53, 53, 49, 56, 102, 53, 53, 55, 48, 100, 100, 101, 53, 97, 54, 98, 101, 100, 102, 101, 50, 97, 97, 50, 53, 97, 50, 51, 56, 52, 48, 102,
  100, 53, 51, 51, 57, 99, 101, 56, 54, 54, 48, 99, 98, 51, 102, 102, 49, 102, 51, 55, 51, 54, 52, 101, 49, 101, 56, 52, 52, 48, 50, 99, 32, 99, 117, 116, 32, 97, 116, 32,
  101, 120, 97, 109, 112, 108, 101, 46, 99, 111, 109, 47, 98, 101, 108, 108, 119, 101, 116, 104, 101, 114, 47, 98, 101, 108, 108, 119, 101, 116, 104, 101, 114, 47, 122, 122, 108, 97, 119, 115,
  95, 115, 99, 104, 101, 109, 97, 95, 98, 49, 46, 70, 110, 76, 97, 105, 100, 79, 117, 116, 82, 101, 102, 108, 101, 120, 105, 118, 101, 32, 101, 120, 97, 109, 112, 108, 101, 46, 99, 111,
  109, 47, 98, 101, 108, 108, 119, 101, 116, 104, 101, 114, 47, 98, 101, 108, 108, 119, 101, 116, 104, 101, 114, 47, 122, 122, 108, 97, 119, 115, 95, 115, 99, 104, 101, 109, 97, 95, 98, 49,
  46, 70, 110, 76, 97, 105, 100, 79, 117, 116, 67, 111, 110, 99, 97, 116, 101, 110, 97, 116, 101, 115, 32, 101, 120, 97, 109, 112, 108, 101, 46, 99, 111, 109, 47, 98, 101, 108, 108, 119,
  101, 116, 104, 101, 114, 47, 98, 101, 108, 108, 119, 101, 116, 104, 101, 114, 47, 122, 122, 108, 97, 119, 115, 95, 115, 99, 104, 101, 109, 97, 95, 98, 49, 46, 70, 110, 76, 97, 105, 100,
  79, 117, 116, 87, 105, 116, 104, 111, 117, 116, 78, 105, 110, 101, 73, 115, 69, 113, 117, 97, 108, 105, 116, 121, 32, 101, 120, 97, 109, 112, 108, 101, 46, 99, 111, 109, 47, 98, 101, 108,
  108, 119, 101, 116, 104, 101, 114, 47, 98, 101, 108, 108, 119, 101, 116, 104, 101, 114, 47, 122, 122, 108, 97, 119, 115, 95, 115, 99, 104, 101, 109, 97, 95, 98, 49, 46, 70, 110, 68, 97,
  116, 101, 84, 105, 109, 101, 66, 117, 105, 108, 116, 70, 114, 111, 109, 80, 97, 114, 116, 115, 32, 101, 120, 97, 109, 112, 108, 101, 46, 99, 111, 109, 47, 98, 101, 108, 108, 119, 101, 116,
  104, 101, 114, 47, 98, 101, 108, 108, 119, 101, 116, 104, 101, 114, 47, 122, 122, 108, 97, 119, 115, 95, 115, 99, 104, 101, 109, 97, 95, 98, 49, 46, 70, 110, 68, 97, 116, 101, 84, 105,
  109, 101, 80, 114, 101, 102, 105, 120, 70, 114, 101, 101, 32, 101, 120, 97, 109, 112, 108, 101, 46, 99, 111, 109, 47, 98, 101, 108, 108, 119, 101, 116, 104, 101, 114, 47, 98, 101, 108, 108,
  119, 101, 116, 104, 101, 114, 47, 122, 122, 108, 97, 119, 115, 95, 115, 99, 104, 101, 109, 97, 95, 98, 49, 46, 70, 110, 68, 97, 116, 101, 84, 105, 109, 101, 70, 114, 97, 99, 116, 105,
  111, 110, 67, 104, 97, 110, 103, 101, 115, 78, 111, 116, 104, 105, 110, 103, 32, 101, 120, 97, 109, 112, 108, 101, 46, 99, 111, 109, 47, 98, 101, 108, 108, 119, 101, 116, 104, 101, 114, 47,
  98, 101, 108, 108, 119, 101, 116, 104, 101, 114, 47, 122, 122, 108, 97, 119, 115, 95, 115, 99, 104, 101, 109, 97, 95, 98, 49, 46, 70, 110, 85, 82, 73, 84, 101, 120, 116, 69, 120, 97,
  99, 116, 87, 105, 116, 104, 111, 117, 116, 80, 101, 114, 99, 101, 110, 116, 32, 101, 120, 97, 109, 112, 108, 101, 46, 99, 111, 109, 47, 98, 101, 108, 108, 119, 101, 116, 104, 101, 114, 47,
  98, 101, 108, 108, 119, 101, 116, 104, 101, 114, 47, 122, 122, 108, 97, 119, 115, 95, 115, 99, 104, 101, 109, 97, 95, 98, 49, 46, 70, 110, 85, 82, 73, 84, 101, 120, 116, 84, 97, 107,
  101, 115, 80, 101, 114, 99, 101, 110, 116, 69, 110, 99, 111, 100, 105, 110, 103, 32, 101, 120, 97, 109, 112, 108, 101, 46, 99, 111, 109, 47, 98, 101, 108, 108, 119, 101, 116, 104, 101, 114,
  47, 98, 101, 108, 108, 119, 101, 116, 104, 101, 114, 47, 122, 122, 108, 97, 119, 115, 95, 115, 99, 104, 101, 109, 97, 95, 98, 49, 46, 70, 110, 85, 82, 73, 84, 101, 120, 116, 67, 108,
  111, 115, 101, 100, 85, 110, 100, 101, 114, 67, 111, 110, 99, 97, 116, 101, 110, 97, 116, 105, 111, 110]

theorem head_eq : Try.prog.initOrder.toList = headSigns := by
  have e : Try.prog.initOrder = String.ofList headSigns := by kernel_rfl
  rw [e]
  exact String.toList_ofList

def headRest : List (List Char) := (behindMainWord (wordsSigns headSigns)).tail

theorem words_eq : behindMainWord (wordsSigns headSigns) = "cut".toList :: headRest := by kernel_rfl

theorem head_words : behindMainWord (wordsSigns Try.prog.initOrder.toList) = "cut".toList :: headRest :=
  (congrArg (fun l => behindMainWord (wordsSigns l)) head_eq).trans words_eq

theorem head_enter : Try.prog.mayEnter = true := enter_of Try.prog headRest head_words (by kernel_rfl) (by kernel_rfl) (by kernel_rfl)
theorem head_final : Try.prog.liftsFinal = false := final_of Try.prog headRest head_words
theorem head_make : Try.prog.make = some .cut := make_of Try.prog headRest head_words

theorem fnURITextExactWithoutPercent_closed : joinedFacts Try.prog 9 Try.f9 Rows.fnURITextExactWithoutPercentSpec Rows.fnURITextExactWithoutPercentRow = true := by
  unfold joinedFacts
  rw [head_enter, head_final, head_make]
  kernel_rfl

theorem fnURITextTakesPercentEncoding_closed : joinedFacts Try.prog 10 Try.f10 Rows.fnURITextTakesPercentEncodingSpec Rows.fnURITextTakesPercentEncodingRow = true := by
  unfold joinedFacts
  rw [head_enter, head_final, head_make]
  kernel_rfl

end Go.Proofs.Qxb6001148a
