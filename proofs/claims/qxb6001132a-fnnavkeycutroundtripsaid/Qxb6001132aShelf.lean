/-
  DERIVED: THE SHELF's CONTRACTS AT THIS DUMP, IN PLAIN WORDS (tools/lay-plain.mjs out of 'Qxb6001132aShelf.lean', which tools/lay-shelf.mjs wrote): THE SAME DECLARATIONS UNDER THE SAME NAMES: 'import', 'namespace', 'open', 'def', 'theorem' AND NOTHING ELSE: no command of the shelf's: FOR A HAND-IN. Each laying: the table of numbers ('.._ren') and one theorem, a field a fact of the dump's own or the kernel's comparison; each contract: ONE APPLICATION.
-/
import Derived.Shelf.Small.Wraps
import Derived.Shelf.LaysM
import Derived.Test.Qxb6001132aProg
namespace Go.Proofs
open Go.Shelf
def Try.lays103_ren : Go.Shelf.Ren := ⟨fun | 103 => 19 | 210 => 21 | 206 => 23 | n => n, fun | 9 => 9 | 4 => 4 | 24 => 27 | 3 => 3 | n => n, fun | n => n⟩
theorem Try.lays103 : Go.Proofs.Lays.n103 Try.prog Try.lays103_ren := {
  mixed := by kernel_rfl
  f103 := Try.func19.trans (congrArg some (by kernel_rfl))
  f206 := Try.func23.trans (congrArg some (by kernel_rfl))
  f210 := Try.func21.trans (congrArg some (by kernel_rfl))
  t3 := Try.underlying3
  a3 := Try.isAgg3
  z3 := Try.sizeOf3
  v3 := Try.zeroValue3
  t4 := Try.underlying4
  a4 := Try.isAgg4
  z4 := Try.sizeOf4
  v4 := Try.zeroValue4
  t9 := Try.underlying9
  a9 := Try.isAgg9
  z9 := Try.sizeOf9
  v9 := Try.zeroValue9
  t24 := Try.underlying27
  a24 := Try.isAgg27
  z24 := Try.sizeOf27
  v24 := Try.zeroValue27 }
def Try.laysM145_ren : Go.Shelf.Ren := ⟨fun | 145 => 20 | 220 => 22 | 219 => 24 | 217 => 25 | 225 => 26 | 224 => 27 | 267 => 28 | 266 => 29 | 314 => 30 | n => n, fun | 9 => 9 | 4 => 4 | 59 => 25 | 3 => 3 | 5 => 5 | 46 => 33 | 146 => 35 | 51 => 34 | n => n, fun | 1 => 0 | n => n⟩
theorem Try.laysM145 : Go.Proofs.LaysM.n145 Try.prog Try.laysM145_ren := {
  mixed := by kernel_rfl
  f145 := Try.func20.trans (congrArg some (by kernel_rfl))
  f217 := Try.func25.trans (congrArg some (by kernel_rfl))
  f219 := Try.func24.trans (congrArg some (by kernel_rfl))
  f220 := Try.func22.trans (congrArg some (by kernel_rfl))
  f224 := Try.func27.trans (congrArg some (by kernel_rfl))
  f225 := Try.func26.trans (congrArg some (by kernel_rfl))
  f266 := Try.func29.trans (congrArg some (by kernel_rfl))
  f267 := Try.func28.trans (congrArg some (by kernel_rfl))
  f314 := Try.func30.trans (congrArg some (by kernel_rfl))
  t3 := Try.underlying3
  a3 := Try.isAgg3
  z3 := Try.sizeOf3
  v3 := Try.zeroValue3
  t4 := Try.underlying4
  a4 := Try.isAgg4
  z4 := Try.sizeOf4
  v4 := Try.zeroValue4
  t5 := Try.underlying5
  a5 := Try.isAgg5
  z5 := Try.sizeOf5
  v5 := Try.zeroValue5
  t9 := Try.underlying9
  a9 := Try.isAgg9
  z9 := Try.sizeOf9
  v9 := Try.zeroValue9
  t46 := Try.underlying33
  a46 := Try.isAgg33
  z46 := Try.sizeOf33
  v46 := Try.zeroValue33
  t51 := Try.underlying34
  a51 := Try.isAgg34
  z51 := Try.sizeOf34
  v51 := Try.zeroValue34
  t59 := Try.underlying25
  a59 := Try.isAgg25
  z59 := Try.sizeOf25
  v59 := Try.zeroValue25
  t146 := Try.underlying35
  a146 := Try.isAgg35
  z146 := Try.sizeOf35
  v146 := Try.zeroValue35
  g1 := by kernel_rfl
  i3 := by kernel_rfl
  i4 := by kernel_rfl
  i5 := by kernel_rfl
  i9 := by kernel_rfl
  i46 := by kernel_rfl
  i51 := by kernel_rfl
  i59 := by kernel_rfl
  i146 := by kernel_rfl
  m1 := by kernel_rfl
  s1_3 := fun w h => Go.Proofs.cell_of_shapedOpen_int (zero := #[.int .i64 0]) (t := 3) h (of_decide_eq_true (by kernel_rfl)) (by kernel_rfl) rfl (by kernel_rfl) (by kernel_rfl) Try.underlying3 }
end Go.Proofs
