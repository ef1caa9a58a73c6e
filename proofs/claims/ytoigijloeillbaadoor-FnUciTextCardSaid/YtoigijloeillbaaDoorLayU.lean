/- The shelf's structures at this program (printed by tools/lay.py). -/
import Derived.Shelf.Lays
import Derived.Shelf.Strings.BuilderX
import Derived.Test.YtoigijloeillbaaDoorChecked
namespace Go.Lib
end Go.Lib
namespace Go.Shelf
end Go.Shelf
namespace Go.Proofs.YtoigijloeillbaaDoor
open Go.Proofs Go.Shelf Go.Lib
set_option linter.unusedVariables false
set_option maxRecDepth 100000
def ren : Ren where
  f := fun n => if n = 165 then 40 else if n = 169 then 44 else if n = 240 then 50 else if n = 241 then 51 else if n = 276 then 65 else if n = 277 then 66 else 0
  t := fun n => if n = 0 then 0 else if n = 3 then 3 else if n = 4 then 4 else if n = 5 then 5 else if n = 9 then 9 else if n = 20 then 20 else if n = 37 then 78 else if n = 70 then 89 else if n = 72 then 91 else if n = 127 then 102 else if n = 164 then 123 else 0
  g := fun n => 0
theorem lays_Lays_n240 : Lays.n240 Tryd.prog ren where
  mixed := by first | kernel_rfl | (intro w; kernel_rfl) | decide
  f240 := by first | kernel_rfl | (intro w; kernel_rfl) | decide
  f276 := by first | kernel_rfl | (intro w; kernel_rfl) | decide
  t0 := by first | kernel_rfl | (intro w; kernel_rfl) | decide
  a0 := by first | kernel_rfl | (intro w; kernel_rfl) | decide
  z0 := by first | kernel_rfl | (intro w; kernel_rfl) | decide
  v0 := by first | kernel_rfl | (intro w; kernel_rfl) | decide
  t4 := by first | kernel_rfl | (intro w; kernel_rfl) | decide
  a4 := by first | kernel_rfl | (intro w; kernel_rfl) | decide
  z4 := by first | kernel_rfl | (intro w; kernel_rfl) | decide
  v4 := by first | kernel_rfl | (intro w; kernel_rfl) | decide
  t9 := by first | kernel_rfl | (intro w; kernel_rfl) | decide
  a9 := by first | kernel_rfl | (intro w; kernel_rfl) | decide
  z9 := by first | kernel_rfl | (intro w; kernel_rfl) | decide
  v9 := by first | kernel_rfl | (intro w; kernel_rfl) | decide
  t20 := by first | kernel_rfl | (intro w; kernel_rfl) | decide
  a20 := by first | kernel_rfl | (intro w; kernel_rfl) | decide
  z20 := by first | kernel_rfl | (intro w; kernel_rfl) | decide
  v20 := by first | kernel_rfl | (intro w; kernel_rfl) | decide
  t70 := by first | kernel_rfl | (intro w; kernel_rfl) | decide
  a70 := by first | kernel_rfl | (intro w; kernel_rfl) | decide
  z70 := by first | kernel_rfl | (intro w; kernel_rfl) | decide
  v70 := by first | kernel_rfl | (intro w; kernel_rfl) | decide
  t72 := by first | kernel_rfl | (intro w; kernel_rfl) | decide
  a72 := by first | kernel_rfl | (intro w; kernel_rfl) | decide
  z72 := by first | kernel_rfl | (intro w; kernel_rfl) | decide
  v72 := by first | kernel_rfl | (intro w; kernel_rfl) | decide
  t164 := by first | kernel_rfl | (intro w; kernel_rfl) | decide
  a164 := by first | kernel_rfl | (intro w; kernel_rfl) | decide
  z164 := by first | kernel_rfl | (intro w; kernel_rfl) | decide
  v164 := by first | kernel_rfl | (intro w; kernel_rfl) | decide
theorem lays_Lays_n165 : Lays.n165 Tryd.prog ren where
  mixed := by first | kernel_rfl | (intro w; kernel_rfl) | decide
  f165 := by first | kernel_rfl | (intro w; kernel_rfl) | decide
  f240 := by first | kernel_rfl | (intro w; kernel_rfl) | decide
  f241 := by first | kernel_rfl | (intro w; kernel_rfl) | decide
  f276 := by first | kernel_rfl | (intro w; kernel_rfl) | decide
  f277 := by first | kernel_rfl | (intro w; kernel_rfl) | decide
  t0 := by first | kernel_rfl | (intro w; kernel_rfl) | decide
  a0 := by first | kernel_rfl | (intro w; kernel_rfl) | decide
  z0 := by first | kernel_rfl | (intro w; kernel_rfl) | decide
  v0 := by first | kernel_rfl | (intro w; kernel_rfl) | decide
  t3 := by first | kernel_rfl | (intro w; kernel_rfl) | decide
  a3 := by first | kernel_rfl | (intro w; kernel_rfl) | decide
  z3 := by first | kernel_rfl | (intro w; kernel_rfl) | decide
  v3 := by first | kernel_rfl | (intro w; kernel_rfl) | decide
  t4 := by first | kernel_rfl | (intro w; kernel_rfl) | decide
  a4 := by first | kernel_rfl | (intro w; kernel_rfl) | decide
  z4 := by first | kernel_rfl | (intro w; kernel_rfl) | decide
  v4 := by first | kernel_rfl | (intro w; kernel_rfl) | decide
  t9 := by first | kernel_rfl | (intro w; kernel_rfl) | decide
  a9 := by first | kernel_rfl | (intro w; kernel_rfl) | decide
  z9 := by first | kernel_rfl | (intro w; kernel_rfl) | decide
  v9 := by first | kernel_rfl | (intro w; kernel_rfl) | decide
  t20 := by first | kernel_rfl | (intro w; kernel_rfl) | decide
  a20 := by first | kernel_rfl | (intro w; kernel_rfl) | decide
  z20 := by first | kernel_rfl | (intro w; kernel_rfl) | decide
  v20 := by first | kernel_rfl | (intro w; kernel_rfl) | decide
  t37 := by first | kernel_rfl | (intro w; kernel_rfl) | decide
  a37 := by first | kernel_rfl | (intro w; kernel_rfl) | decide
  z37 := by first | kernel_rfl | (intro w; kernel_rfl) | decide
  v37 := by first | kernel_rfl | (intro w; kernel_rfl) | decide
  t70 := by first | kernel_rfl | (intro w; kernel_rfl) | decide
  a70 := by first | kernel_rfl | (intro w; kernel_rfl) | decide
  z70 := by first | kernel_rfl | (intro w; kernel_rfl) | decide
  v70 := by first | kernel_rfl | (intro w; kernel_rfl) | decide
  t72 := by first | kernel_rfl | (intro w; kernel_rfl) | decide
  a72 := by first | kernel_rfl | (intro w; kernel_rfl) | decide
  z72 := by first | kernel_rfl | (intro w; kernel_rfl) | decide
  v72 := by first | kernel_rfl | (intro w; kernel_rfl) | decide
  t164 := by first | kernel_rfl | (intro w; kernel_rfl) | decide
  a164 := by first | kernel_rfl | (intro w; kernel_rfl) | decide
  z164 := by first | kernel_rfl | (intro w; kernel_rfl) | decide
  v164 := by first | kernel_rfl | (intro w; kernel_rfl) | decide
theorem lays_Builder_Extra : Builder.Extra Tryd.prog ren where
  sizeBuilder := by first | kernel_rfl | (intro w; kernel_rfl) | decide
  liesBuilder := by first | kernel_rfl | (intro w; kernel_rfl) | decide
  t5 := by first | kernel_rfl | (intro w; kernel_rfl) | decide
  a5 := by first | kernel_rfl | (intro w; kernel_rfl) | decide
  z5 := by first | kernel_rfl | (intro w; kernel_rfl) | decide
  v5 := by first | kernel_rfl | (intro w; kernel_rfl) | decide
  infoByte := by first | kernel_rfl | (intro w; kernel_rfl) | decide
  cellsByte := by first | kernel_rfl | (intro w; kernel_rfl) | decide
  sizeByte := by first | kernel_rfl | (intro w; kernel_rfl) | decide
  neB5 := by first | kernel_rfl | (intro w; kernel_rfl) | decide
theorem lays_Lays_n169 : Lays.n169 Tryd.prog ren where
  mixed := by first | kernel_rfl | (intro w; kernel_rfl) | decide
  f169 := by first | kernel_rfl | (intro w; kernel_rfl) | decide
  t0 := by first | kernel_rfl | (intro w; kernel_rfl) | decide
  a0 := by first | kernel_rfl | (intro w; kernel_rfl) | decide
  z0 := by first | kernel_rfl | (intro w; kernel_rfl) | decide
  v0 := by first | kernel_rfl | (intro w; kernel_rfl) | decide
  t3 := by first | kernel_rfl | (intro w; kernel_rfl) | decide
  a3 := by first | kernel_rfl | (intro w; kernel_rfl) | decide
  z3 := by first | kernel_rfl | (intro w; kernel_rfl) | decide
  v3 := by first | kernel_rfl | (intro w; kernel_rfl) | decide
  t9 := by first | kernel_rfl | (intro w; kernel_rfl) | decide
  a9 := by first | kernel_rfl | (intro w; kernel_rfl) | decide
  z9 := by first | kernel_rfl | (intro w; kernel_rfl) | decide
  v9 := by first | kernel_rfl | (intro w; kernel_rfl) | decide
  t37 := by first | kernel_rfl | (intro w; kernel_rfl) | decide
  a37 := by first | kernel_rfl | (intro w; kernel_rfl) | decide
  z37 := by first | kernel_rfl | (intro w; kernel_rfl) | decide
  v37 := by first | kernel_rfl | (intro w; kernel_rfl) | decide
  t70 := by first | kernel_rfl | (intro w; kernel_rfl) | decide
  a70 := by first | kernel_rfl | (intro w; kernel_rfl) | decide
  z70 := by first | kernel_rfl | (intro w; kernel_rfl) | decide
  v70 := by first | kernel_rfl | (intro w; kernel_rfl) | decide
  t72 := by first | kernel_rfl | (intro w; kernel_rfl) | decide
  a72 := by first | kernel_rfl | (intro w; kernel_rfl) | decide
  z72 := by first | kernel_rfl | (intro w; kernel_rfl) | decide
  v72 := by first | kernel_rfl | (intro w; kernel_rfl) | decide
  t127 := by first | kernel_rfl | (intro w; kernel_rfl) | decide
  a127 := by first | kernel_rfl | (intro w; kernel_rfl) | decide
  z127 := by first | kernel_rfl | (intro w; kernel_rfl) | decide
  v127 := by first | kernel_rfl | (intro w; kernel_rfl) | decide
end Go.Proofs.YtoigijloeillbaaDoor
