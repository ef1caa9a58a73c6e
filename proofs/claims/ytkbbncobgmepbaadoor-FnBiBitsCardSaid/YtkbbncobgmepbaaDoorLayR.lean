/- The shelf's structures at this program (printed by tools/lay.py). -/
import Derived.Shelf.Lays
import Derived.Shelf.Strings.BuilderX
import Derived.Test.YtkbbncobgmepbaaDoorChecked
namespace Go.Lib
end Go.Lib
namespace Go.Shelf
end Go.Shelf
namespace Go.Proofs.YtkbbncobgmepbaaDoor
open Go.Proofs Go.Shelf Go.Lib
set_option linter.unusedVariables false
set_option maxRecDepth 100000
def ren : Ren where
  f := fun n => if n = 99 then 75 else if n = 105 then 61 else if n = 165 then 55 else if n = 166 then 53 else if n = 169 then 54 else if n = 170 then 76 else if n = 206 then 89 else if n = 212 then 74 else if n = 240 then 66 else if n = 241 then 67 else if n = 263 then 87 else if n = 264 then 88 else if n = 276 then 78 else if n = 277 then 79 else 0
  t := fun n => if n = 0 then 0 else if n = 3 then 3 else if n = 4 then 4 else if n = 5 then 5 else if n = 9 then 9 else if n = 20 then 20 else if n = 37 then 79 else if n = 46 then 88 else if n = 51 then 121 else if n = 53 then 33 else if n = 70 then 78 else if n = 72 then 81 else if n = 75 then 48 else if n = 76 then 82 else if n = 80 then 57 else if n = 109 then 105 else if n = 127 then 98 else if n = 146 then 122 else if n = 148 then 124 else if n = 164 then 108 else 0
  g := fun n => 0
theorem lays_Lays_n105 : Lays.n105 Tryd.prog ren where
  mixed := by first | kernel_rfl | (intro w; kernel_rfl) | decide
  f99 := by first | kernel_rfl | (intro w; kernel_rfl) | decide
  f105 := by first | kernel_rfl | (intro w; kernel_rfl) | decide
  f165 := by first | kernel_rfl | (intro w; kernel_rfl) | decide
  f166 := by first | kernel_rfl | (intro w; kernel_rfl) | decide
  f169 := by first | kernel_rfl | (intro w; kernel_rfl) | decide
  f170 := by first | kernel_rfl | (intro w; kernel_rfl) | decide
  f206 := by first | kernel_rfl | (intro w; kernel_rfl) | decide
  f212 := by first | kernel_rfl | (intro w; kernel_rfl) | decide
  f240 := by first | kernel_rfl | (intro w; kernel_rfl) | decide
  f241 := by first | kernel_rfl | (intro w; kernel_rfl) | decide
  f263 := by first | kernel_rfl | (intro w; kernel_rfl) | decide
  f264 := by first | kernel_rfl | (intro w; kernel_rfl) | decide
  f276 := by first | kernel_rfl | (intro w; kernel_rfl) | decide
  f277 := by first | kernel_rfl | (intro w; kernel_rfl) | decide
  t0 := by first | kernel_rfl | (intro w; kernel_rfl) | decide
  a0 := by first | kernel_rfl | (intro w; kernel_rfl) | decide
  z0 := by first | kernel_rfl | (intro w; kernel_rfl) | decide
  v0 := by first | kernel_rfl | (intro w; kernel_rfl) | decide
  t3 := by first | kernel_rfl | (intro w; kernel_rfl) | decide
  a3 := by first | kernel_rfl | (intro w; kernel_rfl) | decide
  z3 := by first | kernel_rfl | (intro w; kernel_rfl) | decide
  v3 := by first | kernel_rfl | (intro w; kernel_rfl) | decide
  t4 := by first | kernel_rfl | (intro w; kernel_rfl) | decide
  a4 := by first | kernel_rfl | (intro w; kernel_rfl) | decide
  z4 := by first | kernel_rfl | (intro w; kernel_rfl) | decide
  v4 := by first | kernel_rfl | (intro w; kernel_rfl) | decide
  t5 := by first | kernel_rfl | (intro w; kernel_rfl) | decide
  a5 := by first | kernel_rfl | (intro w; kernel_rfl) | decide
  z5 := by first | kernel_rfl | (intro w; kernel_rfl) | decide
  v5 := by first | kernel_rfl | (intro w; kernel_rfl) | decide
  t9 := by first | kernel_rfl | (intro w; kernel_rfl) | decide
  a9 := by first | kernel_rfl | (intro w; kernel_rfl) | decide
  z9 := by first | kernel_rfl | (intro w; kernel_rfl) | decide
  v9 := by first | kernel_rfl | (intro w; kernel_rfl) | decide
  t20 := by first | kernel_rfl | (intro w; kernel_rfl) | decide
  a20 := by first | kernel_rfl | (intro w; kernel_rfl) | decide
  z20 := by first | kernel_rfl | (intro w; kernel_rfl) | decide
  v20 := by first | kernel_rfl | (intro w; kernel_rfl) | decide
  t37 := by first | kernel_rfl | (intro w; kernel_rfl) | decide
  a37 := by first | kernel_rfl | (intro w; kernel_rfl) | decide
  z37 := by first | kernel_rfl | (intro w; kernel_rfl) | decide
  v37 := by first | kernel_rfl | (intro w; kernel_rfl) | decide
  t46 := by first | kernel_rfl | (intro w; kernel_rfl) | decide
  a46 := by first | kernel_rfl | (intro w; kernel_rfl) | decide
  z46 := by first | kernel_rfl | (intro w; kernel_rfl) | decide
  v46 := by first | kernel_rfl | (intro w; kernel_rfl) | decide
  t51 := by first | kernel_rfl | (intro w; kernel_rfl) | decide
  a51 := by first | kernel_rfl | (intro w; kernel_rfl) | decide
  z51 := by first | kernel_rfl | (intro w; kernel_rfl) | decide
  v51 := by first | kernel_rfl | (intro w; kernel_rfl) | decide
  t53 := by first | kernel_rfl | (intro w; kernel_rfl) | decide
  a53 := by first | kernel_rfl | (intro w; kernel_rfl) | decide
  z53 := by first | kernel_rfl | (intro w; kernel_rfl) | decide
  v53 := by first | kernel_rfl | (intro w; kernel_rfl) | decide
  t70 := by first | kernel_rfl | (intro w; kernel_rfl) | decide
  a70 := by first | kernel_rfl | (intro w; kernel_rfl) | decide
  z70 := by first | kernel_rfl | (intro w; kernel_rfl) | decide
  v70 := by first | kernel_rfl | (intro w; kernel_rfl) | decide
  t72 := by first | kernel_rfl | (intro w; kernel_rfl) | decide
  a72 := by first | kernel_rfl | (intro w; kernel_rfl) | decide
  z72 := by first | kernel_rfl | (intro w; kernel_rfl) | decide
  v72 := by first | kernel_rfl | (intro w; kernel_rfl) | decide
  t75 := by first | kernel_rfl | (intro w; kernel_rfl) | decide
  a75 := by first | kernel_rfl | (intro w; kernel_rfl) | decide
  z75 := by first | kernel_rfl | (intro w; kernel_rfl) | decide
  v75 := by first | kernel_rfl | (intro w; kernel_rfl) | decide
  t76 := by first | kernel_rfl | (intro w; kernel_rfl) | decide
  a76 := by first | kernel_rfl | (intro w; kernel_rfl) | decide
  z76 := by first | kernel_rfl | (intro w; kernel_rfl) | decide
  v76 := by first | kernel_rfl | (intro w; kernel_rfl) | decide
  t109 := by first | kernel_rfl | (intro w; kernel_rfl) | decide
  a109 := by first | kernel_rfl | (intro w; kernel_rfl) | decide
  z109 := by first | kernel_rfl | (intro w; kernel_rfl) | decide
  v109 := by first | kernel_rfl | (intro w; kernel_rfl) | decide
  t127 := by first | kernel_rfl | (intro w; kernel_rfl) | decide
  a127 := by first | kernel_rfl | (intro w; kernel_rfl) | decide
  z127 := by first | kernel_rfl | (intro w; kernel_rfl) | decide
  v127 := by first | kernel_rfl | (intro w; kernel_rfl) | decide
  t146 := by first | kernel_rfl | (intro w; kernel_rfl) | decide
  a146 := by first | kernel_rfl | (intro w; kernel_rfl) | decide
  z146 := by first | kernel_rfl | (intro w; kernel_rfl) | decide
  v146 := by first | kernel_rfl | (intro w; kernel_rfl) | decide
  t148 := by first | kernel_rfl | (intro w; kernel_rfl) | decide
  a148 := by first | kernel_rfl | (intro w; kernel_rfl) | decide
  z148 := by first | kernel_rfl | (intro w; kernel_rfl) | decide
  v148 := by first | kernel_rfl | (intro w; kernel_rfl) | decide
  t164 := by first | kernel_rfl | (intro w; kernel_rfl) | decide
  a164 := by first | kernel_rfl | (intro w; kernel_rfl) | decide
  z164 := by first | kernel_rfl | (intro w; kernel_rfl) | decide
  v164 := by first | kernel_rfl | (intro w; kernel_rfl) | decide
theorem lays_Builder_Extra : Builder.Extra Tryd.prog ren where
  sizeBuilder := by first | kernel_rfl | (intro w; kernel_rfl) | decide
  liesBuilder := by first | kernel_rfl | (intro w; kernel_rfl) | decide
  t5 := by first | kernel_rfl | (intro w; kernel_rfl) | decide
  a5 := by first | kernel_rfl | (intro w; kernel_rfl) | decide
  z5 := by first | kernel_rfl | (intro w; kernel_rfl) | decide
  v5 := by first | kernel_rfl | (intro w; kernel_rfl) | decide
  infoByte := by first | kernel_rfl | (intro w; kernel_rfl) | decide
  cellsByte := by first | kernel_rfl | (intro w; kernel_rfl) | decide
  sizeByte := by first | kernel_rfl | (intro w; kernel_rfl) | decide
  neB5 := by first | kernel_rfl | (intro w; kernel_rfl) | decide
end Go.Proofs.YtkbbncobgmepbaaDoor
