/- The shelf's structures at this program (printed by tools/lay.py). -/
import Derived.Shelf.Lays
import Derived.Shelf.Strings.TrimSpace
import Derived.Test.YtlcdhahnngfjhaaDoorChecked
namespace Go.Lib
end Go.Lib
namespace Go.Shelf
end Go.Shelf
namespace Go.Proofs.YtlcdhahnngfjhaaDoor
open Go.Proofs Go.Shelf Go.Lib
set_option linter.unusedVariables false
set_option maxRecDepth 100000
def ren : Ren where
  f := fun n => if n = 120 then 64 else if n = 163 then 41 else if n = 197 then 60 else if n = 199 then 54 else if n = 201 then 33 else if n = 237 then 53 else if n = 238 then 55 else if n = 260 then 63 else if n = 261 then 48 else if n = 271 then 62 else if n = 272 then 58 else if n = 273 then 59 else if n = 311 then 56 else if n = 312 then 57 else if n = 315 then 61 else 0
  t := fun n => if n = 0 then 0 else if n = 3 then 3 else if n = 4 then 4 else if n = 5 then 5 else if n = 9 then 9 else if n = 21 then 21 else if n = 37 then 31 else if n = 40 then 62 else if n = 46 then 89 else if n = 49 then 78 else if n = 51 then 66 else if n = 105 then 86 else if n = 119 then 67 else if n = 138 then 92 else if n = 139 then 93 else if n = 141 then 69 else if n = 193 then 74 else if n = 194 then 75 else if n = 196 then 77 else if n = 198 then 80 else if n = 201 then 83 else if n = 226 then 88 else if n = 227 then 90 else 0
  g := fun n => if n = 0 then 2 else if n = 3 then 4 else if n = 4 then 5 else if n = 6 then 3 else if n = 7 then 0 else if n = 9 then 1 else 0
theorem lays_Lays_n163 : Lays.n163 Tryd.prog ren where
  mixed := by first | kernel_rfl | (intro w; kernel_rfl) | decide
  f120 := by first | kernel_rfl | (intro w; kernel_rfl) | decide
  f163 := by first | kernel_rfl | (intro w; kernel_rfl) | decide
  f197 := by first | kernel_rfl | (intro w; kernel_rfl) | decide
  f199 := by first | kernel_rfl | (intro w; kernel_rfl) | decide
  f237 := by first | kernel_rfl | (intro w; kernel_rfl) | decide
  f238 := by first | kernel_rfl | (intro w; kernel_rfl) | decide
  f260 := by first | kernel_rfl | (intro w; kernel_rfl) | decide
  f261 := by first | kernel_rfl | (intro w; kernel_rfl) | decide
  f271 := by first | kernel_rfl | (intro w; kernel_rfl) | decide
  f272 := by first | kernel_rfl | (intro w; kernel_rfl) | decide
  f273 := by first | kernel_rfl | (intro w; kernel_rfl) | decide
  f311 := by first | kernel_rfl | (intro w; kernel_rfl) | decide
  f312 := by first | kernel_rfl | (intro w; kernel_rfl) | decide
  f315 := by first | kernel_rfl | (intro w; kernel_rfl) | decide
  t0 := by first | kernel_rfl | (intro w; kernel_rfl) | decide
  a0 := by first | kernel_rfl | (intro w; kernel_rfl) | decide
  z0 := by first | kernel_rfl | (intro w; kernel_rfl) | decide
  v0 := by first | kernel_rfl | (intro w; kernel_rfl) | decide
  t3 := by first | kernel_rfl | (intro w; kernel_rfl) | decide
  a3 := by first | kernel_rfl | (intro w; kernel_rfl) | decide
  z3 := by first | kernel_rfl | (intro w; kernel_rfl) | decide
  v3 := by first | kernel_rfl | (intro w; kernel_rfl) | decide
  t4 := by first | kernel_rfl | (intro w; kernel_rfl) | decide
  a4 := by first | kernel_rfl | (intro w; kernel_rfl) | decide
  z4 := by first | kernel_rfl | (intro w; kernel_rfl) | decide
  v4 := by first | kernel_rfl | (intro w; kernel_rfl) | decide
  t5 := by first | kernel_rfl | (intro w; kernel_rfl) | decide
  a5 := by first | kernel_rfl | (intro w; kernel_rfl) | decide
  z5 := by first | kernel_rfl | (intro w; kernel_rfl) | decide
  v5 := by first | kernel_rfl | (intro w; kernel_rfl) | decide
  t9 := by first | kernel_rfl | (intro w; kernel_rfl) | decide
  a9 := by first | kernel_rfl | (intro w; kernel_rfl) | decide
  z9 := by first | kernel_rfl | (intro w; kernel_rfl) | decide
  v9 := by first | kernel_rfl | (intro w; kernel_rfl) | decide
  t21 := by first | kernel_rfl | (intro w; kernel_rfl) | decide
  a21 := by first | kernel_rfl | (intro w; kernel_rfl) | decide
  z21 := by first | kernel_rfl | (intro w; kernel_rfl) | decide
  v21 := by first | kernel_rfl | (intro w; kernel_rfl) | decide
  t37 := by first | kernel_rfl | (intro w; kernel_rfl) | decide
  a37 := by first | kernel_rfl | (intro w; kernel_rfl) | decide
  z37 := by first | kernel_rfl | (intro w; kernel_rfl) | decide
  v37 := by first | kernel_rfl | (intro w; kernel_rfl) | decide
  t40 := by first | kernel_rfl | (intro w; kernel_rfl) | decide
  a40 := by first | kernel_rfl | (intro w; kernel_rfl) | decide
  z40 := by first | kernel_rfl | (intro w; kernel_rfl) | decide
  v40 := by first | kernel_rfl | (intro w; kernel_rfl) | decide
  t46 := by first | kernel_rfl | (intro w; kernel_rfl) | decide
  a46 := by first | kernel_rfl | (intro w; kernel_rfl) | decide
  z46 := by first | kernel_rfl | (intro w; kernel_rfl) | decide
  v46 := by first | kernel_rfl | (intro w; kernel_rfl) | decide
  t49 := by first | kernel_rfl | (intro w; kernel_rfl) | decide
  a49 := by first | kernel_rfl | (intro w; kernel_rfl) | decide
  z49 := by first | kernel_rfl | (intro w; kernel_rfl) | decide
  v49 := by first | kernel_rfl | (intro w; kernel_rfl) | decide
  t51 := by first | kernel_rfl | (intro w; kernel_rfl) | decide
  a51 := by first | kernel_rfl | (intro w; kernel_rfl) | decide
  z51 := by first | kernel_rfl | (intro w; kernel_rfl) | decide
  v51 := by first | kernel_rfl | (intro w; kernel_rfl) | decide
  t105 := by first | kernel_rfl | (intro w; kernel_rfl) | decide
  a105 := by first | kernel_rfl | (intro w; kernel_rfl) | decide
  z105 := by first | kernel_rfl | (intro w; kernel_rfl) | decide
  v105 := by first | kernel_rfl | (intro w; kernel_rfl) | decide
  t119 := by first | kernel_rfl | (intro w; kernel_rfl) | decide
  a119 := by first | kernel_rfl | (intro w; kernel_rfl) | decide
  z119 := by first | kernel_rfl | (intro w; kernel_rfl) | decide
  t138 := by first | kernel_rfl | (intro w; kernel_rfl) | decide
  a138 := by first | kernel_rfl | (intro w; kernel_rfl) | decide
  z138 := by first | kernel_rfl | (intro w; kernel_rfl) | decide
  v138 := by first | kernel_rfl | (intro w; kernel_rfl) | decide
  t139 := by first | kernel_rfl | (intro w; kernel_rfl) | decide
  a139 := by first | kernel_rfl | (intro w; kernel_rfl) | decide
  z139 := by first | kernel_rfl | (intro w; kernel_rfl) | decide
  v139 := by first | kernel_rfl | (intro w; kernel_rfl) | decide
  t141 := by first | kernel_rfl | (intro w; kernel_rfl) | decide
  a141 := by first | kernel_rfl | (intro w; kernel_rfl) | decide
  z141 := by first | kernel_rfl | (intro w; kernel_rfl) | decide
  v141 := by first | kernel_rfl | (intro w; kernel_rfl) | decide
  t193 := by first | kernel_rfl | (intro w; kernel_rfl) | decide
  a193 := by first | kernel_rfl | (intro w; kernel_rfl) | decide
  z193 := by first | kernel_rfl | (intro w; kernel_rfl) | decide
  v193 := by first | kernel_rfl | (intro w; kernel_rfl) | decide
  t194 := by first | kernel_rfl | (intro w; kernel_rfl) | decide
  a194 := by first | kernel_rfl | (intro w; kernel_rfl) | decide
  z194 := by first | kernel_rfl | (intro w; kernel_rfl) | decide
  v194 := by first | kernel_rfl | (intro w; kernel_rfl) | decide
  t196 := by first | kernel_rfl | (intro w; kernel_rfl) | decide
  a196 := by first | kernel_rfl | (intro w; kernel_rfl) | decide
  z196 := by first | kernel_rfl | (intro w; kernel_rfl) | decide
  v196 := by first | kernel_rfl | (intro w; kernel_rfl) | decide
  t198 := by first | kernel_rfl | (intro w; kernel_rfl) | decide
  a198 := by first | kernel_rfl | (intro w; kernel_rfl) | decide
  z198 := by first | kernel_rfl | (intro w; kernel_rfl) | decide
  v198 := by first | kernel_rfl | (intro w; kernel_rfl) | decide
  t201 := by first | kernel_rfl | (intro w; kernel_rfl) | decide
  a201 := by first | kernel_rfl | (intro w; kernel_rfl) | decide
  z201 := by first | kernel_rfl | (intro w; kernel_rfl) | decide
  v201 := by first | kernel_rfl | (intro w; kernel_rfl) | decide
  t226 := by first | kernel_rfl | (intro w; kernel_rfl) | decide
  a226 := by first | kernel_rfl | (intro w; kernel_rfl) | decide
  z226 := by first | kernel_rfl | (intro w; kernel_rfl) | decide
  v226 := by first | kernel_rfl | (intro w; kernel_rfl) | decide
  t227 := by first | kernel_rfl | (intro w; kernel_rfl) | decide
  a227 := by first | kernel_rfl | (intro w; kernel_rfl) | decide
  z227 := by first | kernel_rfl | (intro w; kernel_rfl) | decide
  v227 := by first | kernel_rfl | (intro w; kernel_rfl) | decide
  g0 := by first | kernel_rfl | (intro w; kernel_rfl) | decide
  g3 := by first | kernel_rfl | (intro w; kernel_rfl) | decide
  g4 := by first | kernel_rfl | (intro w; kernel_rfl) | decide
  g6 := by first | kernel_rfl | (intro w; kernel_rfl) | decide
theorem lays_Space_Extra : Space.Extra Tryd.prog ren where
  gNamed := by first | kernel_rfl | (intro w; kernel_rfl) | decide
theorem lays_Lays_n201 : Lays.n201 Tryd.prog ren where
  mixed := by first | kernel_rfl | (intro w; kernel_rfl) | decide
  f201 := by first | kernel_rfl | (intro w; kernel_rfl) | decide
  f261 := by first | kernel_rfl | (intro w; kernel_rfl) | decide
  f311 := by first | kernel_rfl | (intro w; kernel_rfl) | decide
  f312 := by first | kernel_rfl | (intro w; kernel_rfl) | decide
  t0 := by first | kernel_rfl | (intro w; kernel_rfl) | decide
  a0 := by first | kernel_rfl | (intro w; kernel_rfl) | decide
  z0 := by first | kernel_rfl | (intro w; kernel_rfl) | decide
  v0 := by first | kernel_rfl | (intro w; kernel_rfl) | decide
  t3 := by first | kernel_rfl | (intro w; kernel_rfl) | decide
  a3 := by first | kernel_rfl | (intro w; kernel_rfl) | decide
  z3 := by first | kernel_rfl | (intro w; kernel_rfl) | decide
  v3 := by first | kernel_rfl | (intro w; kernel_rfl) | decide
  t4 := by first | kernel_rfl | (intro w; kernel_rfl) | decide
  a4 := by first | kernel_rfl | (intro w; kernel_rfl) | decide
  z4 := by first | kernel_rfl | (intro w; kernel_rfl) | decide
  v4 := by first | kernel_rfl | (intro w; kernel_rfl) | decide
  t5 := by first | kernel_rfl | (intro w; kernel_rfl) | decide
  a5 := by first | kernel_rfl | (intro w; kernel_rfl) | decide
  z5 := by first | kernel_rfl | (intro w; kernel_rfl) | decide
  v5 := by first | kernel_rfl | (intro w; kernel_rfl) | decide
  t21 := by first | kernel_rfl | (intro w; kernel_rfl) | decide
  a21 := by first | kernel_rfl | (intro w; kernel_rfl) | decide
  z21 := by first | kernel_rfl | (intro w; kernel_rfl) | decide
  v21 := by first | kernel_rfl | (intro w; kernel_rfl) | decide
  t46 := by first | kernel_rfl | (intro w; kernel_rfl) | decide
  a46 := by first | kernel_rfl | (intro w; kernel_rfl) | decide
  z46 := by first | kernel_rfl | (intro w; kernel_rfl) | decide
  v46 := by first | kernel_rfl | (intro w; kernel_rfl) | decide
  t49 := by first | kernel_rfl | (intro w; kernel_rfl) | decide
  a49 := by first | kernel_rfl | (intro w; kernel_rfl) | decide
  z49 := by first | kernel_rfl | (intro w; kernel_rfl) | decide
  v49 := by first | kernel_rfl | (intro w; kernel_rfl) | decide
  t51 := by first | kernel_rfl | (intro w; kernel_rfl) | decide
  a51 := by first | kernel_rfl | (intro w; kernel_rfl) | decide
  z51 := by first | kernel_rfl | (intro w; kernel_rfl) | decide
  v51 := by first | kernel_rfl | (intro w; kernel_rfl) | decide
  t119 := by first | kernel_rfl | (intro w; kernel_rfl) | decide
  a119 := by first | kernel_rfl | (intro w; kernel_rfl) | decide
  z119 := by first | kernel_rfl | (intro w; kernel_rfl) | decide
  t141 := by first | kernel_rfl | (intro w; kernel_rfl) | decide
  a141 := by first | kernel_rfl | (intro w; kernel_rfl) | decide
  z141 := by first | kernel_rfl | (intro w; kernel_rfl) | decide
  v141 := by first | kernel_rfl | (intro w; kernel_rfl) | decide
  t193 := by first | kernel_rfl | (intro w; kernel_rfl) | decide
  a193 := by first | kernel_rfl | (intro w; kernel_rfl) | decide
  z193 := by first | kernel_rfl | (intro w; kernel_rfl) | decide
  v193 := by first | kernel_rfl | (intro w; kernel_rfl) | decide
  t194 := by first | kernel_rfl | (intro w; kernel_rfl) | decide
  a194 := by first | kernel_rfl | (intro w; kernel_rfl) | decide
  z194 := by first | kernel_rfl | (intro w; kernel_rfl) | decide
  v194 := by first | kernel_rfl | (intro w; kernel_rfl) | decide
  t196 := by first | kernel_rfl | (intro w; kernel_rfl) | decide
  a196 := by first | kernel_rfl | (intro w; kernel_rfl) | decide
  z196 := by first | kernel_rfl | (intro w; kernel_rfl) | decide
  v196 := by first | kernel_rfl | (intro w; kernel_rfl) | decide
  t198 := by first | kernel_rfl | (intro w; kernel_rfl) | decide
  a198 := by first | kernel_rfl | (intro w; kernel_rfl) | decide
  z198 := by first | kernel_rfl | (intro w; kernel_rfl) | decide
  v198 := by first | kernel_rfl | (intro w; kernel_rfl) | decide
  t201 := by first | kernel_rfl | (intro w; kernel_rfl) | decide
  a201 := by first | kernel_rfl | (intro w; kernel_rfl) | decide
  z201 := by first | kernel_rfl | (intro w; kernel_rfl) | decide
  v201 := by first | kernel_rfl | (intro w; kernel_rfl) | decide
  t226 := by first | kernel_rfl | (intro w; kernel_rfl) | decide
  a226 := by first | kernel_rfl | (intro w; kernel_rfl) | decide
  z226 := by first | kernel_rfl | (intro w; kernel_rfl) | decide
  v226 := by first | kernel_rfl | (intro w; kernel_rfl) | decide
  t227 := by first | kernel_rfl | (intro w; kernel_rfl) | decide
  a227 := by first | kernel_rfl | (intro w; kernel_rfl) | decide
  z227 := by first | kernel_rfl | (intro w; kernel_rfl) | decide
  v227 := by first | kernel_rfl | (intro w; kernel_rfl) | decide
  g7 := by first | kernel_rfl | (intro w; kernel_rfl) | decide
  g9 := by first | kernel_rfl | (intro w; kernel_rfl) | decide
end Go.Proofs.YtlcdhahnngfjhaaDoor
