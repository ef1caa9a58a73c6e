/- The shelf's structures at this program (printed by tools/lay.py). -/
import Derived.Shelf.Lays
import Derived.Shelf.Strings.BuilderX
import Derived.Lib.LaidCase
import Derived.Lib.LaidU8T
import Derived.Lib.LaidU8
import Derived.Test.YtkbbncobgmepbaaDoorChecked
namespace Go.Lib
end Go.Lib
namespace Go.Shelf
end Go.Shelf
namespace Go.Proofs.YtkbbncobgmepbaaDoor
open Go.Proofs Go.Shelf Go.Lib
set_option linter.unusedVariables false
set_option maxRecDepth 100000
def ren : Ren where
  f := fun n => if n = 118 then 69 else if n = 159 then 44 else if n = 165 then 55 else if n = 166 then 53 else if n = 167 then 56 else if n = 168 then 70 else if n = 169 then 54 else if n = 197 then 68 else if n = 204 then 58 else if n = 230 then 57 else if n = 240 then 66 else if n = 241 then 67 else if n = 242 then 81 else if n = 260 then 80 else if n = 262 then 72 else if n = 270 then 71 else if n = 274 then 91 else if n = 275 then 92 else if n = 276 then 78 else if n = 277 then 79 else if n = 278 then 90 else if n = 313 then 82 else 0
  t := fun n => if n = 0 then 0 else if n = 3 then 3 else if n = 4 then 4 else if n = 5 then 5 else if n = 9 then 9 else if n = 20 then 20 else if n = 21 then 21 else if n = 37 then 79 else if n = 46 then 88 else if n = 51 then 121 else if n = 70 then 78 else if n = 72 then 81 else if n = 75 then 48 else if n = 76 then 82 else if n = 80 then 57 else if n = 105 then 99 else if n = 107 then 87 else if n = 119 then 126 else if n = 127 then 98 else if n = 138 then 128 else if n = 139 then 129 else if n = 160 then 130 else if n = 162 then 114 else if n = 164 then 108 else if n = 203 then 112 else if n = 206 then 140 else if n = 208 then 142 else 0
  g := fun n => if n = 3 then 3 else if n = 4 then 4 else if n = 13 then 1 else 0
theorem lays_Lays_n159 : Lays.n159 Tryd.prog ren where
  mixed := by first | kernel_rfl | (intro w; kernel_rfl) | decide
  f118 := by first | kernel_rfl | (intro w; kernel_rfl) | decide
  f159 := by first | kernel_rfl | (intro w; kernel_rfl) | decide
  f165 := by first | kernel_rfl | (intro w; kernel_rfl) | decide
  f166 := by first | kernel_rfl | (intro w; kernel_rfl) | decide
  f167 := by first | kernel_rfl | (intro w; kernel_rfl) | decide
  f168 := by first | kernel_rfl | (intro w; kernel_rfl) | decide
  f169 := by first | kernel_rfl | (intro w; kernel_rfl) | decide
  f197 := by first | kernel_rfl | (intro w; kernel_rfl) | decide
  f204 := by first | kernel_rfl | (intro w; kernel_rfl) | decide
  f230 := by first | kernel_rfl | (intro w; kernel_rfl) | decide
  f240 := by first | kernel_rfl | (intro w; kernel_rfl) | decide
  f241 := by first | kernel_rfl | (intro w; kernel_rfl) | decide
  f242 := by first | kernel_rfl | (intro w; kernel_rfl) | decide
  f260 := by first | kernel_rfl | (intro w; kernel_rfl) | decide
  f262 := by first | kernel_rfl | (intro w; kernel_rfl) | decide
  f270 := by first | kernel_rfl | (intro w; kernel_rfl) | decide
  f274 := by first | kernel_rfl | (intro w; kernel_rfl) | decide
  f275 := by first | kernel_rfl | (intro w; kernel_rfl) | decide
  f276 := by first | kernel_rfl | (intro w; kernel_rfl) | decide
  f277 := by first | kernel_rfl | (intro w; kernel_rfl) | decide
  f278 := by first | kernel_rfl | (intro w; kernel_rfl) | decide
  f313 := by first | kernel_rfl | (intro w; kernel_rfl) | decide
  t0 := by first | kernel_rfl | (intro w; kernel_rfl) | decide
  a0 := by first | kernel_rfl | (intro w; kernel_rfl) | decide
  z0 := by first | kernel_rfl | (intro w; kernel_rfl) | decide
  v0 := by first | kernel_rfl | (intro w; kernel_rfl) | decide
  t3 := by first | kernel_rfl | (intro w; kernel_rfl) | decide
  a3 := by first | kernel_rfl | (intro w; kernel_rfl) | decide
  z3 := by first | kernel_rfl | (intro w; kernel_rfl) | decide
  v3 := by first | kernel_rfl | (intro w; kernel_rfl) | decide
  t4 := by first | kernel_rfl | (intro w; kernel_rfl) | decide
  a4 := by first | kernel_rfl | (intro w; kernel_rfl) | decide
  z4 := by first | kernel_rfl | (intro w; kernel_rfl) | decide
  v4 := by first | kernel_rfl | (intro w; kernel_rfl) | decide
  t5 := by first | kernel_rfl | (intro w; kernel_rfl) | decide
  a5 := by first | kernel_rfl | (intro w; kernel_rfl) | decide
  z5 := by first | kernel_rfl | (intro w; kernel_rfl) | decide
  v5 := by first | kernel_rfl | (intro w; kernel_rfl) | decide
  t9 := by first | kernel_rfl | (intro w; kernel_rfl) | decide
  a9 := by first | kernel_rfl | (intro w; kernel_rfl) | decide
  z9 := by first | kernel_rfl | (intro w; kernel_rfl) | decide
  v9 := by first | kernel_rfl | (intro w; kernel_rfl) | decide
  t20 := by first | kernel_rfl | (intro w; kernel_rfl) | decide
  a20 := by first | kernel_rfl | (intro w; kernel_rfl) | decide
  z20 := by first | kernel_rfl | (intro w; kernel_rfl) | decide
  v20 := by first | kernel_rfl | (intro w; kernel_rfl) | decide
  t21 := by first | kernel_rfl | (intro w; kernel_rfl) | decide
  a21 := by first | kernel_rfl | (intro w; kernel_rfl) | decide
  z21 := by first | kernel_rfl | (intro w; kernel_rfl) | decide
  v21 := by first | kernel_rfl | (intro w; kernel_rfl) | decide
  t37 := by first | kernel_rfl | (intro w; kernel_rfl) | decide
  a37 := by first | kernel_rfl | (intro w; kernel_rfl) | decide
  z37 := by first | kernel_rfl | (intro w; kernel_rfl) | decide
  v37 := by first | kernel_rfl | (intro w; kernel_rfl) | decide
  t46 := by first | kernel_rfl | (intro w; kernel_rfl) | decide
  a46 := by first | kernel_rfl | (intro w; kernel_rfl) | decide
  z46 := by first | kernel_rfl | (intro w; kernel_rfl) | decide
  v46 := by first | kernel_rfl | (intro w; kernel_rfl) | decide
  t51 := by first | kernel_rfl | (intro w; kernel_rfl) | decide
  a51 := by first | kernel_rfl | (intro w; kernel_rfl) | decide
  z51 := by first | kernel_rfl | (intro w; kernel_rfl) | decide
  v51 := by first | kernel_rfl | (intro w; kernel_rfl) | decide
  t70 := by first | kernel_rfl | (intro w; kernel_rfl) | decide
  a70 := by first | kernel_rfl | (intro w; kernel_rfl) | decide
  z70 := by first | kernel_rfl | (intro w; kernel_rfl) | decide
  v70 := by first | kernel_rfl | (intro w; kernel_rfl) | decide
  t72 := by first | kernel_rfl | (intro w; kernel_rfl) | decide
  a72 := by first | kernel_rfl | (intro w; kernel_rfl) | decide
  z72 := by first | kernel_rfl | (intro w; kernel_rfl) | decide
  v72 := by first | kernel_rfl | (intro w; kernel_rfl) | decide
  t75 := by first | kernel_rfl | (intro w; kernel_rfl) | decide
  a75 := by first | kernel_rfl | (intro w; kernel_rfl) | decide
  z75 := by first | kernel_rfl | (intro w; kernel_rfl) | decide
  v75 := by first | kernel_rfl | (intro w; kernel_rfl) | decide
  t76 := by first | kernel_rfl | (intro w; kernel_rfl) | decide
  a76 := by first | kernel_rfl | (intro w; kernel_rfl) | decide
  z76 := by first | kernel_rfl | (intro w; kernel_rfl) | decide
  v76 := by first | kernel_rfl | (intro w; kernel_rfl) | decide
  t105 := by first | kernel_rfl | (intro w; kernel_rfl) | decide
  a105 := by first | kernel_rfl | (intro w; kernel_rfl) | decide
  z105 := by first | kernel_rfl | (intro w; kernel_rfl) | decide
  v105 := by first | kernel_rfl | (intro w; kernel_rfl) | decide
  t107 := by first | kernel_rfl | (intro w; kernel_rfl) | decide
  a107 := by first | kernel_rfl | (intro w; kernel_rfl) | decide
  z107 := by first | kernel_rfl | (intro w; kernel_rfl) | decide
  v107 := by first | kernel_rfl | (intro w; kernel_rfl) | decide
  t119 := by first | kernel_rfl | (intro w; kernel_rfl) | decide
  a119 := by first | kernel_rfl | (intro w; kernel_rfl) | decide
  z119 := by first | kernel_rfl | (intro w; kernel_rfl) | decide
  t127 := by first | kernel_rfl | (intro w; kernel_rfl) | decide
  a127 := by first | kernel_rfl | (intro w; kernel_rfl) | decide
  z127 := by first | kernel_rfl | (intro w; kernel_rfl) | decide
  v127 := by first | kernel_rfl | (intro w; kernel_rfl) | decide
  t138 := by first | kernel_rfl | (intro w; kernel_rfl) | decide
  a138 := by first | kernel_rfl | (intro w; kernel_rfl) | decide
  z138 := by first | kernel_rfl | (intro w; kernel_rfl) | decide
  v138 := by first | kernel_rfl | (intro w; kernel_rfl) | decide
  t139 := by first | kernel_rfl | (intro w; kernel_rfl) | decide
  a139 := by first | kernel_rfl | (intro w; kernel_rfl) | decide
  z139 := by first | kernel_rfl | (intro w; kernel_rfl) | decide
  v139 := by first | kernel_rfl | (intro w; kernel_rfl) | decide
  t160 := by first | kernel_rfl | (intro w; kernel_rfl) | decide
  a160 := by first | kernel_rfl | (intro w; kernel_rfl) | decide
  z160 := by first | kernel_rfl | (intro w; kernel_rfl) | decide
  v160 := by first | kernel_rfl | (intro w; kernel_rfl) | decide
  t162 := by first | kernel_rfl | (intro w; kernel_rfl) | decide
  a162 := by first | kernel_rfl | (intro w; kernel_rfl) | decide
  z162 := by first | kernel_rfl | (intro w; kernel_rfl) | decide
  v162 := by first | kernel_rfl | (intro w; kernel_rfl) | decide
  t164 := by first | kernel_rfl | (intro w; kernel_rfl) | decide
  a164 := by first | kernel_rfl | (intro w; kernel_rfl) | decide
  z164 := by first | kernel_rfl | (intro w; kernel_rfl) | decide
  v164 := by first | kernel_rfl | (intro w; kernel_rfl) | decide
  t203 := by first | kernel_rfl | (intro w; kernel_rfl) | decide
  a203 := by first | kernel_rfl | (intro w; kernel_rfl) | decide
  z203 := by first | kernel_rfl | (intro w; kernel_rfl) | decide
  v203 := by first | kernel_rfl | (intro w; kernel_rfl) | decide
  t206 := by first | kernel_rfl | (intro w; kernel_rfl) | decide
  a206 := by first | kernel_rfl | (intro w; kernel_rfl) | decide
  z206 := by first | kernel_rfl | (intro w; kernel_rfl) | decide
  v206 := by first | kernel_rfl | (intro w; kernel_rfl) | decide
  t208 := by first | kernel_rfl | (intro w; kernel_rfl) | decide
  a208 := by first | kernel_rfl | (intro w; kernel_rfl) | decide
  z208 := by first | kernel_rfl | (intro w; kernel_rfl) | decide
  v208 := by first | kernel_rfl | (intro w; kernel_rfl) | decide
  g3 := by first | kernel_rfl | (intro w; kernel_rfl) | decide
  g4 := by first | kernel_rfl | (intro w; kernel_rfl) | decide
  g13 := by first | kernel_rfl | (intro w; kernel_rfl) | decide
theorem lays_Builder_Extra : Builder.Extra Tryd.prog ren where
  sizeBuilder := by first | kernel_rfl | (intro w; kernel_rfl) | decide
  liesBuilder := by first | kernel_rfl | (intro w; kernel_rfl) | decide
  t5 := by first | kernel_rfl | (intro w; kernel_rfl) | decide
  a5 := by first | kernel_rfl | (intro w; kernel_rfl) | decide
  z5 := by first | kernel_rfl | (intro w; kernel_rfl) | decide
  v5 := by first | kernel_rfl | (intro w; kernel_rfl) | decide
  infoByte := by first | kernel_rfl | (intro w; kernel_rfl) | decide
  cellsByte := by first | kernel_rfl | (intro w; kernel_rfl) | decide
  sizeByte := by first | kernel_rfl | (intro w; kernel_rfl) | decide
  neB5 := by first | kernel_rfl | (intro w; kernel_rfl) | decide
theorem lays_Lays_n274 : Lays.n274 Tryd.prog ren where
  mixed := by first | kernel_rfl | (intro w; kernel_rfl) | decide
  f274 := by first | kernel_rfl | (intro w; kernel_rfl) | decide
  t0 := by first | kernel_rfl | (intro w; kernel_rfl) | decide
  a0 := by first | kernel_rfl | (intro w; kernel_rfl) | decide
  z0 := by first | kernel_rfl | (intro w; kernel_rfl) | decide
  v0 := by first | kernel_rfl | (intro w; kernel_rfl) | decide
  t3 := by first | kernel_rfl | (intro w; kernel_rfl) | decide
  a3 := by first | kernel_rfl | (intro w; kernel_rfl) | decide
  z3 := by first | kernel_rfl | (intro w; kernel_rfl) | decide
  v3 := by first | kernel_rfl | (intro w; kernel_rfl) | decide
  t4 := by first | kernel_rfl | (intro w; kernel_rfl) | decide
  a4 := by first | kernel_rfl | (intro w; kernel_rfl) | decide
  z4 := by first | kernel_rfl | (intro w; kernel_rfl) | decide
  v4 := by first | kernel_rfl | (intro w; kernel_rfl) | decide
  t21 := by first | kernel_rfl | (intro w; kernel_rfl) | decide
  a21 := by first | kernel_rfl | (intro w; kernel_rfl) | decide
  z21 := by first | kernel_rfl | (intro w; kernel_rfl) | decide
  v21 := by first | kernel_rfl | (intro w; kernel_rfl) | decide
  t46 := by first | kernel_rfl | (intro w; kernel_rfl) | decide
  a46 := by first | kernel_rfl | (intro w; kernel_rfl) | decide
  z46 := by first | kernel_rfl | (intro w; kernel_rfl) | decide
  v46 := by first | kernel_rfl | (intro w; kernel_rfl) | decide
  t51 := by first | kernel_rfl | (intro w; kernel_rfl) | decide
  a51 := by first | kernel_rfl | (intro w; kernel_rfl) | decide
  z51 := by first | kernel_rfl | (intro w; kernel_rfl) | decide
  v51 := by first | kernel_rfl | (intro w; kernel_rfl) | decide
  t160 := by first | kernel_rfl | (intro w; kernel_rfl) | decide
  a160 := by first | kernel_rfl | (intro w; kernel_rfl) | decide
  z160 := by first | kernel_rfl | (intro w; kernel_rfl) | decide
  v160 := by first | kernel_rfl | (intro w; kernel_rfl) | decide
  t162 := by first | kernel_rfl | (intro w; kernel_rfl) | decide
  a162 := by first | kernel_rfl | (intro w; kernel_rfl) | decide
  z162 := by first | kernel_rfl | (intro w; kernel_rfl) | decide
  v162 := by first | kernel_rfl | (intro w; kernel_rfl) | decide
  t208 := by first | kernel_rfl | (intro w; kernel_rfl) | decide
  a208 := by first | kernel_rfl | (intro w; kernel_rfl) | decide
  z208 := by first | kernel_rfl | (intro w; kernel_rfl) | decide
  v208 := by first | kernel_rfl | (intro w; kernel_rfl) | decide
theorem lays_CaseExtra : CaseExtra Tryd.prog ren where
  n13 := by first | kernel_rfl | (intro w; kernel_rfl) | decide
  y13 := by first | kernel_rfl | (intro w; kernel_rfl) | decide
  c21 := by first | kernel_rfl | (intro w; kernel_rfl) | decide
  c51 := by first | kernel_rfl | (intro w; kernel_rfl) | decide
  c206 := by first | kernel_rfl | (intro w; kernel_rfl) | decide
  c208 := by first | kernel_rfl | (intro w; kernel_rfl) | decide
theorem lays_U8Types : U8Types Tryd.prog ren where
  t5 := by first | kernel_rfl | (intro w; kernel_rfl) | decide
  t119 := by first | kernel_rfl | (intro w; kernel_rfl) | decide
  t138 := by first | kernel_rfl | (intro w; kernel_rfl) | decide
  t139 := by first | kernel_rfl | (intro w; kernel_rfl) | decide
theorem lays_U8Extra : U8Extra Tryd.prog ren where
  n3 := by first | kernel_rfl | (intro w; kernel_rfl) | decide
  n4 := by first | kernel_rfl | (intro w; kernel_rfl) | decide
  y3 := by first | kernel_rfl | (intro w; kernel_rfl) | decide
  y4 := by first | kernel_rfl | (intro w; kernel_rfl) | decide
  c5 := by first | kernel_rfl | (intro w; kernel_rfl) | decide
  c119 := by first | kernel_rfl | (intro w; kernel_rfl) | decide
  c138 := by first | kernel_rfl | (intro w; kernel_rfl) | decide
end Go.Proofs.YtkbbncobgmepbaaDoor
