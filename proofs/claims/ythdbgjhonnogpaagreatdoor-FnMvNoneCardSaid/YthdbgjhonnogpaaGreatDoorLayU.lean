/- The shelf's structures at this program (printed by tools/lay.py). -/
import Derived.Shelf.Lays
import Derived.Shelf.Strings.BuilderX
import Derived.Test.YthdbgjhonnogpaaGreatDoorChecked
namespace Go.Lib
end Go.Lib
namespace Go.Shelf
end Go.Shelf
namespace Go.Proofs.YthdbgjhonnogpaaGreatDoor
open Go.Proofs Go.Shelf Go.Lib
set_option linter.unusedVariables false
set_option maxRecDepth 100000
def ren : Ren where
  f := fun n => if n = 118 then 89 else if n = 158 then 57 else if n = 165 then 74 else if n = 166 then 75 else if n = 167 then 76 else if n = 168 then 90 else if n = 169 then 77 else if n = 197 then 88 else if n = 203 then 79 else if n = 230 then 78 else if n = 240 then 86 else if n = 241 then 87 else if n = 242 then 98 else if n = 260 then 97 else if n = 262 then 92 else if n = 270 then 91 else if n = 274 then 104 else if n = 275 then 105 else if n = 276 then 95 else if n = 277 then 96 else if n = 278 then 103 else if n = 313 then 99 else 0
  t := fun n => if n = 0 then 0 else if n = 3 then 3 else if n = 4 then 4 else if n = 5 then 5 else if n = 9 then 9 else if n = 20 then 20 else if n = 21 then 21 else if n = 37 then 113 else if n = 46 then 71 else if n = 51 then 156 else if n = 70 then 112 else if n = 72 then 115 else if n = 75 then 118 else if n = 76 then 119 else if n = 80 then 122 else if n = 105 then 131 else if n = 107 then 124 else if n = 119 then 152 else if n = 127 then 130 else if n = 138 then 154 else if n = 139 then 155 else if n = 160 then 157 else if n = 162 then 145 else if n = 164 then 139 else if n = 203 then 143 else if n = 206 then 162 else if n = 208 then 164 else 0
  g := fun n => if n = 3 then 9 else if n = 4 then 10 else if n = 13 then 3 else 0
theorem lays_Lays_n158 : Lays.n158 Tryz.prog ren where
  mixed := by first | kernel_rfl | (intro w; kernel_rfl) | decide
  f118 := by first | kernel_rfl | (intro w; kernel_rfl) | decide
  f158 := by first | kernel_rfl | (intro w; kernel_rfl) | decide
  f165 := by first | kernel_rfl | (intro w; kernel_rfl) | decide
  f166 := by first | kernel_rfl | (intro w; kernel_rfl) | decide
  f167 := by first | kernel_rfl | (intro w; kernel_rfl) | decide
  f168 := by first | kernel_rfl | (intro w; kernel_rfl) | decide
  f169 := by first | kernel_rfl | (intro w; kernel_rfl) | decide
  f197 := by first | kernel_rfl | (intro w; kernel_rfl) | decide
  f203 := by first | kernel_rfl | (intro w; kernel_rfl) | decide
  f230 := by first | kernel_rfl | (intro w; kernel_rfl) | decide
  f240 := by first | kernel_rfl | (intro w; kernel_rfl) | decide
  f241 := by first | kernel_rfl | (intro w; kernel_rfl) | decide
  f242 := by first | kernel_rfl | (intro w; kernel_rfl) | decide
  f260 := by first | kernel_rfl | (intro w; kernel_rfl) | decide
  f262 := by first | kernel_rfl | (intro w; kernel_rfl) | decide
  f270 := by first | kernel_rfl | (intro w; kernel_rfl) | decide
  f274 := by first | kernel_rfl | (intro w; kernel_rfl) | decide
  f275 := by first | kernel_rfl | (intro w; kernel_rfl) | decide
  f276 := by first | kernel_rfl | (intro w; kernel_rfl) | decide
  f277 := by first | kernel_rfl | (intro w; kernel_rfl) | decide
  f278 := by first | kernel_rfl | (intro w; kernel_rfl) | decide
  f313 := by first | kernel_rfl | (intro w; kernel_rfl) | decide
  t0 := by first | kernel_rfl | (intro w; kernel_rfl) | decide
  a0 := by first | kernel_rfl | (intro w; kernel_rfl) | decide
  z0 := by first | kernel_rfl | (intro w; kernel_rfl) | decide
  v0 := by first | kernel_rfl | (intro w; kernel_rfl) | decide
  t3 := by first | kernel_rfl | (intro w; kernel_rfl) | decide
  a3 := by first | kernel_rfl | (intro w; kernel_rfl) | decide
  z3 := by first | kernel_rfl | (intro w; kernel_rfl) | decide
  v3 := by first | kernel_rfl | (intro w; kernel_rfl) | decide
  t4 := by first | kernel_rfl | (intro w; kernel_rfl) | decide
  a4 := by first | kernel_rfl | (intro w; kernel_rfl) | decide
  z4 := by first | kernel_rfl | (intro w; kernel_rfl) | decide
  v4 := by first | kernel_rfl | (intro w; kernel_rfl) | decide
  t5 := by first | kernel_rfl | (intro w; kernel_rfl) | decide
  a5 := by first | kernel_rfl | (intro w; kernel_rfl) | decide
  z5 := by first | kernel_rfl | (intro w; kernel_rfl) | decide
  v5 := by first | kernel_rfl | (intro w; kernel_rfl) | decide
  t9 := by first | kernel_rfl | (intro w; kernel_rfl) | decide
  a9 := by first | kernel_rfl | (intro w; kernel_rfl) | decide
  z9 := by first | kernel_rfl | (intro w; kernel_rfl) | decide
  v9 := by first | kernel_rfl | (intro w; kernel_rfl) | decide
  t20 := by first | kernel_rfl | (intro w; kernel_rfl) | decide
  a20 := by first | kernel_rfl | (intro w; kernel_rfl) | decide
  z20 := by first | kernel_rfl | (intro w; kernel_rfl) | decide
  v20 := by first | kernel_rfl | (intro w; kernel_rfl) | decide
  t21 := by first | kernel_rfl | (intro w; kernel_rfl) | decide
  a21 := by first | kernel_rfl | (intro w; kernel_rfl) | decide
  z21 := by first | kernel_rfl | (intro w; kernel_rfl) | decide
  v21 := by first | kernel_rfl | (intro w; kernel_rfl) | decide
  t37 := by first | kernel_rfl | (intro w; kernel_rfl) | decide
  a37 := by first | kernel_rfl | (intro w; kernel_rfl) | decide
  z37 := by first | kernel_rfl | (intro w; kernel_rfl) | decide
  v37 := by first | kernel_rfl | (intro w; kernel_rfl) | decide
  t46 := by first | kernel_rfl | (intro w; kernel_rfl) | decide
  a46 := by first | kernel_rfl | (intro w; kernel_rfl) | decide
  z46 := by first | kernel_rfl | (intro w; kernel_rfl) | decide
  v46 := by first | kernel_rfl | (intro w; kernel_rfl) | decide
  t51 := by first | kernel_rfl | (intro w; kernel_rfl) | decide
  a51 := by first | kernel_rfl | (intro w; kernel_rfl) | decide
  z51 := by first | kernel_rfl | (intro w; kernel_rfl) | decide
  v51 := by first | kernel_rfl | (intro w; kernel_rfl) | decide
  t70 := by first | kernel_rfl | (intro w; kernel_rfl) | decide
  a70 := by first | kernel_rfl | (intro w; kernel_rfl) | decide
  z70 := by first | kernel_rfl | (intro w; kernel_rfl) | decide
  v70 := by first | kernel_rfl | (intro w; kernel_rfl) | decide
  t72 := by first | kernel_rfl | (intro w; kernel_rfl) | decide
  a72 := by first | kernel_rfl | (intro w; kernel_rfl) | decide
  z72 := by first | kernel_rfl | (intro w; kernel_rfl) | decide
  v72 := by first | kernel_rfl | (intro w; kernel_rfl) | decide
  t75 := by first | kernel_rfl | (intro w; kernel_rfl) | decide
  a75 := by first | kernel_rfl | (intro w; kernel_rfl) | decide
  z75 := by first | kernel_rfl | (intro w; kernel_rfl) | decide
  v75 := by first | kernel_rfl | (intro w; kernel_rfl) | decide
  t76 := by first | kernel_rfl | (intro w; kernel_rfl) | decide
  a76 := by first | kernel_rfl | (intro w; kernel_rfl) | decide
  z76 := by first | kernel_rfl | (intro w; kernel_rfl) | decide
  v76 := by first | kernel_rfl | (intro w; kernel_rfl) | decide
  t105 := by first | kernel_rfl | (intro w; kernel_rfl) | decide
  a105 := by first | kernel_rfl | (intro w; kernel_rfl) | decide
  z105 := by first | kernel_rfl | (intro w; kernel_rfl) | decide
  v105 := by first | kernel_rfl | (intro w; kernel_rfl) | decide
  t107 := by first | kernel_rfl | (intro w; kernel_rfl) | decide
  a107 := by first | kernel_rfl | (intro w; kernel_rfl) | decide
  z107 := by first | kernel_rfl | (intro w; kernel_rfl) | decide
  v107 := by first | kernel_rfl | (intro w; kernel_rfl) | decide
  t119 := by first | kernel_rfl | (intro w; kernel_rfl) | decide
  a119 := by first | kernel_rfl | (intro w; kernel_rfl) | decide
  z119 := by first | kernel_rfl | (intro w; kernel_rfl) | decide
  t127 := by first | kernel_rfl | (intro w; kernel_rfl) | decide
  a127 := by first | kernel_rfl | (intro w; kernel_rfl) | decide
  z127 := by first | kernel_rfl | (intro w; kernel_rfl) | decide
  v127 := by first | kernel_rfl | (intro w; kernel_rfl) | decide
  t138 := by first | kernel_rfl | (intro w; kernel_rfl) | decide
  a138 := by first | kernel_rfl | (intro w; kernel_rfl) | decide
  z138 := by first | kernel_rfl | (intro w; kernel_rfl) | decide
  v138 := by first | kernel_rfl | (intro w; kernel_rfl) | decide
  t139 := by first | kernel_rfl | (intro w; kernel_rfl) | decide
  a139 := by first | kernel_rfl | (intro w; kernel_rfl) | decide
  z139 := by first | kernel_rfl | (intro w; kernel_rfl) | decide
  v139 := by first | kernel_rfl | (intro w; kernel_rfl) | decide
  t160 := by first | kernel_rfl | (intro w; kernel_rfl) | decide
  a160 := by first | kernel_rfl | (intro w; kernel_rfl) | decide
  z160 := by first | kernel_rfl | (intro w; kernel_rfl) | decide
  v160 := by first | kernel_rfl | (intro w; kernel_rfl) | decide
  t162 := by first | kernel_rfl | (intro w; kernel_rfl) | decide
  a162 := by first | kernel_rfl | (intro w; kernel_rfl) | decide
  z162 := by first | kernel_rfl | (intro w; kernel_rfl) | decide
  v162 := by first | kernel_rfl | (intro w; kernel_rfl) | decide
  t164 := by first | kernel_rfl | (intro w; kernel_rfl) | decide
  a164 := by first | kernel_rfl | (intro w; kernel_rfl) | decide
  z164 := by first | kernel_rfl | (intro w; kernel_rfl) | decide
  v164 := by first | kernel_rfl | (intro w; kernel_rfl) | decide
  t203 := by first | kernel_rfl | (intro w; kernel_rfl) | decide
  a203 := by first | kernel_rfl | (intro w; kernel_rfl) | decide
  z203 := by first | kernel_rfl | (intro w; kernel_rfl) | decide
  v203 := by first | kernel_rfl | (intro w; kernel_rfl) | decide
  t206 := by first | kernel_rfl | (intro w; kernel_rfl) | decide
  a206 := by first | kernel_rfl | (intro w; kernel_rfl) | decide
  z206 := by first | kernel_rfl | (intro w; kernel_rfl) | decide
  v206 := by first | kernel_rfl | (intro w; kernel_rfl) | decide
  t208 := by first | kernel_rfl | (intro w; kernel_rfl) | decide
  a208 := by first | kernel_rfl | (intro w; kernel_rfl) | decide
  z208 := by first | kernel_rfl | (intro w; kernel_rfl) | decide
  v208 := by first | kernel_rfl | (intro w; kernel_rfl) | decide
  g3 := by first | kernel_rfl | (intro w; kernel_rfl) | decide
  g4 := by first | kernel_rfl | (intro w; kernel_rfl) | decide
  g13 := by first | kernel_rfl | (intro w; kernel_rfl) | decide
theorem lays_Builder_Extra : Builder.Extra Tryz.prog ren where
  sizeBuilder := by first | kernel_rfl | (intro w; kernel_rfl) | decide
  liesBuilder := by first | kernel_rfl | (intro w; kernel_rfl) | decide
  t5 := by first | kernel_rfl | (intro w; kernel_rfl) | decide
  a5 := by first | kernel_rfl | (intro w; kernel_rfl) | decide
  z5 := by first | kernel_rfl | (intro w; kernel_rfl) | decide
  v5 := by first | kernel_rfl | (intro w; kernel_rfl) | decide
  infoByte := by first | kernel_rfl | (intro w; kernel_rfl) | decide
  cellsByte := by first | kernel_rfl | (intro w; kernel_rfl) | decide
  sizeByte := by first | kernel_rfl | (intro w; kernel_rfl) | decide
  neB5 := by first | kernel_rfl | (intro w; kernel_rfl) | decide
end Go.Proofs.YthdbgjhonnogpaaGreatDoor
