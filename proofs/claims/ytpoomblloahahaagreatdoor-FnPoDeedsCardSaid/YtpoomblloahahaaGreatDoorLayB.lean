/- The shelf's structures at this program (printed by tools/lay.py). -/
import Derived.Shelf.Bin.Lays
import Derived.Test.YtpoomblloahahaaGreatDoorChecked
namespace Go.Lib
end Go.Lib
namespace Go.Shelf
end Go.Shelf
namespace Go.Proofs.YtpoomblloahahaaGreatDoor
open Go.Proofs Go.Shelf Go.Lib
set_option linter.unusedVariables false
set_option maxRecDepth 100000
def renB : Ren where
  f := fun n => if n = 36 then 25 else if n = 39 then 26 else if n = 42 then 24 else 0
  t := fun n => if n = 0 then 0 else if n = 5 then 5 else if n = 22 then 22 else if n = 23 then 27 else if n = 29 then 28 else if n = 33 then 26 else if n = 37 then 88 else if n = 45 then 36 else 0
  g := fun n => 0
theorem lays_LaysBin_n42 : LaysBin.n42 Tryz.prog renB where
  mixed := by first | kernel_rfl | (intro w; kernel_rfl) | decide
  f42 := by first | kernel_rfl | (intro w; kernel_rfl) | decide
  t0 := by first | kernel_rfl | (intro w; kernel_rfl) | decide
  a0 := by first | kernel_rfl | (intro w; kernel_rfl) | decide
  z0 := by first | kernel_rfl | (intro w; kernel_rfl) | decide
  v0 := by first | kernel_rfl | (intro w; kernel_rfl) | decide
  i0 := by first | kernel_rfl | (intro w; kernel_rfl) | decide
  t5 := by first | kernel_rfl | (intro w; kernel_rfl) | decide
  a5 := by first | kernel_rfl | (intro w; kernel_rfl) | decide
  z5 := by first | kernel_rfl | (intro w; kernel_rfl) | decide
  v5 := by first | kernel_rfl | (intro w; kernel_rfl) | decide
  i5 := by first | kernel_rfl | (intro w; kernel_rfl) | decide
  t22 := by first | kernel_rfl | (intro w; kernel_rfl) | decide
  a22 := by first | kernel_rfl | (intro w; kernel_rfl) | decide
  z22 := by first | kernel_rfl | (intro w; kernel_rfl) | decide
  v22 := by first | kernel_rfl | (intro w; kernel_rfl) | decide
  i22 := by first | kernel_rfl | (intro w; kernel_rfl) | decide
  t33 := by first | kernel_rfl | (intro w; kernel_rfl) | decide
  a33 := by first | kernel_rfl | (intro w; kernel_rfl) | decide
  z33 := by first | kernel_rfl | (intro w; kernel_rfl) | decide
  v33 := by first | kernel_rfl | (intro w; kernel_rfl) | decide
  i33 := by first | kernel_rfl | (intro w; kernel_rfl) | decide
  t37 := by first | kernel_rfl | (intro w; kernel_rfl) | decide
  a37 := by first | kernel_rfl | (intro w; kernel_rfl) | decide
  z37 := by first | kernel_rfl | (intro w; kernel_rfl) | decide
  v37 := by first | kernel_rfl | (intro w; kernel_rfl) | decide
  i37 := by first | kernel_rfl | (intro w; kernel_rfl) | decide
  t45 := by first | kernel_rfl | (intro w; kernel_rfl) | decide
  a45 := by first | kernel_rfl | (intro w; kernel_rfl) | decide
  z45 := by first | kernel_rfl | (intro w; kernel_rfl) | decide
  v45 := by first | kernel_rfl | (intro w; kernel_rfl) | decide
  i45 := by first | kernel_rfl | (intro w; kernel_rfl) | decide
theorem lays_LaysBin_n36 : LaysBin.n36 Tryz.prog renB where
  mixed := by first | kernel_rfl | (intro w; kernel_rfl) | decide
  f36 := by first | kernel_rfl | (intro w; kernel_rfl) | decide
  t0 := by first | kernel_rfl | (intro w; kernel_rfl) | decide
  a0 := by first | kernel_rfl | (intro w; kernel_rfl) | decide
  z0 := by first | kernel_rfl | (intro w; kernel_rfl) | decide
  v0 := by first | kernel_rfl | (intro w; kernel_rfl) | decide
  i0 := by first | kernel_rfl | (intro w; kernel_rfl) | decide
  t5 := by first | kernel_rfl | (intro w; kernel_rfl) | decide
  a5 := by first | kernel_rfl | (intro w; kernel_rfl) | decide
  z5 := by first | kernel_rfl | (intro w; kernel_rfl) | decide
  v5 := by first | kernel_rfl | (intro w; kernel_rfl) | decide
  i5 := by first | kernel_rfl | (intro w; kernel_rfl) | decide
  t22 := by first | kernel_rfl | (intro w; kernel_rfl) | decide
  a22 := by first | kernel_rfl | (intro w; kernel_rfl) | decide
  z22 := by first | kernel_rfl | (intro w; kernel_rfl) | decide
  v22 := by first | kernel_rfl | (intro w; kernel_rfl) | decide
  i22 := by first | kernel_rfl | (intro w; kernel_rfl) | decide
  t23 := by first | kernel_rfl | (intro w; kernel_rfl) | decide
  a23 := by first | kernel_rfl | (intro w; kernel_rfl) | decide
  z23 := by first | kernel_rfl | (intro w; kernel_rfl) | decide
  v23 := by first | kernel_rfl | (intro w; kernel_rfl) | decide
  i23 := by first | kernel_rfl | (intro w; kernel_rfl) | decide
  t37 := by first | kernel_rfl | (intro w; kernel_rfl) | decide
  a37 := by first | kernel_rfl | (intro w; kernel_rfl) | decide
  z37 := by first | kernel_rfl | (intro w; kernel_rfl) | decide
  v37 := by first | kernel_rfl | (intro w; kernel_rfl) | decide
  i37 := by first | kernel_rfl | (intro w; kernel_rfl) | decide
  t45 := by first | kernel_rfl | (intro w; kernel_rfl) | decide
  a45 := by first | kernel_rfl | (intro w; kernel_rfl) | decide
  z45 := by first | kernel_rfl | (intro w; kernel_rfl) | decide
  v45 := by first | kernel_rfl | (intro w; kernel_rfl) | decide
  i45 := by first | kernel_rfl | (intro w; kernel_rfl) | decide
theorem lays_LaysBin_n39 : LaysBin.n39 Tryz.prog renB where
  mixed := by first | kernel_rfl | (intro w; kernel_rfl) | decide
  f39 := by first | kernel_rfl | (intro w; kernel_rfl) | decide
  t0 := by first | kernel_rfl | (intro w; kernel_rfl) | decide
  a0 := by first | kernel_rfl | (intro w; kernel_rfl) | decide
  z0 := by first | kernel_rfl | (intro w; kernel_rfl) | decide
  v0 := by first | kernel_rfl | (intro w; kernel_rfl) | decide
  i0 := by first | kernel_rfl | (intro w; kernel_rfl) | decide
  t5 := by first | kernel_rfl | (intro w; kernel_rfl) | decide
  a5 := by first | kernel_rfl | (intro w; kernel_rfl) | decide
  z5 := by first | kernel_rfl | (intro w; kernel_rfl) | decide
  v5 := by first | kernel_rfl | (intro w; kernel_rfl) | decide
  i5 := by first | kernel_rfl | (intro w; kernel_rfl) | decide
  t22 := by first | kernel_rfl | (intro w; kernel_rfl) | decide
  a22 := by first | kernel_rfl | (intro w; kernel_rfl) | decide
  z22 := by first | kernel_rfl | (intro w; kernel_rfl) | decide
  v22 := by first | kernel_rfl | (intro w; kernel_rfl) | decide
  i22 := by first | kernel_rfl | (intro w; kernel_rfl) | decide
  t29 := by first | kernel_rfl | (intro w; kernel_rfl) | decide
  a29 := by first | kernel_rfl | (intro w; kernel_rfl) | decide
  z29 := by first | kernel_rfl | (intro w; kernel_rfl) | decide
  v29 := by first | kernel_rfl | (intro w; kernel_rfl) | decide
  i29 := by first | kernel_rfl | (intro w; kernel_rfl) | decide
  t37 := by first | kernel_rfl | (intro w; kernel_rfl) | decide
  a37 := by first | kernel_rfl | (intro w; kernel_rfl) | decide
  z37 := by first | kernel_rfl | (intro w; kernel_rfl) | decide
  v37 := by first | kernel_rfl | (intro w; kernel_rfl) | decide
  i37 := by first | kernel_rfl | (intro w; kernel_rfl) | decide
  t45 := by first | kernel_rfl | (intro w; kernel_rfl) | decide
  a45 := by first | kernel_rfl | (intro w; kernel_rfl) | decide
  z45 := by first | kernel_rfl | (intro w; kernel_rfl) | decide
  v45 := by first | kernel_rfl | (intro w; kernel_rfl) | decide
  i45 := by first | kernel_rfl | (intro w; kernel_rfl) | decide
end Go.Proofs.YtpoomblloahahaaGreatDoor
