/- An argument reads behind the call as it did before; the opening of some kinds of arguments. -/
import Derived.Test.YthdbgjhonnogpaaDoorLaid
import Derived.Carry
namespace Go.Proofs.YthdbgjhonnogpaaDoor
open Go.ChangeShapes Go.WideShapes Go.ChangeAt Go.RowKit
section
variable {H : Type} {enc : TypeId × Value → H} {P : Program} {W W' : World}
theorem trod_keep {t : TypeId} {v : Value} {d : DataW H} {ps : List MemPlace} (hl : laidOutB P = true) (hr : P.readableRec t = true) (hrow : t < P.types.size) (h : DataW.Trod enc P W 0 (fun _ => true) true t v d ps) (hb : Below W.heap.size W W')
    (hlt : ∀ x ∈ ps, x.block < W.heap.size) {sp : Nat → Bool} (hsp : ∀ x ∈ ps, sp x.block = true) : DataW.Trod enc P W' 0 sp true t v d ps :=
  WideElems.Trod_stays hl hr hrow h (fun x hx => hb.same (hlt x hx)) hsp
end
end Go.Proofs.YthdbgjhonnogpaaDoor
