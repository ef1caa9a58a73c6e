/- An argument reads behind the call as it did before; the opening of some kinds of arguments. -/
import Derived.Test.YtlcdhahnngfjhaaDoorPost
import Derived.Carry
namespace Go.Proofs.YtlcdhahnngfjhaaDoor
open Go.ChangeShapes Go.WideShapes Go.ChangeAt Go.RowKit
section
variable {H : Type} {enc : TypeId × Value → H} {P : Program} {W W' : World}
theorem trod_keep {t : TypeId} {v : Value} {d : DataW H} {ps : List MemPlace} (hl : laidOutB P = true) (hr : P.readableRec t = true) (hrow : t < P.types.size) (h : DataW.Trod enc P W 0 (fun _ => true) true t v d ps) (hb : Below W.heap.size W W')
    (hlt : ∀ x ∈ ps, x.block < W.heap.size) {sp : Nat → Bool} (hsp : ∀ x ∈ ps, sp x.block = true) : DataW.Trod enc P W' 0 sp true t v d ps :=
  WideElems.Trod_stays hl hr hrow h (fun x hx => hb.same (hlt x hx)) hsp
end
theorem cellsU8 : (Tryd.prog).cellsOf 5 = 1 := by kernel_rfl
set_option maxRecDepth 100000 in
theorem open_bytes {H : Type} {enc : TypeId × Value → H} {W : World} {base : Nat} {v : Value} {d : DataW H} {p : List MemPlace} (hval : Value.okWide Tryd.prog W .any base 31 v) (h : DataW.Trod enc Tryd.prog W 0 (fun _ => true) true 31 v d p) :
    ∃ a n c, v = .slice a n c ∧ n ≤ maxLen := by
  obtain ⟨a, n, c, rfl⟩ := okWide_slice Tryd.underlying31 hval
  obtain ⟨fuel, hf⟩ := h
  refine ⟨a, n, c, rfl, ?_⟩
  rcases open_ints Tryd.underlying31 Tryd.underlying5 cellsU8 hf with ⟨hcs, _⟩ | ⟨_, n', c', zs, hcs, _, hl, hm, _⟩
  · simp [Value.cells] at hcs
    obtain ⟨rfl, rfl, rfl⟩ := hcs
    exact Nat.zero_le _
  · simp [Value.cells] at hcs
    obtain ⟨rfl, rfl, rfl⟩ := hcs
    exact Nat.le_trans hl hm
end Go.Proofs.YtlcdhahnngfjhaaDoor
