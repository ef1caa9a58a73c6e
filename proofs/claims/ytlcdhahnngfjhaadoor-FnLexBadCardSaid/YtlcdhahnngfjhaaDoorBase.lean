/- Small helpers of the walks: a quiet call, the closing of a wrapper's deferred function, the squares' arithmetic. -/
import Derived.Test.YtlcdhahnngfjhaaDoorRows
import Derived.WalkKit
import Derived.ProofKit
import Derived.OpenShut
import Derived.Lib.Hide
import Derived.Deep.QuietTactic
import Derived.BigQuiet
import Derived.Deep.OwnRows
namespace Go.Proofs.YtlcdhahnngfjhaaDoor
open Go.ChangeShapes Go.WideShapes Go.ChangeAt Go.RowKit

/-- A contract that leaves the world, at a call inside a region that draws. -/
theorem q_of {P : Program} {f : FuncId} {args : Array Value} {w : World} {n : Nat} {v : Value}
    (h : Calls P f args (w.drewN n) fun e w' => e = .returned v ∧ w.drewN n = w') : Calls P f args (w.drewN n) fun e w'' => e = .returned v ∧ ∃ m, w'' = w.drewN m :=
  h.mono fun _ _ ⟨he, hm⟩ => ⟨he, n, hm.symm⟩

theorem mkf (P : Program) : ∀ (fn : Fn) (first cap : Array Value) (w : World), (Instr.makeFunc fn first cap).run P w = .ok (.func fn first cap) w := fun _ _ _ _ => rfl

/-- The cells of a block that was just laid, from its head. -/
theorem cells_new {w : World} {c : Array Value} {t : TypeId} {g : Nat} (hg : g = w.heap.size) : ∀ j u, c.toList[j]? = some u → (w.alloc (.cells c t)).cell? ((⟨g, 0, none⟩ : Addr).add j) = some u := by
  intro j u h
  subst hg
  have : (w.alloc (.cells c t)).heap[w.heap.size]? = some (.cells c t) := heap_alloc_new w _
  have e : ((⟨w.heap.size, 0, none⟩ : Addr).add j) = ⟨w.heap.size, j, none⟩ := by
    by_cases hj : j = 0
    · subst hj; rfl
    · simp [Addr.add, hj]
  rw [e]
  unfold World.cell?
  rw [this]
  simpa using h

end Go.Proofs.YtlcdhahnngfjhaaDoor
