/-
  No cell of these rows narrows 'for every input' (looked for: loops, veiled, ifaces, maps, wideKeys, modest, calm, conditions, laid).
  DERIVED. THE GIVEN ROWS OF THIS SEAT. 2 by the template 'for every input the law returns true; each argument reads behind the call as it read before'; 0 by the template 'total and deterministic' (their statements: YtofjlnillbphkaaTotals.lean).
  GIVEN WITH THE SEED: the statements are not yours to turn. If you find one false, say at which input.
  Laid BY PROGRAM, IN A SANDBOX (cutbox-rows.mjs): the forced cells as the released guide's own fill.sh prints them over the translation 42f8db06ffa7c4c4… (all of the seat's roots in one cut). By AI agents, Wed Nov 11 2026. No macro, syntax, notation, axiom, sorry.
-/
import Derived.Test.YtofjlnillbphkaaChecked
import GoSem.Claim
import GoSem.ClaimJoined
import GoSem.ClaimMapViews
import Derived.JoinedTies
import Derived.KernelRfl
namespace Go.Proofs.Ytofjlnillbphkaa
/- THE CELL 'sum', in the pinned program and in every row, IS THE sha256 OF THE DUMP (.gsa) THAT YtofjlnillbphkaaProg.lean LOADS. Nothing in Lean hashes anything: it is a label: what it is worth is what the hold of that sum in a sandbox is worth. -/
noncomputable def Try.pinned : Pinned := { name := "ytofjlnillbphkaa", sum := "42f8db06ffa7c4c4a9486cc2983fc0a0df9bf0433dc8994e71585511b86f140c", checked := Try.checked }
namespace Rows
def none {H : Type} : Left H := { results := [], args := [] }

/-- 'laws.FnNmCodes': WHATEVER THE INPUT: true; the input reads as it did. -/
def fnNmCodesSpec : ChangeSpec := { name := "fnNmCodes", fn := fun _ => fun
  | [d] => { results := [.lit (.bool true)], args := [d] }
  | _ => none }
def fnNmCodesRow : OpenClaim := { program := "ytofjlnillbphkaa", sum := "42f8db06ffa7c4c4a9486cc2983fc0a0df9bf0433dc8994e71585511b86f140c", func := "pub-fianchetto/laws.FnNmCodes", spec := "fnNmCodes", unfollowed := true, recurses := true, apart := false }
def FnNmCodesSaid : Prop := fnNmCodesRow.holds Try.pinned (OpenSpec.ofChange fnNmCodesSpec)

/-- ITS FALSE NEIGHBOUR: 'it returns false'. Refute it at one input. -/
def fnNmCodesWrong : ChangeSpec := { name := "fnNmCodes", fn := fun _ => fun
  | [d] => { results := [.lit (.bool false)], args := [d] }
  | _ => none }
def FnNmCodesWrongFalsely : Prop := fnNmCodesRow.holds Try.pinned (OpenSpec.ofChange fnNmCodesWrong)

/-- 'laws.FnNmSquares': WHATEVER THE INPUT: true; the input reads as it did. -/
def fnNmSquaresSpec : ChangeSpec := { name := "fnNmSquares", fn := fun _ => fun
  | [d] => { results := [.lit (.bool true)], args := [d] }
  | _ => none }
def fnNmSquaresRow : OpenClaim := { program := "ytofjlnillbphkaa", sum := "42f8db06ffa7c4c4a9486cc2983fc0a0df9bf0433dc8994e71585511b86f140c", func := "pub-fianchetto/laws.FnNmSquares", spec := "fnNmSquares", unfollowed := true, recurses := true, apart := false }
def FnNmSquaresSaid : Prop := fnNmSquaresRow.holds Try.pinned (OpenSpec.ofChange fnNmSquaresSpec)

/-- ITS FALSE NEIGHBOUR: 'it returns false'. Refute it at one input. -/
def fnNmSquaresWrong : ChangeSpec := { name := "fnNmSquares", fn := fun _ => fun
  | [d] => { results := [.lit (.bool false)], args := [d] }
  | _ => none }
def FnNmSquaresWrongFalsely : Prop := fnNmSquaresRow.holds Try.pinned (OpenSpec.ofChange fnNmSquaresWrong)

/- THE SECOND FORM. 'bulk': how many values and letters a reading holds, each counted each time it is reached (what is shared counts as often as it is met; a slice's spare places count too). A statement '..UptoSaid' is the law's where the arguments, and the package variables that the reading takes, are together of bulk at most 1048576: NARROWER than '..Said'. Prove '..Said' where nothing that the law and all that it calls make is longer than what came in: it says more and counts as full. Else prove '..UptoSaid'. A law counts once. -/
mutual
def uptoBulk {H : Type} : DataW H → Nat
  | .lit (.string bytes) => bytes.length + 1
  | .lit _ => 1
  | .nil => 1
  | .ptr d => uptoBulk d + 1
  | .slice elems spare => uptoBulkAll elems + uptoBulkAll spare + 1
  | .agg parts => uptoBulkAll parts + 1
  | .iface _ d => uptoBulk d + 1
  | .map entries => uptoBulkEntries entries + 1
  | .held _ => 1
def uptoBulkAll {H : Type} : List (DataW H) → Nat
  | [] => 0
  | d :: r => uptoBulk d + uptoBulkAll r
def uptoBulkEntries {H : Type} : List (Lit × DataW H) → Nat
  | [] => 0
  | x :: r => uptoBulkEntry x + uptoBulkEntries r
def uptoBulkEntry {H : Type} : Lit × DataW H → Nat
  | (.string bytes, d) => bytes.length + uptoBulk d + 1
  | (_, d) => uptoBulk d + 1
 end
def uptoSmall : (H : Type) → List (DataW H) → Bool := fun _ ds => decide (uptoBulkAll ds ≤ 1048576)
def OpenSpec.upto (s : _root_.Go.ChangeSpec) : _root_.Go.OpenSpec := { _root_.Go.OpenSpec.ofChange s with cond := some uptoSmall }

/-- 'laws.FnNmCodes', WHERE WHAT IT READS IS OF BULK AT MOST 1048576: true; the input reads as it did. -/
def fnNmCodesUptoRow : OpenClaim := { program := "ytofjlnillbphkaa", sum := "42f8db06ffa7c4c4a9486cc2983fc0a0df9bf0433dc8994e71585511b86f140c", func := "pub-fianchetto/laws.FnNmCodes", spec := "fnNmCodes", unfollowed := true, recurses := true, apart := false, narrowed := true }
def FnNmCodesUptoSaid : Prop := fnNmCodesUptoRow.holds Try.pinned (OpenSpec.upto fnNmCodesSpec)

/-- 'laws.FnNmSquares', WHERE WHAT IT READS IS OF BULK AT MOST 1048576: true; the input reads as it did. -/
def fnNmSquaresUptoRow : OpenClaim := { program := "ytofjlnillbphkaa", sum := "42f8db06ffa7c4c4a9486cc2983fc0a0df9bf0433dc8994e71585511b86f140c", func := "pub-fianchetto/laws.FnNmSquares", spec := "fnNmSquares", unfollowed := true, recurses := true, apart := false, narrowed := true }
def FnNmSquaresUptoSaid : Prop := fnNmSquaresUptoRow.holds Try.pinned (OpenSpec.upto fnNmSquaresSpec)

end Rows
end Go.Proofs.Ytofjlnillbphkaa
