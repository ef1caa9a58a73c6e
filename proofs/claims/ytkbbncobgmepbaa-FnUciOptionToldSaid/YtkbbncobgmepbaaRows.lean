/-
  No cell of these rows narrows 'for every input' (looked for: loops, veiled, ifaces, maps, wideKeys, modest, calm, conditions, laid).
  DERIVED. THE GIVEN ROWS OF THIS SEAT. 2 by the template 'for every input the law returns true; each argument reads behind the call as it read before'; 0 by the template 'total and deterministic' (their statements: YtkbbncobgmepbaaTotals.lean).
  GIVEN WITH THE SEED: the statements are not yours to turn. If you find one false, say at which input.
  Laid BY PROGRAM, IN A SANDBOX (cutbox-rows.mjs): the forced cells as the released guide's own fill.sh prints them over the translation 3a88d7b15449c722… (all of the seat's roots in one cut). By AI agents, Wed Nov 11 2026. No macro, syntax, notation, axiom, sorry.
-/
import Derived.Test.YtkbbncobgmepbaaChecked
import GoSem.Claim
import GoSem.ClaimJoined
import GoSem.ClaimMapViews
import Derived.JoinedTies
import Derived.KernelRfl
namespace Go.Proofs.Ytkbbncobgmepbaa
/- THE CELL 'sum', in the pinned program and in every row, IS THE sha256 OF THE DUMP (.gsa) THAT YtkbbncobgmepbaaProg.lean LOADS. Nothing in Lean hashes anything: it is a label: what it is worth is what the hold of that sum in a sandbox is worth. -/
noncomputable def Try.pinned : Pinned := { name := "ytkbbncobgmepbaa", sum := "3a88d7b15449c7226dd105593820d9ce9a3d5c2298ca6aacc18a4e516c55866a", checked := Try.checked }
namespace Rows
def none {H : Type} : Left H := { results := [], args := [] }

/-- 'laws.FnUciOptionTold': WHATEVER THE INPUT: true; the input reads as it did. -/
def fnUciOptionToldSpec : ChangeSpec := { name := "fnUciOptionTold", fn := fun _ => fun
  | [d] => { results := [.lit (.bool true)], args := [d] }
  | _ => none }
def fnUciOptionToldRow : OpenClaim := { program := "ytkbbncobgmepbaa", sum := "3a88d7b15449c7226dd105593820d9ce9a3d5c2298ca6aacc18a4e516c55866a", func := "pub-fianchetto/laws.FnUciOptionTold", spec := "fnUciOptionTold", unfollowed := true, recurses := true, apart := false }
def FnUciOptionToldSaid : Prop := fnUciOptionToldRow.holds Try.pinned (OpenSpec.ofChange fnUciOptionToldSpec)

/-- ITS FALSE NEIGHBOUR: 'it returns false'. Refute it at one input. -/
def fnUciOptionToldWrong : ChangeSpec := { name := "fnUciOptionTold", fn := fun _ => fun
  | [d] => { results := [.lit (.bool false)], args := [d] }
  | _ => none }
def FnUciOptionToldWrongFalsely : Prop := fnUciOptionToldRow.holds Try.pinned (OpenSpec.ofChange fnUciOptionToldWrong)

/-- 'laws.FnUciId': WHATEVER THE INPUT: true; the input reads as it did. -/
def fnUciIdSpec : ChangeSpec := { name := "fnUciId", fn := fun _ => fun
  | [d] => { results := [.lit (.bool true)], args := [d] }
  | _ => none }
def fnUciIdRow : OpenClaim := { program := "ytkbbncobgmepbaa", sum := "3a88d7b15449c7226dd105593820d9ce9a3d5c2298ca6aacc18a4e516c55866a", func := "pub-fianchetto/laws.FnUciId", spec := "fnUciId", inPlace := ["internal/abi.NoEscape", "internal/bytealg.MakeNoZero"], unfollowed := true, recurses := true, apart := false }
def FnUciIdSaid : Prop := fnUciIdRow.holds Try.pinned (OpenSpec.ofChange fnUciIdSpec)

/-- ITS FALSE NEIGHBOUR: 'it returns false'. Refute it at one input. -/
def fnUciIdWrong : ChangeSpec := { name := "fnUciId", fn := fun _ => fun
  | [d] => { results := [.lit (.bool false)], args := [d] }
  | _ => none }
def FnUciIdWrongFalsely : Prop := fnUciIdRow.holds Try.pinned (OpenSpec.ofChange fnUciIdWrong)

/- THE SECOND FORM. 'bulk': how many values and letters a reading holds, each counted each time it is reached (what is shared counts as often as it is met; a slice's spare places count too). A statement '..UptoSaid' is the law's where the arguments, and the package variables that the reading takes, are together of bulk at most 1048576: NARROWER than '..Said'. Prove '..Said' where nothing that the law and all that it calls make is longer than what came in: it says more and counts as full. Else prove '..UptoSaid'. A law counts once. -/
mutual
def uptoBulk {H : Type} : DataW H → Nat
  | .lit (.string bytes) => bytes.length + 1
  | .lit _ => 1
  | .nil => 1
  | .ptr d => uptoBulk d + 1
  | .slice elems spare => uptoBulkAll elems + uptoBulkAll spare + 1
  | .agg parts => uptoBulkAll parts + 1
  | .iface _ d => uptoBulk d + 1
  | .map entries => uptoBulkEntries entries + 1
  | .held _ => 1
def uptoBulkAll {H : Type} : List (DataW H) → Nat
  | [] => 0
  | d :: r => uptoBulk d + uptoBulkAll r
def uptoBulkEntries {H : Type} : List (Lit × DataW H) → Nat
  | [] => 0
  | x :: r => uptoBulkEntry x + uptoBulkEntries r
def uptoBulkEntry {H : Type} : Lit × DataW H → Nat
  | (.string bytes, d) => bytes.length + uptoBulk d + 1
  | (_, d) => uptoBulk d + 1
 end
def uptoSmall : (H : Type) → List (DataW H) → Bool := fun _ ds => decide (uptoBulkAll ds ≤ 1048576)
def OpenSpec.upto (s : _root_.Go.ChangeSpec) : _root_.Go.OpenSpec := { _root_.Go.OpenSpec.ofChange s with cond := some uptoSmall }

/-- 'laws.FnUciOptionTold', WHERE WHAT IT READS IS OF BULK AT MOST 1048576: true; the input reads as it did. -/
def fnUciOptionToldUptoRow : OpenClaim := { program := "ytkbbncobgmepbaa", sum := "3a88d7b15449c7226dd105593820d9ce9a3d5c2298ca6aacc18a4e516c55866a", func := "pub-fianchetto/laws.FnUciOptionTold", spec := "fnUciOptionTold", unfollowed := true, recurses := true, apart := false, narrowed := true }
def FnUciOptionToldUptoSaid : Prop := fnUciOptionToldUptoRow.holds Try.pinned (OpenSpec.upto fnUciOptionToldSpec)

/-- 'laws.FnUciId', WHERE WHAT IT READS IS OF BULK AT MOST 1048576: true; the input reads as it did. -/
def fnUciIdUptoRow : OpenClaim := { program := "ytkbbncobgmepbaa", sum := "3a88d7b15449c7226dd105593820d9ce9a3d5c2298ca6aacc18a4e516c55866a", func := "pub-fianchetto/laws.FnUciId", spec := "fnUciId", inPlace := ["internal/abi.NoEscape", "internal/bytealg.MakeNoZero"], unfollowed := true, recurses := true, apart := false, narrowed := true }
def FnUciIdUptoSaid : Prop := fnUciIdUptoRow.holds Try.pinned (OpenSpec.upto fnUciIdSpec)

end Rows
end Go.Proofs.Ytkbbncobgmepbaa
