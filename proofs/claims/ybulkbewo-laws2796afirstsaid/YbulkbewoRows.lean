/-
  No cell of these rows narrows 'for every input' (looked for: loops, veiled, ifaces, maps, wideKeys, modest, calm, conditions, laid).
  DERIVED. THE GIVEN ROWS OF THIS SEAT. 1 by the template 'for every input the law returns true; each argument reads behind the call as it read before'; 0 by the template 'total and deterministic' (their statements: YbulkbewoTotals.lean).
  GIVEN WITH THE SEED: the statements are not yours to turn. If you find one false, say at which input.
  Laid BY PROGRAM, IN A SANDBOX (cutbox-rows.mjs): the forced cells as the released guide's own fill.sh prints them over the translation 5c42ef452cea42b7… (all of the seat's roots in one cut). By AI agents, Wed Nov 11 2026. No macro, syntax, notation, axiom, sorry.
-/
import Derived.Test.YbulkbewoChecked
import GoSem.Claim
import GoSem.ClaimJoined
import GoSem.ClaimMapViews
import Derived.JoinedTies
import Derived.KernelRfl
namespace Go.Proofs.Ybulkbewo
/- THE CELL 'sum', in the pinned program and in every row, IS THE sha256 OF THE DUMP (.gsa) THAT YbulkbewoProg.lean LOADS. Nothing in Lean hashes anything: it is a label: what it is worth is what the hold of that sum in a sandbox is worth. -/
noncomputable def Yba.pinned : Pinned := { name := "ybulkbewo", sum := "5c42ef452cea42b76cd44ed43455e17c8d2efd63a1d18d221f383b885e0e73db", checked := Yba.checked }
namespace Rows
def none {H : Type} : Left H := { results := [], args := [] }

/-- 'vestledger.LawS2796AFirst': WHATEVER THE INPUT: true; the input reads as it did. -/
def lawS2796AFirstSpec : ChangeSpec := { name := "lawS2796AFirst", fn := fun _ => fun
  | [d1, d2] => { results := [.lit (.bool true)], args := [d1, d2] }
  | _ => none }
def lawS2796AFirstRow : OpenClaim := { program := "ybulkbewo", sum := "5c42ef452cea42b76cd44ed43455e17c8d2efd63a1d18d221f383b885e0e73db", func := "example.com/vestledger/vestledger.LawS2796AFirst", spec := "lawS2796AFirst", apart := false }
def LawS2796AFirstSaid : Prop := lawS2796AFirstRow.holds Yba.pinned (OpenSpec.ofChange lawS2796AFirstSpec)

/-- ITS FALSE NEIGHBOUR: 'it returns false'. Refute it at one input. -/
def lawS2796AFirstWrong : ChangeSpec := { name := "lawS2796AFirst", fn := fun _ => fun
  | [d1, d2] => { results := [.lit (.bool false)], args := [d1, d2] }
  | _ => none }
def LawS2796AFirstWrongFalsely : Prop := lawS2796AFirstRow.holds Yba.pinned (OpenSpec.ofChange lawS2796AFirstWrong)

end Rows
end Go.Proofs.Ybulkbewo
