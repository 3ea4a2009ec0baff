/-
  No cell of these rows narrows 'for every input' (looked for: loops, veiled, ifaces, maps, wideKeys, modest, calm, conditions, laid).
  DERIVED. THE GIVEN ROWS OF THIS SEAT. 5 by the template 'for every input the law returns true; each argument reads behind the call as it read before'; 0 by the template 'total and deterministic' (their statements: YbulkbewaTotals.lean).
  GIVEN WITH THE SEED: the statements are not yours to turn. If you find one false, say at which input.
  Laid BY PROGRAM, IN A SANDBOX (cutbox-rows.mjs): the forced cells as the released guide's own fill.sh prints them over the translation 08f7542bac08719f… (all of the seat's roots in one cut). By AI agents, Wed Nov 11 2026. No macro, syntax, notation, axiom, sorry.
-/
import Derived.Test.YbulkbewaChecked
import GoSem.Claim
import GoSem.ClaimJoined
import GoSem.ClaimMapViews
import Derived.JoinedTies
import Derived.KernelRfl
namespace Go.Proofs.Ybulkbewa
/- THE CELL 'sum', in the pinned program and in every row, IS THE sha256 OF THE DUMP (.gsa) THAT YbulkbewaProg.lean LOADS. Nothing in Lean hashes anything: it is a label: what it is worth is what the hold of that sum in a sandbox is worth. -/
noncomputable def Yba.pinned : Pinned := { name := "ybulkbewa", sum := "08f7542bac08719f5fa1c6f0d2cb8be835f584cfe4e5aac567fb22e41aeab250", checked := Yba.checked }
namespace Rows
def none {H : Type} : Left H := { results := [], args := [] }

/-- 'deliverylog.LawS2795AExact': WHATEVER THE INPUT: true; the input reads as it did. -/
def lawS2795AExactSpec : ChangeSpec := { name := "lawS2795AExact", fn := fun _ => fun
  | [d] => { results := [.lit (.bool true)], args := [d] }
  | _ => none }
def lawS2795AExactRow : OpenClaim := { program := "ybulkbewa", sum := "08f7542bac08719f5fa1c6f0d2cb8be835f584cfe4e5aac567fb22e41aeab250", func := "example.com/precedent/precedent/internal/deliverylog.LawS2795AExact", spec := "lawS2795AExact", apart := false }
def LawS2795AExactSaid : Prop := lawS2795AExactRow.holds Yba.pinned (OpenSpec.ofChange lawS2795AExactSpec)

/-- ITS FALSE NEIGHBOUR: 'it returns false'. Refute it at one input. -/
def lawS2795AExactWrong : ChangeSpec := { name := "lawS2795AExact", fn := fun _ => fun
  | [d] => { results := [.lit (.bool false)], args := [d] }
  | _ => none }
def LawS2795AExactWrongFalsely : Prop := lawS2795AExactRow.holds Yba.pinned (OpenSpec.ofChange lawS2795AExactWrong)

/-- 'deliverylog.LawS2795AConsts': WHATEVER THE INPUT: true; the input reads as it did. -/
def lawS2795AConstsSpec : ChangeSpec := { name := "lawS2795AConsts", fn := fun _ => fun
  | [d] => { results := [.lit (.bool true)], args := [d] }
  | _ => none }
def lawS2795AConstsRow : OpenClaim := { program := "ybulkbewa", sum := "08f7542bac08719f5fa1c6f0d2cb8be835f584cfe4e5aac567fb22e41aeab250", func := "example.com/precedent/precedent/internal/deliverylog.LawS2795AConsts", spec := "lawS2795AConsts", apart := false }
def LawS2795AConstsSaid : Prop := lawS2795AConstsRow.holds Yba.pinned (OpenSpec.ofChange lawS2795AConstsSpec)

/-- ITS FALSE NEIGHBOUR: 'it returns false'. Refute it at one input. -/
def lawS2795AConstsWrong : ChangeSpec := { name := "lawS2795AConsts", fn := fun _ => fun
  | [d] => { results := [.lit (.bool false)], args := [d] }
  | _ => none }
def LawS2795AConstsWrongFalsely : Prop := lawS2795AConstsRow.holds Yba.pinned (OpenSpec.ofChange lawS2795AConstsWrong)

/-- 'protocol.LawS2795BTake': WHATEVER THE INPUT: true; the input reads as it did. -/
def lawS2795BTakeSpec : ChangeSpec := { name := "lawS2795BTake", fn := fun _ => fun
  | [d1, d2] => { results := [.lit (.bool true)], args := [d1, d2] }
  | _ => none }
def lawS2795BTakeRow : OpenClaim := { program := "ybulkbewa", sum := "08f7542bac08719f5fa1c6f0d2cb8be835f584cfe4e5aac567fb22e41aeab250", func := "example.com/precedent/precedent/internal/protocol.LawS2795BTake", spec := "lawS2795BTake", apart := false }
def LawS2795BTakeSaid : Prop := lawS2795BTakeRow.holds Yba.pinned (OpenSpec.ofChange lawS2795BTakeSpec)

/-- ITS FALSE NEIGHBOUR: 'it returns false'. Refute it at one input. -/
def lawS2795BTakeWrong : ChangeSpec := { name := "lawS2795BTake", fn := fun _ => fun
  | [d1, d2] => { results := [.lit (.bool false)], args := [d1, d2] }
  | _ => none }
def LawS2795BTakeWrongFalsely : Prop := lawS2795BTakeRow.holds Yba.pinned (OpenSpec.ofChange lawS2795BTakeWrong)

/-- 'check.LawS2795CCounts': WHATEVER THE INPUT: true; the input reads as it did. -/
def lawS2795CCountsSpec : ChangeSpec := { name := "lawS2795CCounts", fn := fun _ => fun
  | [d1, d2] => { results := [.lit (.bool true)], args := [d1, d2] }
  | _ => none }
def lawS2795CCountsRow : OpenClaim := { program := "ybulkbewa", sum := "08f7542bac08719f5fa1c6f0d2cb8be835f584cfe4e5aac567fb22e41aeab250", func := "example.com/precedent/precedent/internal/check.LawS2795CCounts", spec := "lawS2795CCounts", unfollowed := true, recurses := true, apart := false }
def LawS2795CCountsSaid : Prop := lawS2795CCountsRow.holds Yba.pinned (OpenSpec.ofChange lawS2795CCountsSpec)

/-- ITS FALSE NEIGHBOUR: 'it returns false'. Refute it at one input. -/
def lawS2795CCountsWrong : ChangeSpec := { name := "lawS2795CCounts", fn := fun _ => fun
  | [d1, d2] => { results := [.lit (.bool false)], args := [d1, d2] }
  | _ => none }
def LawS2795CCountsWrongFalsely : Prop := lawS2795CCountsRow.holds Yba.pinned (OpenSpec.ofChange lawS2795CCountsWrong)

/-- 'check.LawS2795CRunOrder': WHATEVER THE INPUT: true; the input reads as it did. -/
def lawS2795CRunOrderSpec : ChangeSpec := { name := "lawS2795CRunOrder", fn := fun _ => fun
  | [d1, d2, d3, d4] => { results := [.lit (.bool true)], args := [d1, d2, d3, d4] }
  | _ => none }
def lawS2795CRunOrderRow : OpenClaim := { program := "ybulkbewa", sum := "08f7542bac08719f5fa1c6f0d2cb8be835f584cfe4e5aac567fb22e41aeab250", func := "example.com/precedent/precedent/internal/check.LawS2795CRunOrder", spec := "lawS2795CRunOrder", unfollowed := true, recurses := true, apart := false }
def LawS2795CRunOrderSaid : Prop := lawS2795CRunOrderRow.holds Yba.pinned (OpenSpec.ofChange lawS2795CRunOrderSpec)

/-- ITS FALSE NEIGHBOUR: 'it returns false'. Refute it at one input. -/
def lawS2795CRunOrderWrong : ChangeSpec := { name := "lawS2795CRunOrder", fn := fun _ => fun
  | [d1, d2, d3, d4] => { results := [.lit (.bool false)], args := [d1, d2, d3, d4] }
  | _ => none }
def LawS2795CRunOrderWrongFalsely : Prop := lawS2795CRunOrderRow.holds Yba.pinned (OpenSpec.ofChange lawS2795CRunOrderWrong)

end Rows
end Go.Proofs.Ybulkbewa
