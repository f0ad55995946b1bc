/-
  No cell of these rows narrows 'for every input' (looked for: loops, veiled, ifaces, maps, wideKeys, modest, calm, conditions, laid).
  DERIVED. THE GIVEN ROWS OF THIS SEAT. 3 by the template 'for every input the law returns true; each argument reads behind the call as it read before'; 0 by the template 'total and deterministic' (their statements: Qxb6600947aTotals.lean).
  GIVEN WITH THE SEED: the statements are not yours to turn. If you find one false, say at which input.
  Laid BY PROGRAM, IN A SANDBOX (cutbox-rows.mjs): the forced cells as the released guide's own fill.sh prints them over the translation c5191bfc790e13e1… (all of the seat's roots in one cut). By AI agents, Wed Nov 11 2026. No macro, syntax, notation, axiom, sorry.
-/
import Derived.Test.Qxb6600947aChecked
import GoSem.Claim
import GoSem.ClaimJoined
import GoSem.ClaimMapViews
import Derived.JoinedTies
import Derived.KernelRfl
namespace Go.Proofs.Qxb6600947a
/- THE CELL 'sum', in the pinned program and in every row, IS THE sha256 OF THE DUMP (.gsa) THAT Qxb6600947aProg.lean LOADS. Nothing in Lean hashes anything: it is a label: what it is worth is what the hold of that sum in a sandbox is worth. -/
noncomputable def Try.pinned : Pinned := { name := "qxb6600947a", sum := "c5191bfc790e13e1850089b9a049a63677448e09b81fdd9bdc955e4b504bf19c", checked := Try.checked }
namespace Rows
def none {H : Type} : Left H := { results := [], args := [] }

/-- 'zzlaws_sim_b1.FnJoinMatchesComponents': WHATEVER THE INPUT: true; the input reads as it did. -/
def fnJoinMatchesComponentsSpec : ChangeSpec := { name := "fnJoinMatchesComponents", fn := fun _ => fun
  | [d1, d2, d3] => { results := [.lit (.bool true)], args := [d1, d2, d3] }
  | _ => none }
def fnJoinMatchesComponentsRow : OpenClaim := { program := "qxb6600947a", sum := "c5191bfc790e13e1850089b9a049a63677448e09b81fdd9bdc955e4b504bf19c", func := "example.com/ringweld/ringweld/zzlaws_sim_b1.FnJoinMatchesComponents", spec := "fnJoinMatchesComponents", apart := false }
def FnJoinMatchesComponentsSaid : Prop := fnJoinMatchesComponentsRow.holds Try.pinned (OpenSpec.ofChange fnJoinMatchesComponentsSpec)

/-- ITS FALSE NEIGHBOUR: 'it returns false'. Refute it at one input. -/
def fnJoinMatchesComponentsWrong : ChangeSpec := { name := "fnJoinMatchesComponents", fn := fun _ => fun
  | [d1, d2, d3] => { results := [.lit (.bool false)], args := [d1, d2, d3] }
  | _ => none }
def FnJoinMatchesComponentsWrongFalsely : Prop := fnJoinMatchesComponentsRow.holds Try.pinned (OpenSpec.ofChange fnJoinMatchesComponentsWrong)

/-- 'zzlaws_sim_b1.FnJoinStepKeepsForest': WHATEVER THE INPUT: true; the input reads as it did. -/
def fnJoinStepKeepsForestSpec : ChangeSpec := { name := "fnJoinStepKeepsForest", fn := fun _ => fun
  | [d1, d2, d3] => { results := [.lit (.bool true)], args := [d1, d2, d3] }
  | _ => none }
def fnJoinStepKeepsForestRow : OpenClaim := { program := "qxb6600947a", sum := "c5191bfc790e13e1850089b9a049a63677448e09b81fdd9bdc955e4b504bf19c", func := "example.com/ringweld/ringweld/zzlaws_sim_b1.FnJoinStepKeepsForest", spec := "fnJoinStepKeepsForest", apart := false }
def FnJoinStepKeepsForestSaid : Prop := fnJoinStepKeepsForestRow.holds Try.pinned (OpenSpec.ofChange fnJoinStepKeepsForestSpec)

/-- ITS FALSE NEIGHBOUR: 'it returns false'. Refute it at one input. -/
def fnJoinStepKeepsForestWrong : ChangeSpec := { name := "fnJoinStepKeepsForest", fn := fun _ => fun
  | [d1, d2, d3] => { results := [.lit (.bool false)], args := [d1, d2, d3] }
  | _ => none }
def FnJoinStepKeepsForestWrongFalsely : Prop := fnJoinStepKeepsForestRow.holds Try.pinned (OpenSpec.ofChange fnJoinStepKeepsForestWrong)

/-- 'zzlaws_sim_b1.FnRootHalvesPathKeepsPieces': WHATEVER THE INPUT: true; the input reads as it did. -/
def fnRootHalvesPathKeepsPiecesSpec : ChangeSpec := { name := "fnRootHalvesPathKeepsPieces", fn := fun _ => fun
  | [d1, d2, d3, d4] => { results := [.lit (.bool true)], args := [d1, d2, d3, d4] }
  | _ => none }
def fnRootHalvesPathKeepsPiecesRow : OpenClaim := { program := "qxb6600947a", sum := "c5191bfc790e13e1850089b9a049a63677448e09b81fdd9bdc955e4b504bf19c", func := "example.com/ringweld/ringweld/zzlaws_sim_b1.FnRootHalvesPathKeepsPieces", spec := "fnRootHalvesPathKeepsPieces", apart := false }
def FnRootHalvesPathKeepsPiecesSaid : Prop := fnRootHalvesPathKeepsPiecesRow.holds Try.pinned (OpenSpec.ofChange fnRootHalvesPathKeepsPiecesSpec)

/-- ITS FALSE NEIGHBOUR: 'it returns false'. Refute it at one input. -/
def fnRootHalvesPathKeepsPiecesWrong : ChangeSpec := { name := "fnRootHalvesPathKeepsPieces", fn := fun _ => fun
  | [d1, d2, d3, d4] => { results := [.lit (.bool false)], args := [d1, d2, d3, d4] }
  | _ => none }
def FnRootHalvesPathKeepsPiecesWrongFalsely : Prop := fnRootHalvesPathKeepsPiecesRow.holds Try.pinned (OpenSpec.ofChange fnRootHalvesPathKeepsPiecesWrong)

end Rows
end Go.Proofs.Qxb6600947a
