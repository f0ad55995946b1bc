/-
  No cell of these rows narrows 'for every input' (looked for: loops, veiled, ifaces, maps, wideKeys, modest, calm, conditions, laid).
  DERIVED. THE GIVEN ROWS OF THIS SEAT. 5 by the template 'for every input the law returns true; each argument reads behind the call as it read before'; 0 by the template 'total and deterministic' (their statements: Qxb6600500aTotals.lean).
  GIVEN WITH THE SEED: the statements are not yours to turn. If you find one false, say at which input.
  Laid BY PROGRAM, IN A SANDBOX (cutbox-rows.mjs): the forced cells as the released guide's own fill.sh prints them over the translation 3c41ba9849376502… (all of the seat's roots in one cut). By AI agents, Wed Nov 11 2026. No macro, syntax, notation, axiom, sorry.
-/
import Derived.Test.Qxb6600500aChecked
import GoSem.Claim
import GoSem.ClaimJoined
import GoSem.ClaimMapViews
import Derived.JoinedTies
import Derived.KernelRfl
namespace Go.Proofs.Qxb6600500a
/- THE CELL 'sum', in the pinned program and in every row, IS THE sha256 OF THE DUMP (.gsa) THAT Qxb6600500aProg.lean LOADS. Nothing in Lean hashes anything: it is a label: what it is worth is what the hold of that sum in a sandbox is worth. -/
noncomputable def Try.pinned : Pinned := { name := "qxb6600500a", sum := "3c41ba98493765020f8904e867a153be953c8547aea8be5ccd184a19cc13ca9c", checked := Try.checked }
namespace Rows
def none {H : Type} : Left H := { results := [], args := [] }

/-- 'zzlaws_plan_b1.FnSpaceStopsAtFirstByteOutsideBlanksAndComments': WHATEVER THE INPUT: true; the input reads as it did. -/
def fnSpaceStopsAtFirstByteOutsideBlanksAndCommentsSpec : ChangeSpec := { name := "fnSpaceStopsAtFirstByteOutsideBlanksAndComments", fn := fun _ => fun
  | [d1, d2] => { results := [.lit (.bool true)], args := [d1, d2] }
  | _ => none }
def fnSpaceStopsAtFirstByteOutsideBlanksAndCommentsRow : OpenClaim := { program := "qxb6600500a", sum := "3c41ba98493765020f8904e867a153be953c8547aea8be5ccd184a19cc13ca9c", func := "example.com/vestline/vestline/zzlaws_plan_b1.FnSpaceStopsAtFirstByteOutsideBlanksAndComments", spec := "fnSpaceStopsAtFirstByteOutsideBlanksAndComments", apart := false }
def FnSpaceStopsAtFirstByteOutsideBlanksAndCommentsSaid : Prop := fnSpaceStopsAtFirstByteOutsideBlanksAndCommentsRow.holds Try.pinned (OpenSpec.ofChange fnSpaceStopsAtFirstByteOutsideBlanksAndCommentsSpec)

/-- ITS FALSE NEIGHBOUR: 'it returns false'. Refute it at one input. -/
def fnSpaceStopsAtFirstByteOutsideBlanksAndCommentsWrong : ChangeSpec := { name := "fnSpaceStopsAtFirstByteOutsideBlanksAndComments", fn := fun _ => fun
  | [d1, d2] => { results := [.lit (.bool false)], args := [d1, d2] }
  | _ => none }
def FnSpaceStopsAtFirstByteOutsideBlanksAndCommentsWrongFalsely : Prop := fnSpaceStopsAtFirstByteOutsideBlanksAndCommentsRow.holds Try.pinned (OpenSpec.ofChange fnSpaceStopsAtFirstByteOutsideBlanksAndCommentsWrong)

/-- 'zzlaws_plan_b1.FnSpaceSkipsWrittenFiller': WHATEVER THE INPUT: true; the input reads as it did. -/
def fnSpaceSkipsWrittenFillerSpec : ChangeSpec := { name := "fnSpaceSkipsWrittenFiller", fn := fun _ => fun
  | [d1, d2, d3, d4] => { results := [.lit (.bool true)], args := [d1, d2, d3, d4] }
  | _ => none }
def fnSpaceSkipsWrittenFillerRow : OpenClaim := { program := "qxb6600500a", sum := "3c41ba98493765020f8904e867a153be953c8547aea8be5ccd184a19cc13ca9c", func := "example.com/vestline/vestline/zzlaws_plan_b1.FnSpaceSkipsWrittenFiller", spec := "fnSpaceSkipsWrittenFiller", apart := false }
def FnSpaceSkipsWrittenFillerSaid : Prop := fnSpaceSkipsWrittenFillerRow.holds Try.pinned (OpenSpec.ofChange fnSpaceSkipsWrittenFillerSpec)

/-- ITS FALSE NEIGHBOUR: 'it returns false'. Refute it at one input. -/
def fnSpaceSkipsWrittenFillerWrong : ChangeSpec := { name := "fnSpaceSkipsWrittenFiller", fn := fun _ => fun
  | [d1, d2, d3, d4] => { results := [.lit (.bool false)], args := [d1, d2, d3, d4] }
  | _ => none }
def FnSpaceSkipsWrittenFillerWrongFalsely : Prop := fnSpaceSkipsWrittenFillerRow.holds Try.pinned (OpenSpec.ofChange fnSpaceSkipsWrittenFillerWrong)

/-- 'zzlaws_plan_b1.FnSpaceIsIdempotentAndLandsOnAToken': WHATEVER THE INPUT: true; the input reads as it did. -/
def fnSpaceIsIdempotentAndLandsOnATokenSpec : ChangeSpec := { name := "fnSpaceIsIdempotentAndLandsOnAToken", fn := fun _ => fun
  | [d1, d2] => { results := [.lit (.bool true)], args := [d1, d2] }
  | _ => none }
def fnSpaceIsIdempotentAndLandsOnATokenRow : OpenClaim := { program := "qxb6600500a", sum := "3c41ba98493765020f8904e867a153be953c8547aea8be5ccd184a19cc13ca9c", func := "example.com/vestline/vestline/zzlaws_plan_b1.FnSpaceIsIdempotentAndLandsOnAToken", spec := "fnSpaceIsIdempotentAndLandsOnAToken", apart := false }
def FnSpaceIsIdempotentAndLandsOnATokenSaid : Prop := fnSpaceIsIdempotentAndLandsOnATokenRow.holds Try.pinned (OpenSpec.ofChange fnSpaceIsIdempotentAndLandsOnATokenSpec)

/-- ITS FALSE NEIGHBOUR: 'it returns false'. Refute it at one input. -/
def fnSpaceIsIdempotentAndLandsOnATokenWrong : ChangeSpec := { name := "fnSpaceIsIdempotentAndLandsOnAToken", fn := fun _ => fun
  | [d1, d2] => { results := [.lit (.bool false)], args := [d1, d2] }
  | _ => none }
def FnSpaceIsIdempotentAndLandsOnATokenWrongFalsely : Prop := fnSpaceIsIdempotentAndLandsOnATokenRow.holds Try.pinned (OpenSpec.ofChange fnSpaceIsIdempotentAndLandsOnATokenWrong)

/-- 'zzlaws_plan_b1.FnStrEndsJustPastItsClosingQuotes': WHATEVER THE INPUT: true; the input reads as it did. -/
def fnStrEndsJustPastItsClosingQuotesSpec : ChangeSpec := { name := "fnStrEndsJustPastItsClosingQuotes", fn := fun _ => fun
  | [d1, d2] => { results := [.lit (.bool true)], args := [d1, d2] }
  | _ => none }
def fnStrEndsJustPastItsClosingQuotesRow : OpenClaim := { program := "qxb6600500a", sum := "3c41ba98493765020f8904e867a153be953c8547aea8be5ccd184a19cc13ca9c", func := "example.com/vestline/vestline/zzlaws_plan_b1.FnStrEndsJustPastItsClosingQuotes", spec := "fnStrEndsJustPastItsClosingQuotes", inPlace := ["internal/abi.NoEscape", "internal/bytealg.MakeNoZero"], apart := false }
def FnStrEndsJustPastItsClosingQuotesSaid : Prop := fnStrEndsJustPastItsClosingQuotesRow.holds Try.pinned (OpenSpec.ofChange fnStrEndsJustPastItsClosingQuotesSpec)

/-- ITS FALSE NEIGHBOUR: 'it returns false'. Refute it at one input. -/
def fnStrEndsJustPastItsClosingQuotesWrong : ChangeSpec := { name := "fnStrEndsJustPastItsClosingQuotes", fn := fun _ => fun
  | [d1, d2] => { results := [.lit (.bool false)], args := [d1, d2] }
  | _ => none }
def FnStrEndsJustPastItsClosingQuotesWrongFalsely : Prop := fnStrEndsJustPastItsClosingQuotesRow.holds Try.pinned (OpenSpec.ofChange fnStrEndsJustPastItsClosingQuotesWrong)

/-- 'zzlaws_plan_b1.FnStrSkipsOneWrittenString': WHATEVER THE INPUT: true; the input reads as it did. -/
def fnStrSkipsOneWrittenStringSpec : ChangeSpec := { name := "fnStrSkipsOneWrittenString", fn := fun _ => fun
  | [d1, d2, d3] => { results := [.lit (.bool true)], args := [d1, d2, d3] }
  | _ => none }
def fnStrSkipsOneWrittenStringRow : OpenClaim := { program := "qxb6600500a", sum := "3c41ba98493765020f8904e867a153be953c8547aea8be5ccd184a19cc13ca9c", func := "example.com/vestline/vestline/zzlaws_plan_b1.FnStrSkipsOneWrittenString", spec := "fnStrSkipsOneWrittenString", inPlace := ["internal/abi.NoEscape", "internal/bytealg.MakeNoZero"], apart := false }
def FnStrSkipsOneWrittenStringSaid : Prop := fnStrSkipsOneWrittenStringRow.holds Try.pinned (OpenSpec.ofChange fnStrSkipsOneWrittenStringSpec)

/-- ITS FALSE NEIGHBOUR: 'it returns false'. Refute it at one input. -/
def fnStrSkipsOneWrittenStringWrong : ChangeSpec := { name := "fnStrSkipsOneWrittenString", fn := fun _ => fun
  | [d1, d2, d3] => { results := [.lit (.bool false)], args := [d1, d2, d3] }
  | _ => none }
def FnStrSkipsOneWrittenStringWrongFalsely : Prop := fnStrSkipsOneWrittenStringRow.holds Try.pinned (OpenSpec.ofChange fnStrSkipsOneWrittenStringWrong)

end Rows
end Go.Proofs.Qxb6600500a
