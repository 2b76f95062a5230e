/-
  No cell of these rows narrows 'for every input' (looked for: loops, veiled, ifaces, maps, wideKeys, modest, calm, conditions, laid).
  DERIVED. THE GIVEN ROWS OF THIS SEAT. 5 by the template 'for every input the law returns true; each argument reads behind the call as it read before'; 0 by the template 'total and deterministic' (their statements: Qxb6601649aTotals.lean).
  GIVEN WITH THE SEED: the statements are not yours to turn. If you find one false, say at which input.
  Laid BY PROGRAM, IN A SANDBOX (cutbox-rows.mjs): the forced cells as the released guide's own fill.sh prints them over the translation 040a036d72684a3e… (all of the seat's roots in one cut). By AI agents, Wed Nov 11 2026. No macro, syntax, notation, axiom, sorry.
-/
import Derived.Test.Qxb6601649aChecked
import GoSem.Claim
import GoSem.ClaimJoined
import GoSem.ClaimMapViews
import Derived.JoinedTies
import Derived.KernelRfl
namespace Go.Proofs.Qxb6601649a
/- THE CELL 'sum', in the pinned program and in every row, IS THE sha256 OF THE DUMP (.gsa) THAT Qxb6601649aProg.lean LOADS. Nothing in Lean hashes anything: it is a label: what it is worth is what the hold of that sum in a sandbox is worth. -/
noncomputable def Try.pinned : Pinned := { name := "qxb6601649a", sum := "040a036d72684a3e67b59bbaa3edfdac46995d31a25cd314ca9b523ce0275e92", checked := Try.checked }
namespace Rows
def none {H : Type} : Left H := { results := [], args := [] }

/-- 'zzlaws_backend_jsonscan_b1.FnNumberEndMatchesAutomaton': WHATEVER THE INPUT: true; the input reads as it did. -/
def fnNumberEndMatchesAutomatonSpec : ChangeSpec := { name := "fnNumberEndMatchesAutomaton", fn := fun _ => fun
  | [d1, d2, d3] => { results := [.lit (.bool true)], args := [d1, d2, d3] }
  | _ => none }
def fnNumberEndMatchesAutomatonRow : OpenClaim := { program := "qxb6601649a", sum := "040a036d72684a3e67b59bbaa3edfdac46995d31a25cd314ca9b523ce0275e92", func := "example.com/switchboard/switchboard/zzlaws_backend_jsonscan_b1.FnNumberEndMatchesAutomaton", spec := "fnNumberEndMatchesAutomaton", apart := false }
def FnNumberEndMatchesAutomatonSaid : Prop := fnNumberEndMatchesAutomatonRow.holds Try.pinned (OpenSpec.ofChange fnNumberEndMatchesAutomatonSpec)

/-- ITS FALSE NEIGHBOUR: 'it returns false'. Refute it at one input. -/
def fnNumberEndMatchesAutomatonWrong : ChangeSpec := { name := "fnNumberEndMatchesAutomaton", fn := fun _ => fun
  | [d1, d2, d3] => { results := [.lit (.bool false)], args := [d1, d2, d3] }
  | _ => none }
def FnNumberEndMatchesAutomatonWrongFalsely : Prop := fnNumberEndMatchesAutomatonRow.holds Try.pinned (OpenSpec.ofChange fnNumberEndMatchesAutomatonWrong)

/-- 'zzlaws_backend_jsonscan_b1.FnNumberEndResumesAcrossPieces': WHATEVER THE INPUT: true; the input reads as it did. -/
def fnNumberEndResumesAcrossPiecesSpec : ChangeSpec := { name := "fnNumberEndResumesAcrossPieces", fn := fun _ => fun
  | [d1, d2, d3, d4] => { results := [.lit (.bool true)], args := [d1, d2, d3, d4] }
  | _ => none }
def fnNumberEndResumesAcrossPiecesRow : OpenClaim := { program := "qxb6601649a", sum := "040a036d72684a3e67b59bbaa3edfdac46995d31a25cd314ca9b523ce0275e92", func := "example.com/switchboard/switchboard/zzlaws_backend_jsonscan_b1.FnNumberEndResumesAcrossPieces", spec := "fnNumberEndResumesAcrossPieces", apart := false }
def FnNumberEndResumesAcrossPiecesSaid : Prop := fnNumberEndResumesAcrossPiecesRow.holds Try.pinned (OpenSpec.ofChange fnNumberEndResumesAcrossPiecesSpec)

/-- ITS FALSE NEIGHBOUR: 'it returns false'. Refute it at one input. -/
def fnNumberEndResumesAcrossPiecesWrong : ChangeSpec := { name := "fnNumberEndResumesAcrossPieces", fn := fun _ => fun
  | [d1, d2, d3, d4] => { results := [.lit (.bool false)], args := [d1, d2, d3, d4] }
  | _ => none }
def FnNumberEndResumesAcrossPiecesWrongFalsely : Prop := fnNumberEndResumesAcrossPiecesRow.holds Try.pinned (OpenSpec.ofChange fnNumberEndResumesAcrossPiecesWrong)

/-- 'zzlaws_backend_jsonscan_b1.FnNumberEndStaysInRangeAndMovesForward': WHATEVER THE INPUT: true; the input reads as it did. -/
def fnNumberEndStaysInRangeAndMovesForwardSpec : ChangeSpec := { name := "fnNumberEndStaysInRangeAndMovesForward", fn := fun _ => fun
  | [d1, d2, d3] => { results := [.lit (.bool true)], args := [d1, d2, d3] }
  | _ => none }
def fnNumberEndStaysInRangeAndMovesForwardRow : OpenClaim := { program := "qxb6601649a", sum := "040a036d72684a3e67b59bbaa3edfdac46995d31a25cd314ca9b523ce0275e92", func := "example.com/switchboard/switchboard/zzlaws_backend_jsonscan_b1.FnNumberEndStaysInRangeAndMovesForward", spec := "fnNumberEndStaysInRangeAndMovesForward", apart := false }
def FnNumberEndStaysInRangeAndMovesForwardSaid : Prop := fnNumberEndStaysInRangeAndMovesForwardRow.holds Try.pinned (OpenSpec.ofChange fnNumberEndStaysInRangeAndMovesForwardSpec)

/-- ITS FALSE NEIGHBOUR: 'it returns false'. Refute it at one input. -/
def fnNumberEndStaysInRangeAndMovesForwardWrong : ChangeSpec := { name := "fnNumberEndStaysInRangeAndMovesForward", fn := fun _ => fun
  | [d1, d2, d3] => { results := [.lit (.bool false)], args := [d1, d2, d3] }
  | _ => none }
def FnNumberEndStaysInRangeAndMovesForwardWrongFalsely : Prop := fnNumberEndStaysInRangeAndMovesForwardRow.holds Try.pinned (OpenSpec.ofChange fnNumberEndStaysInRangeAndMovesForwardWrong)

/-- 'zzlaws_backend_jsonscan_b1.FnNestingOpenScriptStacksFlags': WHATEVER THE INPUT: true; the input reads as it did. -/
def fnNestingOpenScriptStacksFlagsSpec : ChangeSpec := { name := "fnNestingOpenScriptStacksFlags", fn := fun _ => fun
  | [d] => { results := [.lit (.bool true)], args := [d] }
  | _ => none }
def fnNestingOpenScriptStacksFlagsRow : OpenClaim := { program := "qxb6601649a", sum := "040a036d72684a3e67b59bbaa3edfdac46995d31a25cd314ca9b523ce0275e92", func := "example.com/switchboard/switchboard/zzlaws_backend_jsonscan_b1.FnNestingOpenScriptStacksFlags", spec := "fnNestingOpenScriptStacksFlags", apart := false }
def FnNestingOpenScriptStacksFlagsSaid : Prop := fnNestingOpenScriptStacksFlagsRow.holds Try.pinned (OpenSpec.ofChange fnNestingOpenScriptStacksFlagsSpec)

/-- ITS FALSE NEIGHBOUR: 'it returns false'. Refute it at one input. -/
def fnNestingOpenScriptStacksFlagsWrong : ChangeSpec := { name := "fnNestingOpenScriptStacksFlags", fn := fun _ => fun
  | [d] => { results := [.lit (.bool false)], args := [d] }
  | _ => none }
def FnNestingOpenScriptStacksFlagsWrongFalsely : Prop := fnNestingOpenScriptStacksFlagsRow.holds Try.pinned (OpenSpec.ofChange fnNestingOpenScriptStacksFlagsWrong)

/-- 'zzlaws_backend_jsonscan_b1.FnEscapeResumesAcrossPieces': WHATEVER THE INPUT: true; the input reads as it did. -/
def fnEscapeResumesAcrossPiecesSpec : ChangeSpec := { name := "fnEscapeResumesAcrossPieces", fn := fun _ => fun
  | [d1, d2, d3, d4, d5, d6] => { results := [.lit (.bool true)], args := [d1, d2, d3, d4, d5, d6] }
  | _ => none }
def fnEscapeResumesAcrossPiecesRow : OpenClaim := { program := "qxb6601649a", sum := "040a036d72684a3e67b59bbaa3edfdac46995d31a25cd314ca9b523ce0275e92", func := "example.com/switchboard/switchboard/zzlaws_backend_jsonscan_b1.FnEscapeResumesAcrossPieces", spec := "fnEscapeResumesAcrossPieces", apart := false }
def FnEscapeResumesAcrossPiecesSaid : Prop := fnEscapeResumesAcrossPiecesRow.holds Try.pinned (OpenSpec.ofChange fnEscapeResumesAcrossPiecesSpec)

/-- ITS FALSE NEIGHBOUR: 'it returns false'. Refute it at one input. -/
def fnEscapeResumesAcrossPiecesWrong : ChangeSpec := { name := "fnEscapeResumesAcrossPieces", fn := fun _ => fun
  | [d1, d2, d3, d4, d5, d6] => { results := [.lit (.bool false)], args := [d1, d2, d3, d4, d5, d6] }
  | _ => none }
def FnEscapeResumesAcrossPiecesWrongFalsely : Prop := fnEscapeResumesAcrossPiecesRow.holds Try.pinned (OpenSpec.ofChange fnEscapeResumesAcrossPiecesWrong)

end Rows
end Go.Proofs.Qxb6601649a
