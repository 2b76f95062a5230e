/-
  No cell of these rows narrows 'for every input' (looked for: loops, veiled, ifaces, maps, wideKeys, modest, calm, conditions, laid).
  DERIVED. THE GIVEN ROWS OF THIS SEAT. 4 by the template 'for every input the law returns true; each argument reads behind the call as it read before'; 0 by the template 'total and deterministic' (their statements: Qxb6601469aTotals.lean).
  GIVEN WITH THE SEED: the statements are not yours to turn. If you find one false, say at which input.
  Laid BY PROGRAM, IN A SANDBOX (cutbox-rows.mjs): the forced cells as the released guide's own fill.sh prints them over the translation 8263a4592309d745… (all of the seat's roots in one cut). By AI agents, Wed Nov 11 2026. No macro, syntax, notation, axiom, sorry.
-/
import Derived.Test.Qxb6601469aChecked
import GoSem.Claim
import GoSem.ClaimJoined
import GoSem.ClaimMapViews
import Derived.JoinedTies
import Derived.KernelRfl
namespace Go.Proofs.Qxb6601469a
/- THE CELL 'sum', in the pinned program and in every row, IS THE sha256 OF THE DUMP (.gsa) THAT Qxb6601469aProg.lean LOADS. Nothing in Lean hashes anything: it is a label: what it is worth is what the hold of that sum in a sandbox is worth. -/
noncomputable def Try.pinned : Pinned := { name := "qxb6601469a", sum := "8263a4592309d74572e7617c1cb9062e369158d01b5dd61d409a55baeb767d5c", checked := Try.checked }
namespace Rows
def none {H : Type} : Left H := { results := [], args := [] }

/-- 'zzlaws_root_b1.FnAppendRangeIsSliceOfText': WHATEVER THE INPUT: true; the input reads as it did. -/
def fnAppendRangeIsSliceOfTextSpec : ChangeSpec := { name := "fnAppendRangeIsSliceOfText", fn := fun _ => fun
  | [d1, d2, d3, d4, d5] => { results := [.lit (.bool true)], args := [d1, d2, d3, d4, d5] }
  | _ => none }
def fnAppendRangeIsSliceOfTextRow : OpenClaim := { program := "qxb6601469a", sum := "8263a4592309d74572e7617c1cb9062e369158d01b5dd61d409a55baeb767d5c", func := "example.com/tagwright/tagwright/zzlaws_root_b1.FnAppendRangeIsSliceOfText", spec := "fnAppendRangeIsSliceOfText", apart := false }
def FnAppendRangeIsSliceOfTextSaid : Prop := fnAppendRangeIsSliceOfTextRow.holds Try.pinned (OpenSpec.ofChange fnAppendRangeIsSliceOfTextSpec)

/-- ITS FALSE NEIGHBOUR: 'it returns false'. Refute it at one input. -/
def fnAppendRangeIsSliceOfTextWrong : ChangeSpec := { name := "fnAppendRangeIsSliceOfText", fn := fun _ => fun
  | [d1, d2, d3, d4, d5] => { results := [.lit (.bool false)], args := [d1, d2, d3, d4, d5] }
  | _ => none }
def FnAppendRangeIsSliceOfTextWrongFalsely : Prop := fnAppendRangeIsSliceOfTextRow.holds Try.pinned (OpenSpec.ofChange fnAppendRangeIsSliceOfTextWrong)

/-- 'zzlaws_root_b1.FnAppendRangeSplits': WHATEVER THE INPUT: true; the input reads as it did. -/
def fnAppendRangeSplitsSpec : ChangeSpec := { name := "fnAppendRangeSplits", fn := fun _ => fun
  | [d1, d2, d3, d4, d5, d6] => { results := [.lit (.bool true)], args := [d1, d2, d3, d4, d5, d6] }
  | _ => none }
def fnAppendRangeSplitsRow : OpenClaim := { program := "qxb6601469a", sum := "8263a4592309d74572e7617c1cb9062e369158d01b5dd61d409a55baeb767d5c", func := "example.com/tagwright/tagwright/zzlaws_root_b1.FnAppendRangeSplits", spec := "fnAppendRangeSplits", apart := false }
def FnAppendRangeSplitsSaid : Prop := fnAppendRangeSplitsRow.holds Try.pinned (OpenSpec.ofChange fnAppendRangeSplitsSpec)

/-- ITS FALSE NEIGHBOUR: 'it returns false'. Refute it at one input. -/
def fnAppendRangeSplitsWrong : ChangeSpec := { name := "fnAppendRangeSplits", fn := fun _ => fun
  | [d1, d2, d3, d4, d5, d6] => { results := [.lit (.bool false)], args := [d1, d2, d3, d4, d5, d6] }
  | _ => none }
def FnAppendRangeSplitsWrongFalsely : Prop := fnAppendRangeSplitsRow.holds Try.pinned (OpenSpec.ofChange fnAppendRangeSplitsWrong)

/-- 'zzlaws_root_b1.FnGrowKeepsTextAndMakesRoom': WHATEVER THE INPUT: true; the input reads as it did. -/
def fnGrowKeepsTextAndMakesRoomSpec : ChangeSpec := { name := "fnGrowKeepsTextAndMakesRoom", fn := fun _ => fun
  | [d1, d2] => { results := [.lit (.bool true)], args := [d1, d2] }
  | _ => none }
def fnGrowKeepsTextAndMakesRoomRow : OpenClaim := { program := "qxb6601469a", sum := "8263a4592309d74572e7617c1cb9062e369158d01b5dd61d409a55baeb767d5c", func := "example.com/tagwright/tagwright/zzlaws_root_b1.FnGrowKeepsTextAndMakesRoom", spec := "fnGrowKeepsTextAndMakesRoom", apart := false }
def FnGrowKeepsTextAndMakesRoomSaid : Prop := fnGrowKeepsTextAndMakesRoomRow.holds Try.pinned (OpenSpec.ofChange fnGrowKeepsTextAndMakesRoomSpec)

/-- ITS FALSE NEIGHBOUR: 'it returns false'. Refute it at one input. -/
def fnGrowKeepsTextAndMakesRoomWrong : ChangeSpec := { name := "fnGrowKeepsTextAndMakesRoom", fn := fun _ => fun
  | [d1, d2] => { results := [.lit (.bool false)], args := [d1, d2] }
  | _ => none }
def FnGrowKeepsTextAndMakesRoomWrongFalsely : Prop := fnGrowKeepsTextAndMakesRoomRow.holds Try.pinned (OpenSpec.ofChange fnGrowKeepsTextAndMakesRoomWrong)

/-- 'zzlaws_root_b1.FnBufferWritesReadBack': WHATEVER THE INPUT: true; the input reads as it did. -/
def fnBufferWritesReadBackSpec : ChangeSpec := { name := "fnBufferWritesReadBack", fn := fun _ => fun
  | [d1, d2, d3] => { results := [.lit (.bool true)], args := [d1, d2, d3] }
  | _ => none }
def fnBufferWritesReadBackRow : OpenClaim := { program := "qxb6601469a", sum := "8263a4592309d74572e7617c1cb9062e369158d01b5dd61d409a55baeb767d5c", func := "example.com/tagwright/tagwright/zzlaws_root_b1.FnBufferWritesReadBack", spec := "fnBufferWritesReadBack", apart := false }
def FnBufferWritesReadBackSaid : Prop := fnBufferWritesReadBackRow.holds Try.pinned (OpenSpec.ofChange fnBufferWritesReadBackSpec)

/-- ITS FALSE NEIGHBOUR: 'it returns false'. Refute it at one input. -/
def fnBufferWritesReadBackWrong : ChangeSpec := { name := "fnBufferWritesReadBack", fn := fun _ => fun
  | [d1, d2, d3] => { results := [.lit (.bool false)], args := [d1, d2, d3] }
  | _ => none }
def FnBufferWritesReadBackWrongFalsely : Prop := fnBufferWritesReadBackRow.holds Try.pinned (OpenSpec.ofChange fnBufferWritesReadBackWrong)

end Rows
end Go.Proofs.Qxb6601469a
