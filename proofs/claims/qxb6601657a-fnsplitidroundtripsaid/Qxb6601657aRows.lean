/-
  No cell of these rows narrows 'for every input' (looked for: loops, veiled, ifaces, maps, wideKeys, modest, calm, conditions, laid).
  DERIVED. THE GIVEN ROWS OF THIS SEAT. 3 by the template 'for every input the law returns true; each argument reads behind the call as it read before'; 0 by the template 'total and deterministic' (their statements: Qxb6601657aTotals.lean).
  GIVEN WITH THE SEED: the statements are not yours to turn. If you find one false, say at which input.
  Laid BY PROGRAM, IN A SANDBOX (cutbox-rows.mjs): the forced cells as the released guide's own fill.sh prints them over the translation 97354c133179b463… (all of the seat's roots in one cut). By AI agents, Wed Nov 11 2026. No macro, syntax, notation, axiom, sorry.
-/
import Derived.Test.Qxb6601657aChecked
import GoSem.Claim
import GoSem.ClaimJoined
import GoSem.ClaimMapViews
import Derived.JoinedTies
import Derived.KernelRfl
namespace Go.Proofs.Qxb6601657a
/- THE CELL 'sum', in the pinned program and in every row, IS THE sha256 OF THE DUMP (.gsa) THAT Qxb6601657aProg.lean LOADS. Nothing in Lean hashes anything: it is a label: what it is worth is what the hold of that sum in a sandbox is worth. -/
noncomputable def Try.pinned : Pinned := { name := "qxb6601657a", sum := "97354c133179b463ee9f7abee72380f678caea90c284bf79e237801c0d73a5ae", checked := Try.checked }
namespace Rows
def none {H : Type} : Left H := { results := [], args := [] }

/-- 'zzlaws_pkg_journal_b1.FnSplitIDMatchesRightToLeftModel': WHATEVER THE INPUT: true; the input reads as it did. -/
def fnSplitIDMatchesRightToLeftModelSpec : ChangeSpec := { name := "fnSplitIDMatchesRightToLeftModel", fn := fun _ => fun
  | [d] => { results := [.lit (.bool true)], args := [d] }
  | _ => none }
def fnSplitIDMatchesRightToLeftModelRow : OpenClaim := { program := "qxb6601657a", sum := "97354c133179b463ee9f7abee72380f678caea90c284bf79e237801c0d73a5ae", func := "example.com/ringfence/ringfence/zzlaws_pkg_journal_b1.FnSplitIDMatchesRightToLeftModel", spec := "fnSplitIDMatchesRightToLeftModel", apart := false }
def FnSplitIDMatchesRightToLeftModelSaid : Prop := fnSplitIDMatchesRightToLeftModelRow.holds Try.pinned (OpenSpec.ofChange fnSplitIDMatchesRightToLeftModelSpec)

/-- ITS FALSE NEIGHBOUR: 'it returns false'. Refute it at one input. -/
def fnSplitIDMatchesRightToLeftModelWrong : ChangeSpec := { name := "fnSplitIDMatchesRightToLeftModel", fn := fun _ => fun
  | [d] => { results := [.lit (.bool false)], args := [d] }
  | _ => none }
def FnSplitIDMatchesRightToLeftModelWrongFalsely : Prop := fnSplitIDMatchesRightToLeftModelRow.holds Try.pinned (OpenSpec.ofChange fnSplitIDMatchesRightToLeftModelWrong)

/-- 'zzlaws_pkg_journal_b1.FnSplitIDRoundTrip': WHATEVER THE INPUT: true; the input reads as it did. -/
def fnSplitIDRoundTripSpec : ChangeSpec := { name := "fnSplitIDRoundTrip", fn := fun _ => fun
  | [d] => { results := [.lit (.bool true)], args := [d] }
  | _ => none }
def fnSplitIDRoundTripRow : OpenClaim := { program := "qxb6601657a", sum := "97354c133179b463ee9f7abee72380f678caea90c284bf79e237801c0d73a5ae", func := "example.com/ringfence/ringfence/zzlaws_pkg_journal_b1.FnSplitIDRoundTrip", spec := "fnSplitIDRoundTrip", apart := false }
def FnSplitIDRoundTripSaid : Prop := fnSplitIDRoundTripRow.holds Try.pinned (OpenSpec.ofChange fnSplitIDRoundTripSpec)

/-- ITS FALSE NEIGHBOUR: 'it returns false'. Refute it at one input. -/
def fnSplitIDRoundTripWrong : ChangeSpec := { name := "fnSplitIDRoundTrip", fn := fun _ => fun
  | [d] => { results := [.lit (.bool false)], args := [d] }
  | _ => none }
def FnSplitIDRoundTripWrongFalsely : Prop := fnSplitIDRoundTripRow.holds Try.pinned (OpenSpec.ofChange fnSplitIDRoundTripWrong)

/-- 'zzlaws_pkg_journal_b1.FnSplitIDDigitFreeAffixes': WHATEVER THE INPUT: true; the input reads as it did. -/
def fnSplitIDDigitFreeAffixesSpec : ChangeSpec := { name := "fnSplitIDDigitFreeAffixes", fn := fun _ => fun
  | [d1, d2, d3] => { results := [.lit (.bool true)], args := [d1, d2, d3] }
  | _ => none }
def fnSplitIDDigitFreeAffixesRow : OpenClaim := { program := "qxb6601657a", sum := "97354c133179b463ee9f7abee72380f678caea90c284bf79e237801c0d73a5ae", func := "example.com/ringfence/ringfence/zzlaws_pkg_journal_b1.FnSplitIDDigitFreeAffixes", spec := "fnSplitIDDigitFreeAffixes", apart := false }
def FnSplitIDDigitFreeAffixesSaid : Prop := fnSplitIDDigitFreeAffixesRow.holds Try.pinned (OpenSpec.ofChange fnSplitIDDigitFreeAffixesSpec)

/-- ITS FALSE NEIGHBOUR: 'it returns false'. Refute it at one input. -/
def fnSplitIDDigitFreeAffixesWrong : ChangeSpec := { name := "fnSplitIDDigitFreeAffixes", fn := fun _ => fun
  | [d1, d2, d3] => { results := [.lit (.bool false)], args := [d1, d2, d3] }
  | _ => none }
def FnSplitIDDigitFreeAffixesWrongFalsely : Prop := fnSplitIDDigitFreeAffixesRow.holds Try.pinned (OpenSpec.ofChange fnSplitIDDigitFreeAffixesWrong)

end Rows
end Go.Proofs.Qxb6601657a
