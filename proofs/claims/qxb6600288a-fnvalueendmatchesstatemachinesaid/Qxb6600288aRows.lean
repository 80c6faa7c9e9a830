/-
  No cell of these rows narrows 'for every input' (looked for: loops, veiled, ifaces, maps, wideKeys, modest, calm, conditions, laid).
  DERIVED. THE GIVEN ROWS OF THIS SEAT. 3 by the template 'for every input the law returns true; each argument reads behind the call as it read before'; 0 by the template 'total and deterministic' (their statements: Qxb6600288aTotals.lean).
  GIVEN WITH THE SEED: the statements are not yours to turn. If you find one false, say at which input.
  Laid BY PROGRAM, IN A SANDBOX (cutbox-rows.mjs): the forced cells as the released guide's own fill.sh prints them over the translation 2d13eb522dfa5b05… (all of the seat's roots in one cut). By AI agents, Wed Nov 11 2026. No macro, syntax, notation, axiom, sorry.
-/
import Derived.Test.Qxb6600288aChecked
import GoSem.Claim
import GoSem.ClaimJoined
import GoSem.ClaimMapViews
import Derived.JoinedTies
import Derived.KernelRfl
namespace Go.Proofs.Qxb6600288a
/- THE CELL 'sum', in the pinned program and in every row, IS THE sha256 OF THE DUMP (.gsa) THAT Qxb6600288aProg.lean LOADS. Nothing in Lean hashes anything: it is a label: what it is worth is what the hold of that sum in a sandbox is worth. -/
noncomputable def Try.pinned : Pinned := { name := "qxb6600288a", sum := "2d13eb522dfa5b0547585bae341ff7c17d7dd16b16b16b50c933e51413d3c2b7", checked := Try.checked }
namespace Rows
def none {H : Type} : Left H := { results := [], args := [] }

/-- 'zzlaws_internal_jcs_b1.FnValueEndMatchesStateMachine': WHATEVER THE INPUT: true; the input reads as it did. -/
def fnValueEndMatchesStateMachineSpec : ChangeSpec := { name := "fnValueEndMatchesStateMachine", fn := fun _ => fun
  | [d1, d2] => { results := [.lit (.bool true)], args := [d1, d2] }
  | _ => none }
def fnValueEndMatchesStateMachineRow : OpenClaim := { program := "qxb6600288a", sum := "2d13eb522dfa5b0547585bae341ff7c17d7dd16b16b16b50c933e51413d3c2b7", func := "example.com/moorings/moorings/zzlaws_internal_jcs_b1.FnValueEndMatchesStateMachine", spec := "fnValueEndMatchesStateMachine", inPlace := ["internal/bytealg.IndexByte"], apart := false }
def FnValueEndMatchesStateMachineSaid : Prop := fnValueEndMatchesStateMachineRow.holds Try.pinned (OpenSpec.ofChange fnValueEndMatchesStateMachineSpec)

/-- ITS FALSE NEIGHBOUR: 'it returns false'. Refute it at one input. -/
def fnValueEndMatchesStateMachineWrong : ChangeSpec := { name := "fnValueEndMatchesStateMachine", fn := fun _ => fun
  | [d1, d2] => { results := [.lit (.bool false)], args := [d1, d2] }
  | _ => none }
def FnValueEndMatchesStateMachineWrongFalsely : Prop := fnValueEndMatchesStateMachineRow.holds Try.pinned (OpenSpec.ofChange fnValueEndMatchesStateMachineWrong)

/-- 'zzlaws_internal_jcs_b1.FnValueEndIgnoresWhatLiesBefore': WHATEVER THE INPUT: true; the input reads as it did. -/
def fnValueEndIgnoresWhatLiesBeforeSpec : ChangeSpec := { name := "fnValueEndIgnoresWhatLiesBefore", fn := fun _ => fun
  | [d1, d2, d3] => { results := [.lit (.bool true)], args := [d1, d2, d3] }
  | _ => none }
def fnValueEndIgnoresWhatLiesBeforeRow : OpenClaim := { program := "qxb6600288a", sum := "2d13eb522dfa5b0547585bae341ff7c17d7dd16b16b16b50c933e51413d3c2b7", func := "example.com/moorings/moorings/zzlaws_internal_jcs_b1.FnValueEndIgnoresWhatLiesBefore", spec := "fnValueEndIgnoresWhatLiesBefore", inPlace := ["internal/bytealg.IndexByte"], apart := false }
def FnValueEndIgnoresWhatLiesBeforeSaid : Prop := fnValueEndIgnoresWhatLiesBeforeRow.holds Try.pinned (OpenSpec.ofChange fnValueEndIgnoresWhatLiesBeforeSpec)

/-- ITS FALSE NEIGHBOUR: 'it returns false'. Refute it at one input. -/
def fnValueEndIgnoresWhatLiesBeforeWrong : ChangeSpec := { name := "fnValueEndIgnoresWhatLiesBefore", fn := fun _ => fun
  | [d1, d2, d3] => { results := [.lit (.bool false)], args := [d1, d2, d3] }
  | _ => none }
def FnValueEndIgnoresWhatLiesBeforeWrongFalsely : Prop := fnValueEndIgnoresWhatLiesBeforeRow.holds Try.pinned (OpenSpec.ofChange fnValueEndIgnoresWhatLiesBeforeWrong)

/-- 'zzlaws_internal_jcs_b1.FnValueEndIsSelfDelimiting': WHATEVER THE INPUT: true; the input reads as it did. -/
def fnValueEndIsSelfDelimitingSpec : ChangeSpec := { name := "fnValueEndIsSelfDelimiting", fn := fun _ => fun
  | [d1, d2] => { results := [.lit (.bool true)], args := [d1, d2] }
  | _ => none }
def fnValueEndIsSelfDelimitingRow : OpenClaim := { program := "qxb6600288a", sum := "2d13eb522dfa5b0547585bae341ff7c17d7dd16b16b16b50c933e51413d3c2b7", func := "example.com/moorings/moorings/zzlaws_internal_jcs_b1.FnValueEndIsSelfDelimiting", spec := "fnValueEndIsSelfDelimiting", inPlace := ["internal/bytealg.IndexByte"], apart := false }
def FnValueEndIsSelfDelimitingSaid : Prop := fnValueEndIsSelfDelimitingRow.holds Try.pinned (OpenSpec.ofChange fnValueEndIsSelfDelimitingSpec)

/-- ITS FALSE NEIGHBOUR: 'it returns false'. Refute it at one input. -/
def fnValueEndIsSelfDelimitingWrong : ChangeSpec := { name := "fnValueEndIsSelfDelimiting", fn := fun _ => fun
  | [d1, d2] => { results := [.lit (.bool false)], args := [d1, d2] }
  | _ => none }
def FnValueEndIsSelfDelimitingWrongFalsely : Prop := fnValueEndIsSelfDelimitingRow.holds Try.pinned (OpenSpec.ofChange fnValueEndIsSelfDelimitingWrong)

end Rows
end Go.Proofs.Qxb6600288a
