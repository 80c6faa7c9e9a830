/-
  No cell of these rows narrows 'for every input' (looked for: loops, veiled, ifaces, maps, wideKeys, modest, calm, conditions, laid).
  DERIVED. THE GIVEN ROWS OF THIS SEAT. 6 by the template 'for every input the law returns true; each argument reads behind the call as it read before'; 0 by the template 'total and deterministic' (their statements: Qxb6600826aTotals.lean).
  GIVEN WITH THE SEED: the statements are not yours to turn. If you find one false, say at which input.
  Laid BY PROGRAM, IN A SANDBOX (cutbox-rows.mjs): the forced cells as the released guide's own fill.sh prints them over the translation f72a064ce2df3288… (all of the seat's roots in one cut). By AI agents, Wed Nov 11 2026. No macro, syntax, notation, axiom, sorry.
-/
import Derived.Test.Qxb6600826aChecked
import GoSem.Claim
import GoSem.ClaimJoined
import GoSem.ClaimMapViews
import Derived.JoinedTies
import Derived.KernelRfl
namespace Go.Proofs.Qxb6600826a
/- THE CELL 'sum', in the pinned program and in every row, IS THE sha256 OF THE DUMP (.gsa) THAT Qxb6600826aProg.lean LOADS. Nothing in Lean hashes anything: it is a label: what it is worth is what the hold of that sum in a sandbox is worth. -/
noncomputable def Try.pinned : Pinned := { name := "qxb6600826a", sum := "f72a064ce2df3288f0f089f2ebcd545ca5910e9e1c78881aac6443170f77c5be", checked := Try.checked }
namespace Rows
def none {H : Type} : Left H := { results := [], args := [] }

/-- 'zzlaws_root_b1.FnBlockCommentEndFirstCloseStableUnderCutAndExtension': WHATEVER THE INPUT: true; the input reads as it did. -/
def fnBlockCommentEndFirstCloseStableUnderCutAndExtensionSpec : ChangeSpec := { name := "fnBlockCommentEndFirstCloseStableUnderCutAndExtension", fn := fun _ => fun
  | [d1, d2, d3] => { results := [.lit (.bool true)], args := [d1, d2, d3] }
  | _ => none }
def fnBlockCommentEndFirstCloseStableUnderCutAndExtensionRow : OpenClaim := { program := "qxb6600826a", sum := "f72a064ce2df3288f0f089f2ebcd545ca5910e9e1c78881aac6443170f77c5be", func := "example.com/parley/parley/zzlaws_root_b1.FnBlockCommentEndFirstCloseStableUnderCutAndExtension", spec := "fnBlockCommentEndFirstCloseStableUnderCutAndExtension", apart := false }
def FnBlockCommentEndFirstCloseStableUnderCutAndExtensionSaid : Prop := fnBlockCommentEndFirstCloseStableUnderCutAndExtensionRow.holds Try.pinned (OpenSpec.ofChange fnBlockCommentEndFirstCloseStableUnderCutAndExtensionSpec)

/-- ITS FALSE NEIGHBOUR: 'it returns false'. Refute it at one input. -/
def fnBlockCommentEndFirstCloseStableUnderCutAndExtensionWrong : ChangeSpec := { name := "fnBlockCommentEndFirstCloseStableUnderCutAndExtension", fn := fun _ => fun
  | [d1, d2, d3] => { results := [.lit (.bool false)], args := [d1, d2, d3] }
  | _ => none }
def FnBlockCommentEndFirstCloseStableUnderCutAndExtensionWrongFalsely : Prop := fnBlockCommentEndFirstCloseStableUnderCutAndExtensionRow.holds Try.pinned (OpenSpec.ofChange fnBlockCommentEndFirstCloseStableUnderCutAndExtensionWrong)

/-- 'zzlaws_root_b1.FnBlockCommentEndNestsAndChains': WHATEVER THE INPUT: true; the input reads as it did. -/
def fnBlockCommentEndNestsAndChainsSpec : ChangeSpec := { name := "fnBlockCommentEndNestsAndChains", fn := fun _ => fun
  | [d1, d2] => { results := [.lit (.bool true)], args := [d1, d2] }
  | _ => none }
def fnBlockCommentEndNestsAndChainsRow : OpenClaim := { program := "qxb6600826a", sum := "f72a064ce2df3288f0f089f2ebcd545ca5910e9e1c78881aac6443170f77c5be", func := "example.com/parley/parley/zzlaws_root_b1.FnBlockCommentEndNestsAndChains", spec := "fnBlockCommentEndNestsAndChains", apart := false }
def FnBlockCommentEndNestsAndChainsSaid : Prop := fnBlockCommentEndNestsAndChainsRow.holds Try.pinned (OpenSpec.ofChange fnBlockCommentEndNestsAndChainsSpec)

/-- ITS FALSE NEIGHBOUR: 'it returns false'. Refute it at one input. -/
def fnBlockCommentEndNestsAndChainsWrong : ChangeSpec := { name := "fnBlockCommentEndNestsAndChains", fn := fun _ => fun
  | [d1, d2] => { results := [.lit (.bool false)], args := [d1, d2] }
  | _ => none }
def FnBlockCommentEndNestsAndChainsWrongFalsely : Prop := fnBlockCommentEndNestsAndChainsRow.holds Try.pinned (OpenSpec.ofChange fnBlockCommentEndNestsAndChainsWrong)

/-- 'zzlaws_root_b1.FnIsEmptyQueryEmptyPrefixIsTransparent': WHATEVER THE INPUT: true; the input reads as it did. -/
def fnIsEmptyQueryEmptyPrefixIsTransparentSpec : ChangeSpec := { name := "fnIsEmptyQueryEmptyPrefixIsTransparent", fn := fun _ => fun
  | [d1, d2] => { results := [.lit (.bool true)], args := [d1, d2] }
  | _ => none }
def fnIsEmptyQueryEmptyPrefixIsTransparentRow : OpenClaim := { program := "qxb6600826a", sum := "f72a064ce2df3288f0f089f2ebcd545ca5910e9e1c78881aac6443170f77c5be", func := "example.com/parley/parley/zzlaws_root_b1.FnIsEmptyQueryEmptyPrefixIsTransparent", spec := "fnIsEmptyQueryEmptyPrefixIsTransparent", inPlace := ["internal/bytealg.IndexByteString", "internal/bytealg.IndexString"], named := ["internal/bytealg.MaxLen"], apart := false }
def FnIsEmptyQueryEmptyPrefixIsTransparentSaid : Prop := fnIsEmptyQueryEmptyPrefixIsTransparentRow.holds Try.pinned (OpenSpec.ofChange fnIsEmptyQueryEmptyPrefixIsTransparentSpec)

/-- ITS FALSE NEIGHBOUR: 'it returns false'. Refute it at one input. -/
def fnIsEmptyQueryEmptyPrefixIsTransparentWrong : ChangeSpec := { name := "fnIsEmptyQueryEmptyPrefixIsTransparent", fn := fun _ => fun
  | [d1, d2] => { results := [.lit (.bool false)], args := [d1, d2] }
  | _ => none }
def FnIsEmptyQueryEmptyPrefixIsTransparentWrongFalsely : Prop := fnIsEmptyQueryEmptyPrefixIsTransparentRow.holds Try.pinned (OpenSpec.ofChange fnIsEmptyQueryEmptyPrefixIsTransparentWrong)

/-- 'zzlaws_root_b1.FnIsEmptyQueryAcceptsBuiltTextsRefusesStatement': WHATEVER THE INPUT: true; the input reads as it did. -/
def fnIsEmptyQueryAcceptsBuiltTextsRefusesStatementSpec : ChangeSpec := { name := "fnIsEmptyQueryAcceptsBuiltTextsRefusesStatement", fn := fun _ => fun
  | [d1, d2, d3, d4] => { results := [.lit (.bool true)], args := [d1, d2, d3, d4] }
  | _ => none }
def fnIsEmptyQueryAcceptsBuiltTextsRefusesStatementRow : OpenClaim := { program := "qxb6600826a", sum := "f72a064ce2df3288f0f089f2ebcd545ca5910e9e1c78881aac6443170f77c5be", func := "example.com/parley/parley/zzlaws_root_b1.FnIsEmptyQueryAcceptsBuiltTextsRefusesStatement", spec := "fnIsEmptyQueryAcceptsBuiltTextsRefusesStatement", inPlace := ["internal/bytealg.IndexByteString", "internal/bytealg.IndexString"], named := ["internal/bytealg.MaxLen"], apart := false }
def FnIsEmptyQueryAcceptsBuiltTextsRefusesStatementSaid : Prop := fnIsEmptyQueryAcceptsBuiltTextsRefusesStatementRow.holds Try.pinned (OpenSpec.ofChange fnIsEmptyQueryAcceptsBuiltTextsRefusesStatementSpec)

/-- ITS FALSE NEIGHBOUR: 'it returns false'. Refute it at one input. -/
def fnIsEmptyQueryAcceptsBuiltTextsRefusesStatementWrong : ChangeSpec := { name := "fnIsEmptyQueryAcceptsBuiltTextsRefusesStatement", fn := fun _ => fun
  | [d1, d2, d3, d4] => { results := [.lit (.bool false)], args := [d1, d2, d3, d4] }
  | _ => none }
def FnIsEmptyQueryAcceptsBuiltTextsRefusesStatementWrongFalsely : Prop := fnIsEmptyQueryAcceptsBuiltTextsRefusesStatementRow.holds Try.pinned (OpenSpec.ofChange fnIsEmptyQueryAcceptsBuiltTextsRefusesStatementWrong)

/-- 'zzlaws_root_b1.FnNumericTextIsPlaceValueDigits': WHATEVER THE INPUT: true; the input reads as it did. -/
def fnNumericTextIsPlaceValueDigitsSpec : ChangeSpec := { name := "fnNumericTextIsPlaceValueDigits", fn := fun _ => fun
  | [d1, d2, d3, d4, d5, d6] => { results := [.lit (.bool true)], args := [d1, d2, d3, d4, d5, d6] }
  | _ => none }
def fnNumericTextIsPlaceValueDigitsRow : OpenClaim := { program := "qxb6600826a", sum := "f72a064ce2df3288f0f089f2ebcd545ca5910e9e1c78881aac6443170f77c5be", func := "example.com/parley/parley/zzlaws_root_b1.FnNumericTextIsPlaceValueDigits", spec := "fnNumericTextIsPlaceValueDigits", apart := false }
def FnNumericTextIsPlaceValueDigitsSaid : Prop := fnNumericTextIsPlaceValueDigitsRow.holds Try.pinned (OpenSpec.ofChange fnNumericTextIsPlaceValueDigitsSpec)

/-- ITS FALSE NEIGHBOUR: 'it returns false'. Refute it at one input. -/
def fnNumericTextIsPlaceValueDigitsWrong : ChangeSpec := { name := "fnNumericTextIsPlaceValueDigits", fn := fun _ => fun
  | [d1, d2, d3, d4, d5, d6] => { results := [.lit (.bool false)], args := [d1, d2, d3, d4, d5, d6] }
  | _ => none }
def FnNumericTextIsPlaceValueDigitsWrongFalsely : Prop := fnNumericTextIsPlaceValueDigitsRow.holds Try.pinned (OpenSpec.ofChange fnNumericTextIsPlaceValueDigitsWrong)

/-- 'zzlaws_root_b1.FnNumericTextReadsBack': WHATEVER THE INPUT: true; the input reads as it did. -/
def fnNumericTextReadsBackSpec : ChangeSpec := { name := "fnNumericTextReadsBack", fn := fun _ => fun
  | [d1, d2, d3, d4] => { results := [.lit (.bool true)], args := [d1, d2, d3, d4] }
  | _ => none }
def fnNumericTextReadsBackRow : OpenClaim := { program := "qxb6600826a", sum := "f72a064ce2df3288f0f089f2ebcd545ca5910e9e1c78881aac6443170f77c5be", func := "example.com/parley/parley/zzlaws_root_b1.FnNumericTextReadsBack", spec := "fnNumericTextReadsBack", apart := false }
def FnNumericTextReadsBackSaid : Prop := fnNumericTextReadsBackRow.holds Try.pinned (OpenSpec.ofChange fnNumericTextReadsBackSpec)

/-- ITS FALSE NEIGHBOUR: 'it returns false'. Refute it at one input. -/
def fnNumericTextReadsBackWrong : ChangeSpec := { name := "fnNumericTextReadsBack", fn := fun _ => fun
  | [d1, d2, d3, d4] => { results := [.lit (.bool false)], args := [d1, d2, d3, d4] }
  | _ => none }
def FnNumericTextReadsBackWrongFalsely : Prop := fnNumericTextReadsBackRow.holds Try.pinned (OpenSpec.ofChange fnNumericTextReadsBackWrong)

end Rows
end Go.Proofs.Qxb6600826a
