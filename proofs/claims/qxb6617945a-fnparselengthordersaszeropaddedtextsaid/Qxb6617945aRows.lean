/-
  No cell of these rows narrows 'for every input' (looked for: loops, veiled, ifaces, maps, wideKeys, modest, calm, conditions, laid).
  DERIVED. THE GIVEN ROWS OF THIS SEAT. 5 by the template 'for every input the law returns true; each argument reads behind the call as it read before'; 0 by the template 'total and deterministic' (their statements: Qxb6617945aTotals.lean).
  GIVEN WITH THE SEED: the statements are not yours to turn. If you find one false, say at which input.
  Laid BY PROGRAM, IN A SANDBOX (cutbox-rows.mjs): the forced cells as the released guide's own fill.sh prints them over the translation 7b4ecf516ae3653e… (all of the seat's roots in one cut). By AI agents, Wed Nov 11 2026. No macro, syntax, notation, axiom, sorry.
-/
import Derived.Test.Qxb6617945aChecked
import GoSem.Claim
import GoSem.ClaimJoined
import GoSem.ClaimMapViews
import Derived.JoinedTies
import Derived.KernelRfl
namespace Go.Proofs.Qxb6617945a
/- THE CELL 'sum', in the pinned program and in every row, IS THE sha256 OF THE DUMP (.gsa) THAT Qxb6617945aProg.lean LOADS. Nothing in Lean hashes anything: it is a label: what it is worth is what the hold of that sum in a sandbox is worth. -/
noncomputable def Try.pinned : Pinned := { name := "qxb6617945a", sum := "7b4ecf516ae3653e2346b5f2046e9902c14b469e77cbacda472c54f5060562f8", checked := Try.checked }
namespace Rows
def none {H : Type} : Left H := { results := [], args := [] }

/-- 'zzlaws_internal_redirector_b1.FnParseLengthIsPositionalValue': WHATEVER THE INPUT: true; the input reads as it did. -/
def fnParseLengthIsPositionalValueSpec : ChangeSpec := { name := "fnParseLengthIsPositionalValue", fn := fun _ => fun
  | [d] => { results := [.lit (.bool true)], args := [d] }
  | _ => none }
def fnParseLengthIsPositionalValueRow : OpenClaim := { program := "qxb6617945a", sum := "7b4ecf516ae3653e2346b5f2046e9902c14b469e77cbacda472c54f5060562f8", func := "example.com/regroute/regroute/zzlaws_internal_redirector_b1.FnParseLengthIsPositionalValue", spec := "fnParseLengthIsPositionalValue", apart := false }
def FnParseLengthIsPositionalValueSaid : Prop := fnParseLengthIsPositionalValueRow.holds Try.pinned (OpenSpec.ofChange fnParseLengthIsPositionalValueSpec)

/-- ITS FALSE NEIGHBOUR: 'it returns false'. Refute it at one input. -/
def fnParseLengthIsPositionalValueWrong : ChangeSpec := { name := "fnParseLengthIsPositionalValue", fn := fun _ => fun
  | [d] => { results := [.lit (.bool false)], args := [d] }
  | _ => none }
def FnParseLengthIsPositionalValueWrongFalsely : Prop := fnParseLengthIsPositionalValueRow.holds Try.pinned (OpenSpec.ofChange fnParseLengthIsPositionalValueWrong)

/-- 'zzlaws_internal_redirector_b1.FnParseLengthSplitsAtAnyCut': WHATEVER THE INPUT: true; the input reads as it did. -/
def fnParseLengthSplitsAtAnyCutSpec : ChangeSpec := { name := "fnParseLengthSplitsAtAnyCut", fn := fun _ => fun
  | [d1, d2] => { results := [.lit (.bool true)], args := [d1, d2] }
  | _ => none }
def fnParseLengthSplitsAtAnyCutRow : OpenClaim := { program := "qxb6617945a", sum := "7b4ecf516ae3653e2346b5f2046e9902c14b469e77cbacda472c54f5060562f8", func := "example.com/regroute/regroute/zzlaws_internal_redirector_b1.FnParseLengthSplitsAtAnyCut", spec := "fnParseLengthSplitsAtAnyCut", apart := false }
def FnParseLengthSplitsAtAnyCutSaid : Prop := fnParseLengthSplitsAtAnyCutRow.holds Try.pinned (OpenSpec.ofChange fnParseLengthSplitsAtAnyCutSpec)

/-- ITS FALSE NEIGHBOUR: 'it returns false'. Refute it at one input. -/
def fnParseLengthSplitsAtAnyCutWrong : ChangeSpec := { name := "fnParseLengthSplitsAtAnyCut", fn := fun _ => fun
  | [d1, d2] => { results := [.lit (.bool false)], args := [d1, d2] }
  | _ => none }
def FnParseLengthSplitsAtAnyCutWrongFalsely : Prop := fnParseLengthSplitsAtAnyCutRow.holds Try.pinned (OpenSpec.ofChange fnParseLengthSplitsAtAnyCutWrong)

/-- 'zzlaws_internal_redirector_b1.FnParseLengthOrdersAsZeroPaddedText': WHATEVER THE INPUT: true; the input reads as it did. -/
def fnParseLengthOrdersAsZeroPaddedTextSpec : ChangeSpec := { name := "fnParseLengthOrdersAsZeroPaddedText", fn := fun _ => fun
  | [d1, d2] => { results := [.lit (.bool true)], args := [d1, d2] }
  | _ => none }
def fnParseLengthOrdersAsZeroPaddedTextRow : OpenClaim := { program := "qxb6617945a", sum := "7b4ecf516ae3653e2346b5f2046e9902c14b469e77cbacda472c54f5060562f8", func := "example.com/regroute/regroute/zzlaws_internal_redirector_b1.FnParseLengthOrdersAsZeroPaddedText", spec := "fnParseLengthOrdersAsZeroPaddedText", apart := false }
def FnParseLengthOrdersAsZeroPaddedTextSaid : Prop := fnParseLengthOrdersAsZeroPaddedTextRow.holds Try.pinned (OpenSpec.ofChange fnParseLengthOrdersAsZeroPaddedTextSpec)

/-- ITS FALSE NEIGHBOUR: 'it returns false'. Refute it at one input. -/
def fnParseLengthOrdersAsZeroPaddedTextWrong : ChangeSpec := { name := "fnParseLengthOrdersAsZeroPaddedText", fn := fun _ => fun
  | [d1, d2] => { results := [.lit (.bool false)], args := [d1, d2] }
  | _ => none }
def FnParseLengthOrdersAsZeroPaddedTextWrongFalsely : Prop := fnParseLengthOrdersAsZeroPaddedTextRow.holds Try.pinned (OpenSpec.ofChange fnParseLengthOrdersAsZeroPaddedTextWrong)

/-- 'zzlaws_internal_redirector_b1.FnHeadLengthIsLeastBlankLineEnd': WHATEVER THE INPUT: true; the input reads as it did. -/
def fnHeadLengthIsLeastBlankLineEndSpec : ChangeSpec := { name := "fnHeadLengthIsLeastBlankLineEnd", fn := fun _ => fun
  | [d1, d2] => { results := [.lit (.bool true)], args := [d1, d2] }
  | _ => none }
def fnHeadLengthIsLeastBlankLineEndRow : OpenClaim := { program := "qxb6617945a", sum := "7b4ecf516ae3653e2346b5f2046e9902c14b469e77cbacda472c54f5060562f8", func := "example.com/regroute/regroute/zzlaws_internal_redirector_b1.FnHeadLengthIsLeastBlankLineEnd", spec := "fnHeadLengthIsLeastBlankLineEnd", inPlace := ["internal/bytealg.IndexByte"], apart := false }
def FnHeadLengthIsLeastBlankLineEndSaid : Prop := fnHeadLengthIsLeastBlankLineEndRow.holds Try.pinned (OpenSpec.ofChange fnHeadLengthIsLeastBlankLineEndSpec)

/-- ITS FALSE NEIGHBOUR: 'it returns false'. Refute it at one input. -/
def fnHeadLengthIsLeastBlankLineEndWrong : ChangeSpec := { name := "fnHeadLengthIsLeastBlankLineEnd", fn := fun _ => fun
  | [d1, d2] => { results := [.lit (.bool false)], args := [d1, d2] }
  | _ => none }
def FnHeadLengthIsLeastBlankLineEndWrongFalsely : Prop := fnHeadLengthIsLeastBlankLineEndRow.holds Try.pinned (OpenSpec.ofChange fnHeadLengthIsLeastBlankLineEndWrong)

/-- 'zzlaws_internal_redirector_b1.FnHeadLengthResumesAcrossAnyCut': WHATEVER THE INPUT: true; the input reads as it did. -/
def fnHeadLengthResumesAcrossAnyCutSpec : ChangeSpec := { name := "fnHeadLengthResumesAcrossAnyCut", fn := fun _ => fun
  | [d1, d2] => { results := [.lit (.bool true)], args := [d1, d2] }
  | _ => none }
def fnHeadLengthResumesAcrossAnyCutRow : OpenClaim := { program := "qxb6617945a", sum := "7b4ecf516ae3653e2346b5f2046e9902c14b469e77cbacda472c54f5060562f8", func := "example.com/regroute/regroute/zzlaws_internal_redirector_b1.FnHeadLengthResumesAcrossAnyCut", spec := "fnHeadLengthResumesAcrossAnyCut", inPlace := ["internal/bytealg.IndexByte"], apart := false }
def FnHeadLengthResumesAcrossAnyCutSaid : Prop := fnHeadLengthResumesAcrossAnyCutRow.holds Try.pinned (OpenSpec.ofChange fnHeadLengthResumesAcrossAnyCutSpec)

/-- ITS FALSE NEIGHBOUR: 'it returns false'. Refute it at one input. -/
def fnHeadLengthResumesAcrossAnyCutWrong : ChangeSpec := { name := "fnHeadLengthResumesAcrossAnyCut", fn := fun _ => fun
  | [d1, d2] => { results := [.lit (.bool false)], args := [d1, d2] }
  | _ => none }
def FnHeadLengthResumesAcrossAnyCutWrongFalsely : Prop := fnHeadLengthResumesAcrossAnyCutRow.holds Try.pinned (OpenSpec.ofChange fnHeadLengthResumesAcrossAnyCutWrong)

end Rows
end Go.Proofs.Qxb6617945a
