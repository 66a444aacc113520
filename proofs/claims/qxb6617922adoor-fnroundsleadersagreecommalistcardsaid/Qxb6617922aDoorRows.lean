/-
  NARROWER THAN 'FOR EVERY INPUT', by the rows' own cells (each row's printed sentence says how): FnCommaListParsesBack: laid · FnCommaListCut: laid · FnRoundsTraceIdentifiesMessage: laid · FnRoundsLeadersAgreeCommaList: laid · FnRoundsValueEndsTheLine: laid · FnConstructionTraceIdentifiesMessage: laid · FnConstructionRankedAgreesCommaList: laid.
  DERIVED. THE GIVEN ROWS OF THIS SEAT. 7 by the template 'for every input the law returns true; each argument reads behind the call as it read before'; 0 by the template 'total and deterministic' (their statements: Qxb6617922aDoorTotals.lean).
  GIVEN WITH THE SEED: the statements are not yours to turn. If you find one false, say at which input.
  Laid BY PROGRAM, IN A SANDBOX (cutbox-rows.mjs): the forced cells as the released guide's own fill.sh prints them over the translation e362bde96ffa49ca… (all of the seat's roots in one cut). By AI agents, Wed Nov 11 2026. No macro, syntax, notation, axiom, sorry.
-/
import Derived.Test.Qxb6617922aDoorChecked
import GoSem.Claim
import GoSem.ClaimJoined
import GoSem.ClaimMapViews
import Derived.JoinedTies
import Derived.KernelRfl
namespace Go.Proofs.Qxb6617922aDoor
/- THE CELL 'sum', in the pinned program and in every row, IS THE sha256 OF THE DUMP (.gsa) THAT Qxb6617922aDoorProg.lean LOADS. Nothing in Lean hashes anything: it is a label: what it is worth is what the hold of that sum in a sandbox is worth. -/
noncomputable def Tryd.pinned : Pinned := { name := "qxb6617922adoor", sum := "e362bde96ffa49ca00ca43577d2ea1eeadb7c002241b28da1beb06fba436440b", checked := Tryd.checked }
namespace Rows
def none {H : Type} : Left H := { results := [], args := [] }

/- WHAT THE LISTED PACKAGE-LEVEL VARIABLES READ AS WHEN THE CALL BEGINS. Each datum BY PROGRAM (the guide's laid-datum.mjs) off the statement by which the dump's own 'gosem.cut.vars' lays the variable. In a bare row this is a premise. The card (Qxb6617922aDoorCards.lean) ties it to the program's text. -/
def laid_math_bits_deBruijn32tab {H : Type} : DataW H := .agg [.lit (.int .u8 0), .lit (.int .u8 1), .lit (.int .u8 28), .lit (.int .u8 2), .lit (.int .u8 29), .lit (.int .u8 14), .lit (.int .u8 24), .lit (.int .u8 3), .lit (.int .u8 30), .lit (.int .u8 22), .lit (.int .u8 20), .lit (.int .u8 15), .lit (.int .u8 25), .lit (.int .u8 17), .lit (.int .u8 4), .lit (.int .u8 8), .lit (.int .u8 31), .lit (.int .u8 27), .lit (.int .u8 13), .lit (.int .u8 23), .lit (.int .u8 21), .lit (.int .u8 19), .lit (.int .u8 16), .lit (.int .u8 7), .lit (.int .u8 26), .lit (.int .u8 12), .lit (.int .u8 18), .lit (.int .u8 6), .lit (.int .u8 11), .lit (.int .u8 5), .lit (.int .u8 10), .lit (.int .u8 9)]
def laid_math_bits_deBruijn64tab {H : Type} : DataW H := .agg [.lit (.int .u8 0), .lit (.int .u8 1), .lit (.int .u8 56), .lit (.int .u8 2), .lit (.int .u8 57), .lit (.int .u8 49), .lit (.int .u8 28), .lit (.int .u8 3), .lit (.int .u8 61), .lit (.int .u8 58), .lit (.int .u8 42), .lit (.int .u8 50), .lit (.int .u8 38), .lit (.int .u8 29), .lit (.int .u8 17), .lit (.int .u8 4), .lit (.int .u8 62), .lit (.int .u8 47), .lit (.int .u8 59), .lit (.int .u8 36), .lit (.int .u8 45), .lit (.int .u8 43), .lit (.int .u8 51), .lit (.int .u8 22), .lit (.int .u8 53), .lit (.int .u8 39), .lit (.int .u8 33), .lit (.int .u8 30), .lit (.int .u8 24), .lit (.int .u8 18), .lit (.int .u8 12), .lit (.int .u8 5), .lit (.int .u8 63), .lit (.int .u8 55), .lit (.int .u8 48), .lit (.int .u8 27), .lit (.int .u8 60), .lit (.int .u8 41), .lit (.int .u8 37), .lit (.int .u8 16), .lit (.int .u8 46), .lit (.int .u8 35), .lit (.int .u8 44), .lit (.int .u8 21), .lit (.int .u8 52), .lit (.int .u8 32), .lit (.int .u8 23), .lit (.int .u8 11), .lit (.int .u8 54), .lit (.int .u8 26), .lit (.int .u8 40), .lit (.int .u8 15), .lit (.int .u8 34), .lit (.int .u8 20), .lit (.int .u8 31), .lit (.int .u8 10), .lit (.int .u8 25), .lit (.int .u8 14), .lit (.int .u8 19), .lit (.int .u8 9), .lit (.int .u8 13), .lit (.int .u8 8), .lit (.int .u8 7), .lit (.int .u8 6)]
def laid_internal_strconv_uint64pow10 {H : Type} : DataW H := .agg [.lit (.int .u64 1), .lit (.int .u64 10), .lit (.int .u64 100), .lit (.int .u64 1000), .lit (.int .u64 10000), .lit (.int .u64 100000), .lit (.int .u64 1000000), .lit (.int .u64 10000000), .lit (.int .u64 100000000), .lit (.int .u64 1000000000), .lit (.int .u64 10000000000), .lit (.int .u64 100000000000), .lit (.int .u64 1000000000000), .lit (.int .u64 10000000000000), .lit (.int .u64 100000000000000), .lit (.int .u64 1000000000000000), .lit (.int .u64 10000000000000000), .lit (.int .u64 100000000000000000), .lit (.int .u64 1000000000000000000), .lit (.int .u64 10000000000000000000)]

/-- 'zzlaws_internal_sim_b1.FnCommaListParsesBack': WHATEVER THE INPUT: true; the input reads as it did. -/
def fnCommaListParsesBackSpec : ChangeSpec := { name := "fnCommaListParsesBack", fn := fun _ => fun
  | [d] => { results := [.lit (.bool true)], args := [d] }
  | _ => none }
def fnCommaListParsesBackRow : OpenClaim := { program := "qxb6617922adoor", sum := "e362bde96ffa49ca00ca43577d2ea1eeadb7c002241b28da1beb06fba436440b", func := "example.com/manyfold/manyfold/zzlaws_internal_sim_b1.FnCommaListParsesBack", spec := "fnCommaListParsesBack", inPlace := ["internal/abi.NoEscape", "internal/bytealg.MakeNoZero"], named := ["internal/strconv.uint64pow10", "math/bits.deBruijn32tab", "math/bits.deBruijn64tab"], apart := false, laid := [("math/bits.deBruijn32tab", laid_math_bits_deBruijn32tab), ("math/bits.deBruijn64tab", laid_math_bits_deBruijn64tab), ("internal/strconv.uint64pow10", laid_internal_strconv_uint64pow10)] }
def FnCommaListParsesBackSaid : Prop := fnCommaListParsesBackRow.holds Tryd.pinned (OpenSpec.ofChange fnCommaListParsesBackSpec)

/-- ITS FALSE NEIGHBOUR: 'it returns false'. Refute it at one input. -/
def fnCommaListParsesBackWrong : ChangeSpec := { name := "fnCommaListParsesBack", fn := fun _ => fun
  | [d] => { results := [.lit (.bool false)], args := [d] }
  | _ => none }
def FnCommaListParsesBackWrongFalsely : Prop := fnCommaListParsesBackRow.holds Tryd.pinned (OpenSpec.ofChange fnCommaListParsesBackWrong)

/-- 'zzlaws_internal_sim_b1.FnCommaListCut': WHATEVER THE INPUT: true; the input reads as it did. -/
def fnCommaListCutSpec : ChangeSpec := { name := "fnCommaListCut", fn := fun _ => fun
  | [d1, d2] => { results := [.lit (.bool true)], args := [d1, d2] }
  | _ => none }
def fnCommaListCutRow : OpenClaim := { program := "qxb6617922adoor", sum := "e362bde96ffa49ca00ca43577d2ea1eeadb7c002241b28da1beb06fba436440b", func := "example.com/manyfold/manyfold/zzlaws_internal_sim_b1.FnCommaListCut", spec := "fnCommaListCut", inPlace := ["internal/abi.NoEscape", "internal/bytealg.MakeNoZero"], named := ["internal/strconv.uint64pow10", "math/bits.deBruijn32tab", "math/bits.deBruijn64tab"], apart := false, laid := [("math/bits.deBruijn32tab", laid_math_bits_deBruijn32tab), ("math/bits.deBruijn64tab", laid_math_bits_deBruijn64tab), ("internal/strconv.uint64pow10", laid_internal_strconv_uint64pow10)] }
def FnCommaListCutSaid : Prop := fnCommaListCutRow.holds Tryd.pinned (OpenSpec.ofChange fnCommaListCutSpec)

/-- ITS FALSE NEIGHBOUR: 'it returns false'. Refute it at one input. -/
def fnCommaListCutWrong : ChangeSpec := { name := "fnCommaListCut", fn := fun _ => fun
  | [d1, d2] => { results := [.lit (.bool false)], args := [d1, d2] }
  | _ => none }
def FnCommaListCutWrongFalsely : Prop := fnCommaListCutRow.holds Tryd.pinned (OpenSpec.ofChange fnCommaListCutWrong)

/-- 'zzlaws_internal_sim_b1.FnRoundsTraceIdentifiesMessage': WHATEVER THE INPUT: true; the input reads as it did. -/
def fnRoundsTraceIdentifiesMessageSpec : ChangeSpec := { name := "fnRoundsTraceIdentifiesMessage", fn := fun _ => fun
  | [d1, d2] => { results := [.lit (.bool true)], args := [d1, d2] }
  | _ => none }
def fnRoundsTraceIdentifiesMessageRow : OpenClaim := { program := "qxb6617922adoor", sum := "e362bde96ffa49ca00ca43577d2ea1eeadb7c002241b28da1beb06fba436440b", func := "example.com/manyfold/manyfold/zzlaws_internal_sim_b1.FnRoundsTraceIdentifiesMessage", spec := "fnRoundsTraceIdentifiesMessage", inPlace := ["internal/abi.NoEscape", "internal/bytealg.MakeNoZero"], named := ["internal/strconv.uint64pow10", "math/bits.deBruijn32tab", "math/bits.deBruijn64tab"], apart := false, laid := [("math/bits.deBruijn32tab", laid_math_bits_deBruijn32tab), ("math/bits.deBruijn64tab", laid_math_bits_deBruijn64tab), ("internal/strconv.uint64pow10", laid_internal_strconv_uint64pow10)] }
def FnRoundsTraceIdentifiesMessageSaid : Prop := fnRoundsTraceIdentifiesMessageRow.holds Tryd.pinned (OpenSpec.ofChange fnRoundsTraceIdentifiesMessageSpec)

/-- ITS FALSE NEIGHBOUR: 'it returns false'. Refute it at one input. -/
def fnRoundsTraceIdentifiesMessageWrong : ChangeSpec := { name := "fnRoundsTraceIdentifiesMessage", fn := fun _ => fun
  | [d1, d2] => { results := [.lit (.bool false)], args := [d1, d2] }
  | _ => none }
def FnRoundsTraceIdentifiesMessageWrongFalsely : Prop := fnRoundsTraceIdentifiesMessageRow.holds Tryd.pinned (OpenSpec.ofChange fnRoundsTraceIdentifiesMessageWrong)

/-- 'zzlaws_internal_sim_b1.FnRoundsLeadersAgreeCommaList': WHATEVER THE INPUT: true; the input reads as it did. -/
def fnRoundsLeadersAgreeCommaListSpec : ChangeSpec := { name := "fnRoundsLeadersAgreeCommaList", fn := fun _ => fun
  | [d] => { results := [.lit (.bool true)], args := [d] }
  | _ => none }
def fnRoundsLeadersAgreeCommaListRow : OpenClaim := { program := "qxb6617922adoor", sum := "e362bde96ffa49ca00ca43577d2ea1eeadb7c002241b28da1beb06fba436440b", func := "example.com/manyfold/manyfold/zzlaws_internal_sim_b1.FnRoundsLeadersAgreeCommaList", spec := "fnRoundsLeadersAgreeCommaList", inPlace := ["internal/abi.NoEscape", "internal/bytealg.MakeNoZero"], named := ["internal/strconv.uint64pow10", "math/bits.deBruijn32tab", "math/bits.deBruijn64tab"], apart := false, laid := [("math/bits.deBruijn32tab", laid_math_bits_deBruijn32tab), ("math/bits.deBruijn64tab", laid_math_bits_deBruijn64tab), ("internal/strconv.uint64pow10", laid_internal_strconv_uint64pow10)] }
def FnRoundsLeadersAgreeCommaListSaid : Prop := fnRoundsLeadersAgreeCommaListRow.holds Tryd.pinned (OpenSpec.ofChange fnRoundsLeadersAgreeCommaListSpec)

/-- ITS FALSE NEIGHBOUR: 'it returns false'. Refute it at one input. -/
def fnRoundsLeadersAgreeCommaListWrong : ChangeSpec := { name := "fnRoundsLeadersAgreeCommaList", fn := fun _ => fun
  | [d] => { results := [.lit (.bool false)], args := [d] }
  | _ => none }
def FnRoundsLeadersAgreeCommaListWrongFalsely : Prop := fnRoundsLeadersAgreeCommaListRow.holds Tryd.pinned (OpenSpec.ofChange fnRoundsLeadersAgreeCommaListWrong)

/-- 'zzlaws_internal_sim_b1.FnRoundsValueEndsTheLine': WHATEVER THE INPUT: true; the input reads as it did. -/
def fnRoundsValueEndsTheLineSpec : ChangeSpec := { name := "fnRoundsValueEndsTheLine", fn := fun _ => fun
  | [d] => { results := [.lit (.bool true)], args := [d] }
  | _ => none }
def fnRoundsValueEndsTheLineRow : OpenClaim := { program := "qxb6617922adoor", sum := "e362bde96ffa49ca00ca43577d2ea1eeadb7c002241b28da1beb06fba436440b", func := "example.com/manyfold/manyfold/zzlaws_internal_sim_b1.FnRoundsValueEndsTheLine", spec := "fnRoundsValueEndsTheLine", inPlace := ["internal/abi.NoEscape", "internal/bytealg.MakeNoZero"], named := ["internal/strconv.uint64pow10", "math/bits.deBruijn32tab", "math/bits.deBruijn64tab"], apart := false, laid := [("math/bits.deBruijn32tab", laid_math_bits_deBruijn32tab), ("math/bits.deBruijn64tab", laid_math_bits_deBruijn64tab), ("internal/strconv.uint64pow10", laid_internal_strconv_uint64pow10)] }
def FnRoundsValueEndsTheLineSaid : Prop := fnRoundsValueEndsTheLineRow.holds Tryd.pinned (OpenSpec.ofChange fnRoundsValueEndsTheLineSpec)

/-- ITS FALSE NEIGHBOUR: 'it returns false'. Refute it at one input. -/
def fnRoundsValueEndsTheLineWrong : ChangeSpec := { name := "fnRoundsValueEndsTheLine", fn := fun _ => fun
  | [d] => { results := [.lit (.bool false)], args := [d] }
  | _ => none }
def FnRoundsValueEndsTheLineWrongFalsely : Prop := fnRoundsValueEndsTheLineRow.holds Tryd.pinned (OpenSpec.ofChange fnRoundsValueEndsTheLineWrong)

/-- 'zzlaws_internal_sim_b1.FnConstructionTraceIdentifiesMessage': WHATEVER THE INPUT: true; the input reads as it did. -/
def fnConstructionTraceIdentifiesMessageSpec : ChangeSpec := { name := "fnConstructionTraceIdentifiesMessage", fn := fun _ => fun
  | [d1, d2] => { results := [.lit (.bool true)], args := [d1, d2] }
  | _ => none }
def fnConstructionTraceIdentifiesMessageRow : OpenClaim := { program := "qxb6617922adoor", sum := "e362bde96ffa49ca00ca43577d2ea1eeadb7c002241b28da1beb06fba436440b", func := "example.com/manyfold/manyfold/zzlaws_internal_sim_b1.FnConstructionTraceIdentifiesMessage", spec := "fnConstructionTraceIdentifiesMessage", inPlace := ["internal/abi.NoEscape", "internal/bytealg.MakeNoZero"], named := ["internal/strconv.uint64pow10", "math/bits.deBruijn32tab", "math/bits.deBruijn64tab"], apart := false, laid := [("math/bits.deBruijn32tab", laid_math_bits_deBruijn32tab), ("math/bits.deBruijn64tab", laid_math_bits_deBruijn64tab), ("internal/strconv.uint64pow10", laid_internal_strconv_uint64pow10)] }
def FnConstructionTraceIdentifiesMessageSaid : Prop := fnConstructionTraceIdentifiesMessageRow.holds Tryd.pinned (OpenSpec.ofChange fnConstructionTraceIdentifiesMessageSpec)

/-- ITS FALSE NEIGHBOUR: 'it returns false'. Refute it at one input. -/
def fnConstructionTraceIdentifiesMessageWrong : ChangeSpec := { name := "fnConstructionTraceIdentifiesMessage", fn := fun _ => fun
  | [d1, d2] => { results := [.lit (.bool false)], args := [d1, d2] }
  | _ => none }
def FnConstructionTraceIdentifiesMessageWrongFalsely : Prop := fnConstructionTraceIdentifiesMessageRow.holds Tryd.pinned (OpenSpec.ofChange fnConstructionTraceIdentifiesMessageWrong)

/-- 'zzlaws_internal_sim_b1.FnConstructionRankedAgreesCommaList': WHATEVER THE INPUT: true; the input reads as it did. -/
def fnConstructionRankedAgreesCommaListSpec : ChangeSpec := { name := "fnConstructionRankedAgreesCommaList", fn := fun _ => fun
  | [d] => { results := [.lit (.bool true)], args := [d] }
  | _ => none }
def fnConstructionRankedAgreesCommaListRow : OpenClaim := { program := "qxb6617922adoor", sum := "e362bde96ffa49ca00ca43577d2ea1eeadb7c002241b28da1beb06fba436440b", func := "example.com/manyfold/manyfold/zzlaws_internal_sim_b1.FnConstructionRankedAgreesCommaList", spec := "fnConstructionRankedAgreesCommaList", inPlace := ["internal/abi.NoEscape", "internal/bytealg.MakeNoZero"], named := ["internal/strconv.uint64pow10", "math/bits.deBruijn32tab", "math/bits.deBruijn64tab"], apart := false, laid := [("math/bits.deBruijn32tab", laid_math_bits_deBruijn32tab), ("math/bits.deBruijn64tab", laid_math_bits_deBruijn64tab), ("internal/strconv.uint64pow10", laid_internal_strconv_uint64pow10)] }
def FnConstructionRankedAgreesCommaListSaid : Prop := fnConstructionRankedAgreesCommaListRow.holds Tryd.pinned (OpenSpec.ofChange fnConstructionRankedAgreesCommaListSpec)

/-- ITS FALSE NEIGHBOUR: 'it returns false'. Refute it at one input. -/
def fnConstructionRankedAgreesCommaListWrong : ChangeSpec := { name := "fnConstructionRankedAgreesCommaList", fn := fun _ => fun
  | [d] => { results := [.lit (.bool false)], args := [d] }
  | _ => none }
def FnConstructionRankedAgreesCommaListWrongFalsely : Prop := fnConstructionRankedAgreesCommaListRow.holds Tryd.pinned (OpenSpec.ofChange fnConstructionRankedAgreesCommaListWrong)

end Rows
end Go.Proofs.Qxb6617922aDoor
