/-
  DERIVED. GIVEN WITH THE SEED: THE CARDS: each row of Qxb6617922aDoorRows.lean that lists a variable, with what it lists TIED to the program's text (the seventh form; the later family's looks); each row that meets fmt, with fmt's text TOLD by the authors' own Lean function (tested against real Go, not proved from fmt's source: count such statements apart). THE CARD IS WHAT COUNTS. Prove the row's statement (the work); the ties are given (Qxb6617922aDoorTie.lean); close each card by the builder's one call (the guide's Derived/Test/ToyasCard.lean, 'card_holds'). Laid BY PROGRAM, IN A SANDBOX (cutbox-door.mjs). By AI agents, Wed Nov 11 2026. No macro, syntax, notation, axiom, sorry.
-/
import Derived.Test.Qxb6617922aDoorRows
import GoSem.ClaimSeven
namespace Go.Proofs.Qxb6617922aDoor
namespace Rows

/-- THE TIED CARD OF 'zzlaws_internal_sim_b1.FnCommaListParsesBack'. -/
def fnCommaListParsesBackCard : Claim7 := { stood := { row := fnCommaListParsesBackRow, standIns := [], harness := (true, "ed98bb154a144b56587d46662895eacc81726b4f962d02cb161c1efdb1200897"), looks := false }, kinds := [], alts := [], laidByText := true, laidKinds := [.data, .data, .data], laidTests := true, laidLooks := .later }
def FnCommaListParsesBackCardSaid : Prop := Claim7.holds Tryd.pinned (.plain (OpenSpec.ofChange fnCommaListParsesBackSpec)) fnCommaListParsesBackCard

/-- THE TIED CARD OF 'zzlaws_internal_sim_b1.FnCommaListCut'. -/
def fnCommaListCutCard : Claim7 := { stood := { row := fnCommaListCutRow, standIns := [], harness := (true, "ed98bb154a144b56587d46662895eacc81726b4f962d02cb161c1efdb1200897"), looks := false }, kinds := [], alts := [], laidByText := true, laidKinds := [.data, .data, .data], laidTests := true, laidLooks := .later }
def FnCommaListCutCardSaid : Prop := Claim7.holds Tryd.pinned (.plain (OpenSpec.ofChange fnCommaListCutSpec)) fnCommaListCutCard

/-- THE TIED CARD OF 'zzlaws_internal_sim_b1.FnRoundsTraceIdentifiesMessage'. -/
def fnRoundsTraceIdentifiesMessageCard : Claim7 := { stood := { row := fnRoundsTraceIdentifiesMessageRow, standIns := [], harness := (true, "ed98bb154a144b56587d46662895eacc81726b4f962d02cb161c1efdb1200897"), looks := false }, kinds := [], alts := [], laidByText := true, laidKinds := [.data, .data, .data], laidTests := true, laidLooks := .later }
def FnRoundsTraceIdentifiesMessageCardSaid : Prop := Claim7.holds Tryd.pinned (.plain (OpenSpec.ofChange fnRoundsTraceIdentifiesMessageSpec)) fnRoundsTraceIdentifiesMessageCard

/-- THE TIED CARD OF 'zzlaws_internal_sim_b1.FnRoundsLeadersAgreeCommaList'. -/
def fnRoundsLeadersAgreeCommaListCard : Claim7 := { stood := { row := fnRoundsLeadersAgreeCommaListRow, standIns := [], harness := (true, "ed98bb154a144b56587d46662895eacc81726b4f962d02cb161c1efdb1200897"), looks := false }, kinds := [], alts := [], laidByText := true, laidKinds := [.data, .data, .data], laidTests := true, laidLooks := .later }
def FnRoundsLeadersAgreeCommaListCardSaid : Prop := Claim7.holds Tryd.pinned (.plain (OpenSpec.ofChange fnRoundsLeadersAgreeCommaListSpec)) fnRoundsLeadersAgreeCommaListCard

/-- THE TIED CARD OF 'zzlaws_internal_sim_b1.FnRoundsValueEndsTheLine'. -/
def fnRoundsValueEndsTheLineCard : Claim7 := { stood := { row := fnRoundsValueEndsTheLineRow, standIns := [], harness := (true, "ed98bb154a144b56587d46662895eacc81726b4f962d02cb161c1efdb1200897"), looks := false }, kinds := [], alts := [], laidByText := true, laidKinds := [.data, .data, .data], laidTests := true, laidLooks := .later }
def FnRoundsValueEndsTheLineCardSaid : Prop := Claim7.holds Tryd.pinned (.plain (OpenSpec.ofChange fnRoundsValueEndsTheLineSpec)) fnRoundsValueEndsTheLineCard

/-- THE TIED CARD OF 'zzlaws_internal_sim_b1.FnConstructionTraceIdentifiesMessage'. -/
def fnConstructionTraceIdentifiesMessageCard : Claim7 := { stood := { row := fnConstructionTraceIdentifiesMessageRow, standIns := [], harness := (true, "ed98bb154a144b56587d46662895eacc81726b4f962d02cb161c1efdb1200897"), looks := false }, kinds := [], alts := [], laidByText := true, laidKinds := [.data, .data, .data], laidTests := true, laidLooks := .later }
def FnConstructionTraceIdentifiesMessageCardSaid : Prop := Claim7.holds Tryd.pinned (.plain (OpenSpec.ofChange fnConstructionTraceIdentifiesMessageSpec)) fnConstructionTraceIdentifiesMessageCard

/-- THE TIED CARD OF 'zzlaws_internal_sim_b1.FnConstructionRankedAgreesCommaList'. -/
def fnConstructionRankedAgreesCommaListCard : Claim7 := { stood := { row := fnConstructionRankedAgreesCommaListRow, standIns := [], harness := (true, "ed98bb154a144b56587d46662895eacc81726b4f962d02cb161c1efdb1200897"), looks := false }, kinds := [], alts := [], laidByText := true, laidKinds := [.data, .data, .data], laidTests := true, laidLooks := .later }
def FnConstructionRankedAgreesCommaListCardSaid : Prop := Claim7.holds Tryd.pinned (.plain (OpenSpec.ofChange fnConstructionRankedAgreesCommaListSpec)) fnConstructionRankedAgreesCommaListCard
end Rows
end Go.Proofs.Qxb6617922aDoor
