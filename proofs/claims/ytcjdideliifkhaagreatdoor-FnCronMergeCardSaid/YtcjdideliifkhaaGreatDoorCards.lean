/-
  DERIVED. GIVEN WITH THE SEED: THE CARDS: each row of YtcjdideliifkhaaGreatDoorRows.lean that lists a variable, with what it lists TIED to the program's text (the seventh form; the later family's looks); each row that meets fmt, with fmt's text TOLD by the authors' own Lean function (tested against real Go, not proved from fmt's source: count such statements apart). THE CARD IS WHAT COUNTS. Prove the row's statement (the work); the ties are given (YtcjdideliifkhaaGreatDoorTie.lean); close each card by the builder's one call (the guide's Derived/Test/ToyasCard.lean, 'card_holds'). Laid BY PROGRAM, IN A SANDBOX (cutbox-door.mjs). By AI agents, Wed Nov 11 2026. No macro, syntax, notation, axiom, sorry.
-/
import Derived.Test.YtcjdideliifkhaaGreatDoorRows
import GoSem.ClaimSeven
namespace Go.Proofs.YtcjdideliifkhaaGreatDoor
namespace Rows

/-- THE TIED CARD OF 'laws.FnCronTextAfterAnywhere'. -/
def fnCronTextAfterAnywhereCard : Claim7 := { stood := { row := fnCronTextAfterAnywhereRow, standIns := [], harness := (true, "6a2fe40854b69a7010194049a294e93be7931b6554b3a085ba4041611ed40924"), looks := true }, kinds := [], alts := [], laidByText := true, laidKinds := [.data, .data, .data, .data, .sentinel, .sentinel, .sentinel, .sentinel, .pinned], laidTests := true, laidLooks := .later }
def FnCronTextAfterAnywhereCardSaid : Prop := Claim7.holds Tryz.pinned (.plain (OpenSpec.ofChange fnCronTextAfterAnywhereSpec)) fnCronTextAfterAnywhereCard

/-- THE TIED CARD OF 'laws.FnCronMerge'. -/
def fnCronMergeCard : Claim7 := { stood := { row := fnCronMergeRow, standIns := [], harness := (true, "6a2fe40854b69a7010194049a294e93be7931b6554b3a085ba4041611ed40924"), looks := true }, kinds := [], alts := [], laidByText := true, laidKinds := [.data, .data, .data, .data, .sentinel, .sentinel, .sentinel, .sentinel, .pinned], laidTests := true, laidLooks := .later }
def FnCronMergeCardSaid : Prop := Claim7.holds Tryz.pinned (.plain (OpenSpec.ofChange fnCronMergeSpec)) fnCronMergeCard

/-- THE SECOND FORM's CARD OF 'laws.FnCronTextAfterAnywhere'. -/
def fnCronTextAfterAnywhereUptoCard : Claim7 := { stood := { row := fnCronTextAfterAnywhereUptoRow, standIns := [], harness := (true, "6a2fe40854b69a7010194049a294e93be7931b6554b3a085ba4041611ed40924"), looks := true }, kinds := [], alts := [], laidByText := true, laidKinds := [.data, .data, .data, .data, .sentinel, .sentinel, .sentinel, .sentinel, .pinned], laidTests := true, laidLooks := .later }
def FnCronTextAfterAnywhereUptoCardSaid : Prop := Claim7.holds Tryz.pinned (.plain (OpenSpec.upto fnCronTextAfterAnywhereSpec)) fnCronTextAfterAnywhereUptoCard

/-- THE SECOND FORM's CARD OF 'laws.FnCronMerge'. -/
def fnCronMergeUptoCard : Claim7 := { stood := { row := fnCronMergeUptoRow, standIns := [], harness := (true, "6a2fe40854b69a7010194049a294e93be7931b6554b3a085ba4041611ed40924"), looks := true }, kinds := [], alts := [], laidByText := true, laidKinds := [.data, .data, .data, .data, .sentinel, .sentinel, .sentinel, .sentinel, .pinned], laidTests := true, laidLooks := .later }
def FnCronMergeUptoCardSaid : Prop := Claim7.holds Tryz.pinned (.plain (OpenSpec.upto fnCronMergeSpec)) fnCronMergeUptoCard
end Rows
end Go.Proofs.YtcjdideliifkhaaGreatDoor
