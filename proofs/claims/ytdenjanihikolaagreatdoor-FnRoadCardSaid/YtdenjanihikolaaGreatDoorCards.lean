/-
  DERIVED. GIVEN WITH THE SEED: THE CARDS: each row of YtdenjanihikolaaGreatDoorRows.lean that lists a variable, with what it lists TIED to the program's text (the seventh form; the later family's looks); each row that meets fmt, with fmt's text TOLD by the authors' own Lean function (tested against real Go, not proved from fmt's source: count such statements apart). THE CARD IS WHAT COUNTS. Prove the row's statement (the work); the ties are given (YtdenjanihikolaaGreatDoorTie.lean); close each card by the builder's one call (the guide's Derived/Test/ToyasCard.lean, 'card_holds'). Laid BY PROGRAM, IN A SANDBOX (cutbox-door.mjs). By AI agents, Wed Nov 11 2026. No macro, syntax, notation, axiom, sorry.
-/
import Derived.Test.YtdenjanihikolaaGreatDoorRows
import GoSem.ClaimSeven
namespace Go.Proofs.YtdenjanihikolaaGreatDoor
namespace Rows

/-- THE TIED CARD OF 'laws.FnEncode'. -/
def fnEncodeCard : Claim7 := { stood := { row := fnEncodeRow, standIns := [], harness := (true, "346e666403ef8af61119100bf32cbdd4ac20cbf1fb5851f9df4e78e6eeef08de"), looks := true }, kinds := [], alts := [], laidByText := true, laidKinds := [.data, .data, .data, .sentinel, .sentinel], laidTests := true, laidLooks := .later }
def FnEncodeCardSaid : Prop := Claim7.holds Tryz.pinned (.plain (OpenSpec.ofChange fnEncodeSpec)) fnEncodeCard

/-- THE TIED CARD OF 'laws.FnEncodePairs'. -/
def fnEncodePairsCard : Claim7 := { stood := { row := fnEncodePairsRow, standIns := [], harness := (true, "346e666403ef8af61119100bf32cbdd4ac20cbf1fb5851f9df4e78e6eeef08de"), looks := true }, kinds := [], alts := [], laidByText := true, laidKinds := [.data, .data, .data, .sentinel, .sentinel], laidTests := true, laidLooks := .later }
def FnEncodePairsCardSaid : Prop := Claim7.holds Tryz.pinned (.plain (OpenSpec.ofChange fnEncodePairsSpec)) fnEncodePairsCard

/-- THE TIED CARD OF 'laws.FnCut'. -/
def fnCutCard : Claim7 := { stood := { row := fnCutRow, standIns := [], harness := (true, "346e666403ef8af61119100bf32cbdd4ac20cbf1fb5851f9df4e78e6eeef08de"), looks := true }, kinds := [], alts := [], laidByText := true, laidKinds := [.data, .data, .data, .sentinel, .sentinel], laidTests := true, laidLooks := .later }
def FnCutCardSaid : Prop := Claim7.holds Tryz.pinned (.plain (OpenSpec.ofChange fnCutSpec)) fnCutCard

/-- THE TIED CARD OF 'laws.FnDecode'. -/
def fnDecodeCard : Claim7 := { stood := { row := fnDecodeRow, standIns := [], harness := (true, "346e666403ef8af61119100bf32cbdd4ac20cbf1fb5851f9df4e78e6eeef08de"), looks := true }, kinds := [], alts := [], laidByText := true, laidKinds := [.data, .data, .data, .sentinel, .sentinel], laidTests := true, laidLooks := .later }
def FnDecodeCardSaid : Prop := Claim7.holds Tryz.pinned (.plain (OpenSpec.ofChange fnDecodeSpec)) fnDecodeCard

/-- THE TIED CARD OF 'laws.FnLonger'. -/
def fnLongerCard : Claim7 := { stood := { row := fnLongerRow, standIns := [], harness := (true, "346e666403ef8af61119100bf32cbdd4ac20cbf1fb5851f9df4e78e6eeef08de"), looks := true }, kinds := [], alts := [], laidByText := true, laidKinds := [.data, .data, .data, .sentinel, .sentinel], laidTests := true, laidLooks := .later }
def FnLongerCardSaid : Prop := Claim7.holds Tryz.pinned (.plain (OpenSpec.ofChange fnLongerSpec)) fnLongerCard

/-- THE TIED CARD OF 'laws.FnRoad'. -/
def fnRoadCard : Claim7 := { stood := { row := fnRoadRow, standIns := [], harness := (true, "346e666403ef8af61119100bf32cbdd4ac20cbf1fb5851f9df4e78e6eeef08de"), looks := true }, kinds := [], alts := [], laidByText := true, laidKinds := [.data, .data, .data, .sentinel, .sentinel], laidTests := true, laidLooks := .later }
def FnRoadCardSaid : Prop := Claim7.holds Tryz.pinned (.plain (OpenSpec.ofChange fnRoadSpec)) fnRoadCard

/-- THE SECOND FORM's CARD OF 'laws.FnEncode'. -/
def fnEncodeUptoCard : Claim7 := { stood := { row := fnEncodeUptoRow, standIns := [], harness := (true, "346e666403ef8af61119100bf32cbdd4ac20cbf1fb5851f9df4e78e6eeef08de"), looks := true }, kinds := [], alts := [], laidByText := true, laidKinds := [.data, .data, .data, .sentinel, .sentinel], laidTests := true, laidLooks := .later }
def FnEncodeUptoCardSaid : Prop := Claim7.holds Tryz.pinned (.plain (OpenSpec.upto fnEncodeSpec)) fnEncodeUptoCard

/-- THE SECOND FORM's CARD OF 'laws.FnEncodePairs'. -/
def fnEncodePairsUptoCard : Claim7 := { stood := { row := fnEncodePairsUptoRow, standIns := [], harness := (true, "346e666403ef8af61119100bf32cbdd4ac20cbf1fb5851f9df4e78e6eeef08de"), looks := true }, kinds := [], alts := [], laidByText := true, laidKinds := [.data, .data, .data, .sentinel, .sentinel], laidTests := true, laidLooks := .later }
def FnEncodePairsUptoCardSaid : Prop := Claim7.holds Tryz.pinned (.plain (OpenSpec.upto fnEncodePairsSpec)) fnEncodePairsUptoCard

/-- THE SECOND FORM's CARD OF 'laws.FnCut'. -/
def fnCutUptoCard : Claim7 := { stood := { row := fnCutUptoRow, standIns := [], harness := (true, "346e666403ef8af61119100bf32cbdd4ac20cbf1fb5851f9df4e78e6eeef08de"), looks := true }, kinds := [], alts := [], laidByText := true, laidKinds := [.data, .data, .data, .sentinel, .sentinel], laidTests := true, laidLooks := .later }
def FnCutUptoCardSaid : Prop := Claim7.holds Tryz.pinned (.plain (OpenSpec.upto fnCutSpec)) fnCutUptoCard

/-- THE SECOND FORM's CARD OF 'laws.FnDecode'. -/
def fnDecodeUptoCard : Claim7 := { stood := { row := fnDecodeUptoRow, standIns := [], harness := (true, "346e666403ef8af61119100bf32cbdd4ac20cbf1fb5851f9df4e78e6eeef08de"), looks := true }, kinds := [], alts := [], laidByText := true, laidKinds := [.data, .data, .data, .sentinel, .sentinel], laidTests := true, laidLooks := .later }
def FnDecodeUptoCardSaid : Prop := Claim7.holds Tryz.pinned (.plain (OpenSpec.upto fnDecodeSpec)) fnDecodeUptoCard

/-- THE SECOND FORM's CARD OF 'laws.FnLonger'. -/
def fnLongerUptoCard : Claim7 := { stood := { row := fnLongerUptoRow, standIns := [], harness := (true, "346e666403ef8af61119100bf32cbdd4ac20cbf1fb5851f9df4e78e6eeef08de"), looks := true }, kinds := [], alts := [], laidByText := true, laidKinds := [.data, .data, .data, .sentinel, .sentinel], laidTests := true, laidLooks := .later }
def FnLongerUptoCardSaid : Prop := Claim7.holds Tryz.pinned (.plain (OpenSpec.upto fnLongerSpec)) fnLongerUptoCard

/-- THE SECOND FORM's CARD OF 'laws.FnRoad'. -/
def fnRoadUptoCard : Claim7 := { stood := { row := fnRoadUptoRow, standIns := [], harness := (true, "346e666403ef8af61119100bf32cbdd4ac20cbf1fb5851f9df4e78e6eeef08de"), looks := true }, kinds := [], alts := [], laidByText := true, laidKinds := [.data, .data, .data, .sentinel, .sentinel], laidTests := true, laidLooks := .later }
def FnRoadUptoCardSaid : Prop := Claim7.holds Tryz.pinned (.plain (OpenSpec.upto fnRoadSpec)) fnRoadUptoCard
end Rows
end Go.Proofs.YtdenjanihikolaaGreatDoor
