/-
  DERIVED. GIVEN WITH THE SEED: THE CARDS: each row of YtahfnlhpodbbaaaDoorRows.lean that lists a variable, with what it lists TIED to the program's text (the seventh form; the later family's looks); each row that meets fmt, with fmt's text TOLD by the authors' own Lean function (tested against real Go, not proved from fmt's source: count such statements apart). THE CARD IS WHAT COUNTS. Prove the row's statement (the work); the ties are given (YtahfnlhpodbbaaaDoorTie.lean); close each card by the builder's one call (the guide's Derived/Test/ToyasCard.lean, 'card_holds'). Laid BY PROGRAM, IN A SANDBOX (cutbox-door.mjs). By AI agents, Wed Nov 11 2026. No macro, syntax, notation, axiom, sorry.
-/
import Derived.Test.YtahfnlhpodbbaaaDoorRows
import GoSem.ClaimSeven
namespace Go.Proofs.YtahfnlhpodbbaaaDoor
namespace Rows

/-- THE TIED CARD OF 'laws.FnLonger'. -/
def fnLongerCard : Claim7 := { stood := { row := fnLongerRow, standIns := [], harness := (true, "dcdb544ecc9f6b366c798d2306065e44976a9abe00bf426edb8d7e4d3c79af1f"), looks := false }, kinds := [], alts := [], laidByText := true, laidKinds := [.widerDeep], laidTests := true, laidLooks := .later }
def FnLongerCardSaid : Prop := Claim7.holds Tryd.pinned (.plain (OpenSpec.ofChange fnLongerSpec)) fnLongerCard

/-- THE TIED CARD OF 'laws.FnNumber'. -/
def fnNumberCard : Claim7 := { stood := { row := fnNumberRow, standIns := [], harness := (true, "dcdb544ecc9f6b366c798d2306065e44976a9abe00bf426edb8d7e4d3c79af1f"), looks := false }, kinds := [], alts := [], laidByText := true, laidKinds := [.widerDeep], laidTests := true, laidLooks := .later }
def FnNumberCardSaid : Prop := Claim7.holds Tryd.pinned (.plain (OpenSpec.ofChange fnNumberSpec)) fnNumberCard

/-- THE TIED CARD OF 'laws.FnNumbers'. -/
def fnNumbersCard : Claim7 := { stood := { row := fnNumbersRow, standIns := [], harness := (true, "dcdb544ecc9f6b366c798d2306065e44976a9abe00bf426edb8d7e4d3c79af1f"), looks := false }, kinds := [], alts := [], laidByText := true, laidKinds := [.widerDeep], laidTests := true, laidLooks := .later }
def FnNumbersCardSaid : Prop := Claim7.holds Tryd.pinned (.plain (OpenSpec.ofChange fnNumbersSpec)) fnNumbersCard

/-- THE TIED CARD OF 'laws.FnCutUnits'. -/
def fnCutUnitsCard : Claim7 := { stood := { row := fnCutUnitsRow, standIns := [], harness := (true, "dcdb544ecc9f6b366c798d2306065e44976a9abe00bf426edb8d7e4d3c79af1f"), looks := false }, kinds := [], alts := [], laidByText := true, laidKinds := [.widerDeep], laidTests := true, laidLooks := .later }
def FnCutUnitsCardSaid : Prop := Claim7.holds Tryd.pinned (.plain (OpenSpec.ofChange fnCutUnitsSpec)) fnCutUnitsCard

/-- THE TIED CARD OF 'laws.FnNoUnits'. -/
def fnNoUnitsCard : Claim7 := { stood := { row := fnNoUnitsRow, standIns := [], harness := (true, "dcdb544ecc9f6b366c798d2306065e44976a9abe00bf426edb8d7e4d3c79af1f"), looks := false }, kinds := [], alts := [], laidByText := true, laidKinds := [.widerDeep], laidTests := true, laidLooks := .later }
def FnNoUnitsCardSaid : Prop := Claim7.holds Tryd.pinned (.plain (OpenSpec.ofChange fnNoUnitsSpec)) fnNoUnitsCard

/-- THE TIED CARD OF 'laws.FnUnits'. -/
def fnUnitsCard : Claim7 := { stood := { row := fnUnitsRow, standIns := [], harness := (true, "dcdb544ecc9f6b366c798d2306065e44976a9abe00bf426edb8d7e4d3c79af1f"), looks := false }, kinds := [], alts := [], laidByText := true, laidKinds := [.widerDeep], laidTests := true, laidLooks := .later }
def FnUnitsCardSaid : Prop := Claim7.holds Tryd.pinned (.plain (OpenSpec.ofChange fnUnitsSpec)) fnUnitsCard

/-- THE TIED CARD OF 'laws.FnBothUnits'. -/
def fnBothUnitsCard : Claim7 := { stood := { row := fnBothUnitsRow, standIns := [], harness := (true, "dcdb544ecc9f6b366c798d2306065e44976a9abe00bf426edb8d7e4d3c79af1f"), looks := false }, kinds := [], alts := [], laidByText := true, laidKinds := [.widerDeep], laidTests := true, laidLooks := .later }
def FnBothUnitsCardSaid : Prop := Claim7.holds Tryd.pinned (.plain (OpenSpec.ofChange fnBothUnitsSpec)) fnBothUnitsCard

/-- THE SECOND FORM's CARD OF 'laws.FnLonger'. -/
def fnLongerUptoCard : Claim7 := { stood := { row := fnLongerUptoRow, standIns := [], harness := (true, "dcdb544ecc9f6b366c798d2306065e44976a9abe00bf426edb8d7e4d3c79af1f"), looks := false }, kinds := [], alts := [], laidByText := true, laidKinds := [.widerDeep], laidTests := true, laidLooks := .later }
def FnLongerUptoCardSaid : Prop := Claim7.holds Tryd.pinned (.plain (OpenSpec.upto fnLongerSpec)) fnLongerUptoCard

/-- THE SECOND FORM's CARD OF 'laws.FnNumber'. -/
def fnNumberUptoCard : Claim7 := { stood := { row := fnNumberUptoRow, standIns := [], harness := (true, "dcdb544ecc9f6b366c798d2306065e44976a9abe00bf426edb8d7e4d3c79af1f"), looks := false }, kinds := [], alts := [], laidByText := true, laidKinds := [.widerDeep], laidTests := true, laidLooks := .later }
def FnNumberUptoCardSaid : Prop := Claim7.holds Tryd.pinned (.plain (OpenSpec.upto fnNumberSpec)) fnNumberUptoCard

/-- THE SECOND FORM's CARD OF 'laws.FnNumbers'. -/
def fnNumbersUptoCard : Claim7 := { stood := { row := fnNumbersUptoRow, standIns := [], harness := (true, "dcdb544ecc9f6b366c798d2306065e44976a9abe00bf426edb8d7e4d3c79af1f"), looks := false }, kinds := [], alts := [], laidByText := true, laidKinds := [.widerDeep], laidTests := true, laidLooks := .later }
def FnNumbersUptoCardSaid : Prop := Claim7.holds Tryd.pinned (.plain (OpenSpec.upto fnNumbersSpec)) fnNumbersUptoCard

/-- THE SECOND FORM's CARD OF 'laws.FnCutUnits'. -/
def fnCutUnitsUptoCard : Claim7 := { stood := { row := fnCutUnitsUptoRow, standIns := [], harness := (true, "dcdb544ecc9f6b366c798d2306065e44976a9abe00bf426edb8d7e4d3c79af1f"), looks := false }, kinds := [], alts := [], laidByText := true, laidKinds := [.widerDeep], laidTests := true, laidLooks := .later }
def FnCutUnitsUptoCardSaid : Prop := Claim7.holds Tryd.pinned (.plain (OpenSpec.upto fnCutUnitsSpec)) fnCutUnitsUptoCard

/-- THE SECOND FORM's CARD OF 'laws.FnNoUnits'. -/
def fnNoUnitsUptoCard : Claim7 := { stood := { row := fnNoUnitsUptoRow, standIns := [], harness := (true, "dcdb544ecc9f6b366c798d2306065e44976a9abe00bf426edb8d7e4d3c79af1f"), looks := false }, kinds := [], alts := [], laidByText := true, laidKinds := [.widerDeep], laidTests := true, laidLooks := .later }
def FnNoUnitsUptoCardSaid : Prop := Claim7.holds Tryd.pinned (.plain (OpenSpec.upto fnNoUnitsSpec)) fnNoUnitsUptoCard

/-- THE SECOND FORM's CARD OF 'laws.FnUnits'. -/
def fnUnitsUptoCard : Claim7 := { stood := { row := fnUnitsUptoRow, standIns := [], harness := (true, "dcdb544ecc9f6b366c798d2306065e44976a9abe00bf426edb8d7e4d3c79af1f"), looks := false }, kinds := [], alts := [], laidByText := true, laidKinds := [.widerDeep], laidTests := true, laidLooks := .later }
def FnUnitsUptoCardSaid : Prop := Claim7.holds Tryd.pinned (.plain (OpenSpec.upto fnUnitsSpec)) fnUnitsUptoCard

/-- THE SECOND FORM's CARD OF 'laws.FnBothUnits'. -/
def fnBothUnitsUptoCard : Claim7 := { stood := { row := fnBothUnitsUptoRow, standIns := [], harness := (true, "dcdb544ecc9f6b366c798d2306065e44976a9abe00bf426edb8d7e4d3c79af1f"), looks := false }, kinds := [], alts := [], laidByText := true, laidKinds := [.widerDeep], laidTests := true, laidLooks := .later }
def FnBothUnitsUptoCardSaid : Prop := Claim7.holds Tryd.pinned (.plain (OpenSpec.upto fnBothUnitsSpec)) fnBothUnitsUptoCard
end Rows
end Go.Proofs.YtahfnlhpodbbaaaDoor
