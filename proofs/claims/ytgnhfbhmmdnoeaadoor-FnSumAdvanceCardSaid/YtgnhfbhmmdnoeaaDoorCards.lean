/-
  DERIVED. GIVEN WITH THE SEED: THE CARDS: each row of YtgnhfbhmmdnoeaaDoorRows.lean that lists a variable, with what it lists TIED to the program's text (the seventh form; the later family's looks); each row that meets fmt, with fmt's text TOLD by the authors' own Lean function (tested against real Go, not proved from fmt's source: count such statements apart). THE CARD IS WHAT COUNTS. Prove the row's statement (the work); the ties are given (YtgnhfbhmmdnoeaaDoorTie.lean); close each card by the builder's one call (the guide's Derived/Test/ToyasCard.lean, 'card_holds'). Laid BY PROGRAM, IN A SANDBOX (cutbox-door.mjs). By AI agents, Wed Nov 11 2026. No macro, syntax, notation, axiom, sorry.
-/
import Derived.Test.YtgnhfbhmmdnoeaaDoorRows
import GoSem.ClaimSeven
namespace Go.Proofs.YtgnhfbhmmdnoeaaDoor
namespace Rows

/-- THE TIED CARD OF 'laws.FnAdvance'. -/
def fnAdvanceCard : Claim7 := { stood := { row := fnAdvanceRow, standIns := [], harness := (true, "8d881e9c95cef5c023fece20be0926481f31f7ef9603d289ce55e526e9308915"), looks := false }, kinds := [], alts := [], laidByText := true, laidKinds := [.data, .pinned], laidTests := true, laidLooks := .later }
def FnAdvanceCardSaid : Prop := Claim7.holds Tryd.pinned (.plain (OpenSpec.ofChange fnAdvanceSpec)) fnAdvanceCard

/-- THE TIED CARD OF 'laws.FnAdvanceBytes'. -/
def fnAdvanceBytesCard : Claim7 := { stood := { row := fnAdvanceBytesRow, standIns := [], harness := (true, "8d881e9c95cef5c023fece20be0926481f31f7ef9603d289ce55e526e9308915"), looks := false }, kinds := [], alts := [], laidByText := true, laidKinds := [.data, .pinned], laidTests := true, laidLooks := .later }
def FnAdvanceBytesCardSaid : Prop := Claim7.holds Tryd.pinned (.plain (OpenSpec.ofChange fnAdvanceBytesSpec)) fnAdvanceBytesCard

/-- THE TIED CARD OF 'laws.FnAdvanceRoads'. -/
def fnAdvanceRoadsCard : Claim7 := { stood := { row := fnAdvanceRoadsRow, standIns := [], harness := (true, "8d881e9c95cef5c023fece20be0926481f31f7ef9603d289ce55e526e9308915"), looks := false }, kinds := [], alts := [], laidByText := true, laidKinds := [.data, .pinned], laidTests := true, laidLooks := .later }
def FnAdvanceRoadsCardSaid : Prop := Claim7.holds Tryd.pinned (.plain (OpenSpec.ofChange fnAdvanceRoadsSpec)) fnAdvanceRoadsCard

/-- THE TIED CARD OF 'laws.FnAdvanceSplit'. -/
def fnAdvanceSplitCard : Claim7 := { stood := { row := fnAdvanceSplitRow, standIns := [], harness := (true, "8d881e9c95cef5c023fece20be0926481f31f7ef9603d289ce55e526e9308915"), looks := false }, kinds := [], alts := [], laidByText := true, laidKinds := [.data, .pinned], laidTests := true, laidLooks := .later }
def FnAdvanceSplitCardSaid : Prop := Claim7.holds Tryd.pinned (.plain (OpenSpec.ofChange fnAdvanceSplitSpec)) fnAdvanceSplitCard

/-- THE TIED CARD OF 'laws.FnBeforeText'. -/
def fnBeforeTextCard : Claim7 := { stood := { row := fnBeforeTextRow, standIns := [], harness := (true, "8d881e9c95cef5c023fece20be0926481f31f7ef9603d289ce55e526e9308915"), looks := false }, kinds := [], alts := [], laidByText := true, laidKinds := [.data, .pinned], laidTests := true, laidLooks := .later }
def FnBeforeTextCardSaid : Prop := Claim7.holds Tryd.pinned (.plain (OpenSpec.ofChange fnBeforeTextSpec)) fnBeforeTextCard

/-- THE TIED CARD OF 'laws.FnSumAdvance'. -/
def fnSumAdvanceCard : Claim7 := { stood := { row := fnSumAdvanceRow, standIns := [], harness := (true, "8d881e9c95cef5c023fece20be0926481f31f7ef9603d289ce55e526e9308915"), looks := false }, kinds := [], alts := [], laidByText := true, laidKinds := [.data, .pinned], laidTests := true, laidLooks := .later }
def FnSumAdvanceCardSaid : Prop := Claim7.holds Tryd.pinned (.plain (OpenSpec.ofChange fnSumAdvanceSpec)) fnSumAdvanceCard

/-- THE SECOND FORM's CARD OF 'laws.FnAdvance'. -/
def fnAdvanceUptoCard : Claim7 := { stood := { row := fnAdvanceUptoRow, standIns := [], harness := (true, "8d881e9c95cef5c023fece20be0926481f31f7ef9603d289ce55e526e9308915"), looks := false }, kinds := [], alts := [], laidByText := true, laidKinds := [.data, .pinned], laidTests := true, laidLooks := .later }
def FnAdvanceUptoCardSaid : Prop := Claim7.holds Tryd.pinned (.plain (OpenSpec.upto fnAdvanceSpec)) fnAdvanceUptoCard

/-- THE SECOND FORM's CARD OF 'laws.FnAdvanceBytes'. -/
def fnAdvanceBytesUptoCard : Claim7 := { stood := { row := fnAdvanceBytesUptoRow, standIns := [], harness := (true, "8d881e9c95cef5c023fece20be0926481f31f7ef9603d289ce55e526e9308915"), looks := false }, kinds := [], alts := [], laidByText := true, laidKinds := [.data, .pinned], laidTests := true, laidLooks := .later }
def FnAdvanceBytesUptoCardSaid : Prop := Claim7.holds Tryd.pinned (.plain (OpenSpec.upto fnAdvanceBytesSpec)) fnAdvanceBytesUptoCard

/-- THE SECOND FORM's CARD OF 'laws.FnAdvanceRoads'. -/
def fnAdvanceRoadsUptoCard : Claim7 := { stood := { row := fnAdvanceRoadsUptoRow, standIns := [], harness := (true, "8d881e9c95cef5c023fece20be0926481f31f7ef9603d289ce55e526e9308915"), looks := false }, kinds := [], alts := [], laidByText := true, laidKinds := [.data, .pinned], laidTests := true, laidLooks := .later }
def FnAdvanceRoadsUptoCardSaid : Prop := Claim7.holds Tryd.pinned (.plain (OpenSpec.upto fnAdvanceRoadsSpec)) fnAdvanceRoadsUptoCard

/-- THE SECOND FORM's CARD OF 'laws.FnAdvanceSplit'. -/
def fnAdvanceSplitUptoCard : Claim7 := { stood := { row := fnAdvanceSplitUptoRow, standIns := [], harness := (true, "8d881e9c95cef5c023fece20be0926481f31f7ef9603d289ce55e526e9308915"), looks := false }, kinds := [], alts := [], laidByText := true, laidKinds := [.data, .pinned], laidTests := true, laidLooks := .later }
def FnAdvanceSplitUptoCardSaid : Prop := Claim7.holds Tryd.pinned (.plain (OpenSpec.upto fnAdvanceSplitSpec)) fnAdvanceSplitUptoCard

/-- THE SECOND FORM's CARD OF 'laws.FnBeforeText'. -/
def fnBeforeTextUptoCard : Claim7 := { stood := { row := fnBeforeTextUptoRow, standIns := [], harness := (true, "8d881e9c95cef5c023fece20be0926481f31f7ef9603d289ce55e526e9308915"), looks := false }, kinds := [], alts := [], laidByText := true, laidKinds := [.data, .pinned], laidTests := true, laidLooks := .later }
def FnBeforeTextUptoCardSaid : Prop := Claim7.holds Tryd.pinned (.plain (OpenSpec.upto fnBeforeTextSpec)) fnBeforeTextUptoCard

/-- THE SECOND FORM's CARD OF 'laws.FnSumAdvance'. -/
def fnSumAdvanceUptoCard : Claim7 := { stood := { row := fnSumAdvanceUptoRow, standIns := [], harness := (true, "8d881e9c95cef5c023fece20be0926481f31f7ef9603d289ce55e526e9308915"), looks := false }, kinds := [], alts := [], laidByText := true, laidKinds := [.data, .pinned], laidTests := true, laidLooks := .later }
def FnSumAdvanceUptoCardSaid : Prop := Claim7.holds Tryd.pinned (.plain (OpenSpec.upto fnSumAdvanceSpec)) fnSumAdvanceUptoCard
end Rows
end Go.Proofs.YtgnhfbhmmdnoeaaDoor
