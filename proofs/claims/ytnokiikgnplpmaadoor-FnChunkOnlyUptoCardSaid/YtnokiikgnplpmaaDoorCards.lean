/-
  DERIVED. GIVEN WITH THE SEED: THE CARDS: each row of YtnokiikgnplpmaaDoorRows.lean that lists a variable, with what it lists TIED to the program's text (the seventh form; the later family's looks); each row that meets fmt, with fmt's text TOLD by the authors' own Lean function (tested against real Go, not proved from fmt's source: count such statements apart). THE CARD IS WHAT COUNTS. Prove the row's statement (the work); the ties are given (YtnokiikgnplpmaaDoorTie.lean); close each card by the builder's one call (the guide's Derived/Test/ToyasCard.lean, 'card_holds'). Laid BY PROGRAM, IN A SANDBOX (cutbox-door.mjs). By AI agents, Wed Nov 11 2026. No macro, syntax, notation, axiom, sorry.
-/
import Derived.Test.YtnokiikgnplpmaaDoorRows
import GoSem.ClaimSeven
namespace Go.Proofs.YtnokiikgnplpmaaDoor
namespace Rows

/-- THE TIED CARD OF 'laws.FnChunkLines'. -/
def fnChunkLinesCard : Claim7 := { stood := { row := fnChunkLinesRow, standIns := [], harness := (true, "e12f33359f03d962bca6d4af753efd4281c9da1170bcd33c268ffde73415dfd6"), looks := false }, kinds := [], alts := [], laidByText := true, laidKinds := [.widerDeep], laidTests := true, laidLooks := .later }
def FnChunkLinesCardSaid : Prop := Claim7.holds Tryd.pinned (.plain (OpenSpec.ofChange fnChunkLinesSpec)) fnChunkLinesCard

/-- THE TIED CARD OF 'laws.FnChunkOnly'. -/
def fnChunkOnlyCard : Claim7 := { stood := { row := fnChunkOnlyRow, standIns := [], harness := (true, "e12f33359f03d962bca6d4af753efd4281c9da1170bcd33c268ffde73415dfd6"), looks := false }, kinds := [], alts := [], laidByText := true, laidKinds := [.widerDeep], laidTests := true, laidLooks := .later }
def FnChunkOnlyCardSaid : Prop := Claim7.holds Tryd.pinned (.plain (OpenSpec.ofChange fnChunkOnlySpec)) fnChunkOnlyCard

/-- THE TIED CARD OF 'laws.FnTwoChunks'. -/
def fnTwoChunksCard : Claim7 := { stood := { row := fnTwoChunksRow, standIns := [], harness := (true, "e12f33359f03d962bca6d4af753efd4281c9da1170bcd33c268ffde73415dfd6"), looks := false }, kinds := [], alts := [], laidByText := true, laidKinds := [.widerDeep], laidTests := true, laidLooks := .later }
def FnTwoChunksCardSaid : Prop := Claim7.holds Tryd.pinned (.plain (OpenSpec.ofChange fnTwoChunksSpec)) fnTwoChunksCard

/-- THE TIED CARD OF 'laws.FnJoin'. -/
def fnJoinCard : Claim7 := { stood := { row := fnJoinRow, standIns := [], harness := (true, "e12f33359f03d962bca6d4af753efd4281c9da1170bcd33c268ffde73415dfd6"), looks := false }, kinds := [], alts := [], laidByText := true, laidKinds := [.widerDeep], laidTests := true, laidLooks := .later }
def FnJoinCardSaid : Prop := Claim7.holds Tryd.pinned (.plain (OpenSpec.ofChange fnJoinSpec)) fnJoinCard

/-- THE TIED CARD OF 'laws.FnJoinMany'. -/
def fnJoinManyCard : Claim7 := { stood := { row := fnJoinManyRow, standIns := [], harness := (true, "e12f33359f03d962bca6d4af753efd4281c9da1170bcd33c268ffde73415dfd6"), looks := false }, kinds := [], alts := [], laidByText := true, laidKinds := [.widerDeep], laidTests := true, laidLooks := .later }
def FnJoinManyCardSaid : Prop := Claim7.holds Tryd.pinned (.plain (OpenSpec.ofChange fnJoinManySpec)) fnJoinManyCard

/-- THE TIED CARD OF 'laws.FnJoinMoved'. -/
def fnJoinMovedCard : Claim7 := { stood := { row := fnJoinMovedRow, standIns := [], harness := (true, "e12f33359f03d962bca6d4af753efd4281c9da1170bcd33c268ffde73415dfd6"), looks := false }, kinds := [], alts := [], laidByText := true, laidKinds := [.widerDeep], laidTests := true, laidLooks := .later }
def FnJoinMovedCardSaid : Prop := Claim7.holds Tryd.pinned (.plain (OpenSpec.ofChange fnJoinMovedSpec)) fnJoinMovedCard

/-- THE TIED CARD OF 'laws.FnJoinNothing'. -/
def fnJoinNothingCard : Claim7 := { stood := { row := fnJoinNothingRow, standIns := [], harness := (true, "e12f33359f03d962bca6d4af753efd4281c9da1170bcd33c268ffde73415dfd6"), looks := false }, kinds := [], alts := [], laidByText := true, laidKinds := [.widerDeep], laidTests := true, laidLooks := .later }
def FnJoinNothingCardSaid : Prop := Claim7.holds Tryd.pinned (.plain (OpenSpec.ofChange fnJoinNothingSpec)) fnJoinNothingCard

/-- THE TIED CARD OF 'laws.FnChunk'. -/
def fnChunkCard : Claim7 := { stood := { row := fnChunkRow, standIns := [], harness := (true, "e12f33359f03d962bca6d4af753efd4281c9da1170bcd33c268ffde73415dfd6"), looks := false }, kinds := [], alts := [], laidByText := true, laidKinds := [.widerDeep], laidTests := true, laidLooks := .later }
def FnChunkCardSaid : Prop := Claim7.holds Tryd.pinned (.plain (OpenSpec.ofChange fnChunkSpec)) fnChunkCard

/-- THE TIED CARD OF 'laws.FnChunkEnd'. -/
def fnChunkEndCard : Claim7 := { stood := { row := fnChunkEndRow, standIns := [], harness := (true, "e12f33359f03d962bca6d4af753efd4281c9da1170bcd33c268ffde73415dfd6"), looks := false }, kinds := [], alts := [], laidByText := true, laidKinds := [.widerDeep], laidTests := true, laidLooks := .later }
def FnChunkEndCardSaid : Prop := Claim7.holds Tryd.pinned (.plain (OpenSpec.ofChange fnChunkEndSpec)) fnChunkEndCard

/-- THE SECOND FORM's CARD OF 'laws.FnChunkLines'. -/
def fnChunkLinesUptoCard : Claim7 := { stood := { row := fnChunkLinesUptoRow, standIns := [], harness := (true, "e12f33359f03d962bca6d4af753efd4281c9da1170bcd33c268ffde73415dfd6"), looks := false }, kinds := [], alts := [], laidByText := true, laidKinds := [.widerDeep], laidTests := true, laidLooks := .later }
def FnChunkLinesUptoCardSaid : Prop := Claim7.holds Tryd.pinned (.plain (OpenSpec.upto fnChunkLinesSpec)) fnChunkLinesUptoCard

/-- THE SECOND FORM's CARD OF 'laws.FnChunkOnly'. -/
def fnChunkOnlyUptoCard : Claim7 := { stood := { row := fnChunkOnlyUptoRow, standIns := [], harness := (true, "e12f33359f03d962bca6d4af753efd4281c9da1170bcd33c268ffde73415dfd6"), looks := false }, kinds := [], alts := [], laidByText := true, laidKinds := [.widerDeep], laidTests := true, laidLooks := .later }
def FnChunkOnlyUptoCardSaid : Prop := Claim7.holds Tryd.pinned (.plain (OpenSpec.upto fnChunkOnlySpec)) fnChunkOnlyUptoCard

/-- THE SECOND FORM's CARD OF 'laws.FnTwoChunks'. -/
def fnTwoChunksUptoCard : Claim7 := { stood := { row := fnTwoChunksUptoRow, standIns := [], harness := (true, "e12f33359f03d962bca6d4af753efd4281c9da1170bcd33c268ffde73415dfd6"), looks := false }, kinds := [], alts := [], laidByText := true, laidKinds := [.widerDeep], laidTests := true, laidLooks := .later }
def FnTwoChunksUptoCardSaid : Prop := Claim7.holds Tryd.pinned (.plain (OpenSpec.upto fnTwoChunksSpec)) fnTwoChunksUptoCard

/-- THE SECOND FORM's CARD OF 'laws.FnJoin'. -/
def fnJoinUptoCard : Claim7 := { stood := { row := fnJoinUptoRow, standIns := [], harness := (true, "e12f33359f03d962bca6d4af753efd4281c9da1170bcd33c268ffde73415dfd6"), looks := false }, kinds := [], alts := [], laidByText := true, laidKinds := [.widerDeep], laidTests := true, laidLooks := .later }
def FnJoinUptoCardSaid : Prop := Claim7.holds Tryd.pinned (.plain (OpenSpec.upto fnJoinSpec)) fnJoinUptoCard

/-- THE SECOND FORM's CARD OF 'laws.FnJoinMany'. -/
def fnJoinManyUptoCard : Claim7 := { stood := { row := fnJoinManyUptoRow, standIns := [], harness := (true, "e12f33359f03d962bca6d4af753efd4281c9da1170bcd33c268ffde73415dfd6"), looks := false }, kinds := [], alts := [], laidByText := true, laidKinds := [.widerDeep], laidTests := true, laidLooks := .later }
def FnJoinManyUptoCardSaid : Prop := Claim7.holds Tryd.pinned (.plain (OpenSpec.upto fnJoinManySpec)) fnJoinManyUptoCard

/-- THE SECOND FORM's CARD OF 'laws.FnJoinMoved'. -/
def fnJoinMovedUptoCard : Claim7 := { stood := { row := fnJoinMovedUptoRow, standIns := [], harness := (true, "e12f33359f03d962bca6d4af753efd4281c9da1170bcd33c268ffde73415dfd6"), looks := false }, kinds := [], alts := [], laidByText := true, laidKinds := [.widerDeep], laidTests := true, laidLooks := .later }
def FnJoinMovedUptoCardSaid : Prop := Claim7.holds Tryd.pinned (.plain (OpenSpec.upto fnJoinMovedSpec)) fnJoinMovedUptoCard

/-- THE SECOND FORM's CARD OF 'laws.FnJoinNothing'. -/
def fnJoinNothingUptoCard : Claim7 := { stood := { row := fnJoinNothingUptoRow, standIns := [], harness := (true, "e12f33359f03d962bca6d4af753efd4281c9da1170bcd33c268ffde73415dfd6"), looks := false }, kinds := [], alts := [], laidByText := true, laidKinds := [.widerDeep], laidTests := true, laidLooks := .later }
def FnJoinNothingUptoCardSaid : Prop := Claim7.holds Tryd.pinned (.plain (OpenSpec.upto fnJoinNothingSpec)) fnJoinNothingUptoCard

/-- THE SECOND FORM's CARD OF 'laws.FnChunk'. -/
def fnChunkUptoCard : Claim7 := { stood := { row := fnChunkUptoRow, standIns := [], harness := (true, "e12f33359f03d962bca6d4af753efd4281c9da1170bcd33c268ffde73415dfd6"), looks := false }, kinds := [], alts := [], laidByText := true, laidKinds := [.widerDeep], laidTests := true, laidLooks := .later }
def FnChunkUptoCardSaid : Prop := Claim7.holds Tryd.pinned (.plain (OpenSpec.upto fnChunkSpec)) fnChunkUptoCard

/-- THE SECOND FORM's CARD OF 'laws.FnChunkEnd'. -/
def fnChunkEndUptoCard : Claim7 := { stood := { row := fnChunkEndUptoRow, standIns := [], harness := (true, "e12f33359f03d962bca6d4af753efd4281c9da1170bcd33c268ffde73415dfd6"), looks := false }, kinds := [], alts := [], laidByText := true, laidKinds := [.widerDeep], laidTests := true, laidLooks := .later }
def FnChunkEndUptoCardSaid : Prop := Claim7.holds Tryd.pinned (.plain (OpenSpec.upto fnChunkEndSpec)) fnChunkEndUptoCard
end Rows
end Go.Proofs.YtnokiikgnplpmaaDoor
