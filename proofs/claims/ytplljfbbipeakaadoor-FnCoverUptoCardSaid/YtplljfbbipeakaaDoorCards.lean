/-
  DERIVED. GIVEN WITH THE SEED: THE CARDS: each row of YtplljfbbipeakaaDoorRows.lean that lists a variable, with what it lists TIED to the program's text (the seventh form; the later family's looks); each row that meets fmt, with fmt's text TOLD by the authors' own Lean function (tested against real Go, not proved from fmt's source: count such statements apart). THE CARD IS WHAT COUNTS. Prove the row's statement (the work); the ties are given (YtplljfbbipeakaaDoorTie.lean); close each card by the builder's one call (the guide's Derived/Test/ToyasCard.lean, 'card_holds'). Laid BY PROGRAM, IN A SANDBOX (cutbox-door.mjs). By AI agents, Wed Nov 11 2026. No macro, syntax, notation, axiom, sorry.
-/
import Derived.Test.YtplljfbbipeakaaDoorRows
import GoSem.ClaimSeven
namespace Go.Proofs.YtplljfbbipeakaaDoor
namespace Rows

/-- THE TIED CARD OF 'laws.FnWords'. -/
def fnWordsCard : Claim7 := { stood := { row := fnWordsRow, standIns := [], harness := (true, "f31e70b894073eae03368c44f8858da31efec2c661d0586336be3d2500dad7d5"), looks := true }, kinds := [], alts := [], laidByText := true, laidKinds := [.data, .mapped], laidTests := true, laidLooks := .later }
def FnWordsCardSaid : Prop := Claim7.holds Tryd.pinned (.plain (OpenSpec.ofChange fnWordsSpec)) fnWordsCard

/-- THE TIED CARD OF 'laws.FnColumns'. -/
def fnColumnsCard : Claim7 := { stood := { row := fnColumnsRow, standIns := [], harness := (true, "f31e70b894073eae03368c44f8858da31efec2c661d0586336be3d2500dad7d5"), looks := true }, kinds := [], alts := [], laidByText := true, laidKinds := [.data, .mapped, .sentinel, .pinned, .pinned], laidTests := true, laidLooks := .later }
def FnColumnsCardSaid : Prop := Claim7.holds Tryd.pinned (.plain (OpenSpec.ofChange fnColumnsSpec)) fnColumnsCard

/-- THE TIED CARD OF 'laws.FnCut'. -/
def fnCutCard : Claim7 := { stood := { row := fnCutRow, standIns := [], harness := (true, "f31e70b894073eae03368c44f8858da31efec2c661d0586336be3d2500dad7d5"), looks := true }, kinds := [], alts := [], laidByText := true, laidKinds := [.data, .mapped, .sentinel, .pinned, .pinned], laidTests := true, laidLooks := .later }
def FnCutCardSaid : Prop := Claim7.holds Tryd.pinned (.plain (OpenSpec.ofChange fnCutSpec)) fnCutCard

/-- THE TIED CARD OF 'laws.FnJoined'. -/
def fnJoinedCard : Claim7 := { stood := { row := fnJoinedRow, standIns := [], harness := (true, "f31e70b894073eae03368c44f8858da31efec2c661d0586336be3d2500dad7d5"), looks := true }, kinds := [], alts := [], laidByText := true, laidKinds := [.data, .mapped, .sentinel, .pinned, .pinned], laidTests := true, laidLooks := .later }
def FnJoinedCardSaid : Prop := Claim7.holds Tryd.pinned (.plain (OpenSpec.ofChange fnJoinedSpec)) fnJoinedCard

/-- THE TIED CARD OF 'laws.FnScan'. -/
def fnScanCard : Claim7 := { stood := { row := fnScanRow, standIns := [], harness := (true, "f31e70b894073eae03368c44f8858da31efec2c661d0586336be3d2500dad7d5"), looks := true }, kinds := [], alts := [], laidByText := true, laidKinds := [.data, .mapped, .sentinel, .pinned, .pinned], laidTests := true, laidLooks := .later }
def FnScanCardSaid : Prop := Claim7.holds Tryd.pinned (.plain (OpenSpec.ofChange fnScanSpec)) fnScanCard

/-- THE TIED CARD OF 'laws.FnTexts'. -/
def fnTextsCard : Claim7 := { stood := { row := fnTextsRow, standIns := [], harness := (true, "f31e70b894073eae03368c44f8858da31efec2c661d0586336be3d2500dad7d5"), looks := true }, kinds := [], alts := [], laidByText := true, laidKinds := [.data, .mapped, .sentinel, .pinned, .pinned], laidTests := true, laidLooks := .later }
def FnTextsCardSaid : Prop := Claim7.holds Tryd.pinned (.plain (OpenSpec.ofChange fnTextsSpec)) fnTextsCard

/-- THE TIED CARD OF 'laws.FnCover'. -/
def fnCoverCard : Claim7 := { stood := { row := fnCoverRow, standIns := [], harness := (true, "f31e70b894073eae03368c44f8858da31efec2c661d0586336be3d2500dad7d5"), looks := true }, kinds := [], alts := [], laidByText := true, laidKinds := [.data, .mapped, .sentinel, .pinned, .pinned], laidTests := true, laidLooks := .later }
def FnCoverCardSaid : Prop := Claim7.holds Tryd.pinned (.plain (OpenSpec.ofChange fnCoverSpec)) fnCoverCard

/-- THE TIED CARD OF 'laws.FnKeyword'. -/
def fnKeywordCard : Claim7 := { stood := { row := fnKeywordRow, standIns := [], harness := (true, "f31e70b894073eae03368c44f8858da31efec2c661d0586336be3d2500dad7d5"), looks := true }, kinds := [], alts := [], laidByText := true, laidKinds := [.data, .mapped, .sentinel, .pinned, .pinned], laidTests := true, laidLooks := .later }
def FnKeywordCardSaid : Prop := Claim7.holds Tryd.pinned (.plain (OpenSpec.ofChange fnKeywordSpec)) fnKeywordCard

/-- THE SECOND FORM's CARD OF 'laws.FnWords'. -/
def fnWordsUptoCard : Claim7 := { stood := { row := fnWordsUptoRow, standIns := [], harness := (true, "f31e70b894073eae03368c44f8858da31efec2c661d0586336be3d2500dad7d5"), looks := true }, kinds := [], alts := [], laidByText := true, laidKinds := [.data, .mapped], laidTests := true, laidLooks := .later }
def FnWordsUptoCardSaid : Prop := Claim7.holds Tryd.pinned (.plain (OpenSpec.upto fnWordsSpec)) fnWordsUptoCard

/-- THE SECOND FORM's CARD OF 'laws.FnColumns'. -/
def fnColumnsUptoCard : Claim7 := { stood := { row := fnColumnsUptoRow, standIns := [], harness := (true, "f31e70b894073eae03368c44f8858da31efec2c661d0586336be3d2500dad7d5"), looks := true }, kinds := [], alts := [], laidByText := true, laidKinds := [.data, .mapped, .sentinel, .pinned, .pinned], laidTests := true, laidLooks := .later }
def FnColumnsUptoCardSaid : Prop := Claim7.holds Tryd.pinned (.plain (OpenSpec.upto fnColumnsSpec)) fnColumnsUptoCard

/-- THE SECOND FORM's CARD OF 'laws.FnCut'. -/
def fnCutUptoCard : Claim7 := { stood := { row := fnCutUptoRow, standIns := [], harness := (true, "f31e70b894073eae03368c44f8858da31efec2c661d0586336be3d2500dad7d5"), looks := true }, kinds := [], alts := [], laidByText := true, laidKinds := [.data, .mapped, .sentinel, .pinned, .pinned], laidTests := true, laidLooks := .later }
def FnCutUptoCardSaid : Prop := Claim7.holds Tryd.pinned (.plain (OpenSpec.upto fnCutSpec)) fnCutUptoCard

/-- THE SECOND FORM's CARD OF 'laws.FnJoined'. -/
def fnJoinedUptoCard : Claim7 := { stood := { row := fnJoinedUptoRow, standIns := [], harness := (true, "f31e70b894073eae03368c44f8858da31efec2c661d0586336be3d2500dad7d5"), looks := true }, kinds := [], alts := [], laidByText := true, laidKinds := [.data, .mapped, .sentinel, .pinned, .pinned], laidTests := true, laidLooks := .later }
def FnJoinedUptoCardSaid : Prop := Claim7.holds Tryd.pinned (.plain (OpenSpec.upto fnJoinedSpec)) fnJoinedUptoCard

/-- THE SECOND FORM's CARD OF 'laws.FnScan'. -/
def fnScanUptoCard : Claim7 := { stood := { row := fnScanUptoRow, standIns := [], harness := (true, "f31e70b894073eae03368c44f8858da31efec2c661d0586336be3d2500dad7d5"), looks := true }, kinds := [], alts := [], laidByText := true, laidKinds := [.data, .mapped, .sentinel, .pinned, .pinned], laidTests := true, laidLooks := .later }
def FnScanUptoCardSaid : Prop := Claim7.holds Tryd.pinned (.plain (OpenSpec.upto fnScanSpec)) fnScanUptoCard

/-- THE SECOND FORM's CARD OF 'laws.FnTexts'. -/
def fnTextsUptoCard : Claim7 := { stood := { row := fnTextsUptoRow, standIns := [], harness := (true, "f31e70b894073eae03368c44f8858da31efec2c661d0586336be3d2500dad7d5"), looks := true }, kinds := [], alts := [], laidByText := true, laidKinds := [.data, .mapped, .sentinel, .pinned, .pinned], laidTests := true, laidLooks := .later }
def FnTextsUptoCardSaid : Prop := Claim7.holds Tryd.pinned (.plain (OpenSpec.upto fnTextsSpec)) fnTextsUptoCard

/-- THE SECOND FORM's CARD OF 'laws.FnCover'. -/
def fnCoverUptoCard : Claim7 := { stood := { row := fnCoverUptoRow, standIns := [], harness := (true, "f31e70b894073eae03368c44f8858da31efec2c661d0586336be3d2500dad7d5"), looks := true }, kinds := [], alts := [], laidByText := true, laidKinds := [.data, .mapped, .sentinel, .pinned, .pinned], laidTests := true, laidLooks := .later }
def FnCoverUptoCardSaid : Prop := Claim7.holds Tryd.pinned (.plain (OpenSpec.upto fnCoverSpec)) fnCoverUptoCard

/-- THE SECOND FORM's CARD OF 'laws.FnKeyword'. -/
def fnKeywordUptoCard : Claim7 := { stood := { row := fnKeywordUptoRow, standIns := [], harness := (true, "f31e70b894073eae03368c44f8858da31efec2c661d0586336be3d2500dad7d5"), looks := true }, kinds := [], alts := [], laidByText := true, laidKinds := [.data, .mapped, .sentinel, .pinned, .pinned], laidTests := true, laidLooks := .later }
def FnKeywordUptoCardSaid : Prop := Claim7.holds Tryd.pinned (.plain (OpenSpec.upto fnKeywordSpec)) fnKeywordUptoCard
end Rows
end Go.Proofs.YtplljfbbipeakaaDoor
