/-
  DERIVED. GIVEN WITH THE SEED: THE CARDS: each row of YthpfladpbfbpjaaDoorRows.lean that lists a variable, with what it lists TIED to the program's text (the seventh form; the later family's looks); each row that meets fmt, with fmt's text TOLD by the authors' own Lean function (tested against real Go, not proved from fmt's source: count such statements apart). THE CARD IS WHAT COUNTS. Prove the row's statement (the work); the ties are given (YthpfladpbfbpjaaDoorTie.lean); close each card by the builder's one call (the guide's Derived/Test/ToyasCard.lean, 'card_holds'). Laid BY PROGRAM, IN A SANDBOX (cutbox-door.mjs). By AI agents, Wed Nov 11 2026. No macro, syntax, notation, axiom, sorry.
-/
import Derived.Test.YthpfladpbfbpjaaDoorRows
import GoSem.ClaimSeven
namespace Go.Proofs.YthpfladpbfbpjaaDoor
namespace Rows

/-- THE TIED CARD OF 'laws.FnWritten'. -/
def fnWrittenCard : Claim7 := { stood := { row := fnWrittenRow, standIns := [], harness := (true, "07c4d6116038d1c2bbd9f3cc3d52b5ee1e04252e4fab616456080b13b18fb752"), looks := true }, kinds := [], alts := [], laidByText := true, laidKinds := [.data, .data, .data], laidTests := true, laidLooks := .later }
def FnWrittenCardSaid : Prop := Claim7.holds Tryd.pinned (.plain (OpenSpec.ofChange fnWrittenSpec)) fnWrittenCard

/-- THE TIED CARD OF 'laws.FnParseTopo'. -/
def fnParseTopoCard : Claim7 := { stood := { row := fnParseTopoRow, standIns := [], harness := (true, "07c4d6116038d1c2bbd9f3cc3d52b5ee1e04252e4fab616456080b13b18fb752"), looks := true }, kinds := [], alts := [], laidByText := true, laidKinds := [.data, .data, .data], laidTests := true, laidLooks := .later }
def FnParseTopoCardSaid : Prop := Claim7.holds Tryd.pinned (.plain (OpenSpec.ofChange fnParseTopoSpec)) fnParseTopoCard

/-- THE TIED CARD OF 'laws.FnParseReduced'. -/
def fnParseReducedCard : Claim7 := { stood := { row := fnParseReducedRow, standIns := [], harness := (true, "07c4d6116038d1c2bbd9f3cc3d52b5ee1e04252e4fab616456080b13b18fb752"), looks := true }, kinds := [], alts := [], laidByText := true, laidKinds := [.data, .data, .data], laidTests := true, laidLooks := .later }
def FnParseReducedCardSaid : Prop := Claim7.holds Tryd.pinned (.plain (OpenSpec.ofChange fnParseReducedSpec)) fnParseReducedCard

/-- THE TIED CARD OF 'laws.FnBar'. -/
def fnBarCard : Claim7 := { stood := { row := fnBarRow, standIns := [], harness := (true, "07c4d6116038d1c2bbd9f3cc3d52b5ee1e04252e4fab616456080b13b18fb752"), looks := true }, kinds := [], alts := [], laidByText := true, laidKinds := [.data, .data, .data], laidTests := true, laidLooks := .later }
def FnBarCardSaid : Prop := Claim7.holds Tryd.pinned (.plain (OpenSpec.ofChange fnBarSpec)) fnBarCard

/-- THE TIED CARD OF 'laws.FnBarAhead'. -/
def fnBarAheadCard : Claim7 := { stood := { row := fnBarAheadRow, standIns := [], harness := (true, "07c4d6116038d1c2bbd9f3cc3d52b5ee1e04252e4fab616456080b13b18fb752"), looks := true }, kinds := [], alts := [], laidByText := true, laidKinds := [.data, .data, .data], laidTests := true, laidLooks := .later }
def FnBarAheadCardSaid : Prop := Claim7.holds Tryd.pinned (.plain (OpenSpec.ofChange fnBarAheadSpec)) fnBarAheadCard

/-- THE TIED CARD OF 'laws.FnChain'. -/
def fnChainCard : Claim7 := { stood := { row := fnChainRow, standIns := [], harness := (true, "07c4d6116038d1c2bbd9f3cc3d52b5ee1e04252e4fab616456080b13b18fb752"), looks := true }, kinds := [], alts := [], laidByText := true, laidKinds := [.data, .data, .data], laidTests := true, laidLooks := .later }
def FnChainCardSaid : Prop := Claim7.holds Tryd.pinned (.plain (OpenSpec.ofChange fnChainSpec)) fnChainCard

/-- THE TIED CARD OF 'laws.FnClosed'. -/
def fnClosedCard : Claim7 := { stood := { row := fnClosedRow, standIns := [], harness := (true, "07c4d6116038d1c2bbd9f3cc3d52b5ee1e04252e4fab616456080b13b18fb752"), looks := true }, kinds := [], alts := [], laidByText := true, laidKinds := [.data, .data, .data], laidTests := true, laidLooks := .later }
def FnClosedCardSaid : Prop := Claim7.holds Tryd.pinned (.plain (OpenSpec.ofChange fnClosedSpec)) fnClosedCard

/-- THE TIED CARD OF 'laws.FnMore'. -/
def fnMoreCard : Claim7 := { stood := { row := fnMoreRow, standIns := [], harness := (true, "07c4d6116038d1c2bbd9f3cc3d52b5ee1e04252e4fab616456080b13b18fb752"), looks := true }, kinds := [], alts := [], laidByText := true, laidKinds := [.data, .data, .data], laidTests := true, laidLooks := .later }
def FnMoreCardSaid : Prop := Claim7.holds Tryd.pinned (.plain (OpenSpec.ofChange fnMoreSpec)) fnMoreCard

/-- THE TIED CARD OF 'laws.FnParse'. -/
def fnParseCard : Claim7 := { stood := { row := fnParseRow, standIns := [], harness := (true, "07c4d6116038d1c2bbd9f3cc3d52b5ee1e04252e4fab616456080b13b18fb752"), looks := true }, kinds := [], alts := [], laidByText := true, laidKinds := [.data, .data, .data], laidTests := true, laidLooks := .later }
def FnParseCardSaid : Prop := Claim7.holds Tryd.pinned (.plain (OpenSpec.ofChange fnParseSpec)) fnParseCard

/-- THE TIED CARD OF 'laws.FnParseOrder'. -/
def fnParseOrderCard : Claim7 := { stood := { row := fnParseOrderRow, standIns := [], harness := (true, "07c4d6116038d1c2bbd9f3cc3d52b5ee1e04252e4fab616456080b13b18fb752"), looks := true }, kinds := [], alts := [], laidByText := true, laidKinds := [.data, .data, .data], laidTests := true, laidLooks := .later }
def FnParseOrderCardSaid : Prop := Claim7.holds Tryd.pinned (.plain (OpenSpec.ofChange fnParseOrderSpec)) fnParseOrderCard

/-- THE TIED CARD OF 'laws.FnRefuse'. -/
def fnRefuseCard : Claim7 := { stood := { row := fnRefuseRow, standIns := [], harness := (true, "07c4d6116038d1c2bbd9f3cc3d52b5ee1e04252e4fab616456080b13b18fb752"), looks := true }, kinds := [], alts := [], laidByText := true, laidKinds := [.data, .data, .data], laidTests := true, laidLooks := .later }
def FnRefuseCardSaid : Prop := Claim7.holds Tryd.pinned (.plain (OpenSpec.ofChange fnRefuseSpec)) fnRefuseCard

/-- THE TIED CARD OF 'laws.FnSpaced'. -/
def fnSpacedCard : Claim7 := { stood := { row := fnSpacedRow, standIns := [], harness := (true, "07c4d6116038d1c2bbd9f3cc3d52b5ee1e04252e4fab616456080b13b18fb752"), looks := true }, kinds := [], alts := [], laidByText := true, laidKinds := [.data, .data, .data], laidTests := true, laidLooks := .later }
def FnSpacedCardSaid : Prop := Claim7.holds Tryd.pinned (.plain (OpenSpec.ofChange fnSpacedSpec)) fnSpacedCard

/-- THE SECOND FORM's CARD OF 'laws.FnWritten'. -/
def fnWrittenUptoCard : Claim7 := { stood := { row := fnWrittenUptoRow, standIns := [], harness := (true, "07c4d6116038d1c2bbd9f3cc3d52b5ee1e04252e4fab616456080b13b18fb752"), looks := true }, kinds := [], alts := [], laidByText := true, laidKinds := [.data, .data, .data], laidTests := true, laidLooks := .later }
def FnWrittenUptoCardSaid : Prop := Claim7.holds Tryd.pinned (.plain (OpenSpec.upto fnWrittenSpec)) fnWrittenUptoCard

/-- THE SECOND FORM's CARD OF 'laws.FnParseTopo'. -/
def fnParseTopoUptoCard : Claim7 := { stood := { row := fnParseTopoUptoRow, standIns := [], harness := (true, "07c4d6116038d1c2bbd9f3cc3d52b5ee1e04252e4fab616456080b13b18fb752"), looks := true }, kinds := [], alts := [], laidByText := true, laidKinds := [.data, .data, .data], laidTests := true, laidLooks := .later }
def FnParseTopoUptoCardSaid : Prop := Claim7.holds Tryd.pinned (.plain (OpenSpec.upto fnParseTopoSpec)) fnParseTopoUptoCard

/-- THE SECOND FORM's CARD OF 'laws.FnParseReduced'. -/
def fnParseReducedUptoCard : Claim7 := { stood := { row := fnParseReducedUptoRow, standIns := [], harness := (true, "07c4d6116038d1c2bbd9f3cc3d52b5ee1e04252e4fab616456080b13b18fb752"), looks := true }, kinds := [], alts := [], laidByText := true, laidKinds := [.data, .data, .data], laidTests := true, laidLooks := .later }
def FnParseReducedUptoCardSaid : Prop := Claim7.holds Tryd.pinned (.plain (OpenSpec.upto fnParseReducedSpec)) fnParseReducedUptoCard

/-- THE SECOND FORM's CARD OF 'laws.FnBar'. -/
def fnBarUptoCard : Claim7 := { stood := { row := fnBarUptoRow, standIns := [], harness := (true, "07c4d6116038d1c2bbd9f3cc3d52b5ee1e04252e4fab616456080b13b18fb752"), looks := true }, kinds := [], alts := [], laidByText := true, laidKinds := [.data, .data, .data], laidTests := true, laidLooks := .later }
def FnBarUptoCardSaid : Prop := Claim7.holds Tryd.pinned (.plain (OpenSpec.upto fnBarSpec)) fnBarUptoCard

/-- THE SECOND FORM's CARD OF 'laws.FnBarAhead'. -/
def fnBarAheadUptoCard : Claim7 := { stood := { row := fnBarAheadUptoRow, standIns := [], harness := (true, "07c4d6116038d1c2bbd9f3cc3d52b5ee1e04252e4fab616456080b13b18fb752"), looks := true }, kinds := [], alts := [], laidByText := true, laidKinds := [.data, .data, .data], laidTests := true, laidLooks := .later }
def FnBarAheadUptoCardSaid : Prop := Claim7.holds Tryd.pinned (.plain (OpenSpec.upto fnBarAheadSpec)) fnBarAheadUptoCard

/-- THE SECOND FORM's CARD OF 'laws.FnChain'. -/
def fnChainUptoCard : Claim7 := { stood := { row := fnChainUptoRow, standIns := [], harness := (true, "07c4d6116038d1c2bbd9f3cc3d52b5ee1e04252e4fab616456080b13b18fb752"), looks := true }, kinds := [], alts := [], laidByText := true, laidKinds := [.data, .data, .data], laidTests := true, laidLooks := .later }
def FnChainUptoCardSaid : Prop := Claim7.holds Tryd.pinned (.plain (OpenSpec.upto fnChainSpec)) fnChainUptoCard

/-- THE SECOND FORM's CARD OF 'laws.FnClosed'. -/
def fnClosedUptoCard : Claim7 := { stood := { row := fnClosedUptoRow, standIns := [], harness := (true, "07c4d6116038d1c2bbd9f3cc3d52b5ee1e04252e4fab616456080b13b18fb752"), looks := true }, kinds := [], alts := [], laidByText := true, laidKinds := [.data, .data, .data], laidTests := true, laidLooks := .later }
def FnClosedUptoCardSaid : Prop := Claim7.holds Tryd.pinned (.plain (OpenSpec.upto fnClosedSpec)) fnClosedUptoCard

/-- THE SECOND FORM's CARD OF 'laws.FnMore'. -/
def fnMoreUptoCard : Claim7 := { stood := { row := fnMoreUptoRow, standIns := [], harness := (true, "07c4d6116038d1c2bbd9f3cc3d52b5ee1e04252e4fab616456080b13b18fb752"), looks := true }, kinds := [], alts := [], laidByText := true, laidKinds := [.data, .data, .data], laidTests := true, laidLooks := .later }
def FnMoreUptoCardSaid : Prop := Claim7.holds Tryd.pinned (.plain (OpenSpec.upto fnMoreSpec)) fnMoreUptoCard

/-- THE SECOND FORM's CARD OF 'laws.FnParse'. -/
def fnParseUptoCard : Claim7 := { stood := { row := fnParseUptoRow, standIns := [], harness := (true, "07c4d6116038d1c2bbd9f3cc3d52b5ee1e04252e4fab616456080b13b18fb752"), looks := true }, kinds := [], alts := [], laidByText := true, laidKinds := [.data, .data, .data], laidTests := true, laidLooks := .later }
def FnParseUptoCardSaid : Prop := Claim7.holds Tryd.pinned (.plain (OpenSpec.upto fnParseSpec)) fnParseUptoCard

/-- THE SECOND FORM's CARD OF 'laws.FnParseOrder'. -/
def fnParseOrderUptoCard : Claim7 := { stood := { row := fnParseOrderUptoRow, standIns := [], harness := (true, "07c4d6116038d1c2bbd9f3cc3d52b5ee1e04252e4fab616456080b13b18fb752"), looks := true }, kinds := [], alts := [], laidByText := true, laidKinds := [.data, .data, .data], laidTests := true, laidLooks := .later }
def FnParseOrderUptoCardSaid : Prop := Claim7.holds Tryd.pinned (.plain (OpenSpec.upto fnParseOrderSpec)) fnParseOrderUptoCard

/-- THE SECOND FORM's CARD OF 'laws.FnRefuse'. -/
def fnRefuseUptoCard : Claim7 := { stood := { row := fnRefuseUptoRow, standIns := [], harness := (true, "07c4d6116038d1c2bbd9f3cc3d52b5ee1e04252e4fab616456080b13b18fb752"), looks := true }, kinds := [], alts := [], laidByText := true, laidKinds := [.data, .data, .data], laidTests := true, laidLooks := .later }
def FnRefuseUptoCardSaid : Prop := Claim7.holds Tryd.pinned (.plain (OpenSpec.upto fnRefuseSpec)) fnRefuseUptoCard

/-- THE SECOND FORM's CARD OF 'laws.FnSpaced'. -/
def fnSpacedUptoCard : Claim7 := { stood := { row := fnSpacedUptoRow, standIns := [], harness := (true, "07c4d6116038d1c2bbd9f3cc3d52b5ee1e04252e4fab616456080b13b18fb752"), looks := true }, kinds := [], alts := [], laidByText := true, laidKinds := [.data, .data, .data], laidTests := true, laidLooks := .later }
def FnSpacedUptoCardSaid : Prop := Claim7.holds Tryd.pinned (.plain (OpenSpec.upto fnSpacedSpec)) fnSpacedUptoCard
end Rows
end Go.Proofs.YthpfladpbfbpjaaDoor
