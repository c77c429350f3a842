/-
  DERIVED. GIVEN WITH THE SEED: THE CARDS: each row of YtmigokakpahgkaaGreatDoorRows.lean that lists a variable, with what it lists TIED to the program's text (the seventh form; the later family's looks); each row that meets fmt, with fmt's text TOLD by the authors' own Lean function (tested against real Go, not proved from fmt's source: count such statements apart). THE CARD IS WHAT COUNTS. Prove the row's statement (the work); the ties are given (YtmigokakpahgkaaGreatDoorTie.lean); close each card by the builder's one call (the guide's Derived/Test/ToyasCard.lean, 'card_holds'). Laid BY PROGRAM, IN A SANDBOX (cutbox-door.mjs). By AI agents, Wed Nov 11 2026. No macro, syntax, notation, axiom, sorry.
-/
import Derived.Test.YtmigokakpahgkaaGreatDoorRows
import GoSem.ClaimSeven
namespace Go.Proofs.YtmigokakpahgkaaGreatDoor
namespace Rows

/-- THE TIED CARD OF 'laws.FnAllIsEach'. -/
def fnAllIsEachCard : Claim7 := { stood := { row := fnAllIsEachRow, standIns := [], harness := (true, "034aeda42eda2f10ad239df3f1a59047f7e8b863c7d4730ecbfdaf5fe7b047cb"), looks := true }, kinds := [], alts := [], laidByText := true, laidKinds := [.sentinel, .sentinel, .sentinel, .sentinel, .sentinel, .sentinel, .sentinel, .sentinel, .sentinel, .sentinel, .sentinel, .sentinel, .sentinel, .sentinel, .sentinel, .sentinel, .sentinel, .sentinel, .sentinel, .sentinel, .mapped], laidTests := true, laidLooks := .later }
def FnAllIsEachCardSaid : Prop := Claim7.holds Tryz.pinned (.plain (OpenSpec.ofChange fnAllIsEachSpec)) fnAllIsEachCard

/-- THE TIED CARD OF 'laws.FnExactBodyBytes'. -/
def fnExactBodyBytesCard : Claim7 := { stood := { row := fnExactBodyBytesRow, standIns := [], harness := (true, "034aeda42eda2f10ad239df3f1a59047f7e8b863c7d4730ecbfdaf5fe7b047cb"), looks := true }, kinds := [], alts := [], laidByText := true, laidKinds := [.sentinel, .sentinel, .sentinel, .sentinel, .sentinel, .sentinel, .sentinel, .sentinel, .sentinel, .sentinel, .sentinel, .sentinel, .sentinel, .sentinel, .sentinel, .sentinel, .sentinel, .sentinel, .sentinel, .sentinel, .mapped], laidTests := true, laidLooks := .later }
def FnExactBodyBytesCardSaid : Prop := Claim7.holds Tryz.pinned (.plain (OpenSpec.ofChange fnExactBodyBytesSpec)) fnExactBodyBytesCard

/-- THE TIED CARD OF 'laws.FnExactNameBytes'. -/
def fnExactNameBytesCard : Claim7 := { stood := { row := fnExactNameBytesRow, standIns := [], harness := (true, "034aeda42eda2f10ad239df3f1a59047f7e8b863c7d4730ecbfdaf5fe7b047cb"), looks := true }, kinds := [], alts := [], laidByText := true, laidKinds := [.sentinel, .sentinel, .sentinel, .sentinel, .sentinel, .sentinel, .sentinel, .sentinel, .sentinel, .sentinel, .sentinel, .sentinel, .sentinel, .sentinel, .sentinel, .sentinel, .sentinel, .sentinel, .sentinel, .sentinel, .mapped], laidTests := true, laidLooks := .later }
def FnExactNameBytesCardSaid : Prop := Claim7.holds Tryz.pinned (.plain (OpenSpec.ofChange fnExactNameBytesSpec)) fnExactNameBytesCard

/-- THE TIED CARD OF 'laws.FnExactParse'. -/
def fnExactParseCard : Claim7 := { stood := { row := fnExactParseRow, standIns := [], harness := (true, "034aeda42eda2f10ad239df3f1a59047f7e8b863c7d4730ecbfdaf5fe7b047cb"), looks := true }, kinds := [], alts := [], laidByText := true, laidKinds := [.sentinel, .sentinel, .sentinel, .sentinel, .sentinel, .sentinel, .sentinel, .sentinel, .sentinel, .sentinel, .sentinel, .sentinel, .sentinel, .sentinel, .sentinel, .sentinel, .sentinel, .sentinel, .sentinel, .sentinel, .mapped], laidTests := true, laidLooks := .later }
def FnExactParseCardSaid : Prop := Claim7.holds Tryz.pinned (.plain (OpenSpec.ofChange fnExactParseSpec)) fnExactParseCard

/-- THE TIED CARD OF 'laws.FnExactRecordBytes'. -/
def fnExactRecordBytesCard : Claim7 := { stood := { row := fnExactRecordBytesRow, standIns := [], harness := (true, "034aeda42eda2f10ad239df3f1a59047f7e8b863c7d4730ecbfdaf5fe7b047cb"), looks := true }, kinds := [], alts := [], laidByText := true, laidKinds := [.sentinel, .sentinel, .sentinel, .sentinel, .sentinel, .sentinel, .sentinel, .sentinel, .sentinel, .sentinel, .sentinel, .sentinel, .sentinel, .sentinel, .sentinel, .sentinel, .sentinel, .sentinel, .sentinel, .sentinel, .mapped], laidTests := true, laidLooks := .later }
def FnExactRecordBytesCardSaid : Prop := Claim7.holds Tryz.pinned (.plain (OpenSpec.ofChange fnExactRecordBytesSpec)) fnExactRecordBytesCard

/-- THE TIED CARD OF 'laws.FnExactSkipBytes'. -/
def fnExactSkipBytesCard : Claim7 := { stood := { row := fnExactSkipBytesRow, standIns := [], harness := (true, "034aeda42eda2f10ad239df3f1a59047f7e8b863c7d4730ecbfdaf5fe7b047cb"), looks := true }, kinds := [], alts := [], laidByText := true, laidKinds := [.sentinel, .sentinel, .sentinel, .sentinel, .sentinel, .sentinel, .sentinel, .sentinel, .sentinel, .sentinel, .sentinel, .sentinel, .sentinel, .sentinel, .sentinel, .sentinel, .sentinel, .sentinel, .sentinel, .sentinel, .mapped], laidTests := true, laidLooks := .later }
def FnExactSkipBytesCardSaid : Prop := Claim7.holds Tryz.pinned (.plain (OpenSpec.ofChange fnExactSkipBytesSpec)) fnExactSkipBytesCard

/-- THE TIED CARD OF 'laws.FnExactUnpack'. -/
def fnExactUnpackCard : Claim7 := { stood := { row := fnExactUnpackRow, standIns := [], harness := (true, "034aeda42eda2f10ad239df3f1a59047f7e8b863c7d4730ecbfdaf5fe7b047cb"), looks := true }, kinds := [], alts := [], laidByText := true, laidKinds := [.sentinel, .sentinel, .sentinel, .sentinel, .sentinel, .sentinel, .sentinel, .sentinel, .sentinel, .sentinel, .sentinel, .sentinel, .sentinel, .sentinel, .sentinel, .sentinel, .sentinel, .sentinel, .sentinel, .sentinel, .mapped], laidTests := true, laidLooks := .later }
def FnExactUnpackCardSaid : Prop := Claim7.holds Tryz.pinned (.plain (OpenSpec.ofChange fnExactUnpackSpec)) fnExactUnpackCard

/-- THE TIED CARD OF 'laws.FnUnpackBehind'. -/
def fnUnpackBehindCard : Claim7 := { stood := { row := fnUnpackBehindRow, standIns := [], harness := (true, "034aeda42eda2f10ad239df3f1a59047f7e8b863c7d4730ecbfdaf5fe7b047cb"), looks := true }, kinds := [], alts := [], laidByText := true, laidKinds := [.sentinel, .sentinel, .sentinel, .sentinel, .sentinel, .sentinel, .sentinel, .sentinel, .sentinel, .sentinel, .sentinel, .sentinel, .sentinel, .sentinel, .sentinel, .sentinel, .sentinel, .sentinel, .sentinel, .sentinel, .mapped], laidTests := true, laidLooks := .later }
def FnUnpackBehindCardSaid : Prop := Claim7.holds Tryz.pinned (.plain (OpenSpec.ofChange fnUnpackBehindSpec)) fnUnpackBehindCard

/-- THE TIED CARD OF 'laws.FnUnpackIsAll'. -/
def fnUnpackIsAllCard : Claim7 := { stood := { row := fnUnpackIsAllRow, standIns := [], harness := (true, "034aeda42eda2f10ad239df3f1a59047f7e8b863c7d4730ecbfdaf5fe7b047cb"), looks := true }, kinds := [], alts := [], laidByText := true, laidKinds := [.sentinel, .sentinel, .sentinel, .sentinel, .sentinel, .sentinel, .sentinel, .sentinel, .sentinel, .sentinel, .sentinel, .sentinel, .sentinel, .sentinel, .sentinel, .sentinel, .sentinel, .sentinel, .sentinel, .sentinel, .mapped], laidTests := true, laidLooks := .later }
def FnUnpackIsAllCardSaid : Prop := Claim7.holds Tryz.pinned (.plain (OpenSpec.ofChange fnUnpackIsAllSpec)) fnUnpackIsAllCard

/-- THE SECOND FORM's CARD OF 'laws.FnAllIsEach'. -/
def fnAllIsEachUptoCard : Claim7 := { stood := { row := fnAllIsEachUptoRow, standIns := [], harness := (true, "034aeda42eda2f10ad239df3f1a59047f7e8b863c7d4730ecbfdaf5fe7b047cb"), looks := true }, kinds := [], alts := [], laidByText := true, laidKinds := [.sentinel, .sentinel, .sentinel, .sentinel, .sentinel, .sentinel, .sentinel, .sentinel, .sentinel, .sentinel, .sentinel, .sentinel, .sentinel, .sentinel, .sentinel, .sentinel, .sentinel, .sentinel, .sentinel, .sentinel, .mapped], laidTests := true, laidLooks := .later }
def FnAllIsEachUptoCardSaid : Prop := Claim7.holds Tryz.pinned (.plain (OpenSpec.upto fnAllIsEachSpec)) fnAllIsEachUptoCard

/-- THE SECOND FORM's CARD OF 'laws.FnExactBodyBytes'. -/
def fnExactBodyBytesUptoCard : Claim7 := { stood := { row := fnExactBodyBytesUptoRow, standIns := [], harness := (true, "034aeda42eda2f10ad239df3f1a59047f7e8b863c7d4730ecbfdaf5fe7b047cb"), looks := true }, kinds := [], alts := [], laidByText := true, laidKinds := [.sentinel, .sentinel, .sentinel, .sentinel, .sentinel, .sentinel, .sentinel, .sentinel, .sentinel, .sentinel, .sentinel, .sentinel, .sentinel, .sentinel, .sentinel, .sentinel, .sentinel, .sentinel, .sentinel, .sentinel, .mapped], laidTests := true, laidLooks := .later }
def FnExactBodyBytesUptoCardSaid : Prop := Claim7.holds Tryz.pinned (.plain (OpenSpec.upto fnExactBodyBytesSpec)) fnExactBodyBytesUptoCard

/-- THE SECOND FORM's CARD OF 'laws.FnExactNameBytes'. -/
def fnExactNameBytesUptoCard : Claim7 := { stood := { row := fnExactNameBytesUptoRow, standIns := [], harness := (true, "034aeda42eda2f10ad239df3f1a59047f7e8b863c7d4730ecbfdaf5fe7b047cb"), looks := true }, kinds := [], alts := [], laidByText := true, laidKinds := [.sentinel, .sentinel, .sentinel, .sentinel, .sentinel, .sentinel, .sentinel, .sentinel, .sentinel, .sentinel, .sentinel, .sentinel, .sentinel, .sentinel, .sentinel, .sentinel, .sentinel, .sentinel, .sentinel, .sentinel, .mapped], laidTests := true, laidLooks := .later }
def FnExactNameBytesUptoCardSaid : Prop := Claim7.holds Tryz.pinned (.plain (OpenSpec.upto fnExactNameBytesSpec)) fnExactNameBytesUptoCard

/-- THE SECOND FORM's CARD OF 'laws.FnExactParse'. -/
def fnExactParseUptoCard : Claim7 := { stood := { row := fnExactParseUptoRow, standIns := [], harness := (true, "034aeda42eda2f10ad239df3f1a59047f7e8b863c7d4730ecbfdaf5fe7b047cb"), looks := true }, kinds := [], alts := [], laidByText := true, laidKinds := [.sentinel, .sentinel, .sentinel, .sentinel, .sentinel, .sentinel, .sentinel, .sentinel, .sentinel, .sentinel, .sentinel, .sentinel, .sentinel, .sentinel, .sentinel, .sentinel, .sentinel, .sentinel, .sentinel, .sentinel, .mapped], laidTests := true, laidLooks := .later }
def FnExactParseUptoCardSaid : Prop := Claim7.holds Tryz.pinned (.plain (OpenSpec.upto fnExactParseSpec)) fnExactParseUptoCard

/-- THE SECOND FORM's CARD OF 'laws.FnExactRecordBytes'. -/
def fnExactRecordBytesUptoCard : Claim7 := { stood := { row := fnExactRecordBytesUptoRow, standIns := [], harness := (true, "034aeda42eda2f10ad239df3f1a59047f7e8b863c7d4730ecbfdaf5fe7b047cb"), looks := true }, kinds := [], alts := [], laidByText := true, laidKinds := [.sentinel, .sentinel, .sentinel, .sentinel, .sentinel, .sentinel, .sentinel, .sentinel, .sentinel, .sentinel, .sentinel, .sentinel, .sentinel, .sentinel, .sentinel, .sentinel, .sentinel, .sentinel, .sentinel, .sentinel, .mapped], laidTests := true, laidLooks := .later }
def FnExactRecordBytesUptoCardSaid : Prop := Claim7.holds Tryz.pinned (.plain (OpenSpec.upto fnExactRecordBytesSpec)) fnExactRecordBytesUptoCard

/-- THE SECOND FORM's CARD OF 'laws.FnExactSkipBytes'. -/
def fnExactSkipBytesUptoCard : Claim7 := { stood := { row := fnExactSkipBytesUptoRow, standIns := [], harness := (true, "034aeda42eda2f10ad239df3f1a59047f7e8b863c7d4730ecbfdaf5fe7b047cb"), looks := true }, kinds := [], alts := [], laidByText := true, laidKinds := [.sentinel, .sentinel, .sentinel, .sentinel, .sentinel, .sentinel, .sentinel, .sentinel, .sentinel, .sentinel, .sentinel, .sentinel, .sentinel, .sentinel, .sentinel, .sentinel, .sentinel, .sentinel, .sentinel, .sentinel, .mapped], laidTests := true, laidLooks := .later }
def FnExactSkipBytesUptoCardSaid : Prop := Claim7.holds Tryz.pinned (.plain (OpenSpec.upto fnExactSkipBytesSpec)) fnExactSkipBytesUptoCard

/-- THE SECOND FORM's CARD OF 'laws.FnExactUnpack'. -/
def fnExactUnpackUptoCard : Claim7 := { stood := { row := fnExactUnpackUptoRow, standIns := [], harness := (true, "034aeda42eda2f10ad239df3f1a59047f7e8b863c7d4730ecbfdaf5fe7b047cb"), looks := true }, kinds := [], alts := [], laidByText := true, laidKinds := [.sentinel, .sentinel, .sentinel, .sentinel, .sentinel, .sentinel, .sentinel, .sentinel, .sentinel, .sentinel, .sentinel, .sentinel, .sentinel, .sentinel, .sentinel, .sentinel, .sentinel, .sentinel, .sentinel, .sentinel, .mapped], laidTests := true, laidLooks := .later }
def FnExactUnpackUptoCardSaid : Prop := Claim7.holds Tryz.pinned (.plain (OpenSpec.upto fnExactUnpackSpec)) fnExactUnpackUptoCard

/-- THE SECOND FORM's CARD OF 'laws.FnUnpackBehind'. -/
def fnUnpackBehindUptoCard : Claim7 := { stood := { row := fnUnpackBehindUptoRow, standIns := [], harness := (true, "034aeda42eda2f10ad239df3f1a59047f7e8b863c7d4730ecbfdaf5fe7b047cb"), looks := true }, kinds := [], alts := [], laidByText := true, laidKinds := [.sentinel, .sentinel, .sentinel, .sentinel, .sentinel, .sentinel, .sentinel, .sentinel, .sentinel, .sentinel, .sentinel, .sentinel, .sentinel, .sentinel, .sentinel, .sentinel, .sentinel, .sentinel, .sentinel, .sentinel, .mapped], laidTests := true, laidLooks := .later }
def FnUnpackBehindUptoCardSaid : Prop := Claim7.holds Tryz.pinned (.plain (OpenSpec.upto fnUnpackBehindSpec)) fnUnpackBehindUptoCard

/-- THE SECOND FORM's CARD OF 'laws.FnUnpackIsAll'. -/
def fnUnpackIsAllUptoCard : Claim7 := { stood := { row := fnUnpackIsAllUptoRow, standIns := [], harness := (true, "034aeda42eda2f10ad239df3f1a59047f7e8b863c7d4730ecbfdaf5fe7b047cb"), looks := true }, kinds := [], alts := [], laidByText := true, laidKinds := [.sentinel, .sentinel, .sentinel, .sentinel, .sentinel, .sentinel, .sentinel, .sentinel, .sentinel, .sentinel, .sentinel, .sentinel, .sentinel, .sentinel, .sentinel, .sentinel, .sentinel, .sentinel, .sentinel, .sentinel, .mapped], laidTests := true, laidLooks := .later }
def FnUnpackIsAllUptoCardSaid : Prop := Claim7.holds Tryz.pinned (.plain (OpenSpec.upto fnUnpackIsAllSpec)) fnUnpackIsAllUptoCard
end Rows
end Go.Proofs.YtmigokakpahgkaaGreatDoor
