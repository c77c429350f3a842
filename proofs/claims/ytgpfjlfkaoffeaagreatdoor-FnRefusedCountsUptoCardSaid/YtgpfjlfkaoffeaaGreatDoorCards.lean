/-
  DERIVED. GIVEN WITH THE SEED: THE CARDS: each row of YtgpfjlfkaoffeaaGreatDoorRows.lean that lists a variable, with what it lists TIED to the program's text (the seventh form; the later family's looks); each row that meets fmt, with fmt's text TOLD by the authors' own Lean function (tested against real Go, not proved from fmt's source: count such statements apart). THE CARD IS WHAT COUNTS. Prove the row's statement (the work); the ties are given (YtgpfjlfkaoffeaaGreatDoorTie.lean); close each card by the builder's one call (the guide's Derived/Test/ToyasCard.lean, 'card_holds'). Laid BY PROGRAM, IN A SANDBOX (cutbox-door.mjs). By AI agents, Wed Nov 11 2026. No macro, syntax, notation, axiom, sorry.
-/
import Derived.Test.YtgpfjlfkaoffeaaGreatDoorRows
import GoSem.ClaimSeven
namespace Go.Proofs.YtgpfjlfkaoffeaaGreatDoor
namespace Rows

/-- THE TIED CARD OF 'laws.FnParamsOrder'. -/
def fnParamsOrderCard : Claim7 := { stood := { row := fnParamsOrderRow, standIns := [], harness := (true, "f05f36b67f1a82ba4e876dc0564a06f06c783aa2c21552cd3e2da277bf408552"), looks := true }, kinds := [], alts := [], laidByText := true, laidKinds := [.sentinel, .sentinel, .sentinel, .sentinel, .sentinel, .sentinel, .sentinel, .sentinel, .sentinel, .sentinel, .sentinel, .sentinel, .sentinel, .sentinel, .sentinel, .sentinel, .sentinel, .sentinel, .sentinel, .sentinel, .mapped], laidTests := true, laidLooks := .later }
def FnParamsOrderCardSaid : Prop := Claim7.holds Tryz.pinned (.plain (OpenSpec.ofChange fnParamsOrderSpec)) fnParamsOrderCard

/-- THE TIED CARD OF 'laws.FnRefusedCounts'. -/
def fnRefusedCountsCard : Claim7 := { stood := { row := fnRefusedCountsRow, standIns := [], harness := (true, "f05f36b67f1a82ba4e876dc0564a06f06c783aa2c21552cd3e2da277bf408552"), looks := true }, kinds := [], alts := [], laidByText := true, laidKinds := [.sentinel, .sentinel, .sentinel, .sentinel, .sentinel, .sentinel, .sentinel, .sentinel, .sentinel, .sentinel, .sentinel, .sentinel, .sentinel, .sentinel, .sentinel, .sentinel, .sentinel, .sentinel, .sentinel, .sentinel, .mapped], laidTests := true, laidLooks := .later }
def FnRefusedCountsCardSaid : Prop := Claim7.holds Tryz.pinned (.plain (OpenSpec.ofChange fnRefusedCountsSpec)) fnRefusedCountsCard

/-- THE TIED CARD OF 'laws.FnUnpackAgain'. -/
def fnUnpackAgainCard : Claim7 := { stood := { row := fnUnpackAgainRow, standIns := [], harness := (true, "f05f36b67f1a82ba4e876dc0564a06f06c783aa2c21552cd3e2da277bf408552"), looks := true }, kinds := [], alts := [], laidByText := true, laidKinds := [.sentinel, .sentinel, .sentinel, .sentinel, .sentinel, .sentinel, .sentinel, .sentinel, .sentinel, .sentinel, .sentinel, .sentinel, .sentinel, .sentinel, .sentinel, .sentinel, .sentinel, .sentinel, .sentinel, .sentinel, .mapped], laidTests := true, laidLooks := .later }
def FnUnpackAgainCardSaid : Prop := Claim7.holds Tryz.pinned (.plain (OpenSpec.ofChange fnUnpackAgainSpec)) fnUnpackAgainCard

/-- THE SECOND FORM's CARD OF 'laws.FnParamsOrder'. -/
def fnParamsOrderUptoCard : Claim7 := { stood := { row := fnParamsOrderUptoRow, standIns := [], harness := (true, "f05f36b67f1a82ba4e876dc0564a06f06c783aa2c21552cd3e2da277bf408552"), looks := true }, kinds := [], alts := [], laidByText := true, laidKinds := [.sentinel, .sentinel, .sentinel, .sentinel, .sentinel, .sentinel, .sentinel, .sentinel, .sentinel, .sentinel, .sentinel, .sentinel, .sentinel, .sentinel, .sentinel, .sentinel, .sentinel, .sentinel, .sentinel, .sentinel, .mapped], laidTests := true, laidLooks := .later }
def FnParamsOrderUptoCardSaid : Prop := Claim7.holds Tryz.pinned (.plain (OpenSpec.upto fnParamsOrderSpec)) fnParamsOrderUptoCard

/-- THE SECOND FORM's CARD OF 'laws.FnRefusedCounts'. -/
def fnRefusedCountsUptoCard : Claim7 := { stood := { row := fnRefusedCountsUptoRow, standIns := [], harness := (true, "f05f36b67f1a82ba4e876dc0564a06f06c783aa2c21552cd3e2da277bf408552"), looks := true }, kinds := [], alts := [], laidByText := true, laidKinds := [.sentinel, .sentinel, .sentinel, .sentinel, .sentinel, .sentinel, .sentinel, .sentinel, .sentinel, .sentinel, .sentinel, .sentinel, .sentinel, .sentinel, .sentinel, .sentinel, .sentinel, .sentinel, .sentinel, .sentinel, .mapped], laidTests := true, laidLooks := .later }
def FnRefusedCountsUptoCardSaid : Prop := Claim7.holds Tryz.pinned (.plain (OpenSpec.upto fnRefusedCountsSpec)) fnRefusedCountsUptoCard

/-- THE SECOND FORM's CARD OF 'laws.FnUnpackAgain'. -/
def fnUnpackAgainUptoCard : Claim7 := { stood := { row := fnUnpackAgainUptoRow, standIns := [], harness := (true, "f05f36b67f1a82ba4e876dc0564a06f06c783aa2c21552cd3e2da277bf408552"), looks := true }, kinds := [], alts := [], laidByText := true, laidKinds := [.sentinel, .sentinel, .sentinel, .sentinel, .sentinel, .sentinel, .sentinel, .sentinel, .sentinel, .sentinel, .sentinel, .sentinel, .sentinel, .sentinel, .sentinel, .sentinel, .sentinel, .sentinel, .sentinel, .sentinel, .mapped], laidTests := true, laidLooks := .later }
def FnUnpackAgainUptoCardSaid : Prop := Claim7.holds Tryz.pinned (.plain (OpenSpec.upto fnUnpackAgainSpec)) fnUnpackAgainUptoCard
end Rows
end Go.Proofs.YtgpfjlfkaoffeaaGreatDoor
