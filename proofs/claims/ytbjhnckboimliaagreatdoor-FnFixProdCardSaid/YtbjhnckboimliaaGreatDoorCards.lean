/-
  DERIVED. GIVEN WITH THE SEED: THE CARDS: each row of YtbjhnckboimliaaGreatDoorRows.lean that lists a variable, with what it lists TIED to the program's text (the seventh form; the later family's looks); each row that meets fmt, with fmt's text TOLD by the authors' own Lean function (tested against real Go, not proved from fmt's source: count such statements apart). THE CARD IS WHAT COUNTS. Prove the row's statement (the work); the ties are given (YtbjhnckboimliaaGreatDoorTie.lean); close each card by the builder's one call (the guide's Derived/Test/ToyasCard.lean, 'card_holds'). Laid BY PROGRAM, IN A SANDBOX (cutbox-door.mjs). By AI agents, Wed Nov 11 2026. No macro, syntax, notation, axiom, sorry.
-/
import Derived.Test.YtbjhnckboimliaaGreatDoorRows
import GoSem.ClaimSeven
namespace Go.Proofs.YtbjhnckboimliaaGreatDoor
namespace Rows

/-- THE TIED CARD OF 'laws.FnFixSubExact'. -/
def fnFixSubExactCard : Claim7 := { stood := { row := fnFixSubExactRow, standIns := [], harness := (true, "d3570d4161270ef0ca37ecc6d8b1a7b27ece8441f7c71b88ee2f1c755adc1a11"), looks := false }, kinds := [], alts := [], laidByText := true, laidKinds := [.data, .data, .data, .data, .data, .data, .data, .sentinel, .sentinel, .data], laidTests := true, laidLooks := .later }
def FnFixSubExactCardSaid : Prop := Claim7.holds Tryz.pinned (.plain (OpenSpec.ofChange fnFixSubExactSpec)) fnFixSubExactCard

/-- THE TIED CARD OF 'laws.FnFixPlaces'. -/
def fnFixPlacesCard : Claim7 := { stood := { row := fnFixPlacesRow, standIns := [], harness := (true, "d3570d4161270ef0ca37ecc6d8b1a7b27ece8441f7c71b88ee2f1c755adc1a11"), looks := false }, kinds := [], alts := [], laidByText := true, laidKinds := [.data, .data, .data, .data, .data, .data, .data, .sentinel, .sentinel, .data], laidTests := true, laidLooks := .later }
def FnFixPlacesCardSaid : Prop := Claim7.holds Tryz.pinned (.plain (OpenSpec.ofChange fnFixPlacesSpec)) fnFixPlacesCard

/-- THE TIED CARD OF 'laws.FnFixSum'. -/
def fnFixSumCard : Claim7 := { stood := { row := fnFixSumRow, standIns := [], harness := (true, "d3570d4161270ef0ca37ecc6d8b1a7b27ece8441f7c71b88ee2f1c755adc1a11"), looks := false }, kinds := [], alts := [], laidByText := true, laidKinds := [.data, .data, .data, .data, .data, .data, .data, .sentinel, .sentinel, .data], laidTests := true, laidLooks := .later }
def FnFixSumCardSaid : Prop := Claim7.holds Tryz.pinned (.plain (OpenSpec.ofChange fnFixSumSpec)) fnFixSumCard

/-- THE TIED CARD OF 'laws.FnFixProd'. -/
def fnFixProdCard : Claim7 := { stood := { row := fnFixProdRow, standIns := [], harness := (true, "d3570d4161270ef0ca37ecc6d8b1a7b27ece8441f7c71b88ee2f1c755adc1a11"), looks := false }, kinds := [], alts := [], laidByText := true, laidKinds := [.data, .data, .data, .data, .data, .data, .data, .sentinel, .sentinel, .data], laidTests := true, laidLooks := .later }
def FnFixProdCardSaid : Prop := Claim7.holds Tryz.pinned (.plain (OpenSpec.ofChange fnFixProdSpec)) fnFixProdCard

/-- THE TIED CARD OF 'laws.FnFixMean'. -/
def fnFixMeanCard : Claim7 := { stood := { row := fnFixMeanRow, standIns := [], harness := (true, "d3570d4161270ef0ca37ecc6d8b1a7b27ece8441f7c71b88ee2f1c755adc1a11"), looks := false }, kinds := [], alts := [], laidByText := true, laidKinds := [.data, .data, .data, .data, .data, .data, .data, .sentinel, .sentinel, .sentinel, .data], laidTests := true, laidLooks := .later }
def FnFixMeanCardSaid : Prop := Claim7.holds Tryz.pinned (.plain (OpenSpec.ofChange fnFixMeanSpec)) fnFixMeanCard

/-- THE SECOND FORM's CARD OF 'laws.FnFixSubExact'. -/
def fnFixSubExactUptoCard : Claim7 := { stood := { row := fnFixSubExactUptoRow, standIns := [], harness := (true, "d3570d4161270ef0ca37ecc6d8b1a7b27ece8441f7c71b88ee2f1c755adc1a11"), looks := false }, kinds := [], alts := [], laidByText := true, laidKinds := [.data, .data, .data, .data, .data, .data, .data, .sentinel, .sentinel, .data], laidTests := true, laidLooks := .later }
def FnFixSubExactUptoCardSaid : Prop := Claim7.holds Tryz.pinned (.plain (OpenSpec.upto fnFixSubExactSpec)) fnFixSubExactUptoCard

/-- THE SECOND FORM's CARD OF 'laws.FnFixPlaces'. -/
def fnFixPlacesUptoCard : Claim7 := { stood := { row := fnFixPlacesUptoRow, standIns := [], harness := (true, "d3570d4161270ef0ca37ecc6d8b1a7b27ece8441f7c71b88ee2f1c755adc1a11"), looks := false }, kinds := [], alts := [], laidByText := true, laidKinds := [.data, .data, .data, .data, .data, .data, .data, .sentinel, .sentinel, .data], laidTests := true, laidLooks := .later }
def FnFixPlacesUptoCardSaid : Prop := Claim7.holds Tryz.pinned (.plain (OpenSpec.upto fnFixPlacesSpec)) fnFixPlacesUptoCard

/-- THE SECOND FORM's CARD OF 'laws.FnFixSum'. -/
def fnFixSumUptoCard : Claim7 := { stood := { row := fnFixSumUptoRow, standIns := [], harness := (true, "d3570d4161270ef0ca37ecc6d8b1a7b27ece8441f7c71b88ee2f1c755adc1a11"), looks := false }, kinds := [], alts := [], laidByText := true, laidKinds := [.data, .data, .data, .data, .data, .data, .data, .sentinel, .sentinel, .data], laidTests := true, laidLooks := .later }
def FnFixSumUptoCardSaid : Prop := Claim7.holds Tryz.pinned (.plain (OpenSpec.upto fnFixSumSpec)) fnFixSumUptoCard

/-- THE SECOND FORM's CARD OF 'laws.FnFixProd'. -/
def fnFixProdUptoCard : Claim7 := { stood := { row := fnFixProdUptoRow, standIns := [], harness := (true, "d3570d4161270ef0ca37ecc6d8b1a7b27ece8441f7c71b88ee2f1c755adc1a11"), looks := false }, kinds := [], alts := [], laidByText := true, laidKinds := [.data, .data, .data, .data, .data, .data, .data, .sentinel, .sentinel, .data], laidTests := true, laidLooks := .later }
def FnFixProdUptoCardSaid : Prop := Claim7.holds Tryz.pinned (.plain (OpenSpec.upto fnFixProdSpec)) fnFixProdUptoCard

/-- THE SECOND FORM's CARD OF 'laws.FnFixMean'. -/
def fnFixMeanUptoCard : Claim7 := { stood := { row := fnFixMeanUptoRow, standIns := [], harness := (true, "d3570d4161270ef0ca37ecc6d8b1a7b27ece8441f7c71b88ee2f1c755adc1a11"), looks := false }, kinds := [], alts := [], laidByText := true, laidKinds := [.data, .data, .data, .data, .data, .data, .data, .sentinel, .sentinel, .sentinel, .data], laidTests := true, laidLooks := .later }
def FnFixMeanUptoCardSaid : Prop := Claim7.holds Tryz.pinned (.plain (OpenSpec.upto fnFixMeanSpec)) fnFixMeanUptoCard
end Rows
end Go.Proofs.YtbjhnckboimliaaGreatDoor
