/-
  DERIVED. GIVEN WITH THE SEED: THE CARDS: each row of YtldhfhloinlfaaaGreatDoorRows.lean that lists a variable, with what it lists TIED to the program's text (the seventh form; the later family's looks); each row that meets fmt, with fmt's text TOLD by the authors' own Lean function (tested against real Go, not proved from fmt's source: count such statements apart). THE CARD IS WHAT COUNTS. Prove the row's statement (the work); the ties are given (YtldhfhloinlfaaaGreatDoorTie.lean); close each card by the builder's one call (the guide's Derived/Test/ToyasCard.lean, 'card_holds'). Laid BY PROGRAM, IN A SANDBOX (cutbox-door.mjs). By AI agents, Wed Nov 11 2026. No macro, syntax, notation, axiom, sorry.
-/
import Derived.Test.YtldhfhloinlfaaaGreatDoorRows
import GoSem.ClaimSeven
namespace Go.Proofs.YtldhfhloinlfaaaGreatDoor
namespace Rows

/-- THE TIED CARD OF 'laws.FnFixSubExact'. -/
def fnFixSubExactCard : Claim7 := { stood := { row := fnFixSubExactRow, standIns := [], harness := (true, "a1db79504e97187766534c27749e22f18f7547bbade63a4ed302d0243f25f553"), looks := false }, kinds := [], alts := [], laidByText := true, laidKinds := [.data, .data, .data, .data, .data, .data, .data, .sentinel, .sentinel, .data], laidTests := true, laidLooks := .later }
def FnFixSubExactCardSaid : Prop := Claim7.holds Tryz.pinned (.plain (OpenSpec.ofChange fnFixSubExactSpec)) fnFixSubExactCard

/-- THE TIED CARD OF 'laws.FnFixAddQuoBig'. -/
def fnFixAddQuoBigCard : Claim7 := { stood := { row := fnFixAddQuoBigRow, standIns := [], harness := (true, "a1db79504e97187766534c27749e22f18f7547bbade63a4ed302d0243f25f553"), looks := false }, kinds := [], alts := [], laidByText := true, laidKinds := [.data, .data, .data, .data, .data, .data, .data, .sentinel, .sentinel, .data], laidTests := true, laidLooks := .later }
def FnFixAddQuoBigCardSaid : Prop := Claim7.holds Tryz.pinned (.plain (OpenSpec.ofChange fnFixAddQuoBigSpec)) fnFixAddQuoBigCard

/-- THE TIED CARD OF 'laws.FnFixQuoSmall'. -/
def fnFixQuoSmallCard : Claim7 := { stood := { row := fnFixQuoSmallRow, standIns := [], harness := (true, "a1db79504e97187766534c27749e22f18f7547bbade63a4ed302d0243f25f553"), looks := false }, kinds := [], alts := [], laidByText := true, laidKinds := [.data, .data, .data, .data, .data, .data, .data, .sentinel, .sentinel, .sentinel, .data], laidTests := true, laidLooks := .later }
def FnFixQuoSmallCardSaid : Prop := Claim7.holds Tryz.pinned (.plain (OpenSpec.ofChange fnFixQuoSmallSpec)) fnFixQuoSmallCard

/-- THE TIED CARD OF 'laws.FnFixQuoExact'. -/
def fnFixQuoExactCard : Claim7 := { stood := { row := fnFixQuoExactRow, standIns := [], harness := (true, "a1db79504e97187766534c27749e22f18f7547bbade63a4ed302d0243f25f553"), looks := false }, kinds := [], alts := [], laidByText := true, laidKinds := [.data, .data, .data, .data, .data, .data, .data, .sentinel, .sentinel, .sentinel, .data], laidTests := true, laidLooks := .later }
def FnFixQuoExactCardSaid : Prop := Claim7.holds Tryz.pinned (.plain (OpenSpec.ofChange fnFixQuoExactSpec)) fnFixQuoExactCard

/-- THE TIED CARD OF 'laws.FnFixAddQuoExact'. -/
def fnFixAddQuoExactCard : Claim7 := { stood := { row := fnFixAddQuoExactRow, standIns := [], harness := (true, "a1db79504e97187766534c27749e22f18f7547bbade63a4ed302d0243f25f553"), looks := false }, kinds := [], alts := [], laidByText := true, laidKinds := [.data, .data, .data, .data, .data, .data, .data, .sentinel, .sentinel, .sentinel, .data], laidTests := true, laidLooks := .later }
def FnFixAddQuoExactCardSaid : Prop := Claim7.holds Tryz.pinned (.plain (OpenSpec.ofChange fnFixAddQuoExactSpec)) fnFixAddQuoExactCard

/-- THE TIED CARD OF 'laws.FnFixSubQuoExact'. -/
def fnFixSubQuoExactCard : Claim7 := { stood := { row := fnFixSubQuoExactRow, standIns := [], harness := (true, "a1db79504e97187766534c27749e22f18f7547bbade63a4ed302d0243f25f553"), looks := false }, kinds := [], alts := [], laidByText := true, laidKinds := [.data, .data, .data, .data, .data, .data, .data, .sentinel, .sentinel, .sentinel, .data], laidTests := true, laidLooks := .later }
def FnFixSubQuoExactCardSaid : Prop := Claim7.holds Tryz.pinned (.plain (OpenSpec.ofChange fnFixSubQuoExactSpec)) fnFixSubQuoExactCard

/-- THE TIED CARD OF 'laws.FnFixPlaces'. -/
def fnFixPlacesCard : Claim7 := { stood := { row := fnFixPlacesRow, standIns := [], harness := (true, "a1db79504e97187766534c27749e22f18f7547bbade63a4ed302d0243f25f553"), looks := false }, kinds := [], alts := [], laidByText := true, laidKinds := [.data, .data, .data, .data, .data, .data, .data, .sentinel, .sentinel, .data], laidTests := true, laidLooks := .later }
def FnFixPlacesCardSaid : Prop := Claim7.holds Tryz.pinned (.plain (OpenSpec.ofChange fnFixPlacesSpec)) fnFixPlacesCard

/-- THE TIED CARD OF 'laws.FnFixAddQuo'. -/
def fnFixAddQuoCard : Claim7 := { stood := { row := fnFixAddQuoRow, standIns := [], harness := (true, "a1db79504e97187766534c27749e22f18f7547bbade63a4ed302d0243f25f553"), looks := false }, kinds := [], alts := [], laidByText := true, laidKinds := [.data, .data, .data, .data, .data, .data, .data, .sentinel, .sentinel, .sentinel, .data], laidTests := true, laidLooks := .later }
def FnFixAddQuoCardSaid : Prop := Claim7.holds Tryz.pinned (.plain (OpenSpec.ofChange fnFixAddQuoSpec)) fnFixAddQuoCard

/-- THE TIED CARD OF 'laws.FnFixSubQuo'. -/
def fnFixSubQuoCard : Claim7 := { stood := { row := fnFixSubQuoRow, standIns := [], harness := (true, "a1db79504e97187766534c27749e22f18f7547bbade63a4ed302d0243f25f553"), looks := false }, kinds := [], alts := [], laidByText := true, laidKinds := [.data, .data, .data, .data, .data, .data, .data, .sentinel, .sentinel, .sentinel, .data], laidTests := true, laidLooks := .later }
def FnFixSubQuoCardSaid : Prop := Claim7.holds Tryz.pinned (.plain (OpenSpec.ofChange fnFixSubQuoSpec)) fnFixSubQuoCard

/-- THE SECOND FORM's CARD OF 'laws.FnFixSubExact'. -/
def fnFixSubExactUptoCard : Claim7 := { stood := { row := fnFixSubExactUptoRow, standIns := [], harness := (true, "a1db79504e97187766534c27749e22f18f7547bbade63a4ed302d0243f25f553"), looks := false }, kinds := [], alts := [], laidByText := true, laidKinds := [.data, .data, .data, .data, .data, .data, .data, .sentinel, .sentinel, .data], laidTests := true, laidLooks := .later }
def FnFixSubExactUptoCardSaid : Prop := Claim7.holds Tryz.pinned (.plain (OpenSpec.upto fnFixSubExactSpec)) fnFixSubExactUptoCard

/-- THE SECOND FORM's CARD OF 'laws.FnFixAddQuoBig'. -/
def fnFixAddQuoBigUptoCard : Claim7 := { stood := { row := fnFixAddQuoBigUptoRow, standIns := [], harness := (true, "a1db79504e97187766534c27749e22f18f7547bbade63a4ed302d0243f25f553"), looks := false }, kinds := [], alts := [], laidByText := true, laidKinds := [.data, .data, .data, .data, .data, .data, .data, .sentinel, .sentinel, .data], laidTests := true, laidLooks := .later }
def FnFixAddQuoBigUptoCardSaid : Prop := Claim7.holds Tryz.pinned (.plain (OpenSpec.upto fnFixAddQuoBigSpec)) fnFixAddQuoBigUptoCard

/-- THE SECOND FORM's CARD OF 'laws.FnFixQuoSmall'. -/
def fnFixQuoSmallUptoCard : Claim7 := { stood := { row := fnFixQuoSmallUptoRow, standIns := [], harness := (true, "a1db79504e97187766534c27749e22f18f7547bbade63a4ed302d0243f25f553"), looks := false }, kinds := [], alts := [], laidByText := true, laidKinds := [.data, .data, .data, .data, .data, .data, .data, .sentinel, .sentinel, .sentinel, .data], laidTests := true, laidLooks := .later }
def FnFixQuoSmallUptoCardSaid : Prop := Claim7.holds Tryz.pinned (.plain (OpenSpec.upto fnFixQuoSmallSpec)) fnFixQuoSmallUptoCard

/-- THE SECOND FORM's CARD OF 'laws.FnFixQuoExact'. -/
def fnFixQuoExactUptoCard : Claim7 := { stood := { row := fnFixQuoExactUptoRow, standIns := [], harness := (true, "a1db79504e97187766534c27749e22f18f7547bbade63a4ed302d0243f25f553"), looks := false }, kinds := [], alts := [], laidByText := true, laidKinds := [.data, .data, .data, .data, .data, .data, .data, .sentinel, .sentinel, .sentinel, .data], laidTests := true, laidLooks := .later }
def FnFixQuoExactUptoCardSaid : Prop := Claim7.holds Tryz.pinned (.plain (OpenSpec.upto fnFixQuoExactSpec)) fnFixQuoExactUptoCard

/-- THE SECOND FORM's CARD OF 'laws.FnFixAddQuoExact'. -/
def fnFixAddQuoExactUptoCard : Claim7 := { stood := { row := fnFixAddQuoExactUptoRow, standIns := [], harness := (true, "a1db79504e97187766534c27749e22f18f7547bbade63a4ed302d0243f25f553"), looks := false }, kinds := [], alts := [], laidByText := true, laidKinds := [.data, .data, .data, .data, .data, .data, .data, .sentinel, .sentinel, .sentinel, .data], laidTests := true, laidLooks := .later }
def FnFixAddQuoExactUptoCardSaid : Prop := Claim7.holds Tryz.pinned (.plain (OpenSpec.upto fnFixAddQuoExactSpec)) fnFixAddQuoExactUptoCard

/-- THE SECOND FORM's CARD OF 'laws.FnFixSubQuoExact'. -/
def fnFixSubQuoExactUptoCard : Claim7 := { stood := { row := fnFixSubQuoExactUptoRow, standIns := [], harness := (true, "a1db79504e97187766534c27749e22f18f7547bbade63a4ed302d0243f25f553"), looks := false }, kinds := [], alts := [], laidByText := true, laidKinds := [.data, .data, .data, .data, .data, .data, .data, .sentinel, .sentinel, .sentinel, .data], laidTests := true, laidLooks := .later }
def FnFixSubQuoExactUptoCardSaid : Prop := Claim7.holds Tryz.pinned (.plain (OpenSpec.upto fnFixSubQuoExactSpec)) fnFixSubQuoExactUptoCard

/-- THE SECOND FORM's CARD OF 'laws.FnFixPlaces'. -/
def fnFixPlacesUptoCard : Claim7 := { stood := { row := fnFixPlacesUptoRow, standIns := [], harness := (true, "a1db79504e97187766534c27749e22f18f7547bbade63a4ed302d0243f25f553"), looks := false }, kinds := [], alts := [], laidByText := true, laidKinds := [.data, .data, .data, .data, .data, .data, .data, .sentinel, .sentinel, .data], laidTests := true, laidLooks := .later }
def FnFixPlacesUptoCardSaid : Prop := Claim7.holds Tryz.pinned (.plain (OpenSpec.upto fnFixPlacesSpec)) fnFixPlacesUptoCard

/-- THE SECOND FORM's CARD OF 'laws.FnFixAddQuo'. -/
def fnFixAddQuoUptoCard : Claim7 := { stood := { row := fnFixAddQuoUptoRow, standIns := [], harness := (true, "a1db79504e97187766534c27749e22f18f7547bbade63a4ed302d0243f25f553"), looks := false }, kinds := [], alts := [], laidByText := true, laidKinds := [.data, .data, .data, .data, .data, .data, .data, .sentinel, .sentinel, .sentinel, .data], laidTests := true, laidLooks := .later }
def FnFixAddQuoUptoCardSaid : Prop := Claim7.holds Tryz.pinned (.plain (OpenSpec.upto fnFixAddQuoSpec)) fnFixAddQuoUptoCard

/-- THE SECOND FORM's CARD OF 'laws.FnFixSubQuo'. -/
def fnFixSubQuoUptoCard : Claim7 := { stood := { row := fnFixSubQuoUptoRow, standIns := [], harness := (true, "a1db79504e97187766534c27749e22f18f7547bbade63a4ed302d0243f25f553"), looks := false }, kinds := [], alts := [], laidByText := true, laidKinds := [.data, .data, .data, .data, .data, .data, .data, .sentinel, .sentinel, .sentinel, .data], laidTests := true, laidLooks := .later }
def FnFixSubQuoUptoCardSaid : Prop := Claim7.holds Tryz.pinned (.plain (OpenSpec.upto fnFixSubQuoSpec)) fnFixSubQuoUptoCard
end Rows
end Go.Proofs.YtldhfhloinlfaaaGreatDoor
