/-
  DERIVED. GIVEN WITH THE SEED: THE CARDS: each row of YtlbjjhecgceiaaaGreatDoorRows.lean that lists a variable, with what it lists TIED to the program's text (the seventh form; the later family's looks); each row that meets fmt, with fmt's text TOLD by the authors' own Lean function (tested against real Go, not proved from fmt's source: count such statements apart). THE CARD IS WHAT COUNTS. Prove the row's statement (the work); the ties are given (YtlbjjhecgceiaaaGreatDoorTie.lean); close each card by the builder's one call (the guide's Derived/Test/ToyasCard.lean, 'card_holds'). Laid BY PROGRAM, IN A SANDBOX (cutbox-door.mjs). By AI agents, Wed Nov 11 2026. No macro, syntax, notation, axiom, sorry.
-/
import Derived.Test.YtlbjjhecgceiaaaGreatDoorRows
import GoSem.ClaimSeven
namespace Go.Proofs.YtlbjjhecgceiaaaGreatDoor
namespace Rows

/-- THE TIED CARD OF 'laws.FnFixSubExact'. -/
def fnFixSubExactCard : Claim7 := { stood := { row := fnFixSubExactRow, standIns := [], harness := (true, "639b2766ee82496be8a71ef10712ce0c2c374cff6d2b7b6038cfb0607e0e0572"), looks := false }, kinds := [], alts := [], laidByText := true, laidKinds := [.data, .data, .data, .data, .data, .data, .data, .sentinel, .sentinel, .data], laidTests := true, laidLooks := .later }
def FnFixSubExactCardSaid : Prop := Claim7.holds Tryz.pinned (.plain (OpenSpec.ofChange fnFixSubExactSpec)) fnFixSubExactCard

/-- THE TIED CARD OF 'laws.FnDecFormat'. -/
def fnDecFormatCard : Claim7 := { stood := { row := fnDecFormatRow, standIns := [], harness := (true, "639b2766ee82496be8a71ef10712ce0c2c374cff6d2b7b6038cfb0607e0e0572"), looks := false }, kinds := [], alts := [], laidByText := true, laidKinds := [.data, .data, .data, .data, .data, .data, .data, .data, .data], laidTests := true, laidLooks := .later }
def FnDecFormatCardSaid : Prop := Claim7.holds Tryz.pinned (.plain (OpenSpec.ofChange fnDecFormatSpec)) fnDecFormatCard

/-- THE TIED CARD OF 'laws.FnFixFormat'. -/
def fnFixFormatCard : Claim7 := { stood := { row := fnFixFormatRow, standIns := [], harness := (true, "639b2766ee82496be8a71ef10712ce0c2c374cff6d2b7b6038cfb0607e0e0572"), looks := false }, kinds := [], alts := [], laidByText := true, laidKinds := [.data, .data, .data, .data, .data, .data, .data, .sentinel, .sentinel, .data], laidTests := true, laidLooks := .later }
def FnFixFormatCardSaid : Prop := Claim7.holds Tryz.pinned (.plain (OpenSpec.ofChange fnFixFormatSpec)) fnFixFormatCard

/-- THE SECOND FORM's CARD OF 'laws.FnFixSubExact'. -/
def fnFixSubExactUptoCard : Claim7 := { stood := { row := fnFixSubExactUptoRow, standIns := [], harness := (true, "639b2766ee82496be8a71ef10712ce0c2c374cff6d2b7b6038cfb0607e0e0572"), looks := false }, kinds := [], alts := [], laidByText := true, laidKinds := [.data, .data, .data, .data, .data, .data, .data, .sentinel, .sentinel, .data], laidTests := true, laidLooks := .later }
def FnFixSubExactUptoCardSaid : Prop := Claim7.holds Tryz.pinned (.plain (OpenSpec.upto fnFixSubExactSpec)) fnFixSubExactUptoCard

/-- THE SECOND FORM's CARD OF 'laws.FnDecFormat'. -/
def fnDecFormatUptoCard : Claim7 := { stood := { row := fnDecFormatUptoRow, standIns := [], harness := (true, "639b2766ee82496be8a71ef10712ce0c2c374cff6d2b7b6038cfb0607e0e0572"), looks := false }, kinds := [], alts := [], laidByText := true, laidKinds := [.data, .data, .data, .data, .data, .data, .data, .data, .data], laidTests := true, laidLooks := .later }
def FnDecFormatUptoCardSaid : Prop := Claim7.holds Tryz.pinned (.plain (OpenSpec.upto fnDecFormatSpec)) fnDecFormatUptoCard

/-- THE SECOND FORM's CARD OF 'laws.FnFixFormat'. -/
def fnFixFormatUptoCard : Claim7 := { stood := { row := fnFixFormatUptoRow, standIns := [], harness := (true, "639b2766ee82496be8a71ef10712ce0c2c374cff6d2b7b6038cfb0607e0e0572"), looks := false }, kinds := [], alts := [], laidByText := true, laidKinds := [.data, .data, .data, .data, .data, .data, .data, .sentinel, .sentinel, .data], laidTests := true, laidLooks := .later }
def FnFixFormatUptoCardSaid : Prop := Claim7.holds Tryz.pinned (.plain (OpenSpec.upto fnFixFormatSpec)) fnFixFormatUptoCard
end Rows
end Go.Proofs.YtlbjjhecgceiaaaGreatDoor
