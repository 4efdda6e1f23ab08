/-
  DERIVED. GIVEN WITH THE SEED: THE CARDS: each row of YthdkandofddohaaGreatDoorRows.lean that lists a variable, with what it lists TIED to the program's text (the seventh form; the later family's looks); each row that meets fmt, with fmt's text TOLD by the authors' own Lean function (tested against real Go, not proved from fmt's source: count such statements apart). THE CARD IS WHAT COUNTS. Prove the row's statement (the work); the ties are given (YthdkandofddohaaGreatDoorTie.lean); close each card by the builder's one call (the guide's Derived/Test/ToyasCard.lean, 'card_holds'). Laid BY PROGRAM, IN A SANDBOX (cutbox-door.mjs). By AI agents, Wed Nov 11 2026. No macro, syntax, notation, axiom, sorry.
-/
import Derived.Test.YthdkandofddohaaGreatDoorRows
import GoSem.ClaimSeven
namespace Go.Proofs.YthdkandofddohaaGreatDoor
namespace Rows

/-- THE TIED CARD OF 'laws.FnFixSubExact'. -/
def fnFixSubExactCard : Claim7 := { stood := { row := fnFixSubExactRow, standIns := [], harness := (true, "e9cdfd4289b63d78dec9143d04e2a23a1214ff02429fee803f9e4bfaf727d7ca"), looks := false }, kinds := [], alts := [], laidByText := true, laidKinds := [.data, .data, .data, .data, .data, .data, .data, .sentinel, .sentinel, .data], laidTests := true, laidLooks := .later }
def FnFixSubExactCardSaid : Prop := Claim7.holds Tryz.pinned (.plain (OpenSpec.ofChange fnFixSubExactSpec)) fnFixSubExactCard

/-- THE TIED CARD OF 'laws.FnFixFromInts'. -/
def fnFixFromIntsCard : Claim7 := { stood := { row := fnFixFromIntsRow, standIns := [], harness := (true, "e9cdfd4289b63d78dec9143d04e2a23a1214ff02429fee803f9e4bfaf727d7ca"), looks := false }, kinds := [], alts := [], laidByText := true, laidKinds := [.data, .data, .data, .data, .data, .data, .data, .sentinel, .sentinel, .data], laidTests := true, laidLooks := .later }
def FnFixFromIntsCardSaid : Prop := Claim7.holds Tryz.pinned (.plain (OpenSpec.ofChange fnFixFromIntsSpec)) fnFixFromIntsCard

/-- THE SECOND FORM's CARD OF 'laws.FnFixSubExact'. -/
def fnFixSubExactUptoCard : Claim7 := { stood := { row := fnFixSubExactUptoRow, standIns := [], harness := (true, "e9cdfd4289b63d78dec9143d04e2a23a1214ff02429fee803f9e4bfaf727d7ca"), looks := false }, kinds := [], alts := [], laidByText := true, laidKinds := [.data, .data, .data, .data, .data, .data, .data, .sentinel, .sentinel, .data], laidTests := true, laidLooks := .later }
def FnFixSubExactUptoCardSaid : Prop := Claim7.holds Tryz.pinned (.plain (OpenSpec.upto fnFixSubExactSpec)) fnFixSubExactUptoCard

/-- THE SECOND FORM's CARD OF 'laws.FnFixFromInts'. -/
def fnFixFromIntsUptoCard : Claim7 := { stood := { row := fnFixFromIntsUptoRow, standIns := [], harness := (true, "e9cdfd4289b63d78dec9143d04e2a23a1214ff02429fee803f9e4bfaf727d7ca"), looks := false }, kinds := [], alts := [], laidByText := true, laidKinds := [.data, .data, .data, .data, .data, .data, .data, .sentinel, .sentinel, .data], laidTests := true, laidLooks := .later }
def FnFixFromIntsUptoCardSaid : Prop := Claim7.holds Tryz.pinned (.plain (OpenSpec.upto fnFixFromIntsSpec)) fnFixFromIntsUptoCard
end Rows
end Go.Proofs.YthdkandofddohaaGreatDoor
