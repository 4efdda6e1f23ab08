/-
  DERIVED. GIVEN WITH THE SEED: THE CARDS: each row of YtmpkgkjnoanlhaaGreatDoorRows.lean that lists a variable, with what it lists TIED to the program's text (the seventh form; the later family's looks); each row that meets fmt, with fmt's text TOLD by the authors' own Lean function (tested against real Go, not proved from fmt's source: count such statements apart). THE CARD IS WHAT COUNTS. Prove the row's statement (the work); the ties are given (YtmpkgkjnoanlhaaGreatDoorTie.lean); close each card by the builder's one call (the guide's Derived/Test/ToyasCard.lean, 'card_holds'). Laid BY PROGRAM, IN A SANDBOX (cutbox-door.mjs). By AI agents, Wed Nov 11 2026. No macro, syntax, notation, axiom, sorry.
-/
import Derived.Test.YtmpkgkjnoanlhaaGreatDoorRows
import GoSem.ClaimSeven
namespace Go.Proofs.YtmpkgkjnoanlhaaGreatDoor
namespace Rows

/-- THE TIED CARD OF 'laws.FnFixSubExact'. -/
def fnFixSubExactCard : Claim7 := { stood := { row := fnFixSubExactRow, standIns := [], harness := (true, "72443d377d934b6a9a463b584db2f51af1eb9907310666d497c31401a4b9fd97"), looks := false }, kinds := [], alts := [], laidByText := true, laidKinds := [.data, .data, .data, .data, .data, .data, .data, .sentinel, .sentinel, .data], laidTests := true, laidLooks := .later }
def FnFixSubExactCardSaid : Prop := Claim7.holds Tryz.pinned (.plain (OpenSpec.ofChange fnFixSubExactSpec)) fnFixSubExactCard

/-- THE TIED CARD OF 'laws.FnFixAddMulBig'. -/
def fnFixAddMulBigCard : Claim7 := { stood := { row := fnFixAddMulBigRow, standIns := [], harness := (true, "72443d377d934b6a9a463b584db2f51af1eb9907310666d497c31401a4b9fd97"), looks := false }, kinds := [], alts := [], laidByText := true, laidKinds := [.data, .data, .data, .data, .data, .data, .data, .sentinel, .sentinel, .data], laidTests := true, laidLooks := .later }
def FnFixAddMulBigCardSaid : Prop := Claim7.holds Tryz.pinned (.plain (OpenSpec.ofChange fnFixAddMulBigSpec)) fnFixAddMulBigCard

/-- THE TIED CARD OF 'laws.FnFixAddMulExact'. -/
def fnFixAddMulExactCard : Claim7 := { stood := { row := fnFixAddMulExactRow, standIns := [], harness := (true, "72443d377d934b6a9a463b584db2f51af1eb9907310666d497c31401a4b9fd97"), looks := false }, kinds := [], alts := [], laidByText := true, laidKinds := [.data, .data, .data, .data, .data, .data, .data, .sentinel, .sentinel, .data], laidTests := true, laidLooks := .later }
def FnFixAddMulExactCardSaid : Prop := Claim7.holds Tryz.pinned (.plain (OpenSpec.ofChange fnFixAddMulExactSpec)) fnFixAddMulExactCard

/-- THE TIED CARD OF 'laws.FnFixSubMulExact'. -/
def fnFixSubMulExactCard : Claim7 := { stood := { row := fnFixSubMulExactRow, standIns := [], harness := (true, "72443d377d934b6a9a463b584db2f51af1eb9907310666d497c31401a4b9fd97"), looks := false }, kinds := [], alts := [], laidByText := true, laidKinds := [.data, .data, .data, .data, .data, .data, .data, .sentinel, .sentinel, .data], laidTests := true, laidLooks := .later }
def FnFixSubMulExactCardSaid : Prop := Claim7.holds Tryz.pinned (.plain (OpenSpec.ofChange fnFixSubMulExactSpec)) fnFixSubMulExactCard

/-- THE SECOND FORM's CARD OF 'laws.FnFixSubExact'. -/
def fnFixSubExactUptoCard : Claim7 := { stood := { row := fnFixSubExactUptoRow, standIns := [], harness := (true, "72443d377d934b6a9a463b584db2f51af1eb9907310666d497c31401a4b9fd97"), looks := false }, kinds := [], alts := [], laidByText := true, laidKinds := [.data, .data, .data, .data, .data, .data, .data, .sentinel, .sentinel, .data], laidTests := true, laidLooks := .later }
def FnFixSubExactUptoCardSaid : Prop := Claim7.holds Tryz.pinned (.plain (OpenSpec.upto fnFixSubExactSpec)) fnFixSubExactUptoCard

/-- THE SECOND FORM's CARD OF 'laws.FnFixAddMulBig'. -/
def fnFixAddMulBigUptoCard : Claim7 := { stood := { row := fnFixAddMulBigUptoRow, standIns := [], harness := (true, "72443d377d934b6a9a463b584db2f51af1eb9907310666d497c31401a4b9fd97"), looks := false }, kinds := [], alts := [], laidByText := true, laidKinds := [.data, .data, .data, .data, .data, .data, .data, .sentinel, .sentinel, .data], laidTests := true, laidLooks := .later }
def FnFixAddMulBigUptoCardSaid : Prop := Claim7.holds Tryz.pinned (.plain (OpenSpec.upto fnFixAddMulBigSpec)) fnFixAddMulBigUptoCard

/-- THE SECOND FORM's CARD OF 'laws.FnFixAddMulExact'. -/
def fnFixAddMulExactUptoCard : Claim7 := { stood := { row := fnFixAddMulExactUptoRow, standIns := [], harness := (true, "72443d377d934b6a9a463b584db2f51af1eb9907310666d497c31401a4b9fd97"), looks := false }, kinds := [], alts := [], laidByText := true, laidKinds := [.data, .data, .data, .data, .data, .data, .data, .sentinel, .sentinel, .data], laidTests := true, laidLooks := .later }
def FnFixAddMulExactUptoCardSaid : Prop := Claim7.holds Tryz.pinned (.plain (OpenSpec.upto fnFixAddMulExactSpec)) fnFixAddMulExactUptoCard

/-- THE SECOND FORM's CARD OF 'laws.FnFixSubMulExact'. -/
def fnFixSubMulExactUptoCard : Claim7 := { stood := { row := fnFixSubMulExactUptoRow, standIns := [], harness := (true, "72443d377d934b6a9a463b584db2f51af1eb9907310666d497c31401a4b9fd97"), looks := false }, kinds := [], alts := [], laidByText := true, laidKinds := [.data, .data, .data, .data, .data, .data, .data, .sentinel, .sentinel, .data], laidTests := true, laidLooks := .later }
def FnFixSubMulExactUptoCardSaid : Prop := Claim7.holds Tryz.pinned (.plain (OpenSpec.upto fnFixSubMulExactSpec)) fnFixSubMulExactUptoCard
end Rows
end Go.Proofs.YtmpkgkjnoanlhaaGreatDoor
