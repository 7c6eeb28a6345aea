/-
  DERIVED. GIVEN WITH THE SEED: THE CARDS: each row of YtliaalgmdelcaaaGreatDoorRows.lean that lists a variable, with what it lists TIED to the program's text (the seventh form; the later family's looks); each row that meets fmt, with fmt's text TOLD by the authors' own Lean function (tested against real Go, not proved from fmt's source: count such statements apart). THE CARD IS WHAT COUNTS. Prove the row's statement (the work); the ties are given (YtliaalgmdelcaaaGreatDoorTie.lean); close each card by the builder's one call (the guide's Derived/Test/ToyasCard.lean, 'card_holds'). Laid BY PROGRAM, IN A SANDBOX (cutbox-door.mjs). By AI agents, Wed Nov 11 2026. No macro, syntax, notation, axiom, sorry.
-/
import Derived.Test.YtliaalgmdelcaaaGreatDoorRows
import GoSem.ClaimSeven
namespace Go.Proofs.YtliaalgmdelcaaaGreatDoor
namespace Rows

/-- THE TIED CARD OF 'laws.FnIfs'. -/
def fnIfsCard : Claim7 := { stood := { row := fnIfsRow, standIns := [], harness := (true, "6780ba46086034947a4f7596f593a47f8c8c76e7610dfb7afd6fa52f725c65d3"), looks := true }, kinds := [], alts := [], laidByText := true, laidKinds := [.data, .data, .data, .sentinel, .sentinel], laidTests := true, laidLooks := .later }
def FnIfsCardSaid : Prop := Claim7.holds Tryz.pinned (.plain (OpenSpec.ofChange fnIfsSpec)) fnIfsCard

/-- THE TIED CARD OF 'laws.FnNot'. -/
def fnNotCard : Claim7 := { stood := { row := fnNotRow, standIns := [], harness := (true, "6780ba46086034947a4f7596f593a47f8c8c76e7610dfb7afd6fa52f725c65d3"), looks := true }, kinds := [], alts := [], laidByText := true, laidKinds := [.data, .pinned, .pinned], laidTests := true, laidLooks := .later }
def FnNotCardSaid : Prop := Claim7.holds Tryz.pinned (.plain (OpenSpec.ofChange fnNotSpec)) fnNotCard

/-- THE TIED CARD OF 'laws.FnIsnumber'. -/
def fnIsnumberCard : Claim7 := { stood := { row := fnIsnumberRow, standIns := [], harness := (true, "6780ba46086034947a4f7596f593a47f8c8c76e7610dfb7afd6fa52f725c65d3"), looks := true }, kinds := [], alts := [], laidByText := true, laidKinds := [.data, .data, .data, .data, .sentinel, .sentinel, .sentinel, .sentinel, .pinned], laidTests := true, laidLooks := .later }
def FnIsnumberCardSaid : Prop := Claim7.holds Tryz.pinned (.plain (OpenSpec.ofChange fnIsnumberSpec)) fnIsnumberCard

/-- THE SECOND FORM's CARD OF 'laws.FnIfs'. -/
def fnIfsUptoCard : Claim7 := { stood := { row := fnIfsUptoRow, standIns := [], harness := (true, "6780ba46086034947a4f7596f593a47f8c8c76e7610dfb7afd6fa52f725c65d3"), looks := true }, kinds := [], alts := [], laidByText := true, laidKinds := [.data, .data, .data, .sentinel, .sentinel], laidTests := true, laidLooks := .later }
def FnIfsUptoCardSaid : Prop := Claim7.holds Tryz.pinned (.plain (OpenSpec.upto fnIfsSpec)) fnIfsUptoCard

/-- THE SECOND FORM's CARD OF 'laws.FnNot'. -/
def fnNotUptoCard : Claim7 := { stood := { row := fnNotUptoRow, standIns := [], harness := (true, "6780ba46086034947a4f7596f593a47f8c8c76e7610dfb7afd6fa52f725c65d3"), looks := true }, kinds := [], alts := [], laidByText := true, laidKinds := [.data, .pinned, .pinned], laidTests := true, laidLooks := .later }
def FnNotUptoCardSaid : Prop := Claim7.holds Tryz.pinned (.plain (OpenSpec.upto fnNotSpec)) fnNotUptoCard

/-- THE SECOND FORM's CARD OF 'laws.FnIsnumber'. -/
def fnIsnumberUptoCard : Claim7 := { stood := { row := fnIsnumberUptoRow, standIns := [], harness := (true, "6780ba46086034947a4f7596f593a47f8c8c76e7610dfb7afd6fa52f725c65d3"), looks := true }, kinds := [], alts := [], laidByText := true, laidKinds := [.data, .data, .data, .data, .sentinel, .sentinel, .sentinel, .sentinel, .pinned], laidTests := true, laidLooks := .later }
def FnIsnumberUptoCardSaid : Prop := Claim7.holds Tryz.pinned (.plain (OpenSpec.upto fnIsnumberSpec)) fnIsnumberUptoCard
end Rows
end Go.Proofs.YtliaalgmdelcaaaGreatDoor
