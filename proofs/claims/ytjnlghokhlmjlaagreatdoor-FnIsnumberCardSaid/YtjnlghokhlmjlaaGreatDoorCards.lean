/-
  DERIVED. GIVEN WITH THE SEED: THE CARDS: each row of YtjnlghokhlmjlaaGreatDoorRows.lean that lists a variable, with what it lists TIED to the program's text (the seventh form; the later family's looks); each row that meets fmt, with fmt's text TOLD by the authors' own Lean function (tested against real Go, not proved from fmt's source: count such statements apart). THE CARD IS WHAT COUNTS. Prove the row's statement (the work); the ties are given (YtjnlghokhlmjlaaGreatDoorTie.lean); close each card by the builder's one call (the guide's Derived/Test/ToyasCard.lean, 'card_holds'). Laid BY PROGRAM, IN A SANDBOX (cutbox-door.mjs). By AI agents, Wed Nov 11 2026. No macro, syntax, notation, axiom, sorry.
-/
import Derived.Test.YtjnlghokhlmjlaaGreatDoorRows
import GoSem.ClaimSeven
namespace Go.Proofs.YtjnlghokhlmjlaaGreatDoor
namespace Rows

/-- THE TIED CARD OF 'laws.FnIfs'. -/
def fnIfsCard : Claim7 := { stood := { row := fnIfsRow, standIns := [], harness := (true, "13d59dd29a8172d2b9682b6c7113f33d5cfccef60a43d1ec76719cf6560ee763"), looks := true }, kinds := [], alts := [], laidByText := true, laidKinds := [.sentinel, .sentinel, .data, .data, .data], laidTests := true, laidLooks := .later }
def FnIfsCardSaid : Prop := Claim7.holds Tryz.pinned (.plain (OpenSpec.ofChange fnIfsSpec)) fnIfsCard

/-- THE TIED CARD OF 'laws.FnIsnumber'. -/
def fnIsnumberCard : Claim7 := { stood := { row := fnIsnumberRow, standIns := [], harness := (true, "13d59dd29a8172d2b9682b6c7113f33d5cfccef60a43d1ec76719cf6560ee763"), looks := true }, kinds := [], alts := [], laidByText := true, laidKinds := [.sentinel, .pinned, .data, .sentinel, .sentinel, .data, .data, .data, .sentinel], laidTests := true, laidLooks := .later }
def FnIsnumberCardSaid : Prop := Claim7.holds Tryz.pinned (.plain (OpenSpec.ofChange fnIsnumberSpec)) fnIsnumberCard

/-- THE TIED CARD OF 'laws.FnMorgan'. -/
def fnMorganCard : Claim7 := { stood := { row := fnMorganRow, standIns := [], harness := (true, "13d59dd29a8172d2b9682b6c7113f33d5cfccef60a43d1ec76719cf6560ee763"), looks := true }, kinds := [], alts := [], laidByText := true, laidKinds := [.pinned, .data, .pinned, .data, .data, .data, .data, .pinned, .pinned], laidTests := true, laidLooks := .later }
def FnMorganCardSaid : Prop := Claim7.holds Tryz.pinned (.plain (OpenSpec.ofChange fnMorganSpec)) fnMorganCard

/-- THE SECOND FORM's CARD OF 'laws.FnIfs'. -/
def fnIfsUptoCard : Claim7 := { stood := { row := fnIfsUptoRow, standIns := [], harness := (true, "13d59dd29a8172d2b9682b6c7113f33d5cfccef60a43d1ec76719cf6560ee763"), looks := true }, kinds := [], alts := [], laidByText := true, laidKinds := [.sentinel, .sentinel, .data, .data, .data], laidTests := true, laidLooks := .later }
def FnIfsUptoCardSaid : Prop := Claim7.holds Tryz.pinned (.plain (OpenSpec.upto fnIfsSpec)) fnIfsUptoCard

/-- THE SECOND FORM's CARD OF 'laws.FnIsnumber'. -/
def fnIsnumberUptoCard : Claim7 := { stood := { row := fnIsnumberUptoRow, standIns := [], harness := (true, "13d59dd29a8172d2b9682b6c7113f33d5cfccef60a43d1ec76719cf6560ee763"), looks := true }, kinds := [], alts := [], laidByText := true, laidKinds := [.sentinel, .pinned, .data, .sentinel, .sentinel, .data, .data, .data, .sentinel], laidTests := true, laidLooks := .later }
def FnIsnumberUptoCardSaid : Prop := Claim7.holds Tryz.pinned (.plain (OpenSpec.upto fnIsnumberSpec)) fnIsnumberUptoCard

/-- THE SECOND FORM's CARD OF 'laws.FnMorgan'. -/
def fnMorganUptoCard : Claim7 := { stood := { row := fnMorganUptoRow, standIns := [], harness := (true, "13d59dd29a8172d2b9682b6c7113f33d5cfccef60a43d1ec76719cf6560ee763"), looks := true }, kinds := [], alts := [], laidByText := true, laidKinds := [.pinned, .data, .pinned, .data, .data, .data, .data, .pinned, .pinned], laidTests := true, laidLooks := .later }
def FnMorganUptoCardSaid : Prop := Claim7.holds Tryz.pinned (.plain (OpenSpec.upto fnMorganSpec)) fnMorganUptoCard
end Rows
end Go.Proofs.YtjnlghokhlmjlaaGreatDoor
