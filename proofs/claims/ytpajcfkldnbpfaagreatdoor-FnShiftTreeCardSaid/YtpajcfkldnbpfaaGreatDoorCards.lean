/-
  DERIVED. GIVEN WITH THE SEED: THE CARDS: each row of YtpajcfkldnbpfaaGreatDoorRows.lean that lists a variable, with what it lists TIED to the program's text (the seventh form; the later family's looks); each row that meets fmt, with fmt's text TOLD by the authors' own Lean function (tested against real Go, not proved from fmt's source: count such statements apart). THE CARD IS WHAT COUNTS. Prove the row's statement (the work); the ties are given (YtpajcfkldnbpfaaGreatDoorTie.lean); close each card by the builder's one call (the guide's Derived/Test/ToyasCard.lean, 'card_holds'). Laid BY PROGRAM, IN A SANDBOX (cutbox-door.mjs). By AI agents, Wed Nov 11 2026. No macro, syntax, notation, axiom, sorry.
-/
import Derived.Test.YtpajcfkldnbpfaaGreatDoorRows
import GoSem.ClaimSeven
namespace Go.Proofs.YtpajcfkldnbpfaaGreatDoor
namespace Rows

/-- THE TIED CARD OF 'laws.FnVisitsTree'. -/
def fnVisitsTreeCard : Claim7 := { stood := { row := fnVisitsTreeRow, standIns := [], harness := (true, "3d9a056884a173d6454b117ff71bdf05e22d6b8e5ff112afcd31d06b35d721f7"), looks := true }, kinds := [], alts := [], laidByText := true, laidKinds := [.data, .data, .widerDeep, .widerDeep, .data, .data, .data, .data, .data, .sentinel, .sentinel, .pinned, .pinned], laidTests := true, laidLooks := .later }
def FnVisitsTreeCardSaid : Prop := Claim7.holds Tryz.pinned (.plain (OpenSpec.ofChange fnVisitsTreeSpec)) fnVisitsTreeCard

/-- THE TIED CARD OF 'laws.FnShiftTree'. -/
def fnShiftTreeCard : Claim7 := { stood := { row := fnShiftTreeRow, standIns := [], harness := (true, "3d9a056884a173d6454b117ff71bdf05e22d6b8e5ff112afcd31d06b35d721f7"), looks := true }, kinds := [], alts := [], laidByText := true, laidKinds := [.data, .data, .widerDeep, .widerDeep, .data, .data, .data, .data, .data, .sentinel, .sentinel, .pinned, .pinned], laidTests := true, laidLooks := .later }
def FnShiftTreeCardSaid : Prop := Claim7.holds Tryz.pinned (.plain (OpenSpec.ofChange fnShiftTreeSpec)) fnShiftTreeCard

/-- THE SECOND FORM's CARD OF 'laws.FnVisitsTree'. -/
def fnVisitsTreeUptoCard : Claim7 := { stood := { row := fnVisitsTreeUptoRow, standIns := [], harness := (true, "3d9a056884a173d6454b117ff71bdf05e22d6b8e5ff112afcd31d06b35d721f7"), looks := true }, kinds := [], alts := [], laidByText := true, laidKinds := [.data, .data, .widerDeep, .widerDeep, .data, .data, .data, .data, .data, .sentinel, .sentinel, .pinned, .pinned], laidTests := true, laidLooks := .later }
def FnVisitsTreeUptoCardSaid : Prop := Claim7.holds Tryz.pinned (.plain (OpenSpec.upto fnVisitsTreeSpec)) fnVisitsTreeUptoCard

/-- THE SECOND FORM's CARD OF 'laws.FnShiftTree'. -/
def fnShiftTreeUptoCard : Claim7 := { stood := { row := fnShiftTreeUptoRow, standIns := [], harness := (true, "3d9a056884a173d6454b117ff71bdf05e22d6b8e5ff112afcd31d06b35d721f7"), looks := true }, kinds := [], alts := [], laidByText := true, laidKinds := [.data, .data, .widerDeep, .widerDeep, .data, .data, .data, .data, .data, .sentinel, .sentinel, .pinned, .pinned], laidTests := true, laidLooks := .later }
def FnShiftTreeUptoCardSaid : Prop := Claim7.holds Tryz.pinned (.plain (OpenSpec.upto fnShiftTreeSpec)) fnShiftTreeUptoCard
end Rows
end Go.Proofs.YtpajcfkldnbpfaaGreatDoor
