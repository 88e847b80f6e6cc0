/-
  DERIVED. GIVEN WITH THE SEED: THE CARDS: each row of YtpbahgddoamhgaaGreatDoorRows.lean that lists a variable, with what it lists TIED to the program's text (the seventh form; the later family's looks); each row that meets fmt, with fmt's text TOLD by the authors' own Lean function (tested against real Go, not proved from fmt's source: count such statements apart). THE CARD IS WHAT COUNTS. Prove the row's statement (the work); the ties are given (YtpbahgddoamhgaaGreatDoorTie.lean); close each card by the builder's one call (the guide's Derived/Test/ToyasCard.lean, 'card_holds'). Laid BY PROGRAM, IN A SANDBOX (cutbox-door.mjs). By AI agents, Wed Nov 11 2026. No macro, syntax, notation, axiom, sorry.
-/
import Derived.Test.YtpbahgddoamhgaaGreatDoorRows
import GoSem.ClaimSeven
namespace Go.Proofs.YtpbahgddoamhgaaGreatDoor
namespace Rows

/-- THE TIED CARD OF 'laws.FnDamaged'. -/
def fnDamagedCard : Claim7 := { stood := { row := fnDamagedRow, standIns := [], harness := (true, "2878dff9cc0c590fcf0b6c632e0fb03516561d265e6f25a2e6f26066bcb147c7"), looks := true }, kinds := [], alts := [], laidByText := true, laidKinds := [.sentinel, .sentinel, .sentinel, .data, .sentinel, .sentinel, .sentinel], laidTests := true, laidLooks := .later }
def FnDamagedCardSaid : Prop := Claim7.holds Tryz.pinned (.plain (OpenSpec.ofChange fnDamagedSpec)) fnDamagedCard

/-- THE TIED CARD OF 'laws.FnRaw'. -/
def fnRawCard : Claim7 := { stood := { row := fnRawRow, standIns := [], harness := (true, "2878dff9cc0c590fcf0b6c632e0fb03516561d265e6f25a2e6f26066bcb147c7"), looks := true }, kinds := [], alts := [], laidByText := true, laidKinds := [.sentinel, .sentinel, .sentinel, .data, .sentinel, .sentinel, .sentinel], laidTests := true, laidLooks := .later }
def FnRawCardSaid : Prop := Claim7.holds Tryz.pinned (.plain (OpenSpec.ofChange fnRawSpec)) fnRawCard

/-- THE SECOND FORM's CARD OF 'laws.FnDamaged'. -/
def fnDamagedUptoCard : Claim7 := { stood := { row := fnDamagedUptoRow, standIns := [], harness := (true, "2878dff9cc0c590fcf0b6c632e0fb03516561d265e6f25a2e6f26066bcb147c7"), looks := true }, kinds := [], alts := [], laidByText := true, laidKinds := [.sentinel, .sentinel, .sentinel, .data, .sentinel, .sentinel, .sentinel], laidTests := true, laidLooks := .later }
def FnDamagedUptoCardSaid : Prop := Claim7.holds Tryz.pinned (.plain (OpenSpec.upto fnDamagedSpec)) fnDamagedUptoCard

/-- THE SECOND FORM's CARD OF 'laws.FnRaw'. -/
def fnRawUptoCard : Claim7 := { stood := { row := fnRawUptoRow, standIns := [], harness := (true, "2878dff9cc0c590fcf0b6c632e0fb03516561d265e6f25a2e6f26066bcb147c7"), looks := true }, kinds := [], alts := [], laidByText := true, laidKinds := [.sentinel, .sentinel, .sentinel, .data, .sentinel, .sentinel, .sentinel], laidTests := true, laidLooks := .later }
def FnRawUptoCardSaid : Prop := Claim7.holds Tryz.pinned (.plain (OpenSpec.upto fnRawSpec)) fnRawUptoCard
end Rows
end Go.Proofs.YtpbahgddoamhgaaGreatDoor
