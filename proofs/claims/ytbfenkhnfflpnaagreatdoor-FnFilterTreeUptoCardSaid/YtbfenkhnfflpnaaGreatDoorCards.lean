/-
  DERIVED. GIVEN WITH THE SEED: THE CARDS: each row of YtbfenkhnfflpnaaGreatDoorRows.lean that lists a variable, with what it lists TIED to the program's text (the seventh form; the later family's looks); each row that meets fmt, with fmt's text TOLD by the authors' own Lean function (tested against real Go, not proved from fmt's source: count such statements apart). THE CARD IS WHAT COUNTS. Prove the row's statement (the work); the ties are given (YtbfenkhnfflpnaaGreatDoorTie.lean); close each card by the builder's one call (the guide's Derived/Test/ToyasCard.lean, 'card_holds'). Laid BY PROGRAM, IN A SANDBOX (cutbox-door.mjs). By AI agents, Wed Nov 11 2026. No macro, syntax, notation, axiom, sorry.
-/
import Derived.Test.YtbfenkhnfflpnaaGreatDoorRows
import GoSem.ClaimSeven
namespace Go.Proofs.YtbfenkhnfflpnaaGreatDoor
namespace Rows

/-- THE TIED CARD OF 'laws.FnFilterTree'. -/
def fnFilterTreeCard : Claim7 := { stood := { row := fnFilterTreeRow, standIns := [], harness := (true, "805321076deb2e44377bfda0087c643a9014d16873ab1dbdb857c7aaf103e403"), looks := true }, kinds := [], alts := [], laidByText := true, laidKinds := [.data, .data, .widerDeep, .widerDeep, .data, .data, .data, .data, .data, .sentinel, .sentinel, .pinned, .pinned], laidTests := true, laidLooks := .later }
def FnFilterTreeCardSaid : Prop := Claim7.holds Tryz.pinned (.plain (OpenSpec.ofChange fnFilterTreeSpec)) fnFilterTreeCard

/-- THE SECOND FORM's CARD OF 'laws.FnFilterTree'. -/
def fnFilterTreeUptoCard : Claim7 := { stood := { row := fnFilterTreeUptoRow, standIns := [], harness := (true, "805321076deb2e44377bfda0087c643a9014d16873ab1dbdb857c7aaf103e403"), looks := true }, kinds := [], alts := [], laidByText := true, laidKinds := [.data, .data, .widerDeep, .widerDeep, .data, .data, .data, .data, .data, .sentinel, .sentinel, .pinned, .pinned], laidTests := true, laidLooks := .later }
def FnFilterTreeUptoCardSaid : Prop := Claim7.holds Tryz.pinned (.plain (OpenSpec.upto fnFilterTreeSpec)) fnFilterTreeUptoCard
end Rows
end Go.Proofs.YtbfenkhnfflpnaaGreatDoor
