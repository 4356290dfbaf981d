/-
  DERIVED. GIVEN WITH THE SEED: THE CARDS: each row of YtojdfjohmicopaaGreatDoorRows.lean that lists a variable, with what it lists TIED to the program's text (the seventh form; the later family's looks); each row that meets fmt, with fmt's text TOLD by the authors' own Lean function (tested against real Go, not proved from fmt's source: count such statements apart). THE CARD IS WHAT COUNTS. Prove the row's statement (the work); the ties are given (YtojdfjohmicopaaGreatDoorTie.lean); close each card by the builder's one call (the guide's Derived/Test/ToyasCard.lean, 'card_holds'). Laid BY PROGRAM, IN A SANDBOX (cutbox-door.mjs). By AI agents, Wed Nov 11 2026. No macro, syntax, notation, axiom, sorry.
-/
import Derived.Test.YtojdfjohmicopaaGreatDoorRows
import GoSem.ClaimSeven
namespace Go.Proofs.YtojdfjohmicopaaGreatDoor
namespace Rows

/-- THE TIED CARD OF 'laws.FnSilkPrefix'. -/
def fnSilkPrefixCard : Claim7 := { stood := { row := fnSilkPrefixRow, standIns := [], harness := (true, "5507fe35f8e4eca28a84b6b943fdc0683f4c0dbd655af5cae0e11e5dd97c8962"), looks := false }, kinds := [], alts := [], laidByText := true, laidKinds := [.data, .data, .data, .sentinel], laidTests := true, laidLooks := .later }
def FnSilkPrefixCardSaid : Prop := Claim7.holds Tryz.pinned (.plain (OpenSpec.ofChange fnSilkPrefixSpec)) fnSilkPrefixCard

/-- THE TIED CARD OF 'laws.FnSilkRight'. -/
def fnSilkRightCard : Claim7 := { stood := { row := fnSilkRightRow, standIns := [], harness := (true, "5507fe35f8e4eca28a84b6b943fdc0683f4c0dbd655af5cae0e11e5dd97c8962"), looks := false }, kinds := [], alts := [], laidByText := true, laidKinds := [.sentinel], laidTests := true, laidLooks := .later }
def FnSilkRightCardSaid : Prop := Claim7.holds Tryz.pinned (.plain (OpenSpec.ofChange fnSilkRightSpec)) fnSilkRightCard

/-- THE SECOND FORM's CARD OF 'laws.FnSilkPrefix'. -/
def fnSilkPrefixUptoCard : Claim7 := { stood := { row := fnSilkPrefixUptoRow, standIns := [], harness := (true, "5507fe35f8e4eca28a84b6b943fdc0683f4c0dbd655af5cae0e11e5dd97c8962"), looks := false }, kinds := [], alts := [], laidByText := true, laidKinds := [.data, .data, .data, .sentinel], laidTests := true, laidLooks := .later }
def FnSilkPrefixUptoCardSaid : Prop := Claim7.holds Tryz.pinned (.plain (OpenSpec.upto fnSilkPrefixSpec)) fnSilkPrefixUptoCard

/-- THE SECOND FORM's CARD OF 'laws.FnSilkRight'. -/
def fnSilkRightUptoCard : Claim7 := { stood := { row := fnSilkRightUptoRow, standIns := [], harness := (true, "5507fe35f8e4eca28a84b6b943fdc0683f4c0dbd655af5cae0e11e5dd97c8962"), looks := false }, kinds := [], alts := [], laidByText := true, laidKinds := [.sentinel], laidTests := true, laidLooks := .later }
def FnSilkRightUptoCardSaid : Prop := Claim7.holds Tryz.pinned (.plain (OpenSpec.upto fnSilkRightSpec)) fnSilkRightUptoCard
end Rows
end Go.Proofs.YtojdfjohmicopaaGreatDoor
