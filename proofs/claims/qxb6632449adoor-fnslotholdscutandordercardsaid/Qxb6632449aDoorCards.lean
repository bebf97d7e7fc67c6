/-
  DERIVED. GIVEN WITH THE SEED: THE CARDS: each row of Qxb6632449aDoorRows.lean that lists a variable, with what it lists TIED to the program's text (the seventh form; the later family's looks); each row that meets fmt, with fmt's text TOLD by the authors' own Lean function (tested against real Go, not proved from fmt's source: count such statements apart). THE CARD IS WHAT COUNTS. Prove the row's statement (the work); the ties are given (Qxb6632449aDoorTie.lean); close each card by the builder's one call (the guide's Derived/Test/ToyasCard.lean, 'card_holds'). Laid BY PROGRAM, IN A SANDBOX (cutbox-door.mjs). By AI agents, Wed Nov 11 2026. No macro, syntax, notation, axiom, sorry.
-/
import Derived.Test.Qxb6632449aDoorRows
import GoSem.ClaimSeven
namespace Go.Proofs.Qxb6632449aDoor
namespace Rows

/-- THE TIED CARD OF 'zzlaws_internal_lockkey_b1.FnSlotHoldsExactAndSlotsApart'. -/
def fnSlotHoldsExactAndSlotsApartCard : Claim7 := { stood := { row := fnSlotHoldsExactAndSlotsApartRow, standIns := [], harness := (true, "2e28aa3b22d6cb458a37c90e563b8aca442d520accaf3d7a7b8105bf98336c8f"), looks := false }, kinds := [], alts := [], laidByText := true, laidKinds := [.data, .data, .data], laidTests := true, laidLooks := .later }
def FnSlotHoldsExactAndSlotsApartCardSaid : Prop := Claim7.holds Tryd.pinned (.plain (OpenSpec.ofChange fnSlotHoldsExactAndSlotsApartSpec)) fnSlotHoldsExactAndSlotsApartCard

/-- THE TIED CARD OF 'zzlaws_internal_lockkey_b1.FnSlotHoldsCutAndOrder'. -/
def fnSlotHoldsCutAndOrderCard : Claim7 := { stood := { row := fnSlotHoldsCutAndOrderRow, standIns := [], harness := (true, "2e28aa3b22d6cb458a37c90e563b8aca442d520accaf3d7a7b8105bf98336c8f"), looks := false }, kinds := [], alts := [], laidByText := true, laidKinds := [.data, .data, .data], laidTests := true, laidLooks := .later }
def FnSlotHoldsCutAndOrderCardSaid : Prop := Claim7.holds Tryd.pinned (.plain (OpenSpec.ofChange fnSlotHoldsCutAndOrderSpec)) fnSlotHoldsCutAndOrderCard
end Rows
end Go.Proofs.Qxb6632449aDoor
