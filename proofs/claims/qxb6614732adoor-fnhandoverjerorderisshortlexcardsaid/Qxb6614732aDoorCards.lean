/-
  DERIVED. GIVEN WITH THE SEED: THE CARDS: each row of Qxb6614732aDoorRows.lean that lists a variable, with what it lists TIED to the program's text (the seventh form; the later family's looks); each row that meets fmt, with fmt's text TOLD by the authors' own Lean function (tested against real Go, not proved from fmt's source: count such statements apart). THE CARD IS WHAT COUNTS. Prove the row's statement (the work); the ties are given (Qxb6614732aDoorTie.lean); close each card by the builder's one call (the guide's Derived/Test/ToyasCard.lean, 'card_holds'). Laid BY PROGRAM, IN A SANDBOX (cutbox-door.mjs). By AI agents, Wed Nov 11 2026. No macro, syntax, notation, axiom, sorry.
-/
import Derived.Test.Qxb6614732aDoorRows
import GoSem.ClaimSeven
namespace Go.Proofs.Qxb6614732aDoor
namespace Rows

/-- THE TIED CARD OF 'zzlaws_root_b1.FnHandoverJERIsCanonicalDecimalOfV'. -/
def fnHandoverJERIsCanonicalDecimalOfVCard : Claim7 := { stood := { row := fnHandoverJERIsCanonicalDecimalOfVRow, standIns := [], harness := (true, "1b6d6ac06decd45a49d2b21ae1c625fb7c4ff9ad5bcda829cf5cfeeec0d8549c"), looks := false }, kinds := [], alts := [], laidByText := true, laidKinds := [.data, .data, .data], laidTests := true, laidLooks := .later }
def FnHandoverJERIsCanonicalDecimalOfVCardSaid : Prop := Claim7.holds Tryd.pinned (.plain (OpenSpec.ofChange fnHandoverJERIsCanonicalDecimalOfVSpec)) fnHandoverJERIsCanonicalDecimalOfVCard

/-- THE TIED CARD OF 'zzlaws_root_b1.FnHandoverJEROrderIsShortlex'. -/
def fnHandoverJEROrderIsShortlexCard : Claim7 := { stood := { row := fnHandoverJEROrderIsShortlexRow, standIns := [], harness := (true, "1b6d6ac06decd45a49d2b21ae1c625fb7c4ff9ad5bcda829cf5cfeeec0d8549c"), looks := false }, kinds := [], alts := [], laidByText := true, laidKinds := [.data, .data, .data], laidTests := true, laidLooks := .later }
def FnHandoverJEROrderIsShortlexCardSaid : Prop := Claim7.holds Tryd.pinned (.plain (OpenSpec.ofChange fnHandoverJEROrderIsShortlexSpec)) fnHandoverJEROrderIsShortlexCard
end Rows
end Go.Proofs.Qxb6614732aDoor
