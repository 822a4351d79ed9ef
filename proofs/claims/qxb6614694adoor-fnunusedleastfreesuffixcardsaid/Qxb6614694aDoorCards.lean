/-
  DERIVED. GIVEN WITH THE SEED: THE CARDS: each row of Qxb6614694aDoorRows.lean that lists a variable, with what it lists TIED to the program's text (the seventh form; the later family's looks); each row that meets fmt, with fmt's text TOLD by the authors' own Lean function (tested against real Go, not proved from fmt's source: count such statements apart). THE CARD IS WHAT COUNTS. Prove the row's statement (the work); the ties are given (Qxb6614694aDoorTie.lean); close each card by the builder's one call (the guide's Derived/Test/ToyasCard.lean, 'card_holds'). Laid BY PROGRAM, IN A SANDBOX (cutbox-door.mjs). By AI agents, Wed Nov 11 2026. No macro, syntax, notation, axiom, sorry.
-/
import Derived.Test.Qxb6614694aDoorRows
import GoSem.ClaimSeven
namespace Go.Proofs.Qxb6614694aDoor
namespace Rows

/-- THE TIED CARD OF 'zzlaws_gen_b1.FnUnusedLeastFreeSuffix'. -/
def fnUnusedLeastFreeSuffixCard : Claim7 := { stood := { row := fnUnusedLeastFreeSuffixRow, standIns := [], harness := (true, "415e00c8652d82e1a8690a477918e09a02c26522fb4c3eb0168adf91fd508432"), looks := false }, kinds := [], alts := [], laidByText := true, laidKinds := [.data, .data, .data], laidTests := true, laidLooks := .later }
def FnUnusedLeastFreeSuffixCardSaid : Prop := Claim7.holds Tryd.pinned (.plain (OpenSpec.ofChange fnUnusedLeastFreeSuffixSpec)) fnUnusedLeastFreeSuffixCard

/-- THE TIED CARD OF 'zzlaws_gen_b1.FnUnusedOtherNameChangesNothing'. -/
def fnUnusedOtherNameChangesNothingCard : Claim7 := { stood := { row := fnUnusedOtherNameChangesNothingRow, standIns := [], harness := (true, "415e00c8652d82e1a8690a477918e09a02c26522fb4c3eb0168adf91fd508432"), looks := false }, kinds := [], alts := [], laidByText := true, laidKinds := [.data, .data, .data], laidTests := true, laidLooks := .later }
def FnUnusedOtherNameChangesNothingCardSaid : Prop := Claim7.holds Tryd.pinned (.plain (OpenSpec.ofChange fnUnusedOtherNameChangesNothingSpec)) fnUnusedOtherNameChangesNothingCard
end Rows
end Go.Proofs.Qxb6614694aDoor
