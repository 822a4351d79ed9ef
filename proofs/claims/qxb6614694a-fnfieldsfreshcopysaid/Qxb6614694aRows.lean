/-
  No cell of these rows narrows 'for every input' (looked for: loops, veiled, ifaces, maps, wideKeys, modest, calm, conditions, laid).
  DERIVED. THE GIVEN ROWS OF THIS SEAT. 3 by the template 'for every input the law returns true; each argument reads behind the call as it read before'; 0 by the template 'total and deterministic' (their statements: Qxb6614694aTotals.lean).
  GIVEN WITH THE SEED: the statements are not yours to turn. If you find one false, say at which input.
  Laid BY PROGRAM, IN A SANDBOX (cutbox-rows.mjs): the forced cells as the released guide's own fill.sh prints them over the translation 90b140ca589d8a0b… (all of the seat's roots in one cut). By AI agents, Wed Nov 11 2026. No macro, syntax, notation, axiom, sorry.
-/
import Derived.Test.Qxb6614694aChecked
import GoSem.Claim
import GoSem.ClaimJoined
import GoSem.ClaimMapViews
import Derived.JoinedTies
import Derived.KernelRfl
namespace Go.Proofs.Qxb6614694a
/- THE CELL 'sum', in the pinned program and in every row, IS THE sha256 OF THE DUMP (.gsa) THAT Qxb6614694aProg.lean LOADS. Nothing in Lean hashes anything: it is a label: what it is worth is what the hold of that sum in a sandbox is worth. -/
noncomputable def Try.pinned : Pinned := { name := "qxb6614694a", sum := "90b140ca589d8a0bed345df81a158ec73b6ee9f7e80061e419c027422eb78a7f", checked := Try.checked }
namespace Rows
def none {H : Type} : Left H := { results := [], args := [] }

/-- 'zzlaws_gen_b1.FnFieldsFreshCopy': WHATEVER THE INPUT: true; the input reads as it did. -/
def fnFieldsFreshCopySpec : ChangeSpec := { name := "fnFieldsFreshCopy", fn := fun _ => fun
  | [d1, d2, d3, d4, d5, d6] => { results := [.lit (.bool true)], args := [d1, d2, d3, d4, d5, d6] }
  | _ => none }
def fnFieldsFreshCopyRow : OpenClaim := { program := "qxb6614694a", sum := "90b140ca589d8a0bed345df81a158ec73b6ee9f7e80061e419c027422eb78a7f", func := "example.com/fieldwright/fieldwright/zzlaws_gen_b1.FnFieldsFreshCopy", spec := "fnFieldsFreshCopy", apart := false }
def FnFieldsFreshCopySaid : Prop := fnFieldsFreshCopyRow.holds Try.pinned (OpenSpec.ofChange fnFieldsFreshCopySpec)

/-- ITS FALSE NEIGHBOUR: 'it returns false'. Refute it at one input. -/
def fnFieldsFreshCopyWrong : ChangeSpec := { name := "fnFieldsFreshCopy", fn := fun _ => fun
  | [d1, d2, d3, d4, d5, d6] => { results := [.lit (.bool false)], args := [d1, d2, d3, d4, d5, d6] }
  | _ => none }
def FnFieldsFreshCopyWrongFalsely : Prop := fnFieldsFreshCopyRow.holds Try.pinned (OpenSpec.ofChange fnFieldsFreshCopyWrong)

/-- 'zzlaws_gen_b1.FnOwnOutputFirstLineOnly': WHATEVER THE INPUT: true; the input reads as it did. -/
def fnOwnOutputFirstLineOnlySpec : ChangeSpec := { name := "fnOwnOutputFirstLineOnly", fn := fun _ => fun
  | [d1, d2] => { results := [.lit (.bool true)], args := [d1, d2] }
  | _ => none }
def fnOwnOutputFirstLineOnlyRow : OpenClaim := { program := "qxb6614694a", sum := "90b140ca589d8a0bed345df81a158ec73b6ee9f7e80061e419c027422eb78a7f", func := "example.com/fieldwright/fieldwright/zzlaws_gen_b1.FnOwnOutputFirstLineOnly", spec := "fnOwnOutputFirstLineOnly", inPlace := ["internal/bytealg.IndexByte", "internal/bytealg.Index"], named := ["internal/bytealg.MaxLen"], apart := false }
def FnOwnOutputFirstLineOnlySaid : Prop := fnOwnOutputFirstLineOnlyRow.holds Try.pinned (OpenSpec.ofChange fnOwnOutputFirstLineOnlySpec)

/-- ITS FALSE NEIGHBOUR: 'it returns false'. Refute it at one input. -/
def fnOwnOutputFirstLineOnlyWrong : ChangeSpec := { name := "fnOwnOutputFirstLineOnly", fn := fun _ => fun
  | [d1, d2] => { results := [.lit (.bool false)], args := [d1, d2] }
  | _ => none }
def FnOwnOutputFirstLineOnlyWrongFalsely : Prop := fnOwnOutputFirstLineOnlyRow.holds Try.pinned (OpenSpec.ofChange fnOwnOutputFirstLineOnlyWrong)

/-- 'zzlaws_gen_b1.FnOwnOutputCRLFHeader': WHATEVER THE INPUT: true; the input reads as it did. -/
def fnOwnOutputCRLFHeaderSpec : ChangeSpec := { name := "fnOwnOutputCRLFHeader", fn := fun _ => fun
  | [d] => { results := [.lit (.bool true)], args := [d] }
  | _ => none }
def fnOwnOutputCRLFHeaderRow : OpenClaim := { program := "qxb6614694a", sum := "90b140ca589d8a0bed345df81a158ec73b6ee9f7e80061e419c027422eb78a7f", func := "example.com/fieldwright/fieldwright/zzlaws_gen_b1.FnOwnOutputCRLFHeader", spec := "fnOwnOutputCRLFHeader", inPlace := ["internal/bytealg.IndexByte", "internal/bytealg.Index"], named := ["internal/bytealg.MaxLen"], apart := false }
def FnOwnOutputCRLFHeaderSaid : Prop := fnOwnOutputCRLFHeaderRow.holds Try.pinned (OpenSpec.ofChange fnOwnOutputCRLFHeaderSpec)

/-- ITS FALSE NEIGHBOUR: 'it returns false'. Refute it at one input. -/
def fnOwnOutputCRLFHeaderWrong : ChangeSpec := { name := "fnOwnOutputCRLFHeader", fn := fun _ => fun
  | [d] => { results := [.lit (.bool false)], args := [d] }
  | _ => none }
def FnOwnOutputCRLFHeaderWrongFalsely : Prop := fnOwnOutputCRLFHeaderRow.holds Try.pinned (OpenSpec.ofChange fnOwnOutputCRLFHeaderWrong)

end Rows
end Go.Proofs.Qxb6614694a
