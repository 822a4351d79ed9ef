/-
  No cell of these rows narrows 'for every input' (looked for: loops, veiled, ifaces, maps, wideKeys, modest, calm, conditions, laid).
  DERIVED. THE GIVEN ROWS OF THIS SEAT. 3 by the template 'for every input the law returns true; each argument reads behind the call as it read before'; 0 by the template 'total and deterministic' (their statements: Qxb6614815aTotals.lean).
  GIVEN WITH THE SEED: the statements are not yours to turn. If you find one false, say at which input.
  Laid BY PROGRAM, IN A SANDBOX (cutbox-rows.mjs): the forced cells as the released guide's own fill.sh prints them over the translation b713f68436b110a8… (all of the seat's roots in one cut). By AI agents, Wed Nov 11 2026. No macro, syntax, notation, axiom, sorry.
-/
import Derived.Test.Qxb6614815aChecked
import GoSem.Claim
import GoSem.ClaimJoined
import GoSem.ClaimMapViews
import Derived.JoinedTies
import Derived.KernelRfl
namespace Go.Proofs.Qxb6614815a
/- THE CELL 'sum', in the pinned program and in every row, IS THE sha256 OF THE DUMP (.gsa) THAT Qxb6614815aProg.lean LOADS. Nothing in Lean hashes anything: it is a label: what it is worth is what the hold of that sum in a sandbox is worth. -/
noncomputable def Try.pinned : Pinned := { name := "qxb6614815a", sum := "b713f68436b110a84f27c46b2a5fd7cf51946bccacbb9c79543818c6c7d4ffa0", checked := Try.checked }
namespace Rows
def none {H : Type} : Left H := { results := [], args := [] }

/-- 'zzlaws_internal_engine_b1.FnAskMessageIsFreshAndOfItsKind': WHATEVER THE INPUT: true; the input reads as it did. -/
def fnAskMessageIsFreshAndOfItsKindSpec : ChangeSpec := { name := "fnAskMessageIsFreshAndOfItsKind", fn := fun _ => fun
  | [d] => { results := [.lit (.bool true)], args := [d] }
  | _ => none }
def fnAskMessageIsFreshAndOfItsKindRow : OpenClaim := { program := "qxb6614815a", sum := "b713f68436b110a84f27c46b2a5fd7cf51946bccacbb9c79543818c6c7d4ffa0", func := "example.com/ordinato/ordinato/zzlaws_internal_engine_b1.FnAskMessageIsFreshAndOfItsKind", spec := "fnAskMessageIsFreshAndOfItsKind", apart := false }
def FnAskMessageIsFreshAndOfItsKindSaid : Prop := fnAskMessageIsFreshAndOfItsKindRow.holds Try.pinned (OpenSpec.ofChange fnAskMessageIsFreshAndOfItsKindSpec)

/-- ITS FALSE NEIGHBOUR: 'it returns false'. Refute it at one input. -/
def fnAskMessageIsFreshAndOfItsKindWrong : ChangeSpec := { name := "fnAskMessageIsFreshAndOfItsKind", fn := fun _ => fun
  | [d] => { results := [.lit (.bool false)], args := [d] }
  | _ => none }
def FnAskMessageIsFreshAndOfItsKindWrongFalsely : Prop := fnAskMessageIsFreshAndOfItsKindRow.holds Try.pinned (OpenSpec.ofChange fnAskMessageIsFreshAndOfItsKindWrong)

/-- 'zzlaws_internal_engine_b1.FnBaseMessageBeatSplitsAtAnyCut': WHATEVER THE INPUT: true; the input reads as it did. -/
def fnBaseMessageBeatSplitsAtAnyCutSpec : ChangeSpec := { name := "fnBaseMessageBeatSplitsAtAnyCut", fn := fun _ => fun
  | [d1, d2, d3] => { results := [.lit (.bool true)], args := [d1, d2, d3] }
  | _ => none }
def fnBaseMessageBeatSplitsAtAnyCutRow : OpenClaim := { program := "qxb6614815a", sum := "b713f68436b110a84f27c46b2a5fd7cf51946bccacbb9c79543818c6c7d4ffa0", func := "example.com/ordinato/ordinato/zzlaws_internal_engine_b1.FnBaseMessageBeatSplitsAtAnyCut", spec := "fnBaseMessageBeatSplitsAtAnyCut", apart := false }
def FnBaseMessageBeatSplitsAtAnyCutSaid : Prop := fnBaseMessageBeatSplitsAtAnyCutRow.holds Try.pinned (OpenSpec.ofChange fnBaseMessageBeatSplitsAtAnyCutSpec)

/-- ITS FALSE NEIGHBOUR: 'it returns false'. Refute it at one input. -/
def fnBaseMessageBeatSplitsAtAnyCutWrong : ChangeSpec := { name := "fnBaseMessageBeatSplitsAtAnyCut", fn := fun _ => fun
  | [d1, d2, d3] => { results := [.lit (.bool false)], args := [d1, d2, d3] }
  | _ => none }
def FnBaseMessageBeatSplitsAtAnyCutWrongFalsely : Prop := fnBaseMessageBeatSplitsAtAnyCutRow.holds Try.pinned (OpenSpec.ofChange fnBaseMessageBeatSplitsAtAnyCutWrong)

/-- 'zzlaws_internal_engine_b1.FnBaseMessageTellsApartIncarnationAndBeat': WHATEVER THE INPUT: true; the input reads as it did. -/
def fnBaseMessageTellsApartIncarnationAndBeatSpec : ChangeSpec := { name := "fnBaseMessageTellsApartIncarnationAndBeat", fn := fun _ => fun
  | [d1, d2, d3, d4] => { results := [.lit (.bool true)], args := [d1, d2, d3, d4] }
  | _ => none }
def fnBaseMessageTellsApartIncarnationAndBeatRow : OpenClaim := { program := "qxb6614815a", sum := "b713f68436b110a84f27c46b2a5fd7cf51946bccacbb9c79543818c6c7d4ffa0", func := "example.com/ordinato/ordinato/zzlaws_internal_engine_b1.FnBaseMessageTellsApartIncarnationAndBeat", spec := "fnBaseMessageTellsApartIncarnationAndBeat", apart := false }
def FnBaseMessageTellsApartIncarnationAndBeatSaid : Prop := fnBaseMessageTellsApartIncarnationAndBeatRow.holds Try.pinned (OpenSpec.ofChange fnBaseMessageTellsApartIncarnationAndBeatSpec)

/-- ITS FALSE NEIGHBOUR: 'it returns false'. Refute it at one input. -/
def fnBaseMessageTellsApartIncarnationAndBeatWrong : ChangeSpec := { name := "fnBaseMessageTellsApartIncarnationAndBeat", fn := fun _ => fun
  | [d1, d2, d3, d4] => { results := [.lit (.bool false)], args := [d1, d2, d3, d4] }
  | _ => none }
def FnBaseMessageTellsApartIncarnationAndBeatWrongFalsely : Prop := fnBaseMessageTellsApartIncarnationAndBeatRow.holds Try.pinned (OpenSpec.ofChange fnBaseMessageTellsApartIncarnationAndBeatWrong)

end Rows
end Go.Proofs.Qxb6614815a
