/-
  No cell of these rows narrows 'for every input' (looked for: loops, veiled, ifaces, maps, wideKeys, modest, calm, conditions, laid).
  DERIVED. THE GIVEN ROWS OF THIS SEAT. 2 by the template 'for every input the law returns true; each argument reads behind the call as it read before'; 0 by the template 'total and deterministic' (their statements: Qxb6603367aTotals.lean).
  GIVEN WITH THE SEED: the statements are not yours to turn. If you find one false, say at which input.
  Laid BY PROGRAM, IN A SANDBOX (cutbox-rows.mjs): the forced cells as the released guide's own fill.sh prints them over the translation f97d1a2ac3574417… (all of the seat's roots in one cut). By AI agents, Wed Nov 11 2026. No macro, syntax, notation, axiom, sorry.
-/
import Derived.Test.Qxb6603367aChecked
import GoSem.Claim
import GoSem.ClaimJoined
import GoSem.ClaimMapViews
import Derived.JoinedTies
import Derived.KernelRfl
namespace Go.Proofs.Qxb6603367a
/- THE CELL 'sum', in the pinned program and in every row, IS THE sha256 OF THE DUMP (.gsa) THAT Qxb6603367aProg.lean LOADS. Nothing in Lean hashes anything: it is a label: what it is worth is what the hold of that sum in a sandbox is worth. -/
noncomputable def Try.pinned : Pinned := { name := "qxb6603367a", sum := "f97d1a2ac3574417a5cf5f85be3487196a9ced5cddb671e4aff96e517cc57fdd", checked := Try.checked }
namespace Rows
def none {H : Type} : Left H := { results := [], args := [] }

/-- 'zzlaws_root_b1.FnSlotOfSameSlotExactly': WHATEVER THE INPUT: true; the input reads as it did. -/
def fnSlotOfSameSlotExactlySpec : ChangeSpec := { name := "fnSlotOfSameSlotExactly", fn := fun _ => fun
  | [d1, d2, d3, d4, d5, d6] => { results := [.lit (.bool true)], args := [d1, d2, d3, d4, d5, d6] }
  | _ => none }
def fnSlotOfSameSlotExactlyRow : OpenClaim := { program := "qxb6603367a", sum := "f97d1a2ac3574417a5cf5f85be3487196a9ced5cddb671e4aff96e517cc57fdd", func := "example.com/circlet/circlet/zzlaws_root_b1.FnSlotOfSameSlotExactly", spec := "fnSlotOfSameSlotExactly", apart := false }
def FnSlotOfSameSlotExactlySaid : Prop := fnSlotOfSameSlotExactlyRow.holds Try.pinned (OpenSpec.ofChange fnSlotOfSameSlotExactlySpec)

/-- ITS FALSE NEIGHBOUR: 'it returns false'. Refute it at one input. -/
def fnSlotOfSameSlotExactlyWrong : ChangeSpec := { name := "fnSlotOfSameSlotExactly", fn := fun _ => fun
  | [d1, d2, d3, d4, d5, d6] => { results := [.lit (.bool false)], args := [d1, d2, d3, d4, d5, d6] }
  | _ => none }
def FnSlotOfSameSlotExactlyWrongFalsely : Prop := fnSlotOfSameSlotExactlyRow.holds Try.pinned (OpenSpec.ofChange fnSlotOfSameSlotExactlyWrong)

/-- 'zzlaws_root_b1.FnSlotPairRoundTrip': WHATEVER THE INPUT: true; the input reads as it did. -/
def fnSlotPairRoundTripSpec : ChangeSpec := { name := "fnSlotPairRoundTrip", fn := fun _ => fun
  | [d1, d2, d3] => { results := [.lit (.bool true)], args := [d1, d2, d3] }
  | _ => none }
def fnSlotPairRoundTripRow : OpenClaim := { program := "qxb6603367a", sum := "f97d1a2ac3574417a5cf5f85be3487196a9ced5cddb671e4aff96e517cc57fdd", func := "example.com/circlet/circlet/zzlaws_root_b1.FnSlotPairRoundTrip", spec := "fnSlotPairRoundTrip", apart := false }
def FnSlotPairRoundTripSaid : Prop := fnSlotPairRoundTripRow.holds Try.pinned (OpenSpec.ofChange fnSlotPairRoundTripSpec)

/-- ITS FALSE NEIGHBOUR: 'it returns false'. Refute it at one input. -/
def fnSlotPairRoundTripWrong : ChangeSpec := { name := "fnSlotPairRoundTrip", fn := fun _ => fun
  | [d1, d2, d3] => { results := [.lit (.bool false)], args := [d1, d2, d3] }
  | _ => none }
def FnSlotPairRoundTripWrongFalsely : Prop := fnSlotPairRoundTripRow.holds Try.pinned (OpenSpec.ofChange fnSlotPairRoundTripWrong)

end Rows
end Go.Proofs.Qxb6603367a
