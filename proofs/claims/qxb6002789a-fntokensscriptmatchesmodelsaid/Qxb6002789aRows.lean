/-
  No cell of these rows narrows 'for every input' (looked for: loops, veiled, ifaces, maps, wideKeys, modest, calm, conditions, laid).
  DERIVED. THE GIVEN ROWS OF THIS SEAT. 2 by the template 'for every input the law returns true; each argument reads behind the call as it read before'; 0 by the template 'total and deterministic' (their statements: Qxb6002789aTotals.lean).
  GIVEN WITH THE SEED: the statements are not yours to turn. If you find one false, say at which input.
  Laid BY PROGRAM, IN A SANDBOX (cutbox-rows.mjs): the forced cells as the released guide's own fill.sh prints them over the translation 8c869b5aee1e1f2b… (all of the seat's roots in one cut). By AI agents, Wed Nov 11 2026. No macro, syntax, notation, axiom, sorry.
-/
import Derived.Test.Qxb6002789aChecked
import GoSem.Claim
import GoSem.ClaimJoined
import GoSem.ClaimMapViews
import Derived.JoinedTies
import Derived.KernelRfl
namespace Go.Proofs.Qxb6002789a
/- THE CELL 'sum', in the pinned program and in every row, IS THE sha256 OF THE DUMP (.gsa) THAT Qxb6002789aProg.lean LOADS. Nothing in Lean hashes anything: it is a label: what it is worth is what the hold of that sum in a sandbox is worth. -/
noncomputable def Try.pinned : Pinned := { name := "qxb6002789a", sum := "8c869b5aee1e1f2bc22635b1d3e1077f3c5041851214b6967e2a0f7b6299732e", checked := Try.checked }
namespace Rows
def none {H : Type} : Left H := { results := [], args := [] }

/-- 'zzlaws_pkg_core_b1.FnTokensScriptMatchesModel': WHATEVER THE INPUT: true; the input reads as it did. -/
def fnTokensScriptMatchesModelSpec : ChangeSpec := { name := "fnTokensScriptMatchesModel", fn := fun _ => fun
  | [d1, d2, d3] => { results := [.lit (.bool true)], args := [d1, d2, d3] }
  | _ => none }
def fnTokensScriptMatchesModelRow : OpenClaim := { program := "qxb6002789a", sum := "8c869b5aee1e1f2bc22635b1d3e1077f3c5041851214b6967e2a0f7b6299732e", func := "example.com/leasehold/leasehold/zzlaws_pkg_core_b1.FnTokensScriptMatchesModel", spec := "fnTokensScriptMatchesModel", apart := false }
def FnTokensScriptMatchesModelSaid : Prop := fnTokensScriptMatchesModelRow.holds Try.pinned (OpenSpec.ofChange fnTokensScriptMatchesModelSpec)

/-- ITS FALSE NEIGHBOUR: 'it returns false'. Refute it at one input. -/
def fnTokensScriptMatchesModelWrong : ChangeSpec := { name := "fnTokensScriptMatchesModel", fn := fun _ => fun
  | [d1, d2, d3] => { results := [.lit (.bool false)], args := [d1, d2, d3] }
  | _ => none }
def FnTokensScriptMatchesModelWrongFalsely : Prop := fnTokensScriptMatchesModelRow.holds Try.pinned (OpenSpec.ofChange fnTokensScriptMatchesModelWrong)

/-- 'zzlaws_pkg_core_b1.FnTokensFreeThenHoldRoundTrip': WHATEVER THE INPUT: true; the input reads as it did. -/
def fnTokensFreeThenHoldRoundTripSpec : ChangeSpec := { name := "fnTokensFreeThenHoldRoundTrip", fn := fun _ => fun
  | [d1, d2, d3, d4] => { results := [.lit (.bool true)], args := [d1, d2, d3, d4] }
  | _ => none }
def fnTokensFreeThenHoldRoundTripRow : OpenClaim := { program := "qxb6002789a", sum := "8c869b5aee1e1f2bc22635b1d3e1077f3c5041851214b6967e2a0f7b6299732e", func := "example.com/leasehold/leasehold/zzlaws_pkg_core_b1.FnTokensFreeThenHoldRoundTrip", spec := "fnTokensFreeThenHoldRoundTrip", apart := false }
def FnTokensFreeThenHoldRoundTripSaid : Prop := fnTokensFreeThenHoldRoundTripRow.holds Try.pinned (OpenSpec.ofChange fnTokensFreeThenHoldRoundTripSpec)

/-- ITS FALSE NEIGHBOUR: 'it returns false'. Refute it at one input. -/
def fnTokensFreeThenHoldRoundTripWrong : ChangeSpec := { name := "fnTokensFreeThenHoldRoundTrip", fn := fun _ => fun
  | [d1, d2, d3, d4] => { results := [.lit (.bool false)], args := [d1, d2, d3, d4] }
  | _ => none }
def FnTokensFreeThenHoldRoundTripWrongFalsely : Prop := fnTokensFreeThenHoldRoundTripRow.holds Try.pinned (OpenSpec.ofChange fnTokensFreeThenHoldRoundTripWrong)

end Rows
end Go.Proofs.Qxb6002789a
