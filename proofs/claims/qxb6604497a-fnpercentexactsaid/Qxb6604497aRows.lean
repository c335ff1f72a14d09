/-
  No cell of these rows narrows 'for every input' (looked for: loops, veiled, ifaces, maps, wideKeys, modest, calm, conditions, laid).
  DERIVED. THE GIVEN ROWS OF THIS SEAT. 3 by the template 'for every input the law returns true; each argument reads behind the call as it read before'; 0 by the template 'total and deterministic' (their statements: Qxb6604497aTotals.lean).
  GIVEN WITH THE SEED: the statements are not yours to turn. If you find one false, say at which input.
  Laid BY PROGRAM, IN A SANDBOX (cutbox-rows.mjs): the forced cells as the released guide's own fill.sh prints them over the translation d11842f73a30f0ba… (all of the seat's roots in one cut). By AI agents, Wed Nov 11 2026. No macro, syntax, notation, axiom, sorry.
-/
import Derived.Test.Qxb6604497aChecked
import GoSem.Claim
import GoSem.ClaimJoined
import GoSem.ClaimMapViews
import Derived.JoinedTies
import Derived.KernelRfl
namespace Go.Proofs.Qxb6604497a
/- THE CELL 'sum', in the pinned program and in every row, IS THE sha256 OF THE DUMP (.gsa) THAT Qxb6604497aProg.lean LOADS. Nothing in Lean hashes anything: it is a label: what it is worth is what the hold of that sum in a sandbox is worth. -/
noncomputable def Try.pinned : Pinned := { name := "qxb6604497a", sum := "d11842f73a30f0bad5164c378bc1cec738cd8859a0d1ae170e36e6ca62991e59", checked := Try.checked }
namespace Rows
def none {H : Type} : Left H := { results := [], args := [] }

/-- 'zzlaws_internal_policy_b1.FnThresholdExact': WHATEVER THE INPUT: true; the input reads as it did. -/
def fnThresholdExactSpec : ChangeSpec := { name := "fnThresholdExact", fn := fun _ => fun
  | [d1, d2, d3] => { results := [.lit (.bool true)], args := [d1, d2, d3] }
  | _ => none }
def fnThresholdExactRow : OpenClaim := { program := "qxb6604497a", sum := "d11842f73a30f0bad5164c378bc1cec738cd8859a0d1ae170e36e6ca62991e59", func := "example.com/fairgate/fairgate/zzlaws_internal_policy_b1.FnThresholdExact", spec := "fnThresholdExact", apart := false }
def FnThresholdExactSaid : Prop := fnThresholdExactRow.holds Try.pinned (OpenSpec.ofChange fnThresholdExactSpec)

/-- ITS FALSE NEIGHBOUR: 'it returns false'. Refute it at one input. -/
def fnThresholdExactWrong : ChangeSpec := { name := "fnThresholdExact", fn := fun _ => fun
  | [d1, d2, d3] => { results := [.lit (.bool false)], args := [d1, d2, d3] }
  | _ => none }
def FnThresholdExactWrongFalsely : Prop := fnThresholdExactRow.holds Try.pinned (OpenSpec.ofChange fnThresholdExactWrong)

/-- 'zzlaws_internal_policy_b1.FnThresholdPercentRoundTrip': WHATEVER THE INPUT: true; the input reads as it did. -/
def fnThresholdPercentRoundTripSpec : ChangeSpec := { name := "fnThresholdPercentRoundTrip", fn := fun _ => fun
  | [d1, d2, d3] => { results := [.lit (.bool true)], args := [d1, d2, d3] }
  | _ => none }
def fnThresholdPercentRoundTripRow : OpenClaim := { program := "qxb6604497a", sum := "d11842f73a30f0bad5164c378bc1cec738cd8859a0d1ae170e36e6ca62991e59", func := "example.com/fairgate/fairgate/zzlaws_internal_policy_b1.FnThresholdPercentRoundTrip", spec := "fnThresholdPercentRoundTrip", apart := false }
def FnThresholdPercentRoundTripSaid : Prop := fnThresholdPercentRoundTripRow.holds Try.pinned (OpenSpec.ofChange fnThresholdPercentRoundTripSpec)

/-- ITS FALSE NEIGHBOUR: 'it returns false'. Refute it at one input. -/
def fnThresholdPercentRoundTripWrong : ChangeSpec := { name := "fnThresholdPercentRoundTrip", fn := fun _ => fun
  | [d1, d2, d3] => { results := [.lit (.bool false)], args := [d1, d2, d3] }
  | _ => none }
def FnThresholdPercentRoundTripWrongFalsely : Prop := fnThresholdPercentRoundTripRow.holds Try.pinned (OpenSpec.ofChange fnThresholdPercentRoundTripWrong)

/-- 'zzlaws_internal_policy_b1.FnPercentExact': WHATEVER THE INPUT: true; the input reads as it did. -/
def fnPercentExactSpec : ChangeSpec := { name := "fnPercentExact", fn := fun _ => fun
  | [d1, d2, d3] => { results := [.lit (.bool true)], args := [d1, d2, d3] }
  | _ => none }
def fnPercentExactRow : OpenClaim := { program := "qxb6604497a", sum := "d11842f73a30f0bad5164c378bc1cec738cd8859a0d1ae170e36e6ca62991e59", func := "example.com/fairgate/fairgate/zzlaws_internal_policy_b1.FnPercentExact", spec := "fnPercentExact", apart := false }
def FnPercentExactSaid : Prop := fnPercentExactRow.holds Try.pinned (OpenSpec.ofChange fnPercentExactSpec)

/-- ITS FALSE NEIGHBOUR: 'it returns false'. Refute it at one input. -/
def fnPercentExactWrong : ChangeSpec := { name := "fnPercentExact", fn := fun _ => fun
  | [d1, d2, d3] => { results := [.lit (.bool false)], args := [d1, d2, d3] }
  | _ => none }
def FnPercentExactWrongFalsely : Prop := fnPercentExactRow.holds Try.pinned (OpenSpec.ofChange fnPercentExactWrong)

end Rows
end Go.Proofs.Qxb6604497a
