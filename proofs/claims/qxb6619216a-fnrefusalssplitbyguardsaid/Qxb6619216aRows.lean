/-
  No cell of these rows narrows 'for every input' (looked for: loops, veiled, ifaces, maps, wideKeys, modest, calm, conditions, laid).
  DERIVED. THE GIVEN ROWS OF THIS SEAT. 3 by the template 'for every input the law returns true; each argument reads behind the call as it read before'; 0 by the template 'total and deterministic' (their statements: Qxb6619216aTotals.lean).
  GIVEN WITH THE SEED: the statements are not yours to turn. If you find one false, say at which input.
  Laid BY PROGRAM, IN A SANDBOX (cutbox-rows.mjs): the forced cells as the released guide's own fill.sh prints them over the translation f2211f9ed2bf3e24… (all of the seat's roots in one cut). By AI agents, Wed Nov 11 2026. No macro, syntax, notation, axiom, sorry.
-/
import Derived.Test.Qxb6619216aChecked
import GoSem.Claim
import GoSem.ClaimJoined
import GoSem.ClaimMapViews
import Derived.JoinedTies
import Derived.KernelRfl
namespace Go.Proofs.Qxb6619216a
/- THE CELL 'sum', in the pinned program and in every row, IS THE sha256 OF THE DUMP (.gsa) THAT Qxb6619216aProg.lean LOADS. Nothing in Lean hashes anything: it is a label: what it is worth is what the hold of that sum in a sandbox is worth. -/
noncomputable def Try.pinned : Pinned := { name := "qxb6619216a", sum := "f2211f9ed2bf3e2434aea246f57b08d63b98f9fd8fd9a7890d951f6708ef0c08", checked := Try.checked }
namespace Rows
def none {H : Type} : Left H := { results := [], args := [] }

/-- 'zzlaws_internal_httpserver_b1.FnRefusalsSplitByGuard': WHATEVER THE INPUT: true; the input reads as it did. -/
def fnRefusalsSplitByGuardSpec : ChangeSpec := { name := "fnRefusalsSplitByGuard", fn := fun _ => fun
  | [d1, d2, d3, d4] => { results := [.lit (.bool true)], args := [d1, d2, d3, d4] }
  | _ => none }
def fnRefusalsSplitByGuardRow : OpenClaim := { program := "qxb6619216a", sum := "f2211f9ed2bf3e2434aea246f57b08d63b98f9fd8fd9a7890d951f6708ef0c08", func := "example.com/holdfast/holdfast/zzlaws_internal_httpserver_b1.FnRefusalsSplitByGuard", spec := "fnRefusalsSplitByGuard", apart := false }
def FnRefusalsSplitByGuardSaid : Prop := fnRefusalsSplitByGuardRow.holds Try.pinned (OpenSpec.ofChange fnRefusalsSplitByGuardSpec)

/-- ITS FALSE NEIGHBOUR: 'it returns false'. Refute it at one input. -/
def fnRefusalsSplitByGuardWrong : ChangeSpec := { name := "fnRefusalsSplitByGuard", fn := fun _ => fun
  | [d1, d2, d3, d4] => { results := [.lit (.bool false)], args := [d1, d2, d3, d4] }
  | _ => none }
def FnRefusalsSplitByGuardWrongFalsely : Prop := fnRefusalsSplitByGuardRow.holds Try.pinned (OpenSpec.ofChange fnRefusalsSplitByGuardWrong)

/-- 'zzlaws_internal_httpserver_b1.FnRefusalsPublicDropsOnlyUnauthorized': WHATEVER THE INPUT: true; the input reads as it did. -/
def fnRefusalsPublicDropsOnlyUnauthorizedSpec : ChangeSpec := { name := "fnRefusalsPublicDropsOnlyUnauthorized", fn := fun _ => fun
  | [d1, d2, d3] => { results := [.lit (.bool true)], args := [d1, d2, d3] }
  | _ => none }
def fnRefusalsPublicDropsOnlyUnauthorizedRow : OpenClaim := { program := "qxb6619216a", sum := "f2211f9ed2bf3e2434aea246f57b08d63b98f9fd8fd9a7890d951f6708ef0c08", func := "example.com/holdfast/holdfast/zzlaws_internal_httpserver_b1.FnRefusalsPublicDropsOnlyUnauthorized", spec := "fnRefusalsPublicDropsOnlyUnauthorized", apart := false }
def FnRefusalsPublicDropsOnlyUnauthorizedSaid : Prop := fnRefusalsPublicDropsOnlyUnauthorizedRow.holds Try.pinned (OpenSpec.ofChange fnRefusalsPublicDropsOnlyUnauthorizedSpec)

/-- ITS FALSE NEIGHBOUR: 'it returns false'. Refute it at one input. -/
def fnRefusalsPublicDropsOnlyUnauthorizedWrong : ChangeSpec := { name := "fnRefusalsPublicDropsOnlyUnauthorized", fn := fun _ => fun
  | [d1, d2, d3] => { results := [.lit (.bool false)], args := [d1, d2, d3] }
  | _ => none }
def FnRefusalsPublicDropsOnlyUnauthorizedWrongFalsely : Prop := fnRefusalsPublicDropsOnlyUnauthorizedRow.holds Try.pinned (OpenSpec.ofChange fnRefusalsPublicDropsOnlyUnauthorizedWrong)

/-- 'zzlaws_internal_httpserver_b1.FnRefusalsProbeDropsOnlyRateLimited': WHATEVER THE INPUT: true; the input reads as it did. -/
def fnRefusalsProbeDropsOnlyRateLimitedSpec : ChangeSpec := { name := "fnRefusalsProbeDropsOnlyRateLimited", fn := fun _ => fun
  | [d1, d2, d3] => { results := [.lit (.bool true)], args := [d1, d2, d3] }
  | _ => none }
def fnRefusalsProbeDropsOnlyRateLimitedRow : OpenClaim := { program := "qxb6619216a", sum := "f2211f9ed2bf3e2434aea246f57b08d63b98f9fd8fd9a7890d951f6708ef0c08", func := "example.com/holdfast/holdfast/zzlaws_internal_httpserver_b1.FnRefusalsProbeDropsOnlyRateLimited", spec := "fnRefusalsProbeDropsOnlyRateLimited", apart := false }
def FnRefusalsProbeDropsOnlyRateLimitedSaid : Prop := fnRefusalsProbeDropsOnlyRateLimitedRow.holds Try.pinned (OpenSpec.ofChange fnRefusalsProbeDropsOnlyRateLimitedSpec)

/-- ITS FALSE NEIGHBOUR: 'it returns false'. Refute it at one input. -/
def fnRefusalsProbeDropsOnlyRateLimitedWrong : ChangeSpec := { name := "fnRefusalsProbeDropsOnlyRateLimited", fn := fun _ => fun
  | [d1, d2, d3] => { results := [.lit (.bool false)], args := [d1, d2, d3] }
  | _ => none }
def FnRefusalsProbeDropsOnlyRateLimitedWrongFalsely : Prop := fnRefusalsProbeDropsOnlyRateLimitedRow.holds Try.pinned (OpenSpec.ofChange fnRefusalsProbeDropsOnlyRateLimitedWrong)

end Rows
end Go.Proofs.Qxb6619216a
