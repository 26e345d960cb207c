/-
  No cell of these rows narrows 'for every input' (looked for: loops, veiled, ifaces, maps, wideKeys, modest, calm, conditions, laid).
  DERIVED. THE GIVEN ROWS OF THIS SEAT. 3 by the template 'for every input the law returns true; each argument reads behind the call as it read before'; 0 by the template 'total and deterministic' (their statements: Qxb6600195aTotals.lean).
  GIVEN WITH THE SEED: the statements are not yours to turn. If you find one false, say at which input.
  Laid BY PROGRAM, IN A SANDBOX (cutbox-rows.mjs): the forced cells as the released guide's own fill.sh prints them over the translation 9be7a529c25e0aef… (all of the seat's roots in one cut). By AI agents, Wed Nov 11 2026. No macro, syntax, notation, axiom, sorry.
-/
import Derived.Test.Qxb6600195aChecked
import GoSem.Claim
import GoSem.ClaimJoined
import GoSem.ClaimMapViews
import Derived.JoinedTies
import Derived.KernelRfl
namespace Go.Proofs.Qxb6600195a
/- THE CELL 'sum', in the pinned program and in every row, IS THE sha256 OF THE DUMP (.gsa) THAT Qxb6600195aProg.lean LOADS. Nothing in Lean hashes anything: it is a label: what it is worth is what the hold of that sum in a sandbox is worth. -/
noncomputable def Try.pinned : Pinned := { name := "qxb6600195a", sum := "9be7a529c25e0aeffb731c4719a2fefda7cb4cc140afdfdc30163fbf4bc9104a", checked := Try.checked }
namespace Rows
def none {H : Type} : Left H := { results := [], args := [] }

/-- 'zzlaws_internal_bench_b1.FnMedianIsMiddleOrderStatistic': WHATEVER THE INPUT: true; the input reads as it did. -/
def fnMedianIsMiddleOrderStatisticSpec : ChangeSpec := { name := "fnMedianIsMiddleOrderStatistic", fn := fun _ => fun
  | [d] => { results := [.lit (.bool true)], args := [d] }
  | _ => none }
def fnMedianIsMiddleOrderStatisticRow : OpenClaim := { program := "qxb6600195a", sum := "9be7a529c25e0aeffb731c4719a2fefda7cb4cc140afdfdc30163fbf4bc9104a", func := "example.com/gatewright/gatewright/zzlaws_internal_bench_b1.FnMedianIsMiddleOrderStatistic", spec := "fnMedianIsMiddleOrderStatistic", unfollowed := true, recurses := true, apart := false }
def FnMedianIsMiddleOrderStatisticSaid : Prop := fnMedianIsMiddleOrderStatisticRow.holds Try.pinned (OpenSpec.ofChange fnMedianIsMiddleOrderStatisticSpec)

/-- ITS FALSE NEIGHBOUR: 'it returns false'. Refute it at one input. -/
def fnMedianIsMiddleOrderStatisticWrong : ChangeSpec := { name := "fnMedianIsMiddleOrderStatistic", fn := fun _ => fun
  | [d] => { results := [.lit (.bool false)], args := [d] }
  | _ => none }
def FnMedianIsMiddleOrderStatisticWrongFalsely : Prop := fnMedianIsMiddleOrderStatisticRow.holds Try.pinned (OpenSpec.ofChange fnMedianIsMiddleOrderStatisticWrong)

/-- 'zzlaws_internal_bench_b1.FnMedianBalancesTheRuns': WHATEVER THE INPUT: true; the input reads as it did. -/
def fnMedianBalancesTheRunsSpec : ChangeSpec := { name := "fnMedianBalancesTheRuns", fn := fun _ => fun
  | [d] => { results := [.lit (.bool true)], args := [d] }
  | _ => none }
def fnMedianBalancesTheRunsRow : OpenClaim := { program := "qxb6600195a", sum := "9be7a529c25e0aeffb731c4719a2fefda7cb4cc140afdfdc30163fbf4bc9104a", func := "example.com/gatewright/gatewright/zzlaws_internal_bench_b1.FnMedianBalancesTheRuns", spec := "fnMedianBalancesTheRuns", unfollowed := true, recurses := true, apart := false }
def FnMedianBalancesTheRunsSaid : Prop := fnMedianBalancesTheRunsRow.holds Try.pinned (OpenSpec.ofChange fnMedianBalancesTheRunsSpec)

/-- ITS FALSE NEIGHBOUR: 'it returns false'. Refute it at one input. -/
def fnMedianBalancesTheRunsWrong : ChangeSpec := { name := "fnMedianBalancesTheRuns", fn := fun _ => fun
  | [d] => { results := [.lit (.bool false)], args := [d] }
  | _ => none }
def FnMedianBalancesTheRunsWrongFalsely : Prop := fnMedianBalancesTheRunsRow.holds Try.pinned (OpenSpec.ofChange fnMedianBalancesTheRunsWrong)

/-- 'zzlaws_internal_bench_b1.FnMedianUnchangedWhenEveryRunIsDoubled': WHATEVER THE INPUT: true; the input reads as it did. -/
def fnMedianUnchangedWhenEveryRunIsDoubledSpec : ChangeSpec := { name := "fnMedianUnchangedWhenEveryRunIsDoubled", fn := fun _ => fun
  | [d] => { results := [.lit (.bool true)], args := [d] }
  | _ => none }
def fnMedianUnchangedWhenEveryRunIsDoubledRow : OpenClaim := { program := "qxb6600195a", sum := "9be7a529c25e0aeffb731c4719a2fefda7cb4cc140afdfdc30163fbf4bc9104a", func := "example.com/gatewright/gatewright/zzlaws_internal_bench_b1.FnMedianUnchangedWhenEveryRunIsDoubled", spec := "fnMedianUnchangedWhenEveryRunIsDoubled", unfollowed := true, recurses := true, apart := false }
def FnMedianUnchangedWhenEveryRunIsDoubledSaid : Prop := fnMedianUnchangedWhenEveryRunIsDoubledRow.holds Try.pinned (OpenSpec.ofChange fnMedianUnchangedWhenEveryRunIsDoubledSpec)

/-- ITS FALSE NEIGHBOUR: 'it returns false'. Refute it at one input. -/
def fnMedianUnchangedWhenEveryRunIsDoubledWrong : ChangeSpec := { name := "fnMedianUnchangedWhenEveryRunIsDoubled", fn := fun _ => fun
  | [d] => { results := [.lit (.bool false)], args := [d] }
  | _ => none }
def FnMedianUnchangedWhenEveryRunIsDoubledWrongFalsely : Prop := fnMedianUnchangedWhenEveryRunIsDoubledRow.holds Try.pinned (OpenSpec.ofChange fnMedianUnchangedWhenEveryRunIsDoubledWrong)

end Rows
end Go.Proofs.Qxb6600195a
