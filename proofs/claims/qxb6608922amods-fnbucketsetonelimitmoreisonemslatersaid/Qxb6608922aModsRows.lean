/-
  No cell of these rows narrows 'for every input' (looked for: loops, veiled, ifaces, maps, wideKeys, modest, calm, conditions, laid).
  DERIVED. THE GIVEN ROWS OF THIS SEAT. 2 by the template 'for every input the law returns true; each argument reads behind the call as it read before'; 0 by the template 'total and deterministic' (their statements: Qxb6608922aModsTotals.lean).
  GIVEN WITH THE SEED: the statements are not yours to turn. If you find one false, say at which input.
  Laid BY PROGRAM, IN A SANDBOX (cutbox-rows.mjs): the forced cells as the released guide's own fill.sh prints them over the translation c8c4b9d279125595… (all of the seat's roots in one cut). By AI agents, Wed Nov 11 2026. No macro, syntax, notation, axiom, sorry.
-/
import Derived.Test.Qxb6608922aModsChecked
import GoSem.Claim
import GoSem.ClaimJoined
import GoSem.ClaimMapViews
import Derived.JoinedTies
import Derived.KernelRfl
namespace Go.Proofs.Qxb6608922aMods
/- THE CELL 'sum', in the pinned program and in every row, IS THE sha256 OF THE DUMP (.gsa) THAT Qxb6608922aModsProg.lean LOADS. Nothing in Lean hashes anything: it is a label: what it is worth is what the hold of that sum in a sandbox is worth. -/
noncomputable def Trym.pinned : Pinned := { name := "qxb6608922amods", sum := "c8c4b9d27912559500bd014f788e5551fe87854e63fd51fb7bac81a594fff9d5", checked := Trym.checked }
namespace Rows
def none {H : Type} : Left H := { results := [], args := [] }

/-- 'zzlaws_internal_limiter_b1.FnBucketSetThenTicksRefillsAtLimitPerMs': WHATEVER THE INPUT: true; the input reads as it did. -/
def fnBucketSetThenTicksRefillsAtLimitPerMsSpec : ChangeSpec := { name := "fnBucketSetThenTicksRefillsAtLimitPerMs", fn := fun _ => fun
  | [d1, d2, d3, d4, d5, d6, d7] => { results := [.lit (.bool true)], args := [d1, d2, d3, d4, d5, d6, d7] }
  | _ => none }
def fnBucketSetThenTicksRefillsAtLimitPerMsRow : OpenClaim := { program := "qxb6608922amods", sum := "c8c4b9d27912559500bd014f788e5551fe87854e63fd51fb7bac81a594fff9d5", func := "example.com/aswan/aswan/zzlaws_internal_limiter_b1.FnBucketSetThenTicksRefillsAtLimitPerMs", spec := "fnBucketSetThenTicksRefillsAtLimitPerMs", make := .lifted ["publicsums"], apart := false }
def FnBucketSetThenTicksRefillsAtLimitPerMsSaid : Prop := fnBucketSetThenTicksRefillsAtLimitPerMsRow.holds Trym.pinned (OpenSpec.ofChange fnBucketSetThenTicksRefillsAtLimitPerMsSpec)

/-- ITS FALSE NEIGHBOUR: 'it returns false'. Refute it at one input. -/
def fnBucketSetThenTicksRefillsAtLimitPerMsWrong : ChangeSpec := { name := "fnBucketSetThenTicksRefillsAtLimitPerMs", fn := fun _ => fun
  | [d1, d2, d3, d4, d5, d6, d7] => { results := [.lit (.bool false)], args := [d1, d2, d3, d4, d5, d6, d7] }
  | _ => none }
def FnBucketSetThenTicksRefillsAtLimitPerMsWrongFalsely : Prop := fnBucketSetThenTicksRefillsAtLimitPerMsRow.holds Trym.pinned (OpenSpec.ofChange fnBucketSetThenTicksRefillsAtLimitPerMsWrong)

/-- 'zzlaws_internal_limiter_b1.FnBucketSetOneLimitMoreIsOneMsLater': WHATEVER THE INPUT: true; the input reads as it did. -/
def fnBucketSetOneLimitMoreIsOneMsLaterSpec : ChangeSpec := { name := "fnBucketSetOneLimitMoreIsOneMsLater", fn := fun _ => fun
  | [d1, d2, d3, d4, d5] => { results := [.lit (.bool true)], args := [d1, d2, d3, d4, d5] }
  | _ => none }
def fnBucketSetOneLimitMoreIsOneMsLaterRow : OpenClaim := { program := "qxb6608922amods", sum := "c8c4b9d27912559500bd014f788e5551fe87854e63fd51fb7bac81a594fff9d5", func := "example.com/aswan/aswan/zzlaws_internal_limiter_b1.FnBucketSetOneLimitMoreIsOneMsLater", spec := "fnBucketSetOneLimitMoreIsOneMsLater", make := .lifted ["publicsums"], apart := false }
def FnBucketSetOneLimitMoreIsOneMsLaterSaid : Prop := fnBucketSetOneLimitMoreIsOneMsLaterRow.holds Trym.pinned (OpenSpec.ofChange fnBucketSetOneLimitMoreIsOneMsLaterSpec)

/-- ITS FALSE NEIGHBOUR: 'it returns false'. Refute it at one input. -/
def fnBucketSetOneLimitMoreIsOneMsLaterWrong : ChangeSpec := { name := "fnBucketSetOneLimitMoreIsOneMsLater", fn := fun _ => fun
  | [d1, d2, d3, d4, d5] => { results := [.lit (.bool false)], args := [d1, d2, d3, d4, d5] }
  | _ => none }
def FnBucketSetOneLimitMoreIsOneMsLaterWrongFalsely : Prop := fnBucketSetOneLimitMoreIsOneMsLaterRow.holds Trym.pinned (OpenSpec.ofChange fnBucketSetOneLimitMoreIsOneMsLaterWrong)

end Rows
end Go.Proofs.Qxb6608922aMods
