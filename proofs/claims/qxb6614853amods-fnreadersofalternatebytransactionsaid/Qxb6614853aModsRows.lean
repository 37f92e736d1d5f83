/-
  No cell of these rows narrows 'for every input' (looked for: loops, veiled, ifaces, maps, wideKeys, modest, calm, conditions, laid).
  DERIVED. THE GIVEN ROWS OF THIS SEAT. 4 by the template 'for every input the law returns true; each argument reads behind the call as it read before'; 0 by the template 'total and deterministic' (their statements: Qxb6614853aModsTotals.lean).
  GIVEN WITH THE SEED: the statements are not yours to turn. If you find one false, say at which input.
  Laid BY PROGRAM, IN A SANDBOX (cutbox-rows.mjs): the forced cells as the released guide's own fill.sh prints them over the translation 0f14ad066ca39ff1… (all of the seat's roots in one cut). By AI agents, Wed Nov 11 2026. No macro, syntax, notation, axiom, sorry.
-/
import Derived.Test.Qxb6614853aModsChecked
import GoSem.Claim
import GoSem.ClaimJoined
import GoSem.ClaimMapViews
import Derived.JoinedTies
import Derived.KernelRfl
namespace Go.Proofs.Qxb6614853aMods
/- THE CELL 'sum', in the pinned program and in every row, IS THE sha256 OF THE DUMP (.gsa) THAT Qxb6614853aModsProg.lean LOADS. Nothing in Lean hashes anything: it is a label: what it is worth is what the hold of that sum in a sandbox is worth. -/
noncomputable def Trym.pinned : Pinned := { name := "qxb6614853amods", sum := "0f14ad066ca39ff1b2e11c4bd22d2b27fcc5972527486cad9e88beb28350186d", checked := Trym.checked }
namespace Rows
def none {H : Type} : Left H := { results := [], args := [] }

/-- 'zzlaws_register_b1.FnPositionKeyOrderIsAccountThenClass': WHATEVER THE INPUT: true; the input reads as it did. -/
def fnPositionKeyOrderIsAccountThenClassSpec : ChangeSpec := { name := "fnPositionKeyOrderIsAccountThenClass", fn := fun _ => fun
  | [d1, d2, d3, d4] => { results := [.lit (.bool true)], args := [d1, d2, d3, d4] }
  | _ => none }
def fnPositionKeyOrderIsAccountThenClassRow : OpenClaim := { program := "qxb6614853amods", sum := "0f14ad066ca39ff1b2e11c4bd22d2b27fcc5972527486cad9e88beb28350186d", func := "example.com/zhaomu/zhaomu/zzlaws_register_b1.FnPositionKeyOrderIsAccountThenClass", spec := "fnPositionKeyOrderIsAccountThenClass", make := .lifted ["publicsums"], apart := false }
def FnPositionKeyOrderIsAccountThenClassSaid : Prop := fnPositionKeyOrderIsAccountThenClassRow.holds Trym.pinned (OpenSpec.ofChange fnPositionKeyOrderIsAccountThenClassSpec)

/-- ITS FALSE NEIGHBOUR: 'it returns false'. Refute it at one input. -/
def fnPositionKeyOrderIsAccountThenClassWrong : ChangeSpec := { name := "fnPositionKeyOrderIsAccountThenClass", fn := fun _ => fun
  | [d1, d2, d3, d4] => { results := [.lit (.bool false)], args := [d1, d2, d3, d4] }
  | _ => none }
def FnPositionKeyOrderIsAccountThenClassWrongFalsely : Prop := fnPositionKeyOrderIsAccountThenClassRow.holds Trym.pinned (OpenSpec.ofChange fnPositionKeyOrderIsAccountThenClassWrong)

/-- 'zzlaws_register_b1.FnPositionKeySplitsAtTheAccount': WHATEVER THE INPUT: true; the input reads as it did. -/
def fnPositionKeySplitsAtTheAccountSpec : ChangeSpec := { name := "fnPositionKeySplitsAtTheAccount", fn := fun _ => fun
  | [d1, d2, d3] => { results := [.lit (.bool true)], args := [d1, d2, d3] }
  | _ => none }
def fnPositionKeySplitsAtTheAccountRow : OpenClaim := { program := "qxb6614853amods", sum := "0f14ad066ca39ff1b2e11c4bd22d2b27fcc5972527486cad9e88beb28350186d", func := "example.com/zhaomu/zhaomu/zzlaws_register_b1.FnPositionKeySplitsAtTheAccount", spec := "fnPositionKeySplitsAtTheAccount", make := .lifted ["publicsums"], apart := false }
def FnPositionKeySplitsAtTheAccountSaid : Prop := fnPositionKeySplitsAtTheAccountRow.holds Trym.pinned (OpenSpec.ofChange fnPositionKeySplitsAtTheAccountSpec)

/-- ITS FALSE NEIGHBOUR: 'it returns false'. Refute it at one input. -/
def fnPositionKeySplitsAtTheAccountWrong : ChangeSpec := { name := "fnPositionKeySplitsAtTheAccount", fn := fun _ => fun
  | [d1, d2, d3] => { results := [.lit (.bool false)], args := [d1, d2, d3] }
  | _ => none }
def FnPositionKeySplitsAtTheAccountWrongFalsely : Prop := fnPositionKeySplitsAtTheAccountRow.holds Trym.pinned (OpenSpec.ofChange fnPositionKeySplitsAtTheAccountWrong)

/-- 'zzlaws_register_b1.FnReadersOfAlternateByTransaction': WHATEVER THE INPUT: true; the input reads as it did. -/
def fnReadersOfAlternateByTransactionSpec : ChangeSpec := { name := "fnReadersOfAlternateByTransaction", fn := fun _ => fun
  | [d] => { results := [.lit (.bool true)], args := [d] }
  | _ => none }
def fnReadersOfAlternateByTransactionRow : OpenClaim := { program := "qxb6614853amods", sum := "0f14ad066ca39ff1b2e11c4bd22d2b27fcc5972527486cad9e88beb28350186d", func := "example.com/zhaomu/zhaomu/zzlaws_register_b1.FnReadersOfAlternateByTransaction", spec := "fnReadersOfAlternateByTransaction", make := .lifted ["publicsums"], apart := false }
def FnReadersOfAlternateByTransactionSaid : Prop := fnReadersOfAlternateByTransactionRow.holds Trym.pinned (OpenSpec.ofChange fnReadersOfAlternateByTransactionSpec)

/-- ITS FALSE NEIGHBOUR: 'it returns false'. Refute it at one input. -/
def fnReadersOfAlternateByTransactionWrong : ChangeSpec := { name := "fnReadersOfAlternateByTransaction", fn := fun _ => fun
  | [d] => { results := [.lit (.bool false)], args := [d] }
  | _ => none }
def FnReadersOfAlternateByTransactionWrongFalsely : Prop := fnReadersOfAlternateByTransactionRow.holds Trym.pinned (OpenSpec.ofChange fnReadersOfAlternateByTransactionWrong)

/-- 'zzlaws_register_b1.FnReadersOfSameLockExactlyAtSameParity': WHATEVER THE INPUT: true; the input reads as it did. -/
def fnReadersOfSameLockExactlyAtSameParitySpec : ChangeSpec := { name := "fnReadersOfSameLockExactlyAtSameParity", fn := fun _ => fun
  | [d1, d2] => { results := [.lit (.bool true)], args := [d1, d2] }
  | _ => none }
def fnReadersOfSameLockExactlyAtSameParityRow : OpenClaim := { program := "qxb6614853amods", sum := "0f14ad066ca39ff1b2e11c4bd22d2b27fcc5972527486cad9e88beb28350186d", func := "example.com/zhaomu/zhaomu/zzlaws_register_b1.FnReadersOfSameLockExactlyAtSameParity", spec := "fnReadersOfSameLockExactlyAtSameParity", make := .lifted ["publicsums"], apart := false }
def FnReadersOfSameLockExactlyAtSameParitySaid : Prop := fnReadersOfSameLockExactlyAtSameParityRow.holds Trym.pinned (OpenSpec.ofChange fnReadersOfSameLockExactlyAtSameParitySpec)

/-- ITS FALSE NEIGHBOUR: 'it returns false'. Refute it at one input. -/
def fnReadersOfSameLockExactlyAtSameParityWrong : ChangeSpec := { name := "fnReadersOfSameLockExactlyAtSameParity", fn := fun _ => fun
  | [d1, d2] => { results := [.lit (.bool false)], args := [d1, d2] }
  | _ => none }
def FnReadersOfSameLockExactlyAtSameParityWrongFalsely : Prop := fnReadersOfSameLockExactlyAtSameParityRow.holds Trym.pinned (OpenSpec.ofChange fnReadersOfSameLockExactlyAtSameParityWrong)

end Rows
end Go.Proofs.Qxb6614853aMods
