/-
  No cell of these rows narrows 'for every input' (looked for: loops, veiled, ifaces, maps, wideKeys, modest, calm, conditions, laid).
  DERIVED. THE GIVEN ROWS OF THIS SEAT. 4 by the template 'for every input the law returns true; each argument reads behind the call as it read before'; 0 by the template 'total and deterministic' (their statements: Qxb6609037aModsTotals.lean).
  GIVEN WITH THE SEED: the statements are not yours to turn. If you find one false, say at which input.
  Laid BY PROGRAM, IN A SANDBOX (cutbox-rows.mjs): the forced cells as the released guide's own fill.sh prints them over the translation 2c045f0457e2f369… (all of the seat's roots in one cut). By AI agents, Wed Nov 11 2026. No macro, syntax, notation, axiom, sorry.
-/
import Derived.Test.Qxb6609037aModsChecked
import GoSem.Claim
import GoSem.ClaimJoined
import GoSem.ClaimMapViews
import Derived.JoinedTies
import Derived.KernelRfl
namespace Go.Proofs.Qxb6609037aMods
/- THE CELL 'sum', in the pinned program and in every row, IS THE sha256 OF THE DUMP (.gsa) THAT Qxb6609037aModsProg.lean LOADS. Nothing in Lean hashes anything: it is a label: what it is worth is what the hold of that sum in a sandbox is worth. -/
noncomputable def Trym.pinned : Pinned := { name := "qxb6609037amods", sum := "2c045f0457e2f369713fdbd4d885970b3d34738198b13e885793bdcae9c15553", checked := Trym.checked }
namespace Rows
def none {H : Type} : Left H := { results := [], args := [] }

/-- 'zzlaws_internal_authz_b1.FnAsksHostPathOfOneMoreBind': WHATEVER THE INPUT: true; the input reads as it did. -/
def fnAsksHostPathOfOneMoreBindSpec : ChangeSpec := { name := "fnAsksHostPathOfOneMoreBind", fn := fun _ => fun
  | [d1, d2, d3, d4, d5] => { results := [.lit (.bool true)], args := [d1, d2, d3, d4, d5] }
  | _ => none }
def fnAsksHostPathOfOneMoreBindRow : OpenClaim := { program := "qxb6609037amods", sum := "2c045f0457e2f369713fdbd4d885970b3d34738198b13e885793bdcae9c15553", func := "example.com/fence-by-role/fence-by-role/zzlaws_internal_authz_b1.FnAsksHostPathOfOneMoreBind", spec := "fnAsksHostPathOfOneMoreBind", inPlace := ["internal/bytealg.IndexByteString", "internal/bytealg.IndexString"], named := ["internal/bytealg.MaxLen"], make := .lifted ["publicsums"], apart := false }
def FnAsksHostPathOfOneMoreBindSaid : Prop := fnAsksHostPathOfOneMoreBindRow.holds Trym.pinned (OpenSpec.ofChange fnAsksHostPathOfOneMoreBindSpec)

/-- ITS FALSE NEIGHBOUR: 'it returns false'. Refute it at one input. -/
def fnAsksHostPathOfOneMoreBindWrong : ChangeSpec := { name := "fnAsksHostPathOfOneMoreBind", fn := fun _ => fun
  | [d1, d2, d3, d4, d5] => { results := [.lit (.bool false)], args := [d1, d2, d3, d4, d5] }
  | _ => none }
def FnAsksHostPathOfOneMoreBindWrongFalsely : Prop := fnAsksHostPathOfOneMoreBindRow.holds Trym.pinned (OpenSpec.ofChange fnAsksHostPathOfOneMoreBindWrong)

/-- 'zzlaws_internal_authz_b1.FnAsksUnconfinedOfOneMoreSecurityOpt': WHATEVER THE INPUT: true; the input reads as it did. -/
def fnAsksUnconfinedOfOneMoreSecurityOptSpec : ChangeSpec := { name := "fnAsksUnconfinedOfOneMoreSecurityOpt", fn := fun _ => fun
  | [d1, d2, d3, d4] => { results := [.lit (.bool true)], args := [d1, d2, d3, d4] }
  | _ => none }
def fnAsksUnconfinedOfOneMoreSecurityOptRow : OpenClaim := { program := "qxb6609037amods", sum := "2c045f0457e2f369713fdbd4d885970b3d34738198b13e885793bdcae9c15553", func := "example.com/fence-by-role/fence-by-role/zzlaws_internal_authz_b1.FnAsksUnconfinedOfOneMoreSecurityOpt", spec := "fnAsksUnconfinedOfOneMoreSecurityOpt", inPlace := ["internal/bytealg.IndexByteString", "internal/bytealg.IndexString"], named := ["internal/bytealg.MaxLen"], make := .lifted ["publicsums"], apart := false }
def FnAsksUnconfinedOfOneMoreSecurityOptSaid : Prop := fnAsksUnconfinedOfOneMoreSecurityOptRow.holds Trym.pinned (OpenSpec.ofChange fnAsksUnconfinedOfOneMoreSecurityOptSpec)

/-- ITS FALSE NEIGHBOUR: 'it returns false'. Refute it at one input. -/
def fnAsksUnconfinedOfOneMoreSecurityOptWrong : ChangeSpec := { name := "fnAsksUnconfinedOfOneMoreSecurityOpt", fn := fun _ => fun
  | [d1, d2, d3, d4] => { results := [.lit (.bool false)], args := [d1, d2, d3, d4] }
  | _ => none }
def FnAsksUnconfinedOfOneMoreSecurityOptWrongFalsely : Prop := fnAsksUnconfinedOfOneMoreSecurityOptRow.holds Trym.pinned (OpenSpec.ofChange fnAsksUnconfinedOfOneMoreSecurityOptWrong)

/-- 'zzlaws_internal_authz_b1.FnHoldingOneOwnerIsEnough': WHATEVER THE INPUT: true; the input reads as it did. -/
def fnHoldingOneOwnerIsEnoughSpec : ChangeSpec := { name := "fnHoldingOneOwnerIsEnough", fn := fun _ => fun
  | [d1, d2, d3, d4] => { results := [.lit (.bool true)], args := [d1, d2, d3, d4] }
  | _ => none }
def fnHoldingOneOwnerIsEnoughRow : OpenClaim := { program := "qxb6609037amods", sum := "2c045f0457e2f369713fdbd4d885970b3d34738198b13e885793bdcae9c15553", func := "example.com/fence-by-role/fence-by-role/zzlaws_internal_authz_b1.FnHoldingOneOwnerIsEnough", spec := "fnHoldingOneOwnerIsEnough", make := .lifted ["publicsums"], apart := false }
def FnHoldingOneOwnerIsEnoughSaid : Prop := fnHoldingOneOwnerIsEnoughRow.holds Trym.pinned (OpenSpec.ofChange fnHoldingOneOwnerIsEnoughSpec)

/-- ITS FALSE NEIGHBOUR: 'it returns false'. Refute it at one input. -/
def fnHoldingOneOwnerIsEnoughWrong : ChangeSpec := { name := "fnHoldingOneOwnerIsEnough", fn := fun _ => fun
  | [d1, d2, d3, d4] => { results := [.lit (.bool false)], args := [d1, d2, d3, d4] }
  | _ => none }
def FnHoldingOneOwnerIsEnoughWrongFalsely : Prop := fnHoldingOneOwnerIsEnoughRow.holds Trym.pinned (OpenSpec.ofChange fnHoldingOneOwnerIsEnoughWrong)

/-- 'zzlaws_internal_authz_b1.FnHoldingEveryOwnerOneRole': WHATEVER THE INPUT: true; the input reads as it did. -/
def fnHoldingEveryOwnerOneRoleSpec : ChangeSpec := { name := "fnHoldingEveryOwnerOneRole", fn := fun _ => fun
  | [d1, d2, d3, d4] => { results := [.lit (.bool true)], args := [d1, d2, d3, d4] }
  | _ => none }
def fnHoldingEveryOwnerOneRoleRow : OpenClaim := { program := "qxb6609037amods", sum := "2c045f0457e2f369713fdbd4d885970b3d34738198b13e885793bdcae9c15553", func := "example.com/fence-by-role/fence-by-role/zzlaws_internal_authz_b1.FnHoldingEveryOwnerOneRole", spec := "fnHoldingEveryOwnerOneRole", make := .lifted ["publicsums"], apart := false }
def FnHoldingEveryOwnerOneRoleSaid : Prop := fnHoldingEveryOwnerOneRoleRow.holds Trym.pinned (OpenSpec.ofChange fnHoldingEveryOwnerOneRoleSpec)

/-- ITS FALSE NEIGHBOUR: 'it returns false'. Refute it at one input. -/
def fnHoldingEveryOwnerOneRoleWrong : ChangeSpec := { name := "fnHoldingEveryOwnerOneRole", fn := fun _ => fun
  | [d1, d2, d3, d4] => { results := [.lit (.bool false)], args := [d1, d2, d3, d4] }
  | _ => none }
def FnHoldingEveryOwnerOneRoleWrongFalsely : Prop := fnHoldingEveryOwnerOneRoleRow.holds Trym.pinned (OpenSpec.ofChange fnHoldingEveryOwnerOneRoleWrong)

end Rows
end Go.Proofs.Qxb6609037aMods
