/-
  No cell of these rows narrows 'for every input' (looked for: loops, veiled, ifaces, maps, wideKeys, modest, calm, conditions, laid).
  DERIVED. THE GIVEN ROWS OF THIS SEAT. 3 by the template 'for every input the law returns true; each argument reads behind the call as it read before'; 0 by the template 'total and deterministic' (their statements: Qxb6615773aModsTotals.lean).
  GIVEN WITH THE SEED: the statements are not yours to turn. If you find one false, say at which input.
  Laid BY PROGRAM, IN A SANDBOX (cutbox-rows.mjs): the forced cells as the released guide's own fill.sh prints them over the translation 76ddf22d5fe4debc… (all of the seat's roots in one cut). By AI agents, Wed Nov 11 2026. No macro, syntax, notation, axiom, sorry.
-/
import Derived.Test.Qxb6615773aModsChecked
import GoSem.Claim
import GoSem.ClaimJoined
import GoSem.ClaimMapViews
import Derived.JoinedTies
import Derived.KernelRfl
namespace Go.Proofs.Qxb6615773aMods
/- THE CELL 'sum', in the pinned program and in every row, IS THE sha256 OF THE DUMP (.gsa) THAT Qxb6615773aModsProg.lean LOADS. Nothing in Lean hashes anything: it is a label: what it is worth is what the hold of that sum in a sandbox is worth. -/
noncomputable def Trym.pinned : Pinned := { name := "qxb6615773amods", sum := "76ddf22d5fe4debcf76a659d92114c4af8dc95667b122e4d74c0578b1e50dc56", checked := Trym.checked }
namespace Rows
def none {H : Type} : Left H := { results := [], args := [] }

/-- 'zzlaws_pkg_cache_b1.FnUseLeastRecentlyUsedIsTheEarliestLastUse': WHATEVER THE INPUT: true; the input reads as it did. -/
def fnUseLeastRecentlyUsedIsTheEarliestLastUseSpec : ChangeSpec := { name := "fnUseLeastRecentlyUsedIsTheEarliestLastUse", fn := fun _ => fun
  | [d1, d2, d3] => { results := [.lit (.bool true)], args := [d1, d2, d3] }
  | _ => none }
def fnUseLeastRecentlyUsedIsTheEarliestLastUseRow : OpenClaim := { program := "qxb6615773amods", sum := "76ddf22d5fe4debcf76a659d92114c4af8dc95667b122e4d74c0578b1e50dc56", func := "example.com/holdover/holdover/zzlaws_pkg_cache_b1.FnUseLeastRecentlyUsedIsTheEarliestLastUse", spec := "fnUseLeastRecentlyUsedIsTheEarliestLastUse", make := .lifted ["publicsums"], apart := false }
def FnUseLeastRecentlyUsedIsTheEarliestLastUseSaid : Prop := fnUseLeastRecentlyUsedIsTheEarliestLastUseRow.holds Trym.pinned (OpenSpec.ofChange fnUseLeastRecentlyUsedIsTheEarliestLastUseSpec)

/-- ITS FALSE NEIGHBOUR: 'it returns false'. Refute it at one input. -/
def fnUseLeastRecentlyUsedIsTheEarliestLastUseWrong : ChangeSpec := { name := "fnUseLeastRecentlyUsedIsTheEarliestLastUse", fn := fun _ => fun
  | [d1, d2, d3] => { results := [.lit (.bool false)], args := [d1, d2, d3] }
  | _ => none }
def FnUseLeastRecentlyUsedIsTheEarliestLastUseWrongFalsely : Prop := fnUseLeastRecentlyUsedIsTheEarliestLastUseRow.holds Trym.pinned (OpenSpec.ofChange fnUseLeastRecentlyUsedIsTheEarliestLastUseWrong)

/-- 'zzlaws_pkg_cache_b1.FnPushRecordsEachPartsPlace': WHATEVER THE INPUT: true; the input reads as it did. -/
def fnPushRecordsEachPartsPlaceSpec : ChangeSpec := { name := "fnPushRecordsEachPartsPlace", fn := fun _ => fun
  | [d1, d2] => { results := [.lit (.bool true)], args := [d1, d2] }
  | _ => none }
def fnPushRecordsEachPartsPlaceRow : OpenClaim := { program := "qxb6615773amods", sum := "76ddf22d5fe4debcf76a659d92114c4af8dc95667b122e4d74c0578b1e50dc56", func := "example.com/holdover/holdover/zzlaws_pkg_cache_b1.FnPushRecordsEachPartsPlace", spec := "fnPushRecordsEachPartsPlace", make := .lifted ["publicsums"], apart := false }
def FnPushRecordsEachPartsPlaceSaid : Prop := fnPushRecordsEachPartsPlaceRow.holds Trym.pinned (OpenSpec.ofChange fnPushRecordsEachPartsPlaceSpec)

/-- ITS FALSE NEIGHBOUR: 'it returns false'. Refute it at one input. -/
def fnPushRecordsEachPartsPlaceWrong : ChangeSpec := { name := "fnPushRecordsEachPartsPlace", fn := fun _ => fun
  | [d1, d2] => { results := [.lit (.bool false)], args := [d1, d2] }
  | _ => none }
def FnPushRecordsEachPartsPlaceWrongFalsely : Prop := fnPushRecordsEachPartsPlaceRow.holds Trym.pinned (OpenSpec.ofChange fnPushRecordsEachPartsPlaceWrong)

/-- 'zzlaws_pkg_cache_b1.FnPushIntoBothHeapsKeepsBothPlaces': WHATEVER THE INPUT: true; the input reads as it did. -/
def fnPushIntoBothHeapsKeepsBothPlacesSpec : ChangeSpec := { name := "fnPushIntoBothHeapsKeepsBothPlaces", fn := fun _ => fun
  | [d1, d2, d3, d4, d5] => { results := [.lit (.bool true)], args := [d1, d2, d3, d4, d5] }
  | _ => none }
def fnPushIntoBothHeapsKeepsBothPlacesRow : OpenClaim := { program := "qxb6615773amods", sum := "76ddf22d5fe4debcf76a659d92114c4af8dc95667b122e4d74c0578b1e50dc56", func := "example.com/holdover/holdover/zzlaws_pkg_cache_b1.FnPushIntoBothHeapsKeepsBothPlaces", spec := "fnPushIntoBothHeapsKeepsBothPlaces", make := .lifted ["publicsums"], apart := false }
def FnPushIntoBothHeapsKeepsBothPlacesSaid : Prop := fnPushIntoBothHeapsKeepsBothPlacesRow.holds Trym.pinned (OpenSpec.ofChange fnPushIntoBothHeapsKeepsBothPlacesSpec)

/-- ITS FALSE NEIGHBOUR: 'it returns false'. Refute it at one input. -/
def fnPushIntoBothHeapsKeepsBothPlacesWrong : ChangeSpec := { name := "fnPushIntoBothHeapsKeepsBothPlaces", fn := fun _ => fun
  | [d1, d2, d3, d4, d5] => { results := [.lit (.bool false)], args := [d1, d2, d3, d4, d5] }
  | _ => none }
def FnPushIntoBothHeapsKeepsBothPlacesWrongFalsely : Prop := fnPushIntoBothHeapsKeepsBothPlacesRow.holds Trym.pinned (OpenSpec.ofChange fnPushIntoBothHeapsKeepsBothPlacesWrong)

end Rows
end Go.Proofs.Qxb6615773aMods
