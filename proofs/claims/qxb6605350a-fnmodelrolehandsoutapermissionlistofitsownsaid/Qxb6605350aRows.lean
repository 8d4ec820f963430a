/-
  No cell of these rows narrows 'for every input' (looked for: loops, veiled, ifaces, maps, wideKeys, modest, calm, conditions, laid).
  DERIVED. THE GIVEN ROWS OF THIS SEAT. 4 by the template 'for every input the law returns true; each argument reads behind the call as it read before'; 0 by the template 'total and deterministic' (their statements: Qxb6605350aTotals.lean).
  GIVEN WITH THE SEED: the statements are not yours to turn. If you find one false, say at which input.
  Laid BY PROGRAM, IN A SANDBOX (cutbox-rows.mjs): the forced cells as the released guide's own fill.sh prints them over the translation 27b3405da5ff1338… (all of the seat's roots in one cut). By AI agents, Wed Nov 11 2026. No macro, syntax, notation, axiom, sorry.
-/
import Derived.Test.Qxb6605350aChecked
import GoSem.Claim
import GoSem.ClaimJoined
import GoSem.ClaimMapViews
import Derived.JoinedTies
import Derived.KernelRfl
namespace Go.Proofs.Qxb6605350a
/- THE CELL 'sum', in the pinned program and in every row, IS THE sha256 OF THE DUMP (.gsa) THAT Qxb6605350aProg.lean LOADS. Nothing in Lean hashes anything: it is a label: what it is worth is what the hold of that sum in a sandbox is worth. -/
noncomputable def Try.pinned : Pinned := { name := "qxb6605350a", sum := "27b3405da5ff1338944295340aa225244184e6781c46ebe84853343de84f08ab", checked := Try.checked }
namespace Rows
def none {H : Type} : Left H := { results := [], args := [] }

/-- 'zzlaws_internal_access_b1.FnNameSetAddMarksTheNameAndLeavesTheRest': WHATEVER THE INPUT: true; the input reads as it did. -/
def fnNameSetAddMarksTheNameAndLeavesTheRestSpec : ChangeSpec := { name := "fnNameSetAddMarksTheNameAndLeavesTheRest", fn := fun _ => fun
  | [d1, d2, d3] => { results := [.lit (.bool true)], args := [d1, d2, d3] }
  | _ => none }
def fnNameSetAddMarksTheNameAndLeavesTheRestRow : OpenClaim := { program := "qxb6605350a", sum := "27b3405da5ff1338944295340aa225244184e6781c46ebe84853343de84f08ab", func := "example.com/deeds-for-keys/deeds-for-keys/zzlaws_internal_access_b1.FnNameSetAddMarksTheNameAndLeavesTheRest", spec := "fnNameSetAddMarksTheNameAndLeavesTheRest", apart := false }
def FnNameSetAddMarksTheNameAndLeavesTheRestSaid : Prop := fnNameSetAddMarksTheNameAndLeavesTheRestRow.holds Try.pinned (OpenSpec.ofChange fnNameSetAddMarksTheNameAndLeavesTheRestSpec)

/-- ITS FALSE NEIGHBOUR: 'it returns false'. Refute it at one input. -/
def fnNameSetAddMarksTheNameAndLeavesTheRestWrong : ChangeSpec := { name := "fnNameSetAddMarksTheNameAndLeavesTheRest", fn := fun _ => fun
  | [d1, d2, d3] => { results := [.lit (.bool false)], args := [d1, d2, d3] }
  | _ => none }
def FnNameSetAddMarksTheNameAndLeavesTheRestWrongFalsely : Prop := fnNameSetAddMarksTheNameAndLeavesTheRestRow.holds Try.pinned (OpenSpec.ofChange fnNameSetAddMarksTheNameAndLeavesTheRestWrong)

/-- 'zzlaws_internal_access_b1.FnNameSetAddIsTrueExactlyAtEachNamesFirstOccurrence': WHATEVER THE INPUT: true; the input reads as it did. -/
def fnNameSetAddIsTrueExactlyAtEachNamesFirstOccurrenceSpec : ChangeSpec := { name := "fnNameSetAddIsTrueExactlyAtEachNamesFirstOccurrence", fn := fun _ => fun
  | [d] => { results := [.lit (.bool true)], args := [d] }
  | _ => none }
def fnNameSetAddIsTrueExactlyAtEachNamesFirstOccurrenceRow : OpenClaim := { program := "qxb6605350a", sum := "27b3405da5ff1338944295340aa225244184e6781c46ebe84853343de84f08ab", func := "example.com/deeds-for-keys/deeds-for-keys/zzlaws_internal_access_b1.FnNameSetAddIsTrueExactlyAtEachNamesFirstOccurrence", spec := "fnNameSetAddIsTrueExactlyAtEachNamesFirstOccurrence", apart := false }
def FnNameSetAddIsTrueExactlyAtEachNamesFirstOccurrenceSaid : Prop := fnNameSetAddIsTrueExactlyAtEachNamesFirstOccurrenceRow.holds Try.pinned (OpenSpec.ofChange fnNameSetAddIsTrueExactlyAtEachNamesFirstOccurrenceSpec)

/-- ITS FALSE NEIGHBOUR: 'it returns false'. Refute it at one input. -/
def fnNameSetAddIsTrueExactlyAtEachNamesFirstOccurrenceWrong : ChangeSpec := { name := "fnNameSetAddIsTrueExactlyAtEachNamesFirstOccurrence", fn := fun _ => fun
  | [d] => { results := [.lit (.bool false)], args := [d] }
  | _ => none }
def FnNameSetAddIsTrueExactlyAtEachNamesFirstOccurrenceWrongFalsely : Prop := fnNameSetAddIsTrueExactlyAtEachNamesFirstOccurrenceRow.holds Try.pinned (OpenSpec.ofChange fnNameSetAddIsTrueExactlyAtEachNamesFirstOccurrenceWrong)

/-- 'zzlaws_internal_access_b1.FnScopeStringCutsBackAtItsFirstSlash': WHATEVER THE INPUT: true; the input reads as it did. -/
def fnScopeStringCutsBackAtItsFirstSlashSpec : ChangeSpec := { name := "fnScopeStringCutsBackAtItsFirstSlash", fn := fun _ => fun
  | [d1, d2] => { results := [.lit (.bool true)], args := [d1, d2] }
  | _ => none }
def fnScopeStringCutsBackAtItsFirstSlashRow : OpenClaim := { program := "qxb6605350a", sum := "27b3405da5ff1338944295340aa225244184e6781c46ebe84853343de84f08ab", func := "example.com/deeds-for-keys/deeds-for-keys/zzlaws_internal_access_b1.FnScopeStringCutsBackAtItsFirstSlash", spec := "fnScopeStringCutsBackAtItsFirstSlash", apart := false }
def FnScopeStringCutsBackAtItsFirstSlashSaid : Prop := fnScopeStringCutsBackAtItsFirstSlashRow.holds Try.pinned (OpenSpec.ofChange fnScopeStringCutsBackAtItsFirstSlashSpec)

/-- ITS FALSE NEIGHBOUR: 'it returns false'. Refute it at one input. -/
def fnScopeStringCutsBackAtItsFirstSlashWrong : ChangeSpec := { name := "fnScopeStringCutsBackAtItsFirstSlash", fn := fun _ => fun
  | [d1, d2] => { results := [.lit (.bool false)], args := [d1, d2] }
  | _ => none }
def FnScopeStringCutsBackAtItsFirstSlashWrongFalsely : Prop := fnScopeStringCutsBackAtItsFirstSlashRow.holds Try.pinned (OpenSpec.ofChange fnScopeStringCutsBackAtItsFirstSlashWrong)

/-- 'zzlaws_internal_access_b1.FnModelRoleHandsOutAPermissionListOfItsOwn': WHATEVER THE INPUT: true; the input reads as it did. -/
def fnModelRoleHandsOutAPermissionListOfItsOwnSpec : ChangeSpec := { name := "fnModelRoleHandsOutAPermissionListOfItsOwn", fn := fun _ => fun
  | [d1, d2, d3, d4, d5, d6, d7] => { results := [.lit (.bool true)], args := [d1, d2, d3, d4, d5, d6, d7] }
  | _ => none }
def fnModelRoleHandsOutAPermissionListOfItsOwnRow : OpenClaim := { program := "qxb6605350a", sum := "27b3405da5ff1338944295340aa225244184e6781c46ebe84853343de84f08ab", func := "example.com/deeds-for-keys/deeds-for-keys/zzlaws_internal_access_b1.FnModelRoleHandsOutAPermissionListOfItsOwn", spec := "fnModelRoleHandsOutAPermissionListOfItsOwn", apart := false }
def FnModelRoleHandsOutAPermissionListOfItsOwnSaid : Prop := fnModelRoleHandsOutAPermissionListOfItsOwnRow.holds Try.pinned (OpenSpec.ofChange fnModelRoleHandsOutAPermissionListOfItsOwnSpec)

/-- ITS FALSE NEIGHBOUR: 'it returns false'. Refute it at one input. -/
def fnModelRoleHandsOutAPermissionListOfItsOwnWrong : ChangeSpec := { name := "fnModelRoleHandsOutAPermissionListOfItsOwn", fn := fun _ => fun
  | [d1, d2, d3, d4, d5, d6, d7] => { results := [.lit (.bool false)], args := [d1, d2, d3, d4, d5, d6, d7] }
  | _ => none }
def FnModelRoleHandsOutAPermissionListOfItsOwnWrongFalsely : Prop := fnModelRoleHandsOutAPermissionListOfItsOwnRow.holds Try.pinned (OpenSpec.ofChange fnModelRoleHandsOutAPermissionListOfItsOwnWrong)

end Rows
end Go.Proofs.Qxb6605350a
