/-
  No cell of these rows narrows 'for every input' (looked for: loops, veiled, ifaces, maps, wideKeys, modest, calm, conditions, laid).
  DERIVED. THE GIVEN ROWS OF THIS SEAT. 5 by the template 'for every input the law returns true; each argument reads behind the call as it read before'; 0 by the template 'total and deterministic' (their statements: Qxb6618997aTotals.lean).
  GIVEN WITH THE SEED: the statements are not yours to turn. If you find one false, say at which input.
  Laid BY PROGRAM, IN A SANDBOX (cutbox-rows.mjs): the forced cells as the released guide's own fill.sh prints them over the translation d7429c9fc8f97665… (all of the seat's roots in one cut). By AI agents, Wed Nov 11 2026. No macro, syntax, notation, axiom, sorry.
-/
import Derived.Test.Qxb6618997aChecked
import GoSem.Claim
import GoSem.ClaimJoined
import GoSem.ClaimMapViews
import Derived.JoinedTies
import Derived.KernelRfl
namespace Go.Proofs.Qxb6618997a
/- THE CELL 'sum', in the pinned program and in every row, IS THE sha256 OF THE DUMP (.gsa) THAT Qxb6618997aProg.lean LOADS. Nothing in Lean hashes anything: it is a label: what it is worth is what the hold of that sum in a sandbox is worth. -/
noncomputable def Try.pinned : Pinned := { name := "qxb6618997a", sum := "d7429c9fc8f9766554ea335afe16b5cfe4eb5234d55221279eaebc00f18cc5b6", checked := Try.checked }
namespace Rows
def none {H : Type} : Left H := { results := [], args := [] }

/-- 'zzlaws_root_b1.FnDecisionReasonCutsInTheRole': WHATEVER THE INPUT: true; the input reads as it did. -/
def fnDecisionReasonCutsInTheRoleSpec : ChangeSpec := { name := "fnDecisionReasonCutsInTheRole", fn := fun _ => fun
  | [d1, d2, d3, d4] => { results := [.lit (.bool true)], args := [d1, d2, d3, d4] }
  | _ => none }
def fnDecisionReasonCutsInTheRoleRow : OpenClaim := { program := "qxb6618997a", sum := "d7429c9fc8f9766554ea335afe16b5cfe4eb5234d55221279eaebc00f18cc5b6", func := "example.com/eurycleia/eurycleia/zzlaws_root_b1.FnDecisionReasonCutsInTheRole", spec := "fnDecisionReasonCutsInTheRole", plainKeys := false, apart := false }
def FnDecisionReasonCutsInTheRoleSaid : Prop := fnDecisionReasonCutsInTheRoleRow.holds Try.pinned (OpenSpec.ofChange fnDecisionReasonCutsInTheRoleSpec)

/-- ITS FALSE NEIGHBOUR: 'it returns false'. Refute it at one input. -/
def fnDecisionReasonCutsInTheRoleWrong : ChangeSpec := { name := "fnDecisionReasonCutsInTheRole", fn := fun _ => fun
  | [d1, d2, d3, d4] => { results := [.lit (.bool false)], args := [d1, d2, d3, d4] }
  | _ => none }
def FnDecisionReasonCutsInTheRoleWrongFalsely : Prop := fnDecisionReasonCutsInTheRoleRow.holds Try.pinned (OpenSpec.ofChange fnDecisionReasonCutsInTheRoleWrong)

/-- 'zzlaws_root_b1.FnScopeEverywhereIgnoresAClearedPart': WHATEVER THE INPUT: true; the input reads as it did. -/
def fnScopeEverywhereIgnoresAClearedPartSpec : ChangeSpec := { name := "fnScopeEverywhereIgnoresAClearedPart", fn := fun _ => fun
  | [d1, d2, d3, d4, d5, d6, d7] => { results := [.lit (.bool true)], args := [d1, d2, d3, d4, d5, d6, d7] }
  | _ => none }
def fnScopeEverywhereIgnoresAClearedPartRow : OpenClaim := { program := "qxb6618997a", sum := "d7429c9fc8f9766554ea335afe16b5cfe4eb5234d55221279eaebc00f18cc5b6", func := "example.com/eurycleia/eurycleia/zzlaws_root_b1.FnScopeEverywhereIgnoresAClearedPart", spec := "fnScopeEverywhereIgnoresAClearedPart", plainKeys := false, apart := false }
def FnScopeEverywhereIgnoresAClearedPartSaid : Prop := fnScopeEverywhereIgnoresAClearedPartRow.holds Try.pinned (OpenSpec.ofChange fnScopeEverywhereIgnoresAClearedPartSpec)

/-- ITS FALSE NEIGHBOUR: 'it returns false'. Refute it at one input. -/
def fnScopeEverywhereIgnoresAClearedPartWrong : ChangeSpec := { name := "fnScopeEverywhereIgnoresAClearedPart", fn := fun _ => fun
  | [d1, d2, d3, d4, d5, d6, d7] => { results := [.lit (.bool false)], args := [d1, d2, d3, d4, d5, d6, d7] }
  | _ => none }
def FnScopeEverywhereIgnoresAClearedPartWrongFalsely : Prop := fnScopeEverywhereIgnoresAClearedPartRow.holds Try.pinned (OpenSpec.ofChange fnScopeEverywhereIgnoresAClearedPartWrong)

/-- 'zzlaws_root_b1.FnScopeEverywhereRefusesAnyOneName': WHATEVER THE INPUT: true; the input reads as it did. -/
def fnScopeEverywhereRefusesAnyOneNameSpec : ChangeSpec := { name := "fnScopeEverywhereRefusesAnyOneName", fn := fun _ => fun
  | [d1, d2, d3, d4, d5, d6, d7, d8] => { results := [.lit (.bool true)], args := [d1, d2, d3, d4, d5, d6, d7, d8] }
  | _ => none }
def fnScopeEverywhereRefusesAnyOneNameRow : OpenClaim := { program := "qxb6618997a", sum := "d7429c9fc8f9766554ea335afe16b5cfe4eb5234d55221279eaebc00f18cc5b6", func := "example.com/eurycleia/eurycleia/zzlaws_root_b1.FnScopeEverywhereRefusesAnyOneName", spec := "fnScopeEverywhereRefusesAnyOneName", plainKeys := false, apart := false }
def FnScopeEverywhereRefusesAnyOneNameSaid : Prop := fnScopeEverywhereRefusesAnyOneNameRow.holds Try.pinned (OpenSpec.ofChange fnScopeEverywhereRefusesAnyOneNameSpec)

/-- ITS FALSE NEIGHBOUR: 'it returns false'. Refute it at one input. -/
def fnScopeEverywhereRefusesAnyOneNameWrong : ChangeSpec := { name := "fnScopeEverywhereRefusesAnyOneName", fn := fun _ => fun
  | [d1, d2, d3, d4, d5, d6, d7, d8] => { results := [.lit (.bool false)], args := [d1, d2, d3, d4, d5, d6, d7, d8] }
  | _ => none }
def FnScopeEverywhereRefusesAnyOneNameWrongFalsely : Prop := fnScopeEverywhereRefusesAnyOneNameRow.holds Try.pinned (OpenSpec.ofChange fnScopeEverywhereRefusesAnyOneNameWrong)

/-- 'zzlaws_root_b1.FnLookUpOffersExactlyTheGivenRoles': WHATEVER THE INPUT: true; the input reads as it did. -/
def fnLookUpOffersExactlyTheGivenRolesSpec : ChangeSpec := { name := "fnLookUpOffersExactlyTheGivenRoles", fn := fun _ => fun
  | [d1, d2, d3, d4, d5, d6, d7, d8, d9, d10] => { results := [.lit (.bool true)], args := [d1, d2, d3, d4, d5, d6, d7, d8, d9, d10] }
  | _ => none }
def fnLookUpOffersExactlyTheGivenRolesRow : OpenClaim := { program := "qxb6618997a", sum := "d7429c9fc8f9766554ea335afe16b5cfe4eb5234d55221279eaebc00f18cc5b6", func := "example.com/eurycleia/eurycleia/zzlaws_root_b1.FnLookUpOffersExactlyTheGivenRoles", spec := "fnLookUpOffersExactlyTheGivenRoles", unfollowed := true, recurses := true, plainKeys := false, apart := false }
def FnLookUpOffersExactlyTheGivenRolesSaid : Prop := fnLookUpOffersExactlyTheGivenRolesRow.holds Try.pinned (OpenSpec.ofChange fnLookUpOffersExactlyTheGivenRolesSpec)

/-- ITS FALSE NEIGHBOUR: 'it returns false'. Refute it at one input. -/
def fnLookUpOffersExactlyTheGivenRolesWrong : ChangeSpec := { name := "fnLookUpOffersExactlyTheGivenRoles", fn := fun _ => fun
  | [d1, d2, d3, d4, d5, d6, d7, d8, d9, d10] => { results := [.lit (.bool false)], args := [d1, d2, d3, d4, d5, d6, d7, d8, d9, d10] }
  | _ => none }
def FnLookUpOffersExactlyTheGivenRolesWrongFalsely : Prop := fnLookUpOffersExactlyTheGivenRolesRow.holds Try.pinned (OpenSpec.ofChange fnLookUpOffersExactlyTheGivenRolesWrong)

/-- 'zzlaws_root_b1.FnLookUpSplitsAtAnyRole': WHATEVER THE INPUT: true; the input reads as it did. -/
def fnLookUpSplitsAtAnyRoleSpec : ChangeSpec := { name := "fnLookUpSplitsAtAnyRole", fn := fun _ => fun
  | [d1, d2, d3, d4, d5, d6, d7, d8, d9, d10, d11] => { results := [.lit (.bool true)], args := [d1, d2, d3, d4, d5, d6, d7, d8, d9, d10, d11] }
  | _ => none }
def fnLookUpSplitsAtAnyRoleRow : OpenClaim := { program := "qxb6618997a", sum := "d7429c9fc8f9766554ea335afe16b5cfe4eb5234d55221279eaebc00f18cc5b6", func := "example.com/eurycleia/eurycleia/zzlaws_root_b1.FnLookUpSplitsAtAnyRole", spec := "fnLookUpSplitsAtAnyRole", unfollowed := true, recurses := true, plainKeys := false, apart := false }
def FnLookUpSplitsAtAnyRoleSaid : Prop := fnLookUpSplitsAtAnyRoleRow.holds Try.pinned (OpenSpec.ofChange fnLookUpSplitsAtAnyRoleSpec)

/-- ITS FALSE NEIGHBOUR: 'it returns false'. Refute it at one input. -/
def fnLookUpSplitsAtAnyRoleWrong : ChangeSpec := { name := "fnLookUpSplitsAtAnyRole", fn := fun _ => fun
  | [d1, d2, d3, d4, d5, d6, d7, d8, d9, d10, d11] => { results := [.lit (.bool false)], args := [d1, d2, d3, d4, d5, d6, d7, d8, d9, d10, d11] }
  | _ => none }
def FnLookUpSplitsAtAnyRoleWrongFalsely : Prop := fnLookUpSplitsAtAnyRoleRow.holds Try.pinned (OpenSpec.ofChange fnLookUpSplitsAtAnyRoleWrong)

end Rows
end Go.Proofs.Qxb6618997a
