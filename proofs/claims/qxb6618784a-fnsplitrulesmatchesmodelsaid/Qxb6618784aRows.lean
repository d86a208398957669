/-
  No cell of these rows narrows 'for every input' (looked for: loops, veiled, ifaces, maps, wideKeys, modest, calm, conditions, laid).
  DERIVED. THE GIVEN ROWS OF THIS SEAT. 2 by the template 'for every input the law returns true; each argument reads behind the call as it read before'; 0 by the template 'total and deterministic' (their statements: Qxb6618784aTotals.lean).
  GIVEN WITH THE SEED: the statements are not yours to turn. If you find one false, say at which input.
  Laid BY PROGRAM, IN A SANDBOX (cutbox-rows.mjs): the forced cells as the released guide's own fill.sh prints them over the translation 56896691f9397008… (all of the seat's roots in one cut). By AI agents, Wed Nov 11 2026. No macro, syntax, notation, axiom, sorry.
-/
import Derived.Test.Qxb6618784aChecked
import GoSem.Claim
import GoSem.ClaimJoined
import GoSem.ClaimMapViews
import Derived.JoinedTies
import Derived.KernelRfl
namespace Go.Proofs.Qxb6618784a
/- THE CELL 'sum', in the pinned program and in every row, IS THE sha256 OF THE DUMP (.gsa) THAT Qxb6618784aProg.lean LOADS. Nothing in Lean hashes anything: it is a label: what it is worth is what the hold of that sum in a sandbox is worth. -/
noncomputable def Try.pinned : Pinned := { name := "qxb6618784a", sum := "56896691f939700893cf8aecba4712ae1239d21aa472c2da9fbe8f74b89c6ee3", checked := Try.checked }
namespace Rows
def none {H : Type} : Left H := { results := [], args := [] }

/-- 'zzlaws_root_b1.FnSplitRulesMatchesModel': WHATEVER THE INPUT: true; the input reads as it did. -/
def fnSplitRulesMatchesModelSpec : ChangeSpec := { name := "fnSplitRulesMatchesModel", fn := fun _ => fun
  | [d] => { results := [.lit (.bool true)], args := [d] }
  | _ => none }
def fnSplitRulesMatchesModelRow : OpenClaim := { program := "qxb6618784a", sum := "56896691f939700893cf8aecba4712ae1239d21aa472c2da9fbe8f74b89c6ee3", func := "example.com/garm/garm/zzlaws_root_b1.FnSplitRulesMatchesModel", spec := "fnSplitRulesMatchesModel", unfollowed := true, recurses := true, plainKeys := false, apart := false }
def FnSplitRulesMatchesModelSaid : Prop := fnSplitRulesMatchesModelRow.holds Try.pinned (OpenSpec.ofChange fnSplitRulesMatchesModelSpec)

/-- ITS FALSE NEIGHBOUR: 'it returns false'. Refute it at one input. -/
def fnSplitRulesMatchesModelWrong : ChangeSpec := { name := "fnSplitRulesMatchesModel", fn := fun _ => fun
  | [d] => { results := [.lit (.bool false)], args := [d] }
  | _ => none }
def FnSplitRulesMatchesModelWrongFalsely : Prop := fnSplitRulesMatchesModelRow.holds Try.pinned (OpenSpec.ofChange fnSplitRulesMatchesModelWrong)

/-- 'zzlaws_root_b1.FnSplitRulesJoinsAtAnyCut': WHATEVER THE INPUT: true; the input reads as it did. -/
def fnSplitRulesJoinsAtAnyCutSpec : ChangeSpec := { name := "fnSplitRulesJoinsAtAnyCut", fn := fun _ => fun
  | [d1, d2] => { results := [.lit (.bool true)], args := [d1, d2] }
  | _ => none }
def fnSplitRulesJoinsAtAnyCutRow : OpenClaim := { program := "qxb6618784a", sum := "56896691f939700893cf8aecba4712ae1239d21aa472c2da9fbe8f74b89c6ee3", func := "example.com/garm/garm/zzlaws_root_b1.FnSplitRulesJoinsAtAnyCut", spec := "fnSplitRulesJoinsAtAnyCut", unfollowed := true, recurses := true, plainKeys := false, apart := false }
def FnSplitRulesJoinsAtAnyCutSaid : Prop := fnSplitRulesJoinsAtAnyCutRow.holds Try.pinned (OpenSpec.ofChange fnSplitRulesJoinsAtAnyCutSpec)

/-- ITS FALSE NEIGHBOUR: 'it returns false'. Refute it at one input. -/
def fnSplitRulesJoinsAtAnyCutWrong : ChangeSpec := { name := "fnSplitRulesJoinsAtAnyCut", fn := fun _ => fun
  | [d1, d2] => { results := [.lit (.bool false)], args := [d1, d2] }
  | _ => none }
def FnSplitRulesJoinsAtAnyCutWrongFalsely : Prop := fnSplitRulesJoinsAtAnyCutRow.holds Try.pinned (OpenSpec.ofChange fnSplitRulesJoinsAtAnyCutWrong)

end Rows
end Go.Proofs.Qxb6618784a
