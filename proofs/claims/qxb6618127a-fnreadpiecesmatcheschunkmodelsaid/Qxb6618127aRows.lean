/-
  No cell of these rows narrows 'for every input' (looked for: loops, veiled, ifaces, maps, wideKeys, modest, calm, conditions, laid).
  DERIVED. THE GIVEN ROWS OF THIS SEAT. 4 by the template 'for every input the law returns true; each argument reads behind the call as it read before'; 0 by the template 'total and deterministic' (their statements: Qxb6618127aTotals.lean).
  GIVEN WITH THE SEED: the statements are not yours to turn. If you find one false, say at which input.
  Laid BY PROGRAM, IN A SANDBOX (cutbox-rows.mjs): the forced cells as the released guide's own fill.sh prints them over the translation ea228b0641118100… (all of the seat's roots in one cut). By AI agents, Wed Nov 11 2026. No macro, syntax, notation, axiom, sorry.
-/
import Derived.Test.Qxb6618127aChecked
import GoSem.Claim
import GoSem.ClaimJoined
import GoSem.ClaimMapViews
import Derived.JoinedTies
import Derived.KernelRfl
namespace Go.Proofs.Qxb6618127a
/- THE CELL 'sum', in the pinned program and in every row, IS THE sha256 OF THE DUMP (.gsa) THAT Qxb6618127aProg.lean LOADS. Nothing in Lean hashes anything: it is a label: what it is worth is what the hold of that sum in a sandbox is worth. -/
noncomputable def Try.pinned : Pinned := { name := "qxb6618127a", sum := "ea228b0641118100c6ff012651a0a78ffde05cd8f2b095bca3248848205d6ae7", checked := Try.checked }
namespace Rows
def none {H : Type} : Left H := { results := [], args := [] }

/-- 'zzlaws_nbd_b1.FnReadPiecesMatchesChunkModel': WHATEVER THE INPUT: true; the input reads as it did. -/
def fnReadPiecesMatchesChunkModelSpec : ChangeSpec := { name := "fnReadPiecesMatchesChunkModel", fn := fun _ => fun
  | [d1, d2, d3, d4] => { results := [.lit (.bool true)], args := [d1, d2, d3, d4] }
  | _ => none }
def fnReadPiecesMatchesChunkModelRow : OpenClaim := { program := "qxb6618127a", sum := "ea228b0641118100c6ff012651a0a78ffde05cd8f2b095bca3248848205d6ae7", func := "example.com/holdfast/holdfast/zzlaws_nbd_b1.FnReadPiecesMatchesChunkModel", spec := "fnReadPiecesMatchesChunkModel", unfollowed := true, recurses := true, apart := false }
def FnReadPiecesMatchesChunkModelSaid : Prop := fnReadPiecesMatchesChunkModelRow.holds Try.pinned (OpenSpec.ofChange fnReadPiecesMatchesChunkModelSpec)

/-- ITS FALSE NEIGHBOUR: 'it returns false'. Refute it at one input. -/
def fnReadPiecesMatchesChunkModelWrong : ChangeSpec := { name := "fnReadPiecesMatchesChunkModel", fn := fun _ => fun
  | [d1, d2, d3, d4] => { results := [.lit (.bool false)], args := [d1, d2, d3, d4] }
  | _ => none }
def FnReadPiecesMatchesChunkModelWrongFalsely : Prop := fnReadPiecesMatchesChunkModelRow.holds Try.pinned (OpenSpec.ofChange fnReadPiecesMatchesChunkModelWrong)

/-- 'zzlaws_nbd_b1.FnReadPiecesIgnoresEmptyExtentsAndTiles': WHATEVER THE INPUT: true; the input reads as it did. -/
def fnReadPiecesIgnoresEmptyExtentsAndTilesSpec : ChangeSpec := { name := "fnReadPiecesIgnoresEmptyExtentsAndTiles", fn := fun _ => fun
  | [d1, d2, d3, d4, d5, d6, d7] => { results := [.lit (.bool true)], args := [d1, d2, d3, d4, d5, d6, d7] }
  | _ => none }
def fnReadPiecesIgnoresEmptyExtentsAndTilesRow : OpenClaim := { program := "qxb6618127a", sum := "ea228b0641118100c6ff012651a0a78ffde05cd8f2b095bca3248848205d6ae7", func := "example.com/holdfast/holdfast/zzlaws_nbd_b1.FnReadPiecesIgnoresEmptyExtentsAndTiles", spec := "fnReadPiecesIgnoresEmptyExtentsAndTiles", unfollowed := true, recurses := true, apart := false }
def FnReadPiecesIgnoresEmptyExtentsAndTilesSaid : Prop := fnReadPiecesIgnoresEmptyExtentsAndTilesRow.holds Try.pinned (OpenSpec.ofChange fnReadPiecesIgnoresEmptyExtentsAndTilesSpec)

/-- ITS FALSE NEIGHBOUR: 'it returns false'. Refute it at one input. -/
def fnReadPiecesIgnoresEmptyExtentsAndTilesWrong : ChangeSpec := { name := "fnReadPiecesIgnoresEmptyExtentsAndTiles", fn := fun _ => fun
  | [d1, d2, d3, d4, d5, d6, d7] => { results := [.lit (.bool false)], args := [d1, d2, d3, d4, d5, d6, d7] }
  | _ => none }
def FnReadPiecesIgnoresEmptyExtentsAndTilesWrongFalsely : Prop := fnReadPiecesIgnoresEmptyExtentsAndTilesRow.holds Try.pinned (OpenSpec.ofChange fnReadPiecesIgnoresEmptyExtentsAndTilesWrong)

/-- 'zzlaws_nbd_b1.FnTakeReturnsLastAndRemovesIt': WHATEVER THE INPUT: true; the input reads as it did. -/
def fnTakeReturnsLastAndRemovesItSpec : ChangeSpec := { name := "fnTakeReturnsLastAndRemovesIt", fn := fun _ => fun
  | [d1, d2, d3] => { results := [.lit (.bool true)], args := [d1, d2, d3] }
  | _ => none }
def fnTakeReturnsLastAndRemovesItRow : OpenClaim := { program := "qxb6618127a", sum := "ea228b0641118100c6ff012651a0a78ffde05cd8f2b095bca3248848205d6ae7", func := "example.com/holdfast/holdfast/zzlaws_nbd_b1.FnTakeReturnsLastAndRemovesIt", spec := "fnTakeReturnsLastAndRemovesIt", apart := false }
def FnTakeReturnsLastAndRemovesItSaid : Prop := fnTakeReturnsLastAndRemovesItRow.holds Try.pinned (OpenSpec.ofChange fnTakeReturnsLastAndRemovesItSpec)

/-- ITS FALSE NEIGHBOUR: 'it returns false'. Refute it at one input. -/
def fnTakeReturnsLastAndRemovesItWrong : ChangeSpec := { name := "fnTakeReturnsLastAndRemovesIt", fn := fun _ => fun
  | [d1, d2, d3] => { results := [.lit (.bool false)], args := [d1, d2, d3] }
  | _ => none }
def FnTakeReturnsLastAndRemovesItWrongFalsely : Prop := fnTakeReturnsLastAndRemovesItRow.holds Try.pinned (OpenSpec.ofChange fnTakeReturnsLastAndRemovesItWrong)

/-- 'zzlaws_nbd_b1.FnTakeDrainsEveryKeyOnce': WHATEVER THE INPUT: true; the input reads as it did. -/
def fnTakeDrainsEveryKeyOnceSpec : ChangeSpec := { name := "fnTakeDrainsEveryKeyOnce", fn := fun _ => fun
  | [d1, d2] => { results := [.lit (.bool true)], args := [d1, d2] }
  | _ => none }
def fnTakeDrainsEveryKeyOnceRow : OpenClaim := { program := "qxb6618127a", sum := "ea228b0641118100c6ff012651a0a78ffde05cd8f2b095bca3248848205d6ae7", func := "example.com/holdfast/holdfast/zzlaws_nbd_b1.FnTakeDrainsEveryKeyOnce", spec := "fnTakeDrainsEveryKeyOnce", apart := false }
def FnTakeDrainsEveryKeyOnceSaid : Prop := fnTakeDrainsEveryKeyOnceRow.holds Try.pinned (OpenSpec.ofChange fnTakeDrainsEveryKeyOnceSpec)

/-- ITS FALSE NEIGHBOUR: 'it returns false'. Refute it at one input. -/
def fnTakeDrainsEveryKeyOnceWrong : ChangeSpec := { name := "fnTakeDrainsEveryKeyOnce", fn := fun _ => fun
  | [d1, d2] => { results := [.lit (.bool false)], args := [d1, d2] }
  | _ => none }
def FnTakeDrainsEveryKeyOnceWrongFalsely : Prop := fnTakeDrainsEveryKeyOnceRow.holds Try.pinned (OpenSpec.ofChange fnTakeDrainsEveryKeyOnceWrong)

end Rows
end Go.Proofs.Qxb6618127a
