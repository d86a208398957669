/-
  What the walks are told of a slice of texts that came in, out of its reading.
-/
import Derived.Test.Qxb6618127aTkBase
import Derived.ProofKit
import Derived.OpenShut
import Derived.ShutString
import Derived.ChangeOld
import Derived.Below
namespace Go.Proofs.Qxb6618127a
open Go.ChangeShapes Go.WideShapes Go.ChangeAt Go.RowKit

theorem cells9 : Try.prog.cellsOf 9 = 1 := by kernel_rfl
theorem own : ownKnob Try.prog.godebug = none := by kernel_rfl
theorem laidOut : laidOutB Try.prog = true := by kernel_rfl

theorem index33 (b o n c k : Nat) (h : k < n) (w : World) : (Instr.indexAt 33 (.slice (some ⟨b, o, none⟩) n c) (.int .i64 (k : Int))).run Try.prog w = .ok (.pointer (some ⟨b, o + k, none⟩)) w := by
  by_cases h0 : k = 0
  · subst h0
    simp [Instr.indexAt, run_underlying Try.underlying33, asIntOf, h, Addr.add, Result.andThen]
  · simp [Instr.indexAt, run_underlying Try.underlying33, asIntOf, h, h0, Addr.add, Result.andThen]

/-- Out of the reading of a slice of texts. -/
theorem strs_of {H : Type} {enc : TypeId × Value → H} {W : World} {fuel : Nat} {a : Option Addr} {n c : Nat} {y : DataW H × List MemPlace} {sp : Nat → Bool}
    (hlt : ∀ x ∈ y.2, x.block < W.heap.size)
    (hf : DataW.trod enc Try.prog W 0 sp true fuel 33 (Value.slice a n c).cells.toList = some y) : ∃ b o ss, Strs W a n c b o ss ∧ (0 < n → b < W.heap.size) := by
  rcases open_strings Try.underlying33 Try.underlying9 cells9 hf with ⟨hcs, hx⟩ | ⟨x, l, c', ss, hcs, _, hl, hm, hz, hx, hcell, hws⟩
  · simp [Value.cells] at hcs
    obtain ⟨rfl, rfl, rfl⟩ := hcs
    exact ⟨0, 0, [], ⟨fun k _ h => absurd h (by omega), fun k h => absurd h (by omega)⟩, fun h => absurd h (by omega)⟩
  · simp [Value.cells] at hcs
    obtain ⟨rfl, rfl, rfl⟩ := hcs
    by_cases h0 : n = 0
    · subst h0
      exact ⟨0, 0, [], ⟨fun k _ h => absurd h (by omega), fun k h => absurd h (by omega)⟩, fun h => absurd h (by omega)⟩
    · have hss : n ≤ ss.length := by rw [hz]; split <;> omega
      obtain ⟨b, o, spot⟩ := x
      have hspot : spot = none := by simpa [Addr.add] using World.cell?_spot (hcell 0 (by omega))
      subst hspot
      have hb : b < W.heap.size := hlt (.cell b o) (by rw [hx]; exact MemPlace.mem_row.2 ⟨0, by omega, by simp⟩)
      exact ⟨b, o, ss, ⟨fun k w' h => index33 b o n c k h w', fun k h => by rw [← add_plain]; exact hcell k (by omega)⟩, fun _ => hb⟩
end Go.Proofs.Qxb6618127a
