/-
  What the walks are told of a slice of rules that came in, out of its reading.
-/
import Derived.Test.Qxb6618784aSpBase
import Derived.ProofKit
import Derived.OpenShut
import Derived.ShutString
import Derived.ChangeOld
import Derived.Below
import Derived.Deep.Slices
namespace Go.Proofs.Qxb6618784a.Sp
open Go.ChangeShapes Go.WideShapes Go.ChangeAt Go.RowKit

theorem own : ownKnob Try.prog.godebug = none := by kernel_rfl
theorem laidOut : laidOutB Try.prog = true := by kernel_rfl
theorem cells41 : Try.prog.cellsOf 41 = 6 := by kernel_rfl
theorem cells9 : Try.prog.cellsOf 9 = 1 := by kernel_rfl
theorem cells4 : Try.prog.cellsOf 4 = 1 := by kernel_rfl
theorem cells5 : Try.prog.cellsOf 5 = 1 := by kernel_rfl
theorem cells21 : Try.prog.cellsOf 21 = 1 := by kernel_rfl
theorem size41 (w : World) : (sizeOf 41).run Try.prog w = .ok 6 w := by
  obtain ⟨i0, hi0, hz⟩ : ∃ i, Try.prog.info? 41 = some i ∧ i.size = 6 := by
    have : (Try.prog.info? 41).map (·.size) = some 6 := by kernel_rfl
    cases h : Try.prog.info? 41 with
    | none => simp [h] at this
    | some i => exact ⟨i, rfl, by simpa [h] using this⟩
  simp [sizeOf, typeInfo, hi0, hz]

theorem index22 (b o n c k : Nat) (h : k < n) (w : World) : (Instr.indexAt 22 (.slice (some ⟨b, o, none⟩) n c) (.int .i64 (k : Int))).run Try.prog w = .ok (.pointer (some ⟨b, o + k * 6, none⟩)) w := by
  by_cases h0 : k = 0
  · subst h0
    simp [Instr.indexAt, run_underlying Try.underlying22, asIntOf, h, Addr.add, Result.andThen]
  · have h6 : ¬ k * 6 = 0 := by omega
    simp [Instr.indexAt, run_underlying Try.underlying22, asIntOf, h, h6, Addr.add, Result.andThen]

/-- What a rule's six cells hold. -/
def ruleCells (R : Rule) : List Value := [.string R.id, .bool R.deny, .bool R.every, .int .u8 R.reads, .int .i32 R.order, .int .i32 R.rank]
def RuleOk (R : Rule) : Prop := (0 ≤ R.reads ∧ R.reads ≤ 255) ∧ R.rank ≤ 2147483647
instance : Inhabited Rule := ⟨⟨ByteArray.empty, false, false, 0, 0, 0⟩⟩

theorem list6 {α : Type} : ∀ (l : List α), l.length = 6 → ∃ a b c d e f, l = [a, b, c, d, e, f]
  | [a, b, c, d, e, f], _ => ⟨a, b, c, d, e, f, rfl⟩

theorem rule_of {H : Type} {enc : TypeId × Value → H} {W : World} {base fuel : Nat} {cs : List Value} {x : DataW H × List MemPlace} {sp : Nat → Bool} {held : Bool}
    (h : DataW.trod enc Try.prog W base sp held fuel 41 cs = some x) : ∃ R : Rule, cs = ruleCells R ∧ RuleOk R := by
  obtain ⟨xs, n, _, _, hl, hlen, hf⟩ := DataW.trod_struct Try.underlying41 h
  rw [cells41] at hl
  obtain ⟨v0, v1, v2, v3, v4, v5, rfl⟩ := list6 cs hl
  obtain ⟨y0, y1, y2, y3, y4, y5, rfl⟩ := list6 xs hlen
  have f0 := hf 0 _ rfl
  have f1 := hf 1 _ rfl
  have f2 := hf 2 _ rfl
  have f3 := hf 3 _ rfl
  have f4 := hf 4 _ rfl
  have f5 := hf 5 _ rfl
  simp [cells9, cells4, cells5, cells21] at f0 f1 f2 f3 f4 f5
  obtain ⟨s, e0, _⟩ := DataW.trod_string Try.underlying9 f0
  obtain ⟨d, e1, _⟩ := DataW.trod_bool Try.underlying4 f1
  obtain ⟨e, e2, _⟩ := DataW.trod_bool Try.underlying4 f2
  obtain ⟨rd, e3, _, w3⟩ := DataW.trod_int Try.underlying5 f3
  obtain ⟨od, e4, _, _⟩ := DataW.trod_int Try.underlying21 f4
  obtain ⟨rk, e5, _, w5⟩ := DataW.trod_int Try.underlying21 f5
  simp at e0 e1 e2 e3 e4 e5
  subst e0 e1 e2 e3 e4 e5
  refine ⟨⟨s, d, e, rd, od, rk⟩, rfl, ?_, ?_⟩
  · exact bounds_u8 w3
  · exact (bounds_i32 w5).2

/-- Out of the reading of a slice of rules. -/
theorem rules_of {H : Type} {enc : TypeId × Value → H} {W : World} {fuel : Nat} {a : Option Addr} {n c : Nat} {y : DataW H × List MemPlace} {sp : Nat → Bool}
    (hlt : ∀ x ∈ y.2, x.block < W.heap.size)
    (hf : DataW.trod enc Try.prog W 0 sp true fuel 22 (Value.slice a n c).cells.toList = some y) : ∃ b o r, Rules W a n c b o r := by
  by_cases h0 : n = 0
  · subst h0
    exact ⟨0, 0, fun _ => default, ⟨fun k _ h => absurd h (by omega), fun k h => absurd h (by omega), fun k h => absurd h (by omega), fun k h => absurd h (by omega), fun k h => absurd h (by omega), fun k h => absurd h (by omega), fun k h => absurd h (by omega), fun h => absurd h (by omega), fun k h => absurd h (by omega), fun k h => absurd h (by omega)⟩⟩
  · rcases Go.Deep.open_slice Try.underlying22 hf with ⟨hcs, _⟩ | ⟨x, l, c', m, n', D, Pl, hcs, _, hl, hm, hmm, hx, hcell⟩
    · simp [Value.cells] at hcs
      omega
    · simp [Value.cells] at hcs
      obtain ⟨rfl, rfl, rfl⟩ := hcs
      have hnm : n ≤ m := by rw [hmm]; split <;> omega
      rw [cells41] at hcell hx
      obtain ⟨r, hr⟩ := Go.Deep.choose_lt (α := Rule) (n := n) (p := fun i R => (∀ j, j < 6 → W.cell? ((x.add (i * 6)).add j) = (ruleCells R)[j]?) ∧ RuleOk R) (fun i hi => by
        obtain ⟨cs', h1, h2⟩ := hcell i (by omega)
        obtain ⟨R, rfl, hR⟩ := rule_of h2
        obtain ⟨_, _, h3⟩ := World.cells?_some h1
        exact ⟨R, h3, hR⟩)
      obtain ⟨b, o, spot⟩ := x
      have hspot : spot = none := by
        have := (hr 0 (by omega)).1 0 (by omega)
        simpa [Addr.add, ruleCells] using World.cell?_spot this
      subst hspot
      have hb : b < W.heap.size := hlt (.cell b o) (by rw [hx]; exact List.mem_append_left _ (MemPlace.mem_row.2 ⟨0, by omega, by simp⟩))
      have hc : ∀ i j, i < n → j < 6 → W.cell? ⟨b, o + i * 6 + j, none⟩ = (ruleCells (r i))[j]? := fun i j hi hj => by
        have := (hr i hi).1 j hj
        rwa [add_plain, add_plain] at this
      exact ⟨b, o, r, ⟨fun k w' h => index22 b o n c k h w', fun k h => hc k 0 h (by omega), fun k h => hc k 1 h (by omega), fun k h => hc k 2 h (by omega), fun k h => hc k 3 h (by omega), fun k h => hc k 4 h (by omega), fun k h => hc k 5 h (by omega), fun _ => hb, fun k h => (hr k h).2.1, fun k h => (hr k h).2.2⟩⟩

end Go.Proofs.Qxb6618784a.Sp
