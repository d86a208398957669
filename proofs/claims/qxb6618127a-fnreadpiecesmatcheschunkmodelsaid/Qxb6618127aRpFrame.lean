/-
  What the walks of the two laws over readPieces are told of a slice of integers that came in.
-/
import Derived.Test.Qxb6618127aRpCopy
import Derived.ProofKit
import Derived.OpenShut
namespace Go.Proofs.Qxb6618127a.Rp
open Go.RowKit

/-- A slice of integers that came in: nil, or a row of 'cap' cells. -/
def IsRow (k : IntKind) (w : World) (a : Option Addr) (len cap : Nat) (zs : List Int) : Prop :=
  (a = none ∧ len = 0 ∧ cap = 0 ∧ zs = []) ∨
  ∃ x, a = some x ∧ len ≤ cap ∧ cap ≤ maxLen ∧ zs.length = cap ∧ (∀ i, i < zs.length → w.cell? (x.add i) = some (.int k (zs.getD i 0))) ∧ ∀ n ∈ zs, (Lit.int k n).wf = true

theorem cell_lt {w : World} {b o : Nat} {v : Value} (h : w.cell? ⟨b, o, none⟩ = some v) : b < w.heap.size := by
  rcases Nat.lt_or_ge b w.heap.size with hb | hb
  · exact hb
  · simp [World.cell?, Array.getElem?_eq_none hb] at h

theorem ints_of_isRow {t e : TypeId} {kind : IntKind} (ht : Try.prog.underlying t = some (.slice e)) (hs : ∀ w, (sizeOf e).run Try.prog w = .ok 1 w) {w : World} {a : Option Addr} {n c : Nat} {zs : List Int} (h : IsRow kind w a n c zs) :
    ∃ b o, Ints t kind w a n c b o (fun i => zs.getD i 0) ∧ ∀ i, i < n → (Lit.int kind (zs.getD i 0)).wf = true := by
  by_cases h0 : n = 0
  · subst h0
    exact ⟨0, 0, ⟨fun k _ hk => absurd hk (by omega), fun k hk => absurd hk (by omega), fun hk => absurd hk (by omega), fun hk => absurd hk (by omega)⟩, fun i hi => absurd hi (by omega)⟩
  · rcases h with ⟨_, h1, _⟩ | ⟨x, rfl, hl, _, hz, hc, hw⟩
    · exact absurd h1 h0
    · obtain ⟨b, o, spot⟩ := x
      have hspot : spot = none := by simpa [Addr.add] using World.cell?_spot (hc 0 (by omega))
      subst hspot
      have hcell : ∀ j, j < n → w.cell? ⟨b, o + j, none⟩ = some (.int kind (zs.getD j 0)) := fun j hj => by
        have hadd : (⟨b, o, none⟩ : Addr).add j = ⟨b, o + j, none⟩ := by unfold Addr.add; split <;> simp_all
        rw [← hadd]; exact hc j (by omega)
      refine ⟨b, o, ⟨fun k w' hk => index_one ht hs b o n c k hk w', hcell, fun _ => cell_lt (hcell 0 (by omega)), fun _ => rfl⟩, fun i hi => ?_⟩
      rw [List.getD, List.getElem?_eq_getElem (by omega)]
      exact hw _ (List.getElem_mem _)

end Go.Proofs.Qxb6618127a.Rp
