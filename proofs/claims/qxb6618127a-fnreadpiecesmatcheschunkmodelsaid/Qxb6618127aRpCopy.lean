/-
  'a copy first': the copy of a slice of integers that came in, and rows filled within their capacity.
-/
import Derived.Test.Qxb6618127aRpTile
import Derived.Deep.DeepCutAuto
import Derived.Deep.CutBlock
import Derived.Laws.CopyOwn
namespace Go.Proofs.Qxb6618127a.Rp
open Go.RowKit Go.WideMaps Go.Maps

theorem size2 (w : World) : (sizeOf 2).run Try.prog w = .ok 1 w := by kernel_rfl
theorem size30 (w : World) : (sizeOf 30).run Try.prog w = .ok 1 w := by kernel_rfl
theorem info30 : (Try.prog.info? 30).map (fun i => (i.zero, i.size, i.bytes)) = some (some (.int .u32 0), 1, 4) := by kernel_rfl

theorem index_one {t e : TypeId} (ht : Try.prog.underlying t = some (.slice e)) (hs : ∀ w, (sizeOf e).run Try.prog w = .ok 1 w) (b o n c k : Nat) (h : k < n) (w : World) : (Instr.indexAt t (.slice (some ⟨b, o, none⟩) n c) (.int .i64 (k : Int))).run Try.prog w = .ok (.pointer (some ⟨b, o + k, none⟩)) w := by
  by_cases h0 : k = 0
  · subst h0
    simp [Instr.indexAt, run_underlying ht, asIntOf, h, Addr.add, Result.andThen, hs]
  · simp [Instr.indexAt, run_underlying ht, asIntOf, h, h0, Addr.add, Result.andThen, hs]

/-- A row of the call's own, as a slice of integers. -/
theorem ints_of_row {t e : TypeId} {kind : IntKind} (ht : Try.prog.underlying t = some (.slice e)) (hs : ∀ w, (sizeOf e).run Try.prog w = .ok 1 w) {w : World} {g n c : Nat} {Z : Nat → Int} (hg : g < w.heap.size) (h : ∀ i, i < n → w.cell? ⟨g, i, none⟩ = some (.int kind (Z i))) :
    Ints t kind w (some ⟨g, 0, none⟩) n c g 0 Z :=
  ⟨fun k w' hk => index_one ht hs g 0 n c k hk w', fun j hj => by rw [Nat.zero_add]; exact h j hj, fun _ => hg, fun _ => rfl⟩

theorem copy_ints {t e : TypeId} {kind : IntKind} (ht : Try.prog.underlying t = some (.slice e)) (hs : ∀ w, (sizeOf e).run Try.prog w = .ok 1 w) (hsz : (Try.prog.info? e).map (·.size) = some 1) (z : Array Value) (w : World) (a : Option Addr) (m c b o : Nat) (Z : Nat → Int) (h : Ints t kind w a m c b o Z) :
    ∃ w2, (∀ ty, (Builtin.copy_ #[t, t] ty #[.slice (some ⟨w.heap.size, 0, none⟩) m m, .slice a m c]).run Try.prog (w.alloc (.cells (madeCells z m) e)) = .ok (goInt m) w2) ∧ Ints t kind w2 (some ⟨w.heap.size, 0, none⟩) m m w.heap.size 0 Z ∧ Below w.heap.size w w2 := by
  by_cases h0 : m = 0
  · subst h0
    refine ⟨w.alloc (.cells (madeCells z 0) e), fun ty => run_copy_none (P := Try.prog) _ t t ty e _ _ _ _ _ _ ht hsz (by simp), ints_of_row ht hs (by simp) (fun i hi => absurd hi (by omega)), (Below.refl _ _).alloc (Nat.le_refl _) _⟩
  · have ha := h.addr (by omega)
    subst ha
    have hb := h.lt (by omega)
    have hl : ((List.range m).map (fun i => Value.int kind (Z i))).length = m := by simp
    have hr := fun ty => run_copy_row (P := Try.prog) (w.alloc (.cells (madeCells z m) e)) t t ty e w.heap.size 0 m m ⟨b, o, none⟩ m c (madeCells z m) e ((List.range m).map (fun i => Value.int kind (Z i))) ht hsz (heap_alloc_new w _) (by simp)
      (fun j v hj => by
        rw [List.getElem?_map] at hj
        by_cases hjm : j < m
        · rw [List.getElem?_range hjm] at hj
          have hv : Value.int kind (Z j) = v := by simpa using hj
          have hadd : (⟨b, o, none⟩ : Addr).add j = ⟨b, o + j, none⟩ := by unfold Addr.add; split <;> simp_all
          rw [← hv, hadd, World.cell?_alloc_lt _ _ _ (by exact hb)]
          exact h.cell j hjm
        · rw [List.getElem?_eq_none (by simpa using hjm)] at hj
          simp at hj)
      (by rw [hl, size_madeCells]; omega) (fun v hv => by
        simp at hv
        obtain ⟨i, _, rfl⟩ := hv
        rfl)
    have e1 : ((madeCells z m).toList.take 0 ++ (List.range m).map (fun i => Value.int kind (Z i)) ++ (madeCells z m).toList.drop (0 + ((List.range m).map (fun i => Value.int kind (Z i))).length)) = (List.range m).map (fun i => Value.int kind (Z i)) := by
      rw [hl, List.drop_of_length_le (by rw [Array.length_toList, size_madeCells]; omega)]
      simp
    rw [e1, hl] at hr
    refine ⟨_, hr, ints_of_row ht hs (by simp [World.setRow]) (fun i hi => ?_), below_setRow ((Below.refl _ _).alloc (Nat.le_refl _) _) (Nat.le_refl _) _⟩
    rw [cell_of_row _ _ i _ _ _ (setRow_heap _ w.heap.size (madeCells z m) _ e _ (heap_alloc_new w _))]
    simp [hi]

end Go.Proofs.Qxb6618127a.Rp
