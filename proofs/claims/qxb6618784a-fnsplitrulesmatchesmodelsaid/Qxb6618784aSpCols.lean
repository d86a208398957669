/-
  zzRuleColumns (9) and ZZnewRules (8), walked: the rules column by column, then the rules built of the columns.
-/
import Derived.Test.Qxb6618784aSpBase
namespace Go.Proofs.Qxb6618784a.Sp
open Go.RowKit Go.WideMaps Go.Maps

/-- 'make([]T, n)': a row of n elements, whatever it holds at first. -/
theorem make_row {t e : TypeId} {z : Value} {size bytes : Nat} (ht : Try.prog.underlying t = some (.slice e)) (hinfo : (Try.prog.info? e).map (fun i => (i.zero, i.size, i.bytes)) = some (some z, size, bytes)) (n : Nat) (hb : bytes * n ≤ 281474976710656) (h63 : n ≤ 9223372036854775807) (w : World) :
    (Instr.makeSlice t (.int .i64 (n : Int)) (.int .i64 (n : Int))).run Try.prog w = .ok (.slice (some ⟨w.heap.size, 0, none⟩) n n) (w.alloc (.cells (madeCells z.cells (n * size)) e)) := by
  obtain ⟨i, hi, h0, h1, h2⟩ := info_parts hinfo
  have hb' : (i.bytes : Int) * (n : Int) ≤ 281474976710656 := by
    have h : ((bytes * n : Nat) : Int) ≤ 281474976710656 := by omega
    rwa [Int.natCast_mul, ← h2] at h
  have hr := run_make (P := Try.prog) w t e i z ht hi h0 .i64 .i64 n n (by omega) (Int.le_refl _) hb' (by omega)
  rw [h1] at hr
  simpa only [Int.toNat_natCast] using hr

theorem rowIs_of_made (w : World) (z : Array Value) (n : Nat) (e : TypeId) : ∃ f, (w.alloc (.cells (madeCells z n) e)).rowIs w.heap.size e n f :=
  ⟨fun i => ((madeCells z n)[i]?).getD undef, madeCells z n, heap_alloc_new w _, by simp [madeCells], fun i hi => by
    obtain ⟨v, hv⟩ : ∃ v, (madeCells z n)[i]? = some v := ⟨_, Array.getElem?_eq_getElem (by simpa [madeCells] using hi)⟩
    show (madeCells z n)[i]? = some (((madeCells z n)[i]?).getD undef)
    rw [hv]
    rfl⟩

theorem info9 : (Try.prog.info? 9).map (fun i => (i.zero, i.size, i.bytes)) = some (some (.string ByteArray.empty), 1, 16) := by kernel_rfl
theorem info4 : (Try.prog.info? 4).map (fun i => (i.zero, i.size, i.bytes)) = some (some (.bool false), 1, 1) := by kernel_rfl
theorem info5 : (Try.prog.info? 5).map (fun i => (i.zero, i.size, i.bytes)) = some (some (.int .u8 0), 1, 1) := by kernel_rfl
theorem info21 : (Try.prog.info? 21).map (fun i => (i.zero, i.size, i.bytes)) = some (some (.int .i32 0), 1, 4) := by kernel_rfl

/-- The columns, in six rows of their own. -/
structure Cols (w : World) (g n : Nat) (r : Nat → Rule) : Prop where
  c0 : ∀ k, k < n → w.cell? ⟨g, k, none⟩ = some (.string (r k).id)
  c1 : ∀ k, k < n → w.cell? ⟨g + 1, k, none⟩ = some (.bool (r k).deny)
  c2 : ∀ k, k < n → w.cell? ⟨g + 1 + 1, k, none⟩ = some (.bool (r k).every)
  c3 : ∀ k, k < n → w.cell? ⟨g + 1 + 1 + 1, k, none⟩ = some (.int .u8 (r k).reads)
  c4 : ∀ k, k < n → w.cell? ⟨g + 1 + 1 + 1 + 1, k, none⟩ = some (.int .i32 (r k).order)
  c5 : ∀ k, k < n → w.cell? ⟨g + 1 + 1 + 1 + 1 + 1, k, none⟩ = some (.int .i32 (r k).rank)
  hi : g + 1 + 1 + 1 + 1 + 1 < w.heap.size

/-- The six rows behind k rounds. -/
structure Six (G n k : Nat) (r : Nat → Rule) (w : World) : Prop where
  r0 : ∃ f, w.rowIs G 9 n f ∧ ∀ i, i < k → f i = .string (r i).id
  r1 : ∃ f, w.rowIs (G + 1) 4 n f ∧ ∀ i, i < k → f i = .bool (r i).deny
  r2 : ∃ f, w.rowIs (G + 1 + 1) 4 n f ∧ ∀ i, i < k → f i = .bool (r i).every
  r3 : ∃ f, w.rowIs (G + 1 + 1 + 1) 5 n f ∧ ∀ i, i < k → f i = .int .u8 (r i).reads
  r4 : ∃ f, w.rowIs (G + 1 + 1 + 1 + 1) 21 n f ∧ ∀ i, i < k → f i = .int .i32 (r i).order
  r5 : ∃ f, w.rowIs (G + 1 + 1 + 1 + 1 + 1) 21 n f ∧ ∀ i, i < k → f i = .int .i32 (r i).rank

theorem row_step {w : World} {b n k : Nat} {t : TypeId} {V : Nat → Value} (h : ∃ f, w.rowIs b t n f ∧ ∀ i, i < k → f i = V i) : ∃ f, (w.setCell ⟨b, k, none⟩ (V k)).rowIs b t n f ∧ ∀ i, i < k + 1 → f i = V i := by
  obtain ⟨f, hf, hv⟩ := h
  refine ⟨_, hf.set k (V k), fun i hi => ?_⟩
  by_cases e : i = k
  · subst e; simp
  · show (if i = k then V k else f i) = V i
    rw [if_neg e]
    exact hv i (by omega)
theorem row_other {w : World} {b n k : Nat} {t : TypeId} {V : Nat → Value} (h : ∃ f, w.rowIs b t n f ∧ ∀ i, i < k → f i = V i) {a : Addr} (ha : b ≠ a.block) (v : Value) : ∃ f, (w.setCell a v).rowIs b t n f ∧ ∀ i, i < k → f i = V i := by
  obtain ⟨f, hf, hv⟩ := h
  exact ⟨f, hf.setOther ha v, hv⟩

theorem Six.step {G n k : Nat} {r : Nat → Rule} {w : World} (h : Six G n k r w) :
    Six G n (k + 1) r ((((((w.setCell ⟨G, k, none⟩ (.string (r k).id)).setCell ⟨G + 1, k, none⟩ (.bool (r k).deny)).setCell ⟨G + 1 + 1, k, none⟩ (.bool (r k).every)).setCell ⟨G + 1 + 1 + 1, k, none⟩ (.int .u8 (r k).reads)).setCell ⟨G + 1 + 1 + 1 + 1, k, none⟩ (.int .i32 (r k).order)).setCell ⟨G + 1 + 1 + 1 + 1 + 1, k, none⟩ (.int .i32 (r k).rank)) := by
  refine ⟨?_, ?_, ?_, ?_, ?_, ?_⟩
  · exact row_other (row_other (row_other (row_other (row_other (row_step (V := fun i => .string (r i).id) h.r0) (by simp) _) (by simp <;> omega) _) (by simp <;> omega) _) (by simp <;> omega) _) (by simp <;> omega) _
  · exact row_other (row_other (row_other (row_other (row_step (V := fun i => .bool (r i).deny) (row_other h.r1 (by simp) _)) (by simp) _) (by simp <;> omega) _) (by simp <;> omega) _) (by simp <;> omega) _
  · exact row_other (row_other (row_other (row_step (V := fun i => .bool (r i).every) (row_other (row_other h.r2 (by simp <;> omega) _) (by simp) _)) (by simp) _) (by simp <;> omega) _) (by simp <;> omega) _
  · exact row_other (row_other (row_step (V := fun i => .int .u8 (r i).reads) (row_other (row_other (row_other h.r3 (by simp <;> omega) _) (by simp <;> omega) _) (by simp) _)) (by simp) _) (by simp <;> omega) _
  · exact row_other (row_step (V := fun i => .int .i32 (r i).order) (row_other (row_other (row_other (row_other h.r4 (by simp <;> omega) _) (by simp <;> omega) _) (by simp <;> omega) _) (by simp) _)) (by simp) _
  · exact row_step (V := fun i => .int .i32 (r i).rank) (row_other (row_other (row_other (row_other (row_other h.r5 (by simp <;> omega) _) (by simp <;> omega) _) (by simp <;> omega) _) (by simp <;> omega) _) (by simp) _)

theorem cell_row {w : World} {b n k i : Nat} {t : TypeId} {V : Nat → Value} (h : ∃ f, w.rowIs b t n f ∧ ∀ i, i < k → f i = V i) (hk : i < k) (hn : i < n) : w.cell? ⟨b, i, none⟩ = some (V i) := by
  obtain ⟨f, hf, hv⟩ := h
  rw [hf.cell hn, hv i hk]

theorem cell_some {w : World} {b n k : Nat} {t : TypeId} {V : Nat → Value} (h : ∃ f, w.rowIs b t n f ∧ ∀ i, i < k → f i = V i) (hn : k < n) : ∃ v, w.cell? ⟨b, k, none⟩ = some v ∧ w.frozen? ⟨b, k, none⟩ = false := by
  obtain ⟨f, hf, hv⟩ := h
  exact ⟨_, hf.cell hn, hf.frozen k⟩

theorem Six.cols {G n : Nat} {r : Nat → Rule} {w : World} (h : Six G n n r w) : Cols w G n r := by
  obtain ⟨f5, h5, _⟩ := h.r5
  exact ⟨fun k hk => cell_row (V := fun i => .string (r i).id) h.r0 hk hk, fun k hk => cell_row (V := fun i => .bool (r i).deny) h.r1 hk hk, fun k hk => cell_row (V := fun i => .bool (r i).every) h.r2 hk hk, fun k hk => cell_row (V := fun i => .int .u8 (r i).reads) h.r3 hk hk, fun k hk => cell_row (V := fun i => .int .i32 (r i).order) h.r4 hk hk, fun k hk => cell_row (V := fun i => .int .i32 (r i).rank) h.r5 hk hk, h5.lt⟩

set_option maxHeartbeats 1000000 in
set_option maxRecDepth 100000 in
theorem cols_any (a : Option Addr) (n c b o : Nat) (r : Nat → Rule) (w : World) (hn : n ≤ 4096) (h : Rules w a n c b o r) :
    Calls Try.prog 9 #[.slice a n c] w fun e w' => (∃ g, e = .returned (.tuple #[.slice (some ⟨g, 0, none⟩) n n, .slice (some ⟨g + 1, 0, none⟩) n n, .slice (some ⟨g + 1 + 1, 0, none⟩) n n, .slice (some ⟨g + 1 + 1 + 1, 0, none⟩) n n, .slice (some ⟨g + 1 + 1 + 1 + 1, 0, none⟩) n n, .slice (some ⟨g + 1 + 1 + 1 + 1 + 1, 0, none⟩) n n]) ∧ Cols w' g n r) ∧ Below w.heap.size w w' := by
  have mk0 := make_row Try.underlying27 info9 n (by omega) (by omega)
  have mk1 := make_row Try.underlying28 info4 n (by omega) (by omega)
  have mk3 := make_row Try.underlying29 info5 n (by omega) (by omega)
  have mk4 := make_row Try.underlying30 info21 n (by omega) (by omega)
  have HR : Hid (Rules w a n c b o r) := h
  clear h
  go_enter Try.func9, Try.ntmps9
  go_wp2
  go_loopw [15] (fun i wr => ∃ k : Nat, k ≤ n ∧ i = .int .i64 k ∧ Six w.heap.size n k r wr ∧ Below w.heap.size w wr) (fun i _ => n - (intOf i).toNat)
  case atStart =>
    obtain ⟨f0, e0⟩ := rowIs_of_made w #[Value.string ByteArray.empty] n 9
    obtain ⟨f1, e1⟩ := rowIs_of_made (w.alloc (Obj.cells (madeCells #[Value.string ByteArray.empty] n) 9)) #[Value.bool false] n 4
    obtain ⟨f2, e2⟩ := rowIs_of_made ((w.alloc (Obj.cells (madeCells #[Value.string ByteArray.empty] n) 9)).alloc (Obj.cells (madeCells #[Value.bool false] n) 4)) #[Value.bool false] n 4
    obtain ⟨f3, e3⟩ := rowIs_of_made (((w.alloc (Obj.cells (madeCells #[Value.string ByteArray.empty] n) 9)).alloc (Obj.cells (madeCells #[Value.bool false] n) 4)).alloc (Obj.cells (madeCells #[Value.bool false] n) 4)) #[Value.int IntKind.u8 0] n 5
    obtain ⟨f4, e4⟩ := rowIs_of_made ((((w.alloc (Obj.cells (madeCells #[Value.string ByteArray.empty] n) 9)).alloc (Obj.cells (madeCells #[Value.bool false] n) 4)).alloc (Obj.cells (madeCells #[Value.bool false] n) 4)).alloc (Obj.cells (madeCells #[Value.int IntKind.u8 0] n) 5)) #[Value.int IntKind.i32 0] n 21
    obtain ⟨f5, e5⟩ := rowIs_of_made (((((w.alloc (Obj.cells (madeCells #[Value.string ByteArray.empty] n) 9)).alloc (Obj.cells (madeCells #[Value.bool false] n) 4)).alloc (Obj.cells (madeCells #[Value.bool false] n) 4)).alloc (Obj.cells (madeCells #[Value.int IntKind.u8 0] n) 5)).alloc (Obj.cells (madeCells #[Value.int IntKind.i32 0] n) 21)) #[Value.int IntKind.i32 0] n 21
    simp only [World.size_alloc] at e1 e2 e3 e4 e5
    refine ⟨0, Nat.zero_le _, rfl, ⟨⟨f0, ((((e0.alloc _).alloc _).alloc _).alloc _).alloc _, fun i hi => absurd hi (by omega)⟩, ⟨f1, (((e1.alloc _).alloc _).alloc _).alloc _, fun i hi => absurd hi (by omega)⟩, ⟨f2, ((e2.alloc _).alloc _).alloc _, fun i hi => absurd hi (by omega)⟩, ⟨f3, (e3.alloc _).alloc _, fun i hi => absurd hi (by omega)⟩, ⟨f4, e4.alloc _, fun i hi => absurd hi (by omega)⟩, ⟨f5, e5, fun i hi => absurd hi (by omega)⟩⟩, ?_⟩
    exact ((((((Below.refl _ _).alloc (Nat.le_refl _) _).alloc (by simp) _).alloc (by simp <;> omega) _).alloc (by simp <;> omega) _).alloc (by simp <;> omega) _).alloc (by simp <;> omega) _
  case round =>
    obtain ⟨k, hk, rfl, hsix, hnx⟩ := hrel
    clear mk0 mk1 mk3 mk4
    by_cases hlt : k < n
    · have hb := HR.out.lt (by omega)
      have ix := fun w' => HR.out.idx k w' hlt
      have z0 := (hnx.cell (p := ⟨b, o + k * 6, none⟩) hb).trans (HR.out.c0 k hlt)
      have z1 := (hnx.cell (p := ⟨b, o + k * 6 + 1, none⟩) hb).trans (HR.out.c1 k hlt)
      have z2 := (hnx.cell (p := ⟨b, o + k * 6 + 2, none⟩) hb).trans (HR.out.c2 k hlt)
      have z3 := (hnx.cell (p := ⟨b, o + k * 6 + 3, none⟩) hb).trans (HR.out.c3 k hlt)
      have z4 := (hnx.cell (p := ⟨b, o + k * 6 + 4, none⟩) hb).trans (HR.out.c4 k hlt)
      have z5 := (hnx.cell (p := ⟨b, o + k * 6 + 5, none⟩) hb).trans (HR.out.c5 k hlt)
      obtain ⟨v0, y0, x0⟩ := cell_some hsix.r0 hlt
      obtain ⟨v1, y1, x1⟩ := cell_some hsix.r1 hlt
      obtain ⟨v2, y2, x2⟩ := cell_some hsix.r2 hlt
      obtain ⟨v3, y3, x3⟩ := cell_some hsix.r3 hlt
      obtain ⟨v4, y4, x4⟩ := cell_some hsix.r4 hlt
      obtain ⟨v5, y5, x5⟩ := cell_some hsix.r5 hlt
      have HS : Hid (Six w.heap.size n (k + 1) r _) := hsix.step
      have HB : Hid (Below w.heap.size w wr) := hnx
      clear hsix hnx
      go_wp2
      go_roundw
      case rel => exact ⟨k + 1, by omega, by go_num, HS.out, (((((HB.out.setCell (Nat.le_refl _) _).setCell (by simp) _).setCell (by simp <;> omega) _).setCell (by simp <;> omega) _).setCell (by simp <;> omega) _).setCell (by simp <;> omega) _⟩
      case measure => simp [intOf]; omega
    · obtain rfl : k = n := by omega
      go_wp2
      exact bodyPost_ret (v := .tuple #[.slice (some ⟨w.heap.size, 0, none⟩) k k, .slice (some ⟨w.heap.size + 1, 0, none⟩) k k, .slice (some ⟨w.heap.size + 1 + 1, 0, none⟩) k k, .slice (some ⟨w.heap.size + 1 + 1 + 1, 0, none⟩) k k, .slice (some ⟨w.heap.size + 1 + 1 + 1 + 1, 0, none⟩) k k, .slice (some ⟨w.heap.size + 1 + 1 + 1 + 1 + 1, 0, none⟩) k k]) (by simp [results, Try.results9, go_sem]) rfl ⟨⟨_, rfl, hsix.cols⟩, hnx⟩

/-- The rules as they are built: what is read of them. -/
structure Built (w : World) (g n : Nat) (r : Nat → Rule) : Prop where
  dn : ∀ k, k < n → w.cell? ⟨g, k * 8 + 2, none⟩ = some (.bool (r k).deny)
  ev : ∀ k, k < n → w.cell? ⟨g, k * 8 + 3, none⟩ = some (.bool (r k).every)
  rd : ∀ k, k < n → w.cell? ⟨g, k * 8 + 4, none⟩ = some (.int .u8 (r k).reads)
  rk : ∀ k, k < n → w.cell? ⟨g, k * 8 + 7, none⟩ = some (.int .i32 (r k).rank)
  lt : g < w.heap.size

theorem info58 : (Try.prog.info? 58).map (fun i => (i.zero, i.size, i.bytes)) = some (some (.agg #[.string ByteArray.empty, .nilIface, .bool false, .bool false, .int .u8 0, .nilIface, .int .i32 0, .int .i32 0]), 8, 64) := by kernel_rfl

set_option maxHeartbeats 1000000 in
set_option maxRecDepth 100000 in
theorem build_any (g n : Nat) (r : Nat → Rule) (w : World) (hn : n ≤ 4096) (h : Cols w g n r) :
    Calls Try.prog 8 #[.slice (some ⟨g, 0, none⟩) n n, .slice (some ⟨g + 1, 0, none⟩) n n, .slice (some ⟨g + 1 + 1, 0, none⟩) n n, .slice (some ⟨g + 1 + 1 + 1, 0, none⟩) n n, .slice (some ⟨g + 1 + 1 + 1 + 1, 0, none⟩) n n, .slice (some ⟨g + 1 + 1 + 1 + 1 + 1, 0, none⟩) n n] w
      fun e w' => e = .returned (.slice (some ⟨w.heap.size, 0, none⟩) n n) ∧ Built w' w.heap.size n r ∧ Below w.heap.size w w' := by
  have mk0 := make_row Try.underlying25 info58 n (by omega) (by omega)
  have HC : Hid (Cols w g n r) := h
  have hi := h.hi
  clear h
  go_enter Try.func8, Try.ntmps8
  go_wp2
  go_loopw [20] (fun i wr => ∃ (k : Nat) (f : Nat → Value), k ≤ n ∧ i = .int .i64 k ∧ wr.rowIs w.heap.size 58 (n * 8) f ∧ (∀ i, i < k → f (i * 8 + 2) = .bool (r i).deny ∧ f (i * 8 + 3) = .bool (r i).every ∧ f (i * 8 + 4) = .int .u8 (r i).reads ∧ f (i * 8 + 7) = .int .i32 (r i).rank) ∧ Below w.heap.size w wr) (fun i _ => n - (intOf i).toNat)
  case atStart =>
    obtain ⟨f0, e0⟩ := rowIs_of_made w (Value.agg #[.string ByteArray.empty, .nilIface, .bool false, .bool false, .int .u8 0, .nilIface, .int .i32 0, .int .i32 0]).cells (n * 8) 58
    exact ⟨0, f0, Nat.zero_le _, rfl, e0, fun i hi => absurd hi (by omega), (Below.refl _ _).alloc (Nat.le_refl _) _⟩
  case round =>
    obtain ⟨k, f, hk, rfl, hrow, hcell, hnx⟩ := hrel
    clear mk0
    by_cases hlt : k < n
    · have z0 := (hnx.cell (p := ⟨g, k, none⟩) (by show g < _; omega)).trans (HC.out.c0 k hlt)
      have z1 := (hnx.cell (p := ⟨g + 1, k, none⟩) (by show g + 1 < _; omega)).trans (HC.out.c1 k hlt)
      have z2 := (hnx.cell (p := ⟨g + 1 + 1, k, none⟩) (by show g + 1 + 1 < _; omega)).trans (HC.out.c2 k hlt)
      have z3 := (hnx.cell (p := ⟨g + 1 + 1 + 1, k, none⟩) (by show g + 1 + 1 + 1 < _; omega)).trans (HC.out.c3 k hlt)
      have z4 := (hnx.cell (p := ⟨g + 1 + 1 + 1 + 1, k, none⟩) (by show g + 1 + 1 + 1 + 1 < _; omega)).trans (HC.out.c4 k hlt)
      have z5 := (hnx.cell (p := ⟨g + 1 + 1 + 1 + 1 + 1, k, none⟩) (by show g + 1 + 1 + 1 + 1 + 1 < _; omega)).trans (HC.out.c5 k hlt)
      have x0 := hrow.cell (i := k * 8) (by omega)
      have x1 := hrow.cell (i := k * 8 + 1) (by omega)
      have x2 := hrow.cell (i := k * 8 + 2) (by omega)
      have x3 := hrow.cell (i := k * 8 + 3) (by omega)
      have x4 := hrow.cell (i := k * 8 + 4) (by omega)
      have x5 := hrow.cell (i := k * 8 + 5) (by omega)
      have x6 := hrow.cell (i := k * 8 + 6) (by omega)
      have x7 := hrow.cell (i := k * 8 + 7) (by omega)
      have f0 := hrow.frozen (k * 8)
      have f1 := hrow.frozen (k * 8 + 1)
      have f2 := hrow.frozen (k * 8 + 2)
      have f3 := hrow.frozen (k * 8 + 3)
      have f4 := hrow.frozen (k * 8 + 4)
      have f5 := hrow.frozen (k * 8 + 5)
      have f6 := hrow.frozen (k * 8 + 6)
      have f7 := hrow.frozen (k * 8 + 7)
      have HL : Hid (∀ i, i < k → f (i * 8 + 2) = .bool (r i).deny ∧ f (i * 8 + 3) = .bool (r i).every ∧ f (i * 8 + 4) = .int .u8 (r i).reads ∧ f (i * 8 + 7) = .int .i32 (r i).rank) := hcell
      clear hcell
      go_wp2
      go_region
      go_wp2
      go_roundw
      case rel =>
        refine ⟨k + 1, _, by omega, by go_num, ((((((((hrow.set (k * 8) _).set (k * 8 + 1) _).set (k * 8 + 2) _).set (k * 8 + 3) _).set (k * 8 + 4) _).set (k * 8 + 5) _).set (k * 8 + 6) _).set (k * 8 + 7) _).drew, ?_, ((((((((hnx.setCell (Nat.le_refl _) _).setCell (Nat.le_refl _) _).setCell (Nat.le_refl _) _).setCell (Nat.le_refl _) _).setCell (Nat.le_refl _) _).setCell (Nat.le_refl _) _).setCell (Nat.le_refl _) _).setCell (Nat.le_refl _) _).drew⟩
        intro i hi
        by_cases e : i = k
        · subst e
          simp
        · have hh := HL.out i (by omega)
          refine ⟨?_, ?_, ?_, ?_⟩
          · iterate 8 rw [if_neg (by omega)]
            exact hh.1
          · iterate 8 rw [if_neg (by omega)]
            exact hh.2.1
          · iterate 8 rw [if_neg (by omega)]
            exact hh.2.2.1
          · iterate 8 rw [if_neg (by omega)]
            exact hh.2.2.2
      case measure => simp [intOf]; omega
    · obtain rfl : k = n := by omega
      go_wp2
      go_ret
      exact ⟨rfl, ⟨fun k hk => by rw [hrow.cell (by omega), (hcell k hk).1], fun k hk => by rw [hrow.cell (by omega), (hcell k hk).2.1], fun k hk => by rw [hrow.cell (by omega), (hcell k hk).2.2.1], fun k hk => by rw [hrow.cell (by omega), (hcell k hk).2.2.2], hrow.lt⟩, hnx⟩

end Go.Proofs.Qxb6618784a.Sp
