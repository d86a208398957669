/-
  ZZReadPieces (function 8), walked: readPieces by its contract; the pieces come back field by field.
-/
import Derived.Test.Qxb6618127aRpRead
namespace Go.Proofs.Qxb6618127a.Rp
open Go.RowKit Go.WideMaps Go.Maps

/-- What the walk is told of a slice of integers: nil, empty or not: where an element lies, and what it holds. -/
structure Ints (t : TypeId) (kind : IntKind) (w : World) (a : Option Addr) (n c b o : Nat) (Z : Nat → Int) : Prop where
  idx : ∀ (k : Nat) (w' : World), k < n → (Instr.indexAt t (.slice a n c) (.int .i64 (k : Int))).run Try.prog w' = .ok (.pointer (some ⟨b, o + k, none⟩)) w'
  cell : ∀ j, j < n → w.cell? ⟨b, o + j, none⟩ = some (.int kind (Z j))
  lt : 0 < n → b < w.heap.size
  addr : 0 < n → a = some ⟨b, o, none⟩

theorem Ints.below {t : TypeId} {kind : IntKind} {w w' : World} {a : Option Addr} {n c b o : Nat} {Z : Nat → Int} (h : Ints t kind w a n c b o Z) (hw : Below w.heap.size w w') : Ints t kind w' a n c b o Z :=
  ⟨h.idx, fun j hj => (hw.cell (p := ⟨b, o + j, none⟩) (h.lt (by omega))).trans (h.cell j hj), fun hn => Nat.lt_of_lt_of_le (h.lt hn) hw.size, h.addr⟩

def P (ps : List Pc) (i : Nat) : Pc := ps.getD i (0, 0, false)

theorem flat_length (ps : List Pc) : (flat ps).length = ps.length * 3 := by
  induction ps with
  | nil => rfl
  | cons p r ih => simp [flat, cellsOf] at ih ⊢; omega
theorem flat_get : ∀ (ps : List Pc) (i r : Nat), i < ps.length → r < 3 → (flat ps)[i * 3 + r]? = (cellsOf (P ps i))[r]?
  | [], i, r, h, _ => absurd h (by simp)
  | p :: ps, 0, r, _, hr => by
    have e : flat (p :: ps) = cellsOf p ++ flat ps := by simp [flat]
    rw [e, List.getElem?_append_left (by simp [cellsOf]; omega)]
    simp [P]
  | p :: ps, i + 1, r, h, hr => by
    have e : flat (p :: ps) = cellsOf p ++ flat ps := by simp [flat]
    have e2 : (i + 1) * 3 + r = 3 + (i * 3 + r) := by omega
    have e3 : (cellsOf p).length = 3 := rfl
    rw [e, e2, List.getElem?_append_right (by rw [e3]; omega), e3, Nat.add_sub_cancel_left, flat_get ps i r (by simpa using h) hr]
    simp [P]

/-- The pieces, as readPieces hands them back. -/
structure Row3 (w : World) (ao : Option Addr) (cp g : Nat) (ps : List Pc) : Prop where
  idx : ∀ (k : Nat) (w' : World), k < ps.length → (Instr.indexAt 46 (.slice ao ps.length cp) (.int .i64 (k : Int))).run Try.prog w' = .ok (.pointer (some ⟨g, k * 3, none⟩)) w'
  c0 : ∀ k, k < ps.length → w.cell? ⟨g, k * 3, none⟩ = some (.int .i64 (P ps k).1)
  c1 : ∀ k, k < ps.length → w.cell? ⟨g, k * 3 + 1, none⟩ = some (.int .i64 (P ps k).2.1)
  c2 : ∀ k, k < ps.length → w.cell? ⟨g, k * 3 + 2, none⟩ = some (.bool (P ps k).2.2)
  lt : 0 < ps.length → g < w.heap.size

theorem index46 (g n c k : Nat) (h : k < n) (w : World) : (Instr.indexAt 46 (.slice (some ⟨g, 0, none⟩) n c) (.int .i64 (k : Int))).run Try.prog w = .ok (.pointer (some ⟨g, k * 3, none⟩)) w := by
  have hs : (sizeOf 49).run Try.prog w = .ok 3 w := by kernel_rfl
  by_cases h0 : k = 0
  · subst h0
    simp [Instr.indexAt, run_underlying Try.underlying46, asIntOf, h, Addr.add, Result.andThen, hs]
  · have h3 : ¬ k * 3 = 0 := by omega
    simp [Instr.indexAt, run_underlying Try.underlying46, asIntOf, h, h3, Addr.add, Result.andThen, hs]

theorem row3_of {w : World} {base : Nat} {v : Value} {ps : List Pc} (h : w.ownsRow base 49 3 v ps.length (flat ps)) : ∃ ao cp g, v = .slice ao ps.length cp ∧ Row3 w ao cp g ps := by
  by_cases h0 : ps.length = 0
  · have hn : ∀ k, ¬ k < ps.length := fun k hk => by omega
    rcases h.2 with ⟨rfl, _⟩ | ⟨g, cap, cur, rfl, _⟩
    · exact ⟨none, 0, 0, by rw [h0], ⟨fun k _ hk => absurd hk (hn k), fun k hk => absurd hk (hn k), fun k hk => absurd hk (hn k), fun k hk => absurd hk (hn k), fun hk => absurd hk (by omega)⟩⟩
    · exact ⟨_, cap, 0, rfl, ⟨fun k _ hk => absurd hk (hn k), fun k hk => absurd hk (hn k), fun k hk => absurd hk (hn k), fun k hk => absurd hk (hn k), fun hk => absurd hk (by omega)⟩⟩
  · obtain ⟨g, cap, rfl, _, hlt⟩ := h.form (by omega)
    have cell : ∀ k r, k < ps.length → r < 3 → w.cell? ⟨g, k * 3 + r, none⟩ = (cellsOf (P ps k))[r]? := fun k r hk hr => by
      rw [h.cellAt (k * 3 + r) (by omega), flat_get ps k r hk hr]
    exact ⟨_, cap, g, rfl, ⟨fun k w' hk => index46 g ps.length cap k hk w', fun k hk => cell k 0 hk (by omega), fun k hk => cell k 1 hk (by omega), fun k hk => cell k 2 hk (by omega), fun _ => hlt⟩⟩

theorem info45 : (Try.prog.info? 45).map (fun i => (i.zero, i.size, i.bytes)) = some (some (.agg #[.int .i64 0, .int .u32 0]), 2, 16) := by kernel_rfl
theorem info2 : (Try.prog.info? 2).map (fun i => (i.zero, i.size, i.bytes)) = some (some (.int .i64 0), 1, 8) := by kernel_rfl
theorem info3 : (Try.prog.info? 3).map (fun i => (i.zero, i.size, i.bytes)) = some (some (.int .i64 0), 1, 8) := by kernel_rfl
theorem info4 : (Try.prog.info? 4).map (fun i => (i.zero, i.size, i.bytes)) = some (some (.bool false), 1, 1) := by kernel_rfl

/-- 'make([]T, n)': a row of n elements, whatever it holds at first. -/
theorem make_row {t e : TypeId} {z : Value} {size bytes : Nat} (ht : Try.prog.underlying t = some (.slice e)) (hinfo : (Try.prog.info? e).map (fun i => (i.zero, i.size, i.bytes)) = some (some z, size, bytes)) (n : Nat) (hb : bytes * n ≤ 281474976710656) (h63 : n ≤ 9223372036854775807) (w : World) :
    (Instr.makeSlice t (.int .i64 (n : Int)) (.int .i64 (n : Int))).run Try.prog w = .ok (.slice (some ⟨w.heap.size, 0, none⟩) n n) (w.alloc (.cells (madeCells z.cells (n * size)) e)) := by
  obtain ⟨i, hi, h0, h1, h2⟩ := info_parts hinfo
  have hb' : (i.bytes : Int) * (n : Int) ≤ 281474976710656 := by
    have h : ((bytes * n : Nat) : Int) ≤ 281474976710656 := by omega
    rwa [Int.natCast_mul, ← h2] at h
  have hr := run_make (P := Try.prog) w t e i z ht hi h0 .i64 .i64 n n (by omega) (Int.le_refl _) hb' (by omega)
  rw [h1] at hr
  simpa only [Int.toNat_natCast] using hr

theorem rowIs_of_made (w : World) (z : Array Value) (n : Nat) (e : TypeId) : ∃ f, (w.alloc (.cells (madeCells z n) e)).rowIs w.heap.size e n f :=
  ⟨fun i => ((madeCells z n)[i]?).getD undef, madeCells z n, heap_alloc_new w _, by simp [madeCells], fun i hi => by
    obtain ⟨v, hv⟩ : ∃ v, (madeCells z n)[i]? = some v := ⟨_, Array.getElem?_eq_getElem (by simpa [madeCells] using hi)⟩
    show (madeCells z n)[i]? = some (((madeCells z n)[i]?).getD undef)
    rw [hv]
    rfl⟩

/-- The pieces field by field, in three rows of their own: blocks g, g + 1, g + 2. -/
structure Out (w' : World) (lo g : Nat) (ps : List Pc) : Prop where
  c0 : ∀ k, k < ps.length → w'.cell? ⟨g, k, none⟩ = some (.int .i64 (P ps k).1)
  c1 : ∀ k, k < ps.length → w'.cell? ⟨g + 1, k, none⟩ = some (.int .i64 (P ps k).2.1)
  c2 : ∀ k, k < ps.length → w'.cell? ⟨g + 1 + 1, k, none⟩ = some (.bool (P ps k).2.2)
  lo : lo ≤ g
  hi : g + 1 + 1 < w'.heap.size

/-- How ZZReadPieces ends. -/
def Outs (ps : List Pc) (w : World) (e : Ending) (w' : World) : Prop :=
  ∃ g, e = .returned (.tuple #[.slice (some ⟨g, 0, none⟩) ps.length ps.length, .slice (some ⟨g + 1, 0, none⟩) ps.length ps.length, .slice (some ⟨g + 1 + 1, 0, none⟩) ps.length ps.length]) ∧ Out w' w.heap.size g ps ∧ ps.length ≤ 2147483647

/-- The three rows behind k rounds. -/
def Filled (ps : List Pc) (f1 f2 f3 : Nat → Value) (k : Nat) : Prop := ∀ i, i < k → f1 i = .int .i64 (P ps i).1 ∧ f2 i = .int .i64 (P ps i).2.1 ∧ f3 i = .bool (P ps i).2.2
theorem Filled.step {ps : List Pc} {f1 f2 f3 : Nat → Value} {k : Nat} (h : Filled ps f1 f2 f3 k) : Filled ps (fun j => if j = k then .int .i64 (P ps k).1 else f1 j) (fun j => if j = k then .int .i64 (P ps k).2.1 else f2 j) (fun j => if j = k then .bool (P ps k).2.2 else f3 j) (k + 1) := by
  intro i hi
  by_cases e : i = k
  · subst e; simp
  · simp only [if_neg e]
    exact h i (by omega)

theorem exts_step {L F : Nat → Int} {f : Nat → Value} {k : Nat} (h : ∀ i, i < k → f (i * 2) = .int .i64 (L i) ∧ f (i * 2 + 1) = .int .u32 (F i)) :
    ∀ i, i < k + 1 → (fun j => if j = k * 2 + 1 then Value.int .u32 (F k) else (fun j => if j = k * 2 then Value.int .i64 (L k) else f j) j) (i * 2) = .int .i64 (L i) ∧ (fun j => if j = k * 2 + 1 then Value.int .u32 (F k) else (fun j => if j = k * 2 then Value.int .i64 (L k) else f j) j) (i * 2 + 1) = .int .u32 (F i) := by
  intro i hi
  by_cases e : i = k
  · subst e
    refine ⟨?_, ?_⟩
    · show (if i * 2 = i * 2 + 1 then Value.int .u32 (F i) else (if i * 2 = i * 2 then Value.int .i64 (L i) else f (i * 2))) = _
      rw [if_neg (by omega), if_pos rfl]
    · simp
  · have := h i (by omega)
    refine ⟨?_, ?_⟩
    · simp only []
      rw [if_neg (by omega), if_neg (by omega)]
      exact this.1
    · simp only []
      rw [if_neg (by omega), if_neg (by omega)]
      exact this.2

set_option maxHeartbeats 1000000 in
theorem zz_any (off n : Int) (a1 a2 : Option Addr) (m c1 b1 o1 c2 b2 o2 : Nat) (L F : Nat → Int) (w : World) (h1 : -4611686018427387904 ≤ off) (h2 : off ≤ 4611686018427387904) (h3 : -4611686018427387904 ≤ n) (h4 : n ≤ 2147483647) (hm : m ≤ 65537)
    (hL : Ints 22 .i64 w a1 m c1 b1 o1 L) (hF : Ints 23 .u32 w a2 m c2 b2 o2 F) (hLw : ∀ i, i < m → -9223372036854775808 ≤ L i ∧ L i ≤ 9223372036854775807) :
    Calls Try.prog 8 #[.int .i64 off, .int .i64 n, .slice a1 m c1, .slice a2 m c2] w fun e w' => Outs (pieces (off + n) (exts L F m) off) w e w' ∧ Below w.heap.size w w' := by
  have hmk := make_row Try.underlying43 info45 m (by omega) (by omega)
  obtain ⟨ix1, hc1, hb1, _⟩ := hL
  obtain ⟨ix2, hc2, hb2, _⟩ := hF
  go_enter Try.func8, Try.ntmps8
  go_wp2_with fail
  go_loopw [23] (fun i wr => ∃ (k : Nat) (f : Nat → Value), k ≤ m ∧ i = .int .i64 k ∧ wr.rowIs w.heap.size 45 (m * 2) f ∧ (∀ i, i < k → f (i * 2) = .int .i64 (L i) ∧ f (i * 2 + 1) = .int .u32 (F i)) ∧ Below w.heap.size w wr) (fun i _ => m - (intOf i).toNat)
  case atStart =>
    obtain ⟨f, hf⟩ := rowIs_of_made w (Value.agg #[.int .i64 0, .int .u32 0]).cells (m * 2) 45
    exact ⟨0, f, Nat.zero_le _, rfl, hf, fun i hi => absurd hi (by omega), (Below.refl _ _).alloc (Nat.le_refl _) _⟩
  case round =>
    obtain ⟨k, f, hk, rfl, hrow, hcell, hnx⟩ := hrel
    by_cases hlt : k < m
    · have cL := (hnx.cell (p := ⟨b1, o1 + k, none⟩) (hb1 (by omega))).trans (hc1 k hlt)
      have cF := (hnx.cell (p := ⟨b2, o2 + k, none⟩) (hb2 (by omega))).trans (hc2 k hlt)
      have i1 := fun w' => ix1 k w' hlt
      have i2 := fun w' => ix2 k w' hlt
      have x0 := hrow.cell (i := k * 2) (by omega)
      have x1 := hrow.cell (i := k * 2 + 1) (by omega)
      have f0 := hrow.frozen (k * 2)
      have f1 := hrow.frozen (k * 2 + 1)
      have HC : Hid (∀ i, i < k → f (i * 2) = .int .i64 (L i) ∧ f (i * 2 + 1) = .int .u32 (F i)) := hcell
      clear hc1 hc2 ix1 ix2 hcell
      go_wp2_with fail
      go_region
      go_wp2_with fail
      go_roundw
      case rel => exact ⟨k + 1, _, by omega, by go_num, (hrow.set (k * 2) _).set (k * 2 + 1) _, exts_step HC.out, ((hnx.setCell (Nat.le_refl _) _).setCell (Nat.le_refl _) _).drew⟩
      case measure => simp [intOf]; omega
    · obtain rfl : k = m := by omega
      have c1 := read_any off n w.heap.size k k L F wr h1 h2 h3 h4 hm hrow.lt (fun i hi => by rw [hrow.cell (by omega), (hcell i hi).1]) (fun i hi => by rw [hrow.cell (by omega), (hcell i hi).2]) hLw
      have HB : Hid (Below w.heap.size w wr) := hnx
      have hpl := pieces_length (off + n) (exts L F k) off
      have hN : (pieces (off + n) (exts L F k) off).length ≤ 2147483647 := by split at hpl <;> omega
      obtain ⟨ps, hps⟩ : ∃ ps, pieces (off + n) (exts L F k) off = ps := ⟨_, rfl⟩
      rw [hps] at c1 hN
      have HPS : Hid (pieces (off + n) (exts L F k) off = ps) := hps
      clear hpl hps hmk hc1 hc2 ix1 ix2 hcell hrow hnx
      go_wp2_with fail
      refine c1.mono ?_
      clear c1
      rintro e w3 ⟨⟨v, rfl, hown⟩, hb3⟩
      obtain ⟨ao, cp, g, hv, hrow3⟩ := row3_of hown
      rw [hv]
      have HB3 : Hid (Below w.heap.size w w3) := HB.out.trans (hb3.mono HB.out.size)
      clear hown hb3 HB hv
      obtain ⟨ix, q0, q1, q2, hg⟩ := hrow3
      have mk1 := make_row Try.underlying22 info2 ps.length (by omega) (by omega)
      have mk2 := make_row Try.underlying25 info3 ps.length (by omega) (by omega)
      have mk3 := make_row Try.underlying26 info4 ps.length (by omega) (by omega)
      have hG := HB3.out.size
      go_wp2_with fail
      go_loopw [54] (fun i wr => ∃ (k : Nat) (f1 f2 f3 : Nat → Value), k ≤ ps.length ∧ i = .int .i64 k ∧ wr.rowIs w3.heap.size 2 ps.length f1 ∧ wr.rowIs (w3.heap.size + 1) 3 ps.length f2 ∧ wr.rowIs (w3.heap.size + 1 + 1) 4 ps.length f3 ∧ Filled ps f1 f2 f3 k ∧ Below w3.heap.size w3 wr) (fun i _ => ps.length - (intOf i).toNat)
      case atStart =>
        obtain ⟨f1, e1⟩ := rowIs_of_made w3 #[.int .i64 0] ps.length 2
        obtain ⟨f2, e2⟩ := rowIs_of_made (w3.alloc (Obj.cells (madeCells #[Value.int IntKind.i64 0] ps.length) 2)) #[.int .i64 0] ps.length 3
        obtain ⟨f3, e3⟩ := rowIs_of_made ((w3.alloc (Obj.cells (madeCells #[Value.int IntKind.i64 0] ps.length) 2)).alloc (Obj.cells (madeCells #[Value.int IntKind.i64 0] ps.length) 3)) #[.bool false] ps.length 4
        refine ⟨0, f1, f2, f3, Nat.zero_le _, rfl, (e1.alloc _).alloc _, ?_, ?_, fun i hi => absurd hi (by omega), ((((Below.refl _ _).alloc (Nat.le_refl _) _).alloc (by simp) _).alloc (by simp; omega) _)⟩
        · have := e2.alloc (Obj.cells (madeCells #[Value.bool false] ps.length) 4)
          simpa using this
        · simpa using e3
      case round =>
        obtain ⟨j, f1, f2, f3, hj, rfl, r1, r2, r3, hfill, hnx⟩ := hrel
        by_cases hlt : j < ps.length
        · have hgl := hg (by omega)
          have i1 := fun w' => ix j w' hlt
          have z0 := (hnx.cell (p := ⟨g, j * 3, none⟩) hgl).trans (q0 j hlt)
          have z1 := (hnx.cell (p := ⟨g, j * 3 + 1, none⟩) hgl).trans (q1 j hlt)
          have z2 := (hnx.cell (p := ⟨g, j * 3 + 2, none⟩) hgl).trans (q2 j hlt)
          have x1 := r1.cell hlt
          have x2 := r2.cell hlt
          have x3 := r3.cell hlt
          have y1 := r1.frozen j
          have y2 := r2.frozen j
          have y3 := r3.frozen j
          clear ix q0 q1 q2 mk1 mk2 mk3 hg
          go_wp2_with fail
          go_roundw
          case rel => exact ⟨j + 1, _, _, _, by omega, by go_num, ((r1.set j _).setOther (by simp) _).setOther (by simp; omega) _, ((r2.setOther (by simp) _).set j _).setOther (by simp) _, ((r3.setOther (by simp; omega) _).setOther (by simp) _).set j _, hfill.step, ((hnx.setCell (Nat.le_refl _) _).setCell (by simp) _).setCell (by simp; omega) _⟩
          case measure => simp [intOf]; omega
        · obtain rfl : j = ps.length := by omega
          clear ix q0 q1 q2 mk1 mk2 mk3 hg
          go_wp2_with fail
          go_ret3
          rw [HPS.out]
          exact ⟨⟨_, rfl, ⟨fun k hk => by rw [r1.cell hk, (hfill k hk).1], fun k hk => by rw [r2.cell hk, (hfill k hk).2.1], fun k hk => by rw [r3.cell hk, (hfill k hk).2.2], hG, r3.lt⟩, hN⟩, HB3.out.trans (hnx.mono hG)⟩
end Go.Proofs.Qxb6618127a.Rp
