/-
  b1CopyBindings (17) and b1CopyInt32s (18), walked: each gives a slice that says what its argument says.
-/
import Derived.Test.Qxb6618997aLkBase
namespace Go.Proofs.Qxb6618997a.Lk
open Go.RowKit Go.WideMaps Go.Maps

/-- 'make([]T, n)': a row of n elements, all zero. -/
theorem make_row {t e : TypeId} {z : Value} {size bytes : Nat} (ht : Try.prog.underlying t = some (.slice e)) (hinfo : (Try.prog.info? e).map (fun i => (i.zero, i.size, i.bytes)) = some (some z, size, bytes)) (n : Nat) (hb : bytes * n ≤ 281474976710656) (h63 : n ≤ 9223372036854775807) (w : World) :
    (Instr.makeSlice t (.int .i64 (n : Int)) (.int .i64 (n : Int))).run Try.prog w = .ok (.slice (some ⟨w.heap.size, 0, none⟩) n n) (w.alloc (.cells (madeCells z.cells (n * size)) e)) := by
  obtain ⟨i, hi, h0, h1, h2⟩ := info_parts hinfo
  have hb' : (i.bytes : Int) * (n : Int) ≤ 281474976710656 := by
    have h : ((bytes * n : Nat) : Int) ≤ 281474976710656 := by omega
    rwa [Int.natCast_mul, ← h2] at h
  have hr := run_make (P := Try.prog) w t e i z ht hi h0 .i64 .i64 n n (by omega) (Int.le_refl _) hb' (by omega)
  rw [h1] at hr
  simpa only [Int.toNat_natCast] using hr

theorem rowIs_made (w : World) (z : Array Value) (n : Nat) (e : TypeId) : (w.alloc (.cells (madeCells z n) e)).rowIs w.heap.size e n (fun i => z[i % z.size]!) :=
  ⟨madeCells z n, heap_alloc_new w _, by simp [madeCells], fun i hi => by simp [madeCells, hi]⟩

theorem isNil {t e : TypeId} (h : Try.prog.underlying t = some (.slice e)) (a : Option Addr) (n c : Nat) (w : World) : (binOp .eql t (.slice a n c) (.slice none 0 0)).run Try.prog w = .ok (.bool a.isNone) w := by
  simp only [binOp]
  simp [Op.equal, Op.maxDepth, Lib.run_equalIn_slice_nil w 9999 t e a n c 0 0 h]

theorem info21 : (Try.prog.info? 21).map (fun i => (i.zero, i.size, i.bytes)) = some (some (.int .i32 0), 1, 4) := by kernel_rfl
theorem info58 : (Try.prog.info? 58).map (fun i => (i.zero, i.size, i.bytes)) = some (some (.agg #[.int .i64 0, .pointer none, .pointer none]), 3, 24) := by kernel_rfl

theorem index34 (kind : IntKind) (b o n c k : Nat) (h : k < n) (w : World) : (Instr.indexAt 34 (.slice (some ⟨b, o, none⟩) n c) (.int kind (k : Int))).run Try.prog w = .ok (.pointer (some ⟨b, o + k, none⟩)) w := by
  by_cases h0 : k = 0
  · subst h0
    simp [Instr.indexAt, run_underlying Try.underlying34, asIntOf, h, Addr.add, Result.andThen]
  · simp [Instr.indexAt, run_underlying Try.underlying34, asIntOf, h, h0, Addr.add, Result.andThen]
theorem index32 (kind : IntKind) (b o n c k : Nat) (h : k < n) (w : World) : (Instr.indexAt 32 (.slice (some ⟨b, o, none⟩) n c) (.int kind (k : Int))).run Try.prog w = .ok (.pointer (some ⟨b, o + k * 3, none⟩)) w := by
  by_cases h0 : k = 0
  · subst h0
    simp [Instr.indexAt, run_underlying Try.underlying32, asIntOf, h, Addr.add, Result.andThen]
  · have h6 : ¬ k * 3 = 0 := by omega
    simp [Instr.indexAt, run_underlying Try.underlying32, asIntOf, h, h6, Addr.add, Result.andThen]

/-- How b1CopyInt32s ends. -/
def CopyI (n : Nat) (Z : Nat → Int) (e : Ending) (w' : World) : Prop := ∃ (a' : Option Addr) (c' b' o' : Nat), e = .returned (.slice a' n c') ∧ Ints 34 .i32 w' a' n c' b' o' Z

theorem ints_nil {t : TypeId} {kind : IntKind} {w : World} {a : Option Addr} {c b o : Nat} {Z : Nat → Int} : Ints t kind w a 0 c b o Z := ⟨fun k _ h => absurd h (by omega), fun k h => absurd h (by omega), fun h => absurd h (by omega), fun _ => rfl, fun k h => absurd h (by omega)⟩

set_option maxHeartbeats 1000000 in
set_option maxRecDepth 100000 in
theorem copyInts_any (a : Option Addr) (n c b o : Nat) (Z : Nat → Int) (w : World) (hn : n ≤ 1024) (h : Ints 34 .i32 w a n c b o Z) :
    Calls Try.prog 18 #[.slice a n c] w fun e w' => CopyI n Z e w' ∧ Below w.heap.size w w' := by
  have mk0 := make_row Try.underlying34 info21 n (by omega) (by omega)
  have HR : Hid (Ints 34 .i32 w a n c b o Z) := h
  have hnil := isNil Try.underlying34
  clear h
  cases ha : a with
  | none =>
    obtain rfl := HR.out.nil ha
    clear HR mk0
    go_enter Try.func18, Try.ntmps18
    go_wp2
    go_ret
    exact ⟨⟨none, 0, 0, 0, rfl, ints_nil⟩, Below.refl _ _⟩
  | some x =>
    subst ha
    go_enter Try.func18, Try.ntmps18
    go_wp2
    go_loopw [4] (fun i wr => ∃ (k : Nat) (f : Nat → Value), k ≤ n ∧ i = .int .i64 k ∧ wr.rowIs w.heap.size 21 n f ∧ (∀ j, j < k → f j = .int .i32 (Z j)) ∧ Below w.heap.size w wr) (fun i _ => n - (intOf i).toNat)
    case atStart =>
      have e0 := rowIs_made w #[Value.int IntKind.i32 0] n 21
      exact ⟨0, _, Nat.zero_le _, rfl, e0, fun i hi => absurd hi (by omega), (Below.refl _ _).alloc (Nat.le_refl _) _⟩
    case round =>
      obtain ⟨k, f, hk, rfl, hrow, hcell, hnx⟩ := hrel
      clear mk0
      by_cases hlt : k < n
      · have hb := HR.out.lt (by omega)
        have ix := fun w' => HR.out.idx k w' hlt
        have z0 := (hnx.cell (p := ⟨b, o + k, none⟩) hb).trans (HR.out.c0 k hlt)
        have x0 := hrow.cell hlt
        have f0 := hrow.frozen k
        have HL : Hid (∀ j, j < k → f j = .int .i32 (Z j)) := hcell
        clear hcell
        go_wp2
        go_roundw
        case rel =>
          refine ⟨k + 1, _, by omega, by go_num, hrow.set k _, fun j hj => ?_, hnx.setCell (Nat.le_refl _) _⟩
          by_cases e : j = k
          · subst e; simp
          · show (if j = k then _ else f j) = _
            rw [if_neg e]
            exact HL.out j (by omega)
        case measure => simp [intOf]; omega
      · obtain rfl : k = n := by omega
        have HL : Hid (∀ j, j < k → f j = .int .i32 (Z j)) := hcell
        clear hcell
        go_wp2
        go_ret
        refine ⟨⟨some ⟨w.heap.size, 0, none⟩, k, w.heap.size, 0, rfl, ⟨fun j w' hj => index34 .i64 _ _ _ _ j hj w', fun j hj => ?_, fun _ => hrow.lt, (fun h => by cases h), HR.out.rg⟩⟩, hnx⟩
        rw [Nat.zero_add, hrow.cell hj, HL.out j hj]

/-- How b1CopyBindings ends. -/
def CopyB (n : Nat) (B : Nat → Bd) (e : Ending) (w' : World) : Prop := ∃ (a' : Option Addr) (c' b' o' : Nat) (pn px : Nat → Option Addr), e = .returned (.slice a' n c') ∧ (0 < n → ∃ g, a' = some ⟨g, 0, none⟩ ∧ b' = g ∧ o' = 0) ∧ Bnds w' a' n c' b' o' B pn px

theorem bnds_nil {w : World} {a : Option Addr} {c b o : Nat} {B : Nat → Bd} {pn px : Nat → Option Addr} : Bnds w a 0 c b o B pn px := ⟨fun k _ h => absurd h (by omega), fun k h => absurd h (by omega), fun k h => absurd h (by omega), fun k h => absurd h (by omega), fun k h => absurd h (by omega), fun k h => absurd h (by omega), fun h => absurd h (by omega), fun _ => rfl⟩

/-- The copy's row: k0 roles, k1 and k2 pointers done. -/
structure Half (G n k0 k1 k2 : Nat) (B : Nat → Bd) (f : Nat → Value) (pn px : Nat → Option Addr) (w : World) : Prop where
  row : w.rowIs G 58 (n * 3) f
  f0 : ∀ j, j < k0 → f (j * 3) = .int .i64 (B j).role
  f1 : ∀ j, j < k1 → f (j * 3 + 1) = .pointer (pn j)
  f2 : ∀ j, j < k2 → f (j * 3 + 2) = .pointer (px j)
  g1 : ∀ j, k1 ≤ j → f (j * 3 + 1) = .pointer none
  g2 : ∀ j, k2 ≤ j → f (j * 3 + 2) = .pointer none
  v1 : ∀ j, j < k1 → Says w (pn j) (B j).nb ∧ ∀ x, pn j = some x → x.block ≠ G
  v2 : ∀ j, j < k2 → Says w (px j) (B j).ex ∧ ∀ x, px j = some x → x.block ≠ G

/-- A function, changed at one place. -/
def at1 (f : Nat → Option Addr) (k : Nat) (p : Option Addr) : Nat → Option Addr := fun j => if j = k then p else f j
theorem at1_same (f : Nat → Option Addr) (k : Nat) (p : Option Addr) : at1 f k p k = p := by simp [at1]
theorem at1_less (f : Nat → Option Addr) {k j : Nat} (p : Option Addr) (h : j < k) : at1 f k p j = f j := by
  simp [at1]
  intro e
  omega

theorem Half.below {G n k0 k1 k2 : Nat} {B : Nat → Bd} {f : Nat → Value} {pn px : Nat → Option Addr} {w w' : World} (h : Half G n k0 k1 k2 B f pn px w) (hw : Below w.heap.size w w') : Half G n k0 k1 k2 B f pn px w' := by
  obtain ⟨xs, h1, h2⟩ := h.row
  refine ⟨⟨xs, (hw.block _ h.row.lt).trans h1, h2⟩, h.f0, h.f1, h.f2, h.g1, h.g2, fun j hj => ⟨(h.v1 j hj).1.below hw, (h.v1 j hj).2⟩, fun j hj => ⟨(h.v2 j hj).1.below hw, (h.v2 j hj).2⟩⟩
theorem Half.set0 {G n k k1 k2 : Nat} {B : Nat → Bd} {f : Nat → Value} {pn px : Nat → Option Addr} {w : World} (h : Half G n k k1 k2 B f pn px w) : ∃ f', Half G n (k + 1) k1 k2 B f' pn px (w.setCell ⟨G, k * 3, none⟩ (.int .i64 (B k).role)) := by
  refine ⟨_, h.row.set (k * 3) _, upto_succ (fun j hj => ?_) ?_, fun j hj => ?_, fun j hj => ?_, fun j hj => ?_, fun j hj => ?_, fun j hj => ⟨(h.v1 j hj).1.set (h.v1 j hj).2 _, (h.v1 j hj).2⟩, fun j hj => ⟨(h.v2 j hj).1.set (h.v2 j hj).2 _, (h.v2 j hj).2⟩⟩
  · rw [if_neg (by omega)]; exact h.f0 j hj
  · rw [if_pos rfl]
  · rw [if_neg (by omega)]; exact h.f1 j hj
  · rw [if_neg (by omega)]; exact h.f2 j hj
  · rw [if_neg (by omega)]; exact h.g1 j hj
  · rw [if_neg (by omega)]; exact h.g2 j hj
theorem Half.nil1 {G n k0 k k2 : Nat} {B : Nat → Bd} {f : Nat → Value} {pn px : Nat → Option Addr} {w : World} (h : Half G n k0 k k2 B f pn px w) (hk : (B k).nb = none) : Half G n k0 (k + 1) k2 B f (at1 pn k none) px w := by
  refine ⟨h.row, h.f0, upto_succ (fun j hj => ?_) ?_, h.f2, fun j hj => h.g1 j (by omega), h.g2, upto_succ (fun j hj => ?_) ?_, h.v2⟩
  · rw [at1_less _ _ hj]; exact h.f1 j hj
  · rw [at1_same]; exact h.g1 k (Nat.le_refl _)
  · rw [at1_less _ _ hj]; exact h.v1 j hj
  · rw [at1_same]; exact ⟨.inl ⟨rfl, hk⟩, fun x h => by cases h⟩
theorem Half.nil2 {G n k0 k1 k : Nat} {B : Nat → Bd} {f : Nat → Value} {pn px : Nat → Option Addr} {w : World} (h : Half G n k0 k1 k B f pn px w) (hk : (B k).ex = none) : Half G n k0 k1 (k + 1) B f pn (at1 px k none) w := by
  refine ⟨h.row, h.f0, h.f1, upto_succ (fun j hj => ?_) ?_, h.g1, fun j hj => h.g2 j (by omega), h.v1, upto_succ (fun j hj => ?_) ?_⟩
  · rw [at1_less _ _ hj]; exact h.f2 j hj
  · rw [at1_same]; exact h.g2 k (Nat.le_refl _)
  · rw [at1_less _ _ hj]; exact h.v2 j hj
  · rw [at1_same]; exact ⟨.inl ⟨rfl, hk⟩, fun x h => by cases h⟩
/-- A new cell with a number. -/
theorem says_new (w : World) (z : Int) {v : Option Int} (hv : v = some z) : Says (w.alloc (.cells #[.int .i64 z] 2)) (some ⟨w.heap.size, 0, none⟩) v := by
  refine .inr ⟨w.heap.size, 0, z, rfl, hv, ?_, by simp⟩
  rw [World.cell?, heap_alloc_new w (.cells #[.int .i64 z] 2)]
  rfl
theorem Half.new1 {G n k0 k k2 : Nat} {B : Nat → Bd} {f : Nat → Value} {pn px : Nat → Option Addr} {w : World} (h : Half G n k0 k k2 B f pn px w) {z : Int} (hz : (B k).nb = some z) : ∃ f', Half G n k0 (k + 1) k2 B f' (at1 pn k (some ⟨w.heap.size, 0, none⟩)) px ((w.setCell ⟨G, k * 3 + 1, none⟩ (.pointer (some ⟨w.heap.size, 0, none⟩))).alloc (.cells #[.int .i64 z] 2)) := by
  have hl := h.row.lt
  have hw : Below (w.setCell ⟨G, k * 3 + 1, none⟩ (.pointer (some ⟨w.heap.size, 0, none⟩))).heap.size (w.setCell ⟨G, k * 3 + 1, none⟩ (.pointer (some ⟨w.heap.size, 0, none⟩))) ((w.setCell ⟨G, k * 3 + 1, none⟩ (.pointer (some ⟨w.heap.size, 0, none⟩))).alloc (.cells #[.int .i64 z] 2)) := (Below.refl _ _).alloc (Nat.le_refl _) _
  have hn := says_new (w.setCell ⟨G, k * 3 + 1, none⟩ (.pointer (some ⟨w.heap.size, 0, none⟩))) z hz
  rw [World.size_setCell] at hn
  refine ⟨_, (h.row.set (k * 3 + 1) _).alloc _, fun j hj => ?_, upto_succ (fun j hj => ?_) ?_, fun j hj => ?_, fun j hj => ?_, fun j hj => ?_, upto_succ (fun j hj => ?_) ?_, fun j hj => ⟨((h.v2 j hj).1.set (h.v2 j hj).2 _).below hw, (h.v2 j hj).2⟩⟩
  · rw [if_neg (by omega)]; exact h.f0 j hj
  · rw [if_neg (by omega), at1_less _ _ hj]; exact h.f1 j hj
  · rw [if_pos rfl, at1_same]
  · rw [if_neg (by omega)]; exact h.f2 j hj
  · rw [if_neg (by omega)]; exact h.g1 j (by omega)
  · rw [if_neg (by omega)]; exact h.g2 j hj
  · rw [at1_less _ _ hj]; exact ⟨((h.v1 j hj).1.set (h.v1 j hj).2 _).below hw, (h.v1 j hj).2⟩
  · rw [at1_same]; exact ⟨hn, fun y hy => by cases hy; show w.heap.size ≠ G; omega⟩
theorem Half.new2 {G n k0 k1 k : Nat} {B : Nat → Bd} {f : Nat → Value} {pn px : Nat → Option Addr} {w : World} (h : Half G n k0 k1 k B f pn px w) {z : Int} (hz : (B k).ex = some z) : ∃ f', Half G n k0 k1 (k + 1) B f' pn (at1 px k (some ⟨w.heap.size, 0, none⟩)) ((w.setCell ⟨G, k * 3 + 2, none⟩ (.pointer (some ⟨w.heap.size, 0, none⟩))).alloc (.cells #[.int .i64 z] 2)) := by
  have hl := h.row.lt
  have hw : Below (w.setCell ⟨G, k * 3 + 2, none⟩ (.pointer (some ⟨w.heap.size, 0, none⟩))).heap.size (w.setCell ⟨G, k * 3 + 2, none⟩ (.pointer (some ⟨w.heap.size, 0, none⟩))) ((w.setCell ⟨G, k * 3 + 2, none⟩ (.pointer (some ⟨w.heap.size, 0, none⟩))).alloc (.cells #[.int .i64 z] 2)) := (Below.refl _ _).alloc (Nat.le_refl _) _
  have hn := says_new (w.setCell ⟨G, k * 3 + 2, none⟩ (.pointer (some ⟨w.heap.size, 0, none⟩))) z hz
  rw [World.size_setCell] at hn
  refine ⟨_, (h.row.set (k * 3 + 2) _).alloc _, fun j hj => ?_, fun j hj => ?_, upto_succ (fun j hj => ?_) ?_, fun j hj => ?_, fun j hj => ?_, fun j hj => ⟨((h.v1 j hj).1.set (h.v1 j hj).2 _).below hw, (h.v1 j hj).2⟩, upto_succ (fun j hj => ?_) ?_⟩
  · rw [if_neg (by omega)]; exact h.f0 j hj
  · rw [if_neg (by omega)]; exact h.f1 j hj
  · rw [if_neg (by omega), at1_less _ _ hj]; exact h.f2 j hj
  · rw [if_pos rfl, at1_same]
  · rw [if_neg (by omega)]; exact h.g1 j hj
  · rw [if_neg (by omega)]; exact h.g2 j (by omega)
  · rw [at1_less _ _ hj]; exact ⟨((h.v2 j hj).1.set (h.v2 j hj).2 _).below hw, (h.v2 j hj).2⟩
  · rw [at1_same]; exact ⟨hn, fun y hy => by cases hy; show w.heap.size ≠ G; omega⟩

set_option maxHeartbeats 4000000 in
set_option maxRecDepth 100000 in
theorem copyBnds_any (a : Option Addr) (n c b o : Nat) (B : Nat → Bd) (pn px : Nat → Option Addr) (w : World) (hn : n ≤ 1024) (h : Bnds w a n c b o B pn px) :
    Calls Try.prog 17 #[.slice a n c] w fun e w' => CopyB n B e w' ∧ Below w.heap.size w w' := by
  have mk0 := make_row Try.underlying32 info58 n (by omega) (by omega)
  have HR : Hid (Bnds w a n c b o B pn px) := h
  have hnil := isNil Try.underlying32
  clear h
  cases ha : a with
  | none =>
    obtain rfl := HR.out.nil ha
    clear HR mk0
    go_enter Try.func17, Try.ntmps17
    go_wp2
    go_ret
    exact ⟨⟨none, 0, 0, 0, fun _ => none, fun _ => none, rfl, fun h => absurd h (by omega), bnds_nil⟩, Below.refl _ _⟩
  | some x =>
    subst ha
    go_enter Try.func17, Try.ntmps17
    go_wp2
    go_loopw [4] (fun i wr => ∃ (k : Nat) (f : Nat → Value) (qn qx : Nat → Option Addr), k ≤ n ∧ i = .int .i64 k ∧ Half w.heap.size n k k k B f qn qx wr ∧ Below w.heap.size w wr ∧ w.heap.size < wr.heap.size) (fun i _ => n - (intOf i).toNat)
    case atStart =>
      have e0 := rowIs_made w (Value.agg #[.int .i64 0, .pointer none, .pointer none]).cells (n * 3) 58
      refine ⟨0, _, fun _ => none, fun _ => none, Nat.zero_le _, rfl, ⟨e0, fun i hi => absurd hi (by omega), fun i hi => absurd hi (by omega), fun i hi => absurd hi (by omega), fun j _ => ?_, fun j _ => ?_, fun i hi => absurd hi (by omega), fun i hi => absurd hi (by omega)⟩, (Below.refl _ _).alloc (Nat.le_refl _) _, by simp⟩
      · show #[Value.int .i64 0, .pointer none, .pointer none][(j * 3 + 1) % 3]! = _
        rw [show (j * 3 + 1) % 3 = 1 by omega]
        rfl
      · show #[Value.int .i64 0, .pointer none, .pointer none][(j * 3 + 2) % 3]! = _
        rw [show (j * 3 + 2) % 3 = 2 by omega]
        rfl
    case round =>
      obtain ⟨k, f, qn, qx, hk, rfl, hH, hnx, hsz⟩ := hrel
      clear mk0
      by_cases hlt : k < n
      · have hb := HR.out.lt (by omega)
        have ix := fun w' => HR.out.idx k w' hlt
        have z0 := (hnx.cell (p := ⟨b, o + k * 3, none⟩) hb).trans (HR.out.c0 k hlt)
        have z1 := (hnx.cell (p := ⟨b, o + k * 3 + 1, none⟩) hb).trans (HR.out.c1 k hlt)
        have z2 := (hnx.cell (p := ⟨b, o + k * 3 + 2, none⟩) hb).trans (HR.out.c2 k hlt)
        have x0 := hH.row.cell (i := k * 3) (by omega)
        have x1 := hH.row.cell (i := k * 3 + 1) (by omega)
        have x2 := hH.row.cell (i := k * 3 + 2) (by omega)
        have f0 := hH.row.frozen (k * 3)
        have f1 := hH.row.frozen (k * 3 + 1)
        have f2 := hH.row.frozen (k * 3 + 2)
        have hbne : ¬ w.heap.size = b := by omega
        have hbne2 : ¬ wr.heap.size = b := by have := hnx.size; omega
        have hbne3 : ¬ b = wr.heap.size := by have := hnx.size; omega
        have hbl : b < wr.heap.size := by have := hnx.size; omega
        have hszne : ¬ wr.heap.size = w.heap.size := by omega
        have hszne2 : ¬ w.heap.size = wr.heap.size := by omega
        obtain ⟨f', hH1⟩ := hH.set0
        have HH : Hid (Half w.heap.size n (k + 1) k k B f' qn qx (wr.setCell ⟨w.heap.size, k * 3, none⟩ (.int .i64 (B k).role))) := hH1
        have HB : Hid (Below w.heap.size w (wr.setCell ⟨w.heap.size, k * 3, none⟩ (.int .i64 (B k).role))) := hnx.setCell (Nat.le_refl _) _
        clear hH hH1
        rcases HR.out.v1 k hlt with ⟨hp, hv⟩ | ⟨xb, xo, z, hp, hv, hc, hl⟩
        · have HV : Hid ((B k).nb = none) := hv
          rw [hp] at z1
          clear hp hv
          rcases HR.out.v2 k hlt with ⟨hp, hv⟩ | ⟨yb, yo, u, hp, hv, hc, hl⟩
          · have HU : Hid ((B k).ex = none) := hv
            rw [hp] at z2
            clear hp hv
            go_wp2
            go_roundw
            case rel => exact ⟨k + 1, f', _, _, by omega, by go_num, (HH.out.nil1 HV.out).nil2 HU.out, HB.out, by simpa using hsz⟩
            case measure => simp [intOf]; omega
          · have HU : Hid ((B k).ex = some u) := hv
            rw [hp] at z2
            have HL : Hid (yb < w.heap.size) := hl
            have y0 := (hnx.cell (p := ⟨yb, yo, none⟩) hl).trans hc
            have hyne : ¬ w.heap.size = yb := by omega
            have hyne2 : ¬ wr.heap.size = yb := by omega
            clear hp hv hc hl
            go_wp2
            go_roundw
            case rel =>
              obtain ⟨f2, h2⟩ := (HH.out.nil1 HV.out).new2 HU.out
              simp only [World.size_setCell] at h2
              exact ⟨k + 1, f2, _, _, by omega, by go_num, h2, (HB.out.setCell (Nat.le_refl _) _).alloc (by simp; omega) _, by simp; omega⟩
            case measure => simp [intOf]; omega
        · have HV : Hid ((B k).nb = some z) := hv
          rw [hp] at z1
          have y0 := (hnx.cell (p := ⟨xb, xo, none⟩) hl).trans hc
          have hxne : ¬ w.heap.size = xb := by omega
          have hxne2 : ¬ wr.heap.size = xb := by omega
          clear hp hv hc hl
          rcases HR.out.v2 k hlt with ⟨hp, hv⟩ | ⟨yb, yo, u, hp, hv, hc, hl⟩
          · have HU : Hid ((B k).ex = none) := hv
            rw [hp] at z2
            clear hp hv
            go_wp2
            go_roundw
            case rel =>
              obtain ⟨f2, h2⟩ := HH.out.new1 HV.out
              have h3 := h2.nil2 HU.out
              simp only [World.size_setCell] at h3
              exact ⟨k + 1, f2, _, _, by omega, by go_num, h3, (HB.out.setCell (Nat.le_refl _) _).alloc (by simp; omega) _, by simp; omega⟩
            case measure => simp [intOf]; omega
          · have HU : Hid ((B k).ex = some u) := hv
            rw [hp] at z2
            have y1 := (hnx.cell (p := ⟨yb, yo, none⟩) hl).trans hc
            have hyne : ¬ w.heap.size = yb := by omega
            have hyne2 : ¬ wr.heap.size = yb := by omega
            have hyne3 : ¬ yb = wr.heap.size := by omega
            have hyl : yb < wr.heap.size := by omega
            have hszne3 : ¬ wr.heap.size + 1 = w.heap.size := by omega
            have hszne4 : ¬ w.heap.size = wr.heap.size + 1 := by omega
            clear hp hv hc hl
            go_wp2
            go_roundw
            case rel =>
              obtain ⟨f2, h2⟩ := HH.out.new1 HV.out
              obtain ⟨f3, h4⟩ := h2.new2 HU.out
              simp only [World.size_setCell, World.size_alloc] at h4
              rw [World.setCell_alloc_past _ _ _ _ (by simpa using hsz)] at h4
              exact ⟨k + 1, f3, _, _, by omega, by go_num, h4, (((HB.out.setCell (Nat.le_refl _) _).setCell (Nat.le_refl _) _).alloc (by simp; omega) _).alloc (by simp; omega) _, by simp; omega⟩
            case measure => simp [intOf]; omega
      · obtain rfl : k = n := by omega
        have HH : Hid (Half w.heap.size k k k k B f qn qx wr) := hH
        clear hH
        go_wp2
        go_ret
        obtain ⟨row, f0, f1, f2, g1, g2, v1, v2⟩ := HH.out
        refine ⟨⟨some ⟨w.heap.size, 0, none⟩, k, w.heap.size, 0, qn, qx, rfl, fun _ => ⟨_, rfl, rfl, rfl⟩, ⟨fun j w' hj => index32 .i64 _ _ _ _ j hj w', fun j hj => ?_, fun j hj => ?_, fun j hj => ?_, fun j hj => (v1 j hj).1, fun j hj => (v2 j hj).1, fun _ => row.lt, fun h => by cases h⟩⟩, hnx⟩
        · rw [Nat.zero_add, row.cell (by omega), f0 j hj]
        · rw [Nat.zero_add, row.cell (by omega), f1 j hj]
        · rw [Nat.zero_add, row.cell (by omega), f2 j hj]

end Go.Proofs.Qxb6618997a.Lk
