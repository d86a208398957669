/-
  ZZsplitRules (10) and what reads a split (11, 12, 13, 14, 16, 18), walked.
-/
import Derived.Test.Qxb6618784aSpSplit
import Derived.LaidEqlPtr
namespace Go.Proofs.Qxb6618784a.Sp
open Go.RowKit Go.WideMaps Go.Maps

/-- A split's value. -/
def sval (a1 : Option Addr) (n1 c1 : Nat) (a2 : Option Addr) (n2 c2 rd : Nat) : Value := .agg #[.slice a1 n1 c1, .slice a2 n2 c2, .int .u8 rd]

/-- Where a split's masks and asked rules lie. -/
structure Spl (w : World) (a1 : Option Addr) (g1 : Nat) (a2 : Option Addr) (g2 : Nat) (ms : List Mk) (ps : List Addr) : Prop where
  m : 0 < ms.length → a1 = some ⟨g1, 0, none⟩ ∧ g1 < w.heap.size
  m0 : ∀ i, i < ms.length → w.cell? ⟨g1, i * 3, none⟩ = some (.int .i64 (N ms i).1)
  m1 : ∀ i, i < ms.length → w.cell? ⟨g1, i * 3 + 1, none⟩ = some (.int .u64 (N ms i).2.1)
  m2 : ∀ i, i < ms.length → w.cell? ⟨g1, i * 3 + 2, none⟩ = some (.int .u64 (N ms i).2.2)
  p : 0 < ps.length → a2 = some ⟨g2, 0, none⟩ ∧ g2 < w.heap.size
  p0 : ∀ i, i < ps.length → w.cell? ⟨g2, i, none⟩ = some (.pointer (some (ps.getD i ⟨0, 0, none⟩)))

theorem Spl.below {w w' : World} {a1 a2 : Option Addr} {g1 g2 : Nat} {ms : List Mk} {ps : List Addr} (h : Spl w a1 g1 a2 g2 ms ps) (hw : Below w.heap.size w w') : Spl w' a1 g1 a2 g2 ms ps := by
  have k : ∀ b j v, b < w.heap.size → w.cell? ⟨b, j, none⟩ = some v → w'.cell? ⟨b, j, none⟩ = some v := fun b j v hb hv => (hw.cell (p := ⟨b, j, none⟩) hb).trans hv
  have hs := hw.size
  refine ⟨fun h0 => ⟨(h.m h0).1, by have := (h.m h0).2; omega⟩, fun i hi => k _ _ _ (h.m (by omega)).2 (h.m0 i hi), fun i hi => k _ _ _ (h.m (by omega)).2 (h.m1 i hi), fun i hi => k _ _ _ (h.m (by omega)).2 (h.m2 i hi), fun h0 => ⟨(h.p h0).1, by have := (h.p h0).2; omega⟩, fun i hi => k _ _ _ (h.p (by omega)).2 (h.p0 i hi)⟩

theorem Spl.set {w : World} {a1 a2 : Option Addr} {g1 g2 : Nat} {ms : List Mk} {ps : List Addr} (h : Spl w a1 g1 a2 g2 ms ps) {b j : Nat} (h1 : 0 < ms.length → b ≠ g1) (h2 : 0 < ps.length → b ≠ g2) (v : Value) : Spl (w.setCell ⟨b, j, none⟩ v) a1 g1 a2 g2 ms ps := by
  have k : ∀ g i u, b ≠ g → w.cell? ⟨g, i, none⟩ = some u → (w.setCell ⟨b, j, none⟩ v).cell? ⟨g, i, none⟩ = some u := fun g i u hg hu => by
    rw [World.cell?_of_block (w := w) (a := ⟨g, i, none⟩) (Below.heap_setCell _ _ _ _ (by show g ≠ b; omega))]
    exact hu
  refine ⟨fun h0 => ⟨(h.m h0).1, by have := (h.m h0).2; simpa using this⟩, fun i hi => k _ _ _ (h1 (by omega)) (h.m0 i hi), fun i hi => k _ _ _ (h1 (by omega)) (h.m1 i hi), fun i hi => k _ _ _ (h1 (by omega)) (h.m2 i hi), fun h0 => ⟨(h.p h0).1, by have := (h.p h0).2; simpa using this⟩, fun i hi => k _ _ _ (h2 (by omega)) (h.p0 i hi)⟩

/-- How a call that only reads a split ends. -/
abbrev Gave (v : Value) (w : World) (e : Ending) (w' : World) : Prop := e = .returned v ∧ Below w.heap.size w w'

theorem askedLen_any (a1 a2 : Option Addr) (n1 c1 n2 c2 rd : Nat) (w : World) :
    Calls Try.prog 11 #[sval a1 n1 c1 a2 n2 c2 rd] w (Gave (.int .i64 n2) w) := by
  unfold sval
  go_enter Try.func11, Try.ntmps11
  go_wp2
  go_ret
  exact ⟨rfl, (Below.refl _ w).alloc (Nat.le_refl _) _⟩

theorem everyLen_any (a1 a2 : Option Addr) (n1 c1 n2 c2 rd : Nat) (w : World) :
    Calls Try.prog 14 #[sval a1 n1 c1 a2 n2 c2 rd] w (Gave (.int .i64 n1) w) := by
  unfold sval
  go_enter Try.func14, Try.ntmps14
  go_wp2
  go_ret
  exact ⟨rfl, (Below.refl _ w).alloc (Nat.le_refl _) _⟩

theorem reads_any (a1 a2 : Option Addr) (n1 c1 n2 c2 rd : Nat) (w : World) :
    Calls Try.prog 13 #[sval a1 n1 c1 a2 n2 c2 rd] w (Gave (.int .u8 rd) w) := by
  unfold sval
  go_enter Try.func13, Try.ntmps13
  go_wp2
  go_ret
  exact ⟨rfl, (Below.refl _ w).alloc (Nat.le_refl _) _⟩

theorem everyAt_any (a1 a2 : Option Addr) (c1 n2 c2 rd g1 g2 i : Nat) (ms : List Mk) (ps : List Addr) (w : World) (h : Spl w a1 g1 a2 g2 ms ps) (hi : i < ms.length) :
    Calls Try.prog 16 #[sval a1 ms.length c1 a2 n2 c2 rd, .int .i64 i] w (Gave (.tuple #[.int .i64 (N ms i).1, .int .u64 (N ms i).2.1, .int .u64 (N ms i).2.2]) w) := by
  obtain ⟨rfl, hg⟩ := h.m (by omega)
  have x0 := h.m0 i hi
  have x1 := h.m1 i hi
  have x2 := h.m2 i hi
  have hg1 : ¬ w.heap.size = g1 := by omega
  clear h
  unfold sval
  go_enter Try.func16, Try.ntmps16
  go_wp2
  go_quiet (fail)
  go_wp2
  go_ret3
  exact ⟨rfl, below_drewN (((Below.refl _ w).alloc (Nat.le_refl _) _).alloc (by simp) _) _⟩

theorem eql59 (a : Addr) (w : World) : (binOp .eql 59 (.pointer (some a)) (.pointer (some a))).run Try.prog w = .ok (.bool true) w := by
  obtain ⟨i0, hi0, -⟩ := info_parts info58
  exact run_eql_ptr_same w a Try.underlying59 hi0

theorem askedIs_any (a1 a2 : Option Addr) (n1 c1 c2 rd g1 g2 G n j i : Nat) (ms : List Mk) (ps : List Addr) (w : World) (h : Spl w a1 g1 a2 g2 ms ps) (hj : j < ps.length) (hi : i < n) (he : ps.getD j ⟨0, 0, none⟩ = ⟨G, i * 8, none⟩) :
    Calls Try.prog 12 #[sval a1 n1 c1 a2 ps.length c2 rd, .int .i64 j, .slice (some ⟨G, 0, none⟩) n n, .int .i64 i] w (Gave (.bool true) w) := by
  obtain ⟨rfl, hg⟩ := h.p (by omega)
  have x0 := h.p0 j hj
  rw [he] at x0
  have hg1 : ¬ w.heap.size = g2 := by omega
  clear h he
  have q := eql59
  unfold sval
  go_enter Try.func12, Try.ntmps12
  go_wp2
  go_quiet (fail)
  go_wp2
  go_ret
  exact ⟨rfl, below_drewN ((Below.refl _ w).alloc (Nat.le_refl _) _) _⟩

theorem askedSame_any (a1 a2 b1 b2 : Option Addr) (n1 c1 c2 rd m1 d1 d2 sd g1 g2 k1 k2 j i : Nat) (ms ms' : List Mk) (ps ps' : List Addr) (w : World) (h : Spl w a1 g1 a2 g2 ms ps) (h' : Spl w b1 k1 b2 k2 ms' ps') (hj : j < ps.length) (hi : i < ps'.length) (he : ps.getD j ⟨0, 0, none⟩ = ps'.getD i ⟨0, 0, none⟩) :
    Calls Try.prog 18 #[sval a1 n1 c1 a2 ps.length c2 rd, .int .i64 j, sval b1 m1 d1 b2 ps'.length d2 sd, .int .i64 i] w (Gave (.bool true) w) := by
  obtain ⟨rfl, hg⟩ := h.p (by omega)
  obtain ⟨rfl, hg'⟩ := h'.p (by omega)
  have x0 := h.p0 j hj
  have y0 := h'.p0 i hi
  rw [← he] at y0
  generalize ps.getD j ⟨0, 0, none⟩ = q at x0 y0
  have hg1 : ¬ w.heap.size = g2 := by omega
  have hg2 : ¬ w.heap.size + 1 = g2 := by omega
  have hg3 : ¬ w.heap.size = k2 := by omega
  have hg4 : ¬ w.heap.size + 1 = k2 := by omega
  clear h he h'
  have q' := eql59
  unfold sval
  go_enter Try.func18, Try.ntmps18
  go_wp2
  go_quiet (fail)
  go_wp2
  go_ret
  exact ⟨rfl, below_drewN (((Below.refl _ w).alloc (Nat.le_refl _) _).alloc (by simp) _) _⟩

/-- How ZZsplitRules ends. -/
def SplitV (G s n : Nat) (r : Nat → Rule) (w : World) (e : Ending) (w' : World) : Prop :=
  ∃ a1 c1 g1 a2 c2 g2, e = .returned (sval a1 (msT (fun j => r (s + j)) n).length c1 a2 (adr G s (askT (fun j => r (s + j)) n)).length c2 (rdT (fun j => r (s + j)) n)) ∧ Spl w' a1 g1 a2 g2 (msT (fun j => r (s + j)) n) (adr G s (askT (fun j => r (s + j)) n)) ∧ Below w.heap.size w w'

theorem spl_of_own {w : World} {base : Nat} {ve va : Value} {ms : List Mk} {ps : List Addr} (o1 : w.ownsRow base 61 3 ve ms.length (flatM ms)) (o2 : w.ownsRow base 59 1 va ps.length (ptrs ps)) :
    ∃ a1 c1 g1 a2 c2 g2, ve = .slice a1 ms.length c1 ∧ va = .slice a2 ps.length c2 ∧ Spl w a1 g1 a2 g2 ms ps := by
  obtain ⟨a1, c1, g1, rfl, h1⟩ := own_form o1
  obtain ⟨a2, c2, g2, rfl, h2⟩ := own_form o2
  refine ⟨a1, c1, g1, a2, c2, g2, rfl, rfl, fun h => ⟨(h1 h).1, (h1 h).2.2⟩, fun i hi => ?_, fun i hi => ?_, fun i hi => ?_, fun h => ⟨(h2 h).1, (h2 h).2.2⟩, fun i hi => ?_⟩
  · obtain ⟨rfl, -⟩ := h1 (by omega)
    exact (o1.cellAt (i * 3) (by omega)).trans (flatM_get ms i 0 hi (by omega))
  · obtain ⟨rfl, -⟩ := h1 (by omega)
    exact (o1.cellAt (i * 3 + 1) (by omega)).trans (flatM_get ms i 1 hi (by omega))
  · obtain ⟨rfl, -⟩ := h1 (by omega)
    exact (o1.cellAt (i * 3 + 2) (by omega)).trans (flatM_get ms i 2 hi (by omega))
  · obtain ⟨rfl, -⟩ := h2 (by omega)
    refine (o2.cellAt i (by omega)).trans ?_
    simp [ptrs, List.getD, List.getElem?_eq_getElem hi]

set_option maxHeartbeats 1000000 in
theorem zzsplit_any (a : Option Addr) (n c G s : Nat) (r : Nat → Rule) (w : World) (hn : n ≤ 4096) (hs : s ≤ 4096) (ha : 0 < n → a = some ⟨G, s * 8, none⟩) (hb : Built w G (s + n) r) (hrk : ∀ k, k < s + n → 0 ≤ (r k).rank ∧ (r k).rank ≤ 2147483647) (hrd : ∀ k, k < s + n → 0 ≤ (r k).reads ∧ (r k).reads ≤ 255) :
    Calls Try.prog 10 #[.slice a n c] w (SplitV G s n r w) := by
  have hsz : (w.alloc (Obj.cells #[.slice none 0 0, .slice none 0 0, .int .u8 0] 37)).heap.size = w.heap.size + 1 := by simp
  have hG := hb.lt
  have hb' : Built (w.alloc (Obj.cells #[.slice none 0 0, .slice none 0 0, .int .u8 0] 37)) G (s + n) r := by
    have k : ∀ j v, w.cell? ⟨G, j, none⟩ = some v → (w.alloc (Obj.cells #[.slice none 0 0, .slice none 0 0, .int .u8 0] 37)).cell? ⟨G, j, none⟩ = some v := fun j v hv => (World.cell?_alloc_lt _ _ _ hG).trans hv
    exact ⟨fun i hi => k _ _ (hb.dn i hi), fun i hi => k _ _ (hb.ev i hi), fun i hi => k _ _ (hb.rd i hi), fun i hi => k _ _ (hb.rk i hi), by rw [hsz]; omega⟩
  have hcall := split_any a n c G s r _ hn hs ha hb' hrk hrd
  clear hb hb' hrk hrd ha
  go_enter Try.func10, Try.ntmps10
  go_wp2_with fail
  refine hcall.mono ?_
  clear hcall
  rintro e w1 ⟨ve, va, rfl, o1, o2, hbl⟩
  rw [hsz] at hbl
  rw [show (askT (fun j => r (s + j)) n).length = (adr G s (askT (fun j => r (s + j)) n)).length by rw [adr, List.length_map]] at o2
  obtain ⟨a1, c1, g1, a2, c2, g2, rfl, rfl, hspl⟩ := spl_of_own o1 o2
  have hR : w1.heap[w.heap.size]? = some (.cells #[.slice none 0 0, .slice none 0 0, .int .u8 0] 37 (0, 0)) := (hbl.block _ (by omega)).trans (heap_alloc_new w _)
  obtain ⟨d0, d1, d2, f0, f1, f2⟩ := cells_S hR
  have hg1 : ∀ h : 0 < (msT (fun j => r (s + j)) n).length, w.heap.size < g1 := fun h => by
    have := (o1.lt g1 (by rw [(hspl.m h).1]; rfl)).1
    omega
  have hg2 : ∀ h : 0 < (adr G s (askT (fun j => r (s + j)) n)).length, w.heap.size < g2 := fun h => by
    have := (o2.lt g2 (by rw [(hspl.p h).1]; rfl)).1
    omega
  have HSP : Hid (Spl w1 a1 g1 a2 g2 (msT (fun j => r (s + j)) n) (adr G s (askT (fun j => r (s + j)) n))) := hspl
  have HBL : Hid (Below (w.heap.size + 1) (w.alloc (Obj.cells #[.slice none 0 0, .slice none 0 0, .int .u8 0] 37)) w1) := hbl
  clear o1 o2 hspl hbl
  obtain ⟨ms, hms⟩ : ∃ ms, ms = msT (fun j => r (s + j)) n := ⟨_, rfl⟩
  obtain ⟨ps, hps⟩ : ∃ ps, ps = adr G s (askT (fun j => r (s + j)) n) := ⟨_, rfl⟩
  obtain ⟨rd, hrd⟩ : ∃ rd, rd = rdT (fun j => r (s + j)) n := ⟨_, rfl⟩
  have HE : Hid (ms = msT (fun j => r (s + j)) n ∧ ps = adr G s (askT (fun j => r (s + j)) n) ∧ rd = rdT (fun j => r (s + j)) n) := ⟨hms, hps, hrd⟩
  rw [← hms] at HSP hg1
  rw [← hps] at HSP hg2
  rw [← hms, ← hps, ← hrd]
  clear hms hps hrd
  go_wp2_with fail
  refine bodyPost_ret (results_cell_row (d := _) rfl _ _ w.heap.size 37 #[.slice a1 ms.length c1, .slice a2 ps.length c2, .int .u8 rd] (0, 0) rfl ?_ Try.underlying37 rfl (by kernel_rfl)) rfl ?_
  · simp [World.setCell, Array.getElem?_modify, hR]
  · obtain ⟨rfl, rfl, rfl⟩ := HE.out
    have n1 : 0 < (msT (fun j => r (s + j)) n).length → w.heap.size ≠ g1 := fun h => by have := hg1 h; omega
    have n2 : 0 < (adr G s (askT (fun j => r (s + j)) n)).length → w.heap.size ≠ g2 := fun h => by have := hg2 h; omega
    refine ⟨a1, c1, g1, a2, c2, g2, rfl, ((HSP.out.set n1 n2 _).set n1 n2 _).set n1 n2 _, ?_⟩
    exact (((((Below.refl _ w).alloc (Nat.le_refl _) _).trans (HBL.out.mono (by omega))).setCell (Nat.le_refl _) _).setCell (Nat.le_refl _) _).setCell (Nat.le_refl _) _

end Go.Proofs.Qxb6618784a.Sp
