/-
  b1Build (19), walked: what it builds.
-/
import Derived.Test.Qxb6618997aLkEnv
namespace Go.Proofs.Qxb6618997a.Lk
open Go.RowKit Go.WideMaps Go.Maps

theorem info71 : (Try.prog.info? 71).map (fun i => (i.zero, i.size, i.bytes)) = some (some (.agg #[.pointer none, .int .i32 0, .int .i32 0, .pointer none, .pointer none]), 5, 32) := by kernel_rfl
theorem info75 : (Try.prog.info? 75).map (fun i => (i.zero, i.size, i.bytes)) = some (some (.agg #[.int .i32 0, .int .i32 0]), 2, 8) := by kernel_rfl

def put (f : Nat → Nat) (k v : Nat) : Nat → Nat := fun j => if j = k then v else f j
theorem put_same (f : Nat → Nat) (k v : Nat) : put f k v k = v := by simp [put]
theorem put_less (f : Nat → Nat) {k j : Nat} (v : Nat) (h : j < k) : put f k v j = f j := by
  simp [put]
  intro e
  omega

/-- The roles behind k rounds: their pointers in the row gp. -/
structure Roles (P : Nat → Rl) (gp n k : Nat) (ra : Nat → Nat) (w : World) : Prop where
  row : ∃ f, w.rowIs gp 55 n f ∧ ∀ i, i < k → f i = .pointer (some ⟨ra i, 0, none⟩)
  rb : ∀ i, i < k → w.heap[ra i]? = some (.cells (roleCells (P i).place (P i).ik (P i).inn) 110)
  up : ∀ i j, i < j → j < k → ra i < ra j
  ne : ∀ i, i < k → gp < ra i

theorem row_step {w : World} {b n k : Nat} {t : TypeId} {V : Nat → Value} (h : ∃ f, w.rowIs b t n f ∧ ∀ i, i < k → f i = V i) : ∃ f, (w.setCell ⟨b, k, none⟩ (V k)).rowIs b t n f ∧ ∀ i, i < k + 1 → f i = V i := by
  obtain ⟨f, hf, hv⟩ := h
  refine ⟨_, hf.set k (V k), upto_succ (fun i hi => ?_) (if_pos rfl)⟩
  rw [if_neg (by omega)]
  exact hv i hi
theorem row_below {w w' : World} {b n k : Nat} {t : TypeId} {V : Nat → Value} (h : ∃ f, w.rowIs b t n f ∧ ∀ i, i < k → f i = V i) (hw : Below w.heap.size w w') : ∃ f, w'.rowIs b t n f ∧ ∀ i, i < k → f i = V i := by
  obtain ⟨f, hf, hv⟩ := h
  obtain ⟨xs, h1, h2⟩ := hf
  exact ⟨f, ⟨xs, (hw.block b (lt_of_heap h1)).trans h1, h2⟩, hv⟩
theorem row_at {w : World} {b n k i : Nat} {t : TypeId} {V : Nat → Value} (h : ∃ f, w.rowIs b t n f ∧ ∀ i, i < k → f i = V i) (hk : i < k) (hn : i < n) : w.cell? ⟨b, i, none⟩ = some (V i) := by
  obtain ⟨f, hf, hv⟩ := h
  rw [hf.cell hn, hv i hk]
theorem row_some {w : World} {b n k : Nat} {t : TypeId} {V : Nat → Value} (h : ∃ f, w.rowIs b t n f ∧ ∀ i, i < k → f i = V i) (hn : k < n) : ∃ v, w.cell? ⟨b, k, none⟩ = some v ∧ w.frozen? ⟨b, k, none⟩ = false := by
  obtain ⟨f, hf, hv⟩ := h
  exact ⟨_, hf.cell hn, hf.frozen k⟩
theorem row_lt {w : World} {b n k : Nat} {t : TypeId} {V : Nat → Value} (h : ∃ f, w.rowIs b t n f ∧ ∀ i, i < k → f i = V i) : b < w.heap.size := by
  obtain ⟨f, hf, hv⟩ := h
  exact hf.lt

/-- One role more: two blocks are made, its pointer is stored. -/
theorem Roles.step {P : Nat → Rl} {gp n k : Nat} {ra : Nat → Nat} {w : World} (h : Roles P gp n k ra w) (hgp : gp < w.heap.size) :
    Roles P gp n (k + 1) (put ra k (w.heap.size + 1)) (((w.alloc (.cells #[.string (P k).ik, .string (P k).inn] 51)).alloc (.cells (roleCells (P k).place (P k).ik (P k).inn) 110)).setCell ⟨gp, k, none⟩ (.pointer (some ⟨w.heap.size + 1, 0, none⟩))) := by
  have hw : Below w.heap.size w ((w.alloc (.cells #[.string (P k).ik, .string (P k).inn] 51)).alloc (.cells (roleCells (P k).place (P k).ik (P k).inn) 110)) := ((Below.refl _ _).alloc (Nat.le_refl _) _).alloc (by simp) _
  have hnew : ((w.alloc (.cells #[.string (P k).ik, .string (P k).inn] 51)).alloc (.cells (roleCells (P k).place (P k).ik (P k).inn) 110)).heap[w.heap.size + 1]? = some (.cells (roleCells (P k).place (P k).ik (P k).inn) 110) := by
    have := heap_alloc_new (w.alloc (.cells #[.string (P k).ik, .string (P k).inn] 51)) (.cells (roleCells (P k).place (P k).ik (P k).inn) 110)
    rwa [World.size_alloc] at this
  refine ⟨?_, upto_succ (fun i hi => ?_) ?_, ?_, upto_succ (fun i hi => ?_) ?_⟩
  · obtain ⟨f, hf, hv⟩ := row_below h.row hw
    refine ⟨_, hf.set k _, upto_succ (fun i hi => ?_) ?_⟩
    · rw [if_neg (by omega), put_less _ _ hi]
      exact hv i hi
    · rw [if_pos rfl, put_same]
  · rw [put_less _ _ hi, Below.heap_setCell _ _ _ _ (by have := h.ne i hi; show ra i ≠ gp; omega), hw.block _ (lt_of_heap (h.rb i hi))]
    exact h.rb i hi
  · rw [put_same, Below.heap_setCell _ _ _ _ (by show w.heap.size + 1 ≠ gp; omega)]
    exact hnew
  · intro i j hij hj
    by_cases e : j = k
    · subst e
      rw [put_same, put_less _ _ hij]
      have := lt_of_heap (h.rb i hij)
      omega
    · rw [put_less _ _ (show j < k by omega), put_less _ _ (show i < k by omega)]
      exact h.up i j hij (by omega)
  · rw [put_less _ _ hi]
    exact h.ne i hi
  · rw [put_same]
    omega

/-- The list of bindings behind k rounds. -/
structure Lst (n k : Nat) (g : Nat) (ra : Nat → Nat) (pl : Nat → Int) (pn px : Nat → Option Addr) (f : Nat → Value) (w : World) : Prop where
  row : w.rowIs g 71 (n * 5) f
  f0 : ∀ j, j < k → f (j * 5) = .pointer (some ⟨ra j, 0, none⟩)
  f1 : ∀ j, j < k → f (j * 5 + 1) = .int .i32 (pl j)
  f2 : ∀ j, j < k → f (j * 5 + 2) = .int .i32 0
  f3 : ∀ j, j < k → f (j * 5 + 3) = .pointer (pn j)
  f4 : ∀ j, j < k → f (j * 5 + 4) = .pointer (px j)
theorem Lst.below {n k g : Nat} {ra : Nat → Nat} {pl : Nat → Int} {pn px : Nat → Option Addr} {f : Nat → Value} {w w' : World} (h : Lst n k g ra pl pn px f w) (hw : Below w.heap.size w w') : Lst n k g ra pl pn px f w' := by
  obtain ⟨xs, h1, h2⟩ := h.row
  exact ⟨⟨xs, (hw.block g (lt_of_heap h1)).trans h1, h2⟩, h.f0, h.f1, h.f2, h.f3, h.f4⟩
theorem Lst.step {n k g : Nat} {ra : Nat → Nat} {pl : Nat → Int} {pn px : Nat → Option Addr} {f : Nat → Value} {w : World} (h : Lst n k g ra pl pn px f w) :
    ∃ f', Lst n (k + 1) g ra pl pn px f' (((((w.setCell ⟨g, k * 5, none⟩ (.pointer (some ⟨ra k, 0, none⟩))).setCell ⟨g, k * 5 + 1, none⟩ (.int .i32 (pl k))).setCell ⟨g, k * 5 + 2, none⟩ (.int .i32 0)).setCell ⟨g, k * 5 + 3, none⟩ (.pointer (pn k))).setCell ⟨g, k * 5 + 4, none⟩ (.pointer (px k))) := by
  refine ⟨_, ((((h.row.set (k * 5) _).set (k * 5 + 1) _).set (k * 5 + 2) _).set (k * 5 + 3) _).set (k * 5 + 4) _, upto_succ (fun j hj => ?_) (by simp), upto_succ (fun j hj => ?_) (by simp), upto_succ (fun j hj => ?_) (by simp), upto_succ (fun j hj => ?_) (by simp), upto_succ (fun j hj => ?_) (by simp)⟩
  · iterate 5 rw [if_neg (by omega)]
    exact h.f0 j hj
  · iterate 5 rw [if_neg (by omega)]
    exact h.f1 j hj
  · iterate 5 rw [if_neg (by omega)]
    exact h.f2 j hj
  · iterate 5 rw [if_neg (by omega)]
    exact h.f3 j hj
  · iterate 5 rw [if_neg (by omega)]
    exact h.f4 j hj
theorem Lst.bl {n g : Nat} {ra : Nat → Nat} {pl : Nat → Int} {pn px : Nat → Option Addr} {f : Nat → Value} {w : World} (h : Lst n n g ra pl pn px f w) : BL w g n ra pl pn px :=
  ⟨fun j hj => by rw [h.row.cell (by omega), h.f0 j hj], fun j hj => by rw [h.row.cell (by omega), h.f1 j hj], fun j hj => by rw [h.row.cell (by omega), h.f2 j hj], fun j hj => by rw [h.row.cell (by omega), h.f3 j hj], fun j hj => by rw [h.row.cell (by omega), h.f4 j hj], h.row.lt⟩

/-- The filed places behind k rounds. -/
structure Kst (n k : Nat) (g : Nat) (key pl : Nat → Int) (f : Nat → Value) (w : World) : Prop where
  row : w.rowIs g 75 (n * 2) f
  f0 : ∀ j, j < k → f (j * 2) = .int .i32 (key j)
  f1 : ∀ j, j < k → f (j * 2 + 1) = .int .i32 (pl j)
theorem Kst.below {n k g : Nat} {key pl : Nat → Int} {f : Nat → Value} {w w' : World} (h : Kst n k g key pl f w) (hw : Below w.heap.size w w') : Kst n k g key pl f w' := by
  obtain ⟨xs, h1, h2⟩ := h.row
  exact ⟨⟨xs, (hw.block g (lt_of_heap h1)).trans h1, h2⟩, h.f0, h.f1⟩
theorem Kst.step {n k g : Nat} {key pl : Nat → Int} {f : Nat → Value} {w : World} (h : Kst n k g key pl f w) :
    ∃ f', Kst n (k + 1) g key pl f' ((w.setCell ⟨g, k * 2, none⟩ (.int .i32 (key k))).setCell ⟨g, k * 2 + 1, none⟩ (.int .i32 (pl k))) := by
  refine ⟨_, (h.row.set (k * 2) _).set (k * 2 + 1) _, upto_succ (fun j hj => ?_) (by simp), upto_succ (fun j hj => ?_) (by simp)⟩
  · iterate 2 rw [if_neg (by omega)]
    exact h.f0 j hj
  · iterate 2 rw [if_neg (by omega)]
    exact h.f1 j hj
theorem Kst.kl {n g : Nat} {key pl : Nat → Int} {f : Nat → Value} {w : World} (h : Kst n n g key pl f w) : KL w g n key pl :=
  ⟨fun j hj => by rw [h.row.cell (by omega), h.f0 j hj], fun j hj => by rw [h.row.cell (by omega), h.f1 j hj], h.row.lt⟩

theorem BL.blk {w w' : World} {g n : Nat} {ra : Nat → Nat} {pl : Nat → Int} {pn px : Nat → Option Addr} (h : BL w g n ra pl pn px) (hb : w'.heap[g]? = w.heap[g]?) : BL w' g n ra pl pn px := by
  have k : ∀ j v, w.cell? ⟨g, j, none⟩ = some v → w'.cell? ⟨g, j, none⟩ = some v := fun j v hv => (World.cell?_of_block (a := ⟨g, j, none⟩) hb).trans hv
  exact ⟨fun j hj => k _ _ (h.c0 j hj), fun j hj => k _ _ (h.c1 j hj), fun j hj => k _ _ (h.c2 j hj), fun j hj => k _ _ (h.c3 j hj), fun j hj => k _ _ (h.c4 j hj), by
    have hl := h.lt
    rw [Array.getElem?_eq_getElem hl] at hb
    exact lt_of_heap hb⟩
theorem KL.blk {w w' : World} {g n : Nat} {key pl : Nat → Int} (h : KL w g n key pl) (hb : w'.heap[g]? = w.heap[g]?) : KL w' g n key pl := by
  have k : ∀ j v, w.cell? ⟨g, j, none⟩ = some v → w'.cell? ⟨g, j, none⟩ = some v := fun j v hv => (World.cell?_of_block (a := ⟨g, j, none⟩) hb).trans hv
  exact ⟨fun j hj => k _ _ (h.c0 j hj), fun j hj => k _ _ (h.c1 j hj), by
    have hl := h.lt
    rw [Array.getElem?_eq_getElem hl] at hb
    exact lt_of_heap hb⟩
/-- The whole, at the end: the result's own block s has turned, no other. -/
theorem env_of {D : Data} {gp gl gi gk gr : Nat} {ra : Nat → Nat} {pn px : Nat → Option Addr} {a4 : Option Addr} {c4 b4 o4 : Nat} {a7 : Option Addr} {c7 b7 o7 : Nat} {a9 : Option Addr} {c9 b9 o9 : Nat} {w wr wE : World} (hE : Below w.heap.size w wE) (hoff : ∀ k, k ≠ w.heap.size → wE.heap[k]? = wr.heap[k]?)
    (h4 : Bnds w a4 D.nb c4 b4 o4 D.B pn px) (h7 : Ints 34 .i32 w a7 D.nw c7 b7 o7 D.W) (h9 : Ints 34 .i32 w a9 D.ns c9 b9 o9 D.S) (hR : Roles D.P gp D.np D.np ra wr) (hgp : w.heap.size < gp) (bl : BL wr gl D.nb (fun j => ra (D.role j)) (fun j => (D.P (D.role j)).place) pn px) (hgl : w.heap.size < gl)
    (rp : ∃ f, wr.rowIs gr 55 D.nr f ∧ ∀ i, i < D.nr → f i = .pointer (some ⟨ra (D.R i).toNat, 0, none⟩)) (hgr : w.heap.size < gr) (kl : D.ix = true → KL wr gk D.nf (fun m => (D.K m).key) (fun m => (D.K m).place) ∧ w.heap.size < gk) (il : D.ix = true → wr.heap[gi]? = some (.cells #[.slice (some ⟨gk, 0, none⟩) D.nf D.nf, .slice a7 D.nw c7] 112) ∧ w.heap.size < gi) :
    Env D ⟨gp, gl, gi, gk, gr, ra, pn, px, a7, c7, b7, o7, a9, c9, b9, o9⟩ wE where
  rb := fun i hi => (hoff _ (by have := hR.ne i hi; show ra i ≠ _; omega)).trans (hR.rb i hi)
  inj := fun i j hi hj e => by
    rcases Nat.lt_trichotomy i j with h | h | h
    · have e' : ra i = ra j := e
      have := hR.up i j h hj
      omega
    · exact h
    · have e' : ra i = ra j := e
      have := hR.up j i h hi
      omega
  bl := bl.blk (hoff _ (by omega))
  s1 := fun j hj => (h4.v1 j hj).below hE
  s2 := fun j hj => (h4.v2 j hj).below hE
  rp := fun i hi => (World.cell?_of_block (a := ⟨gr, i, none⟩) (hoff gr (by omega))).trans (row_at rp hi hi)
  rlt := by
    have h := hoff gr (by omega)
    rw [Array.getElem?_eq_getElem (row_lt rp)] at h
    exact lt_of_heap h
  kl := fun e => (kl e).1.blk (hoff _ (by have := (kl e).2; omega))
  il := fun e => (hoff _ (by have := (il e).2; show gi ≠ _; omega)).trans (il e).1
  wi := h7.below hE
  sh := h9.below hE
  pt := fun i hi => (World.cell?_of_block (a := ⟨gp, i, none⟩) (hoff gp (by omega))).trans (row_at hR.row hi hi)
  plt := by
    have h := hoff gp (by omega)
    rw [Array.getElem?_eq_getElem (row_lt hR.row)] at h
    exact lt_of_heap h
theorem Roles.below {P : Nat → Rl} {gp n k : Nat} {ra : Nat → Nat} {w w' : World} (h : Roles P gp n k ra w) (hw : Below w.heap.size w w') : Roles P gp n k ra w' := ⟨row_below h.row hw, fun i hi => (hw.block _ (lt_of_heap (h.rb i hi))).trans (h.rb i hi), h.up, h.ne⟩

theorem res19 (tmps : Array Value) (u : World) (g : Nat) (x0 x1 v0 v2 : Value) (h12 : tmps[12]?.getD undef = v0) (h13 : tmps[13]?.getD undef = .pointer (some ⟨g, 0, none⟩)) (h14 : tmps[14]?.getD undef = v2) (hg : u.heap[g]? = some (.cells #[x0, x1] 45)) : (results Try.f19 tmps).run Try.prog u = .ok (.tuple #[v0, .agg #[x0, x1], v2]) u := by
  simp [results, Try.results19, h12, h13, h14, asAddr, run_loadVar_row u g 45 45 #[x0, x1] (0, 0) _ hg Try.underlying45 rfl (by kernel_rfl)]

/-- How b1Build ends. -/
def Built (D : Data) (pn px : Nat → Option Addr) (a7 : Option Addr) (c7 b7 o7 : Nat) (a9 : Option Addr) (c9 b9 o9 : Nat) (e : Ending) (w' : World) : Prop :=
  ∃ (gp gl gi gk gr : Nat) (ra : Nat → Nat), e = .returned (.tuple #[.slice (some ⟨gp, 0, none⟩) D.np D.np, .agg #[.slice (some ⟨gl, 0, none⟩) D.nb D.nb, .pointer (if D.ix = true then some ⟨gi, 0, none⟩ else none)], .slice (some ⟨gr, 0, none⟩) D.nr D.nr]) ∧ Env D ⟨gp, gl, gi, gk, gr, ra, pn, px, a7, c7, b7, o7, a9, c9, b9, o9⟩ w'

set_option maxHeartbeats 8000000 in
set_option maxRecDepth 100000 in
theorem build_any (D : Data) (ok : Ok D) (a3 : Option Addr) (c3 b3 o3 : Nat) (a4 : Option Addr) (c4 b4 o4 : Nat) (pn px : Nat → Option Addr) (a6 : Option Addr) (c6 b6 o6 : Nat) (a7 : Option Addr) (c7 b7 o7 : Nat) (a8 : Option Addr) (c8 b8 o8 : Nat) (a9 : Option Addr) (c9 b9 o9 : Nat) (w : World)
    (h3 : Pool w a3 D.np c3 b3 o3 D.P) (h4 : Bnds w a4 D.nb c4 b4 o4 D.B pn px) (h6 : Kps w a6 D.nf c6 b6 o6 D.K) (h7 : Ints 34 .i32 w a7 D.nw c7 b7 o7 D.W) (h8 : Ints 35 .i64 w a8 D.nr c8 b8 o8 D.R) (h9 : Ints 34 .i32 w a9 D.ns c9 b9 o9 D.S) :
    Calls Try.prog 19 #[.slice a3 D.np c3, .slice a4 D.nb c4, .bool D.ix, .slice a6 D.nf c6, .slice a7 D.nw c7, .slice a8 D.nr c8] w fun e w' => Built D pn px a7 c7 b7 o7 a9 c9 b9 o9 e w' ∧ Below w.heap.size w w' := by
  have t1 := ok.np
  have t2 := ok.nb
  have t3 := ok.nf
  have t4 := ok.nr
  have HOK : Hid (Ok D) := ok
  have H3 : Hid (Pool w a3 D.np c3 b3 o3 D.P) := h3
  have H4 : Hid (Bnds w a4 D.nb c4 b4 o4 D.B pn px) := h4
  have H6 : Hid (Kps w a6 D.nf c6 b6 o6 D.K) := h6
  have H7 : Hid (Ints 34 .i32 w a7 D.nw c7 b7 o7 D.W) := h7
  have H8 : Hid (Ints 35 .i64 w a8 D.nr c8 b8 o8 D.R) := h8
  have H9 : Hid (Ints 34 .i32 w a9 D.ns c9 b9 o9 D.S) := h9
  have mk1 := make_row Try.underlying41 info55 D.np (by omega) (by omega)
  have mk2 := make_row Try.underlying42 info71 D.nb (by omega) (by omega)
  have mk3 := make_row Try.underlying73 info75 D.nf (by omega) (by omega)
  have mk4 := make_row Try.underlying41 info55 D.nr (by omega) (by omega)
  clear ok h3 h4 h6 h7 h8 h9
  go_enter Try.func19, Try.ntmps19
  go_wp2_with fail
  go_loopw [16] (fun i wr => ∃ (k : Nat) (ra : Nat → Nat), k ≤ D.np ∧ i = .int .i64 k ∧ Roles D.P (w.heap.size + 1) D.np k ra wr ∧ Below w.heap.size w wr ∧ wr.heap[w.heap.size]? = some (.cells #[.slice none 0 0, .pointer none] 45)) (fun i _ => D.np - (intOf i).toNat)
  case atStart =>
    have e0 := rowIs_made (w.alloc (.cells #[.slice none 0 0, .pointer none] 45)) #[Value.pointer none] D.np 55
    rw [World.size_alloc] at e0
    exact ⟨0, fun _ => 0, Nat.zero_le _, rfl, ⟨⟨_, e0, fun i hi => absurd hi (by omega)⟩, fun i hi => absurd hi (by omega), fun i j _ hj => absurd hj (by omega), fun i hi => absurd hi (by omega)⟩, ((Below.refl _ _).alloc (Nat.le_refl _) _).alloc (by simp) _, (Below.heap_alloc _ _ _ (by simp)).trans (heap_alloc_new w _)⟩
  case round =>
    clear mk1
    obtain ⟨k, ra, hk, rfl, hR, hbel, hbox⟩ := hrel
    have HR : Hid (Roles D.P (w.heap.size + 1) D.np k ra wr) := hR
    have HBL : Hid (Below w.heap.size w wr) := hbel
    have HBX : Hid (wr.heap[w.heap.size]? = some (.cells #[.slice none 0 0, .pointer none] 45)) := hbox
    have hgl : w.heap.size + 1 < wr.heap.size := row_lt hR.row
    clear hR hbel hbox
    by_cases hlt : k < D.np
    · have hP := H3.out.below HBL.out
      have hb3 : b3 < w.heap.size := H3.out.lt (by omega)
      have ix0 := fun w' => hP.idx k w' hlt
      have hrg := hP.rg k hlt
      have HC : Hid (∀ u : World, u.heap[b3]? = wr.heap[b3]? → u.cell? ⟨b3, o3 + k * 3, none⟩ = some (.int .i32 (D.P k).place) ∧ u.cell? ⟨b3, o3 + k * 3 + 1, none⟩ = some (.string (D.P k).ik) ∧ u.cell? ⟨b3, o3 + k * 3 + 2, none⟩ = some (.string (D.P k).inn)) := fun u hu =>
        ⟨(World.cell?_of_block (a := ⟨b3, _, none⟩) hu).trans (hP.c0 k hlt), (World.cell?_of_block (a := ⟨b3, _, none⟩) hu).trans (hP.c1 k hlt), (World.cell?_of_block (a := ⟨b3, _, none⟩) hu).trans (hP.c2 k hlt)⟩
      have hcv : IntKind.i64.wrap (D.P k).place = (D.P k).place := by rw [IntKind.wrap_i64]; omega
      obtain ⟨v0, x0, f0⟩ := row_some HR.out.row hlt
      have HWA : Hid (∀ wa : World, wa = (wr.drew.alloc (.cells #[.string (D.P k).ik, .string (D.P k).inn] 51)).alloc (.cells (roleCells (D.P k).place (D.P k).ik (D.P k).inn) 110) → wa.heap[b3]? = wr.heap[b3]? ∧ wa.cell? ⟨w.heap.size + 1, k, none⟩ = some v0 ∧ wa.frozen? ⟨w.heap.size + 1, k, none⟩ = false) := by
        intro wa hwa
        have hbw : Below wr.heap.size wr wa := by rw [hwa]; exact (((Below.refl _ _).drew).alloc (Nat.le_refl _) _).alloc (by simp) _
        exact ⟨hbw.block _ (by omega), (hbw.cell (p := ⟨w.heap.size + 1, k, none⟩) hgl).trans x0, (hbw.frozen (p := ⟨w.heap.size + 1, k, none⟩) hgl).trans f0⟩
      have HSET : Hid (∀ (u : World) (v : Value), u.heap[b3]? = wr.heap[b3]? → (u.setCell ⟨w.heap.size + 1, k, none⟩ v).heap[b3]? = wr.heap[b3]?) := fun u v hu => (Below.heap_setCell _ _ _ _ (by show b3 ≠ w.heap.size + 1; omega)).trans hu
      have HST : Hid (Roles D.P (w.heap.size + 1) D.np (k + 1) (put ra k (wr.drew.heap.size + 1)) (((wr.drew.alloc (.cells #[.string (D.P k).ik, .string (D.P k).inn] 51)).alloc (.cells (roleCells (D.P k).place (D.P k).ik (D.P k).inn) 110)).setCell ⟨w.heap.size + 1, k, none⟩ (.pointer (some ⟨wr.drew.heap.size + 1, 0, none⟩)))) := (Roles.mk (w := wr.drew) HR.out.row HR.out.rb HR.out.up HR.out.ne).step hgl
      clear hP hb3 hrg x0 f0
      go_wp2_with fail
      go_region_held3 (fun u => u.cell? ⟨b3, o3 + k * 3, none⟩ = some (.int .i32 (D.P k).place) ∧ u.cell? ⟨b3, o3 + k * 3 + 1, none⟩ = some (.string (D.P k).ik) ∧ u.cell? ⟨b3, o3 + k * 3 + 2, none⟩ = some (.string (D.P k).inn))
        (first | exact HC.out _ rfl | exact HC.out _ HY.out | exact HC.out _ (HSET.out _ _ HY.out))
        (first | (go_at_call 27; refine (newRole_any _ _ _ _).mono ?_; rintro e wa ⟨rfl, hwa⟩; obtain ⟨z0, z1, z2⟩ := HWA.out wa hwa; have HY : Hid (wa.heap[b3]? = wr.heap[b3]?) := z0; have HW : Hid (wa = _) := hwa; clear hwa z0))
      go_wp2_with fail
      go_roundw
      case rel => exact ⟨k + 1, put ra k (wr.heap.size + 1), by omega, by go_num, by rw [HW.out]; exact HST.out, by rw [HW.out]; exact (((HBL.out.drew.alloc (by have := HBL.out.size; simpa using this) _).alloc (by have := HBL.out.size; simp <;> omega) _).setCell (by simp) _), by rw [HW.out]; exact (Below.heap_setCell _ _ _ _ (by simp)).trans ((Below.heap_alloc _ _ _ (by simp <;> omega)).trans ((Below.heap_alloc _ _ _ (by show w.heap.size < wr.heap.size; omega)).trans HBX.out))⟩
      case measure => simp [intOf]; omega
    · obtain ⟨wA, rfl⟩ : ∃ u, u = wr := ⟨wr, rfl⟩
      have HRA : Hid (Roles D.P (w.heap.size + 1) D.np D.np ra wA) := by
        have e : k = D.np := by omega
        have h := HR.out
        rw [e] at h
        exact h
      have HWA : Hid (Below w.heap.size w wA) := HBL.out
      clear HR
      go_wp2_with fail
      clear hlt hk
      go_loopw [18] (fun i wr => ∃ (k : Nat) (f : Nat → Value), k ≤ D.nb ∧ i = .int .i64 k ∧ Lst D.nb k wA.heap.size (fun j => ra (D.role j)) (fun j => (D.P (D.role j)).place) pn px f wr ∧ Below wA.heap.size wA wr) (fun i _ => D.nb - (intOf i).toNat)
      case atStart =>
        have e0 := rowIs_made wA (Value.agg #[.pointer none, .int .i32 0, .int .i32 0, .pointer none, .pointer none]).cells (D.nb * 5) 71
        exact ⟨0, _, Nat.zero_le _, rfl, ⟨e0, fun i hi => absurd hi (by omega), fun i hi => absurd hi (by omega), fun i hi => absurd hi (by omega), fun i hi => absurd hi (by omega), fun i hi => absurd hi (by omega)⟩, (Below.refl _ _).alloc (Nat.le_refl _) _⟩
      case round =>
        clear mk2
        obtain ⟨k, f, hk, rfl, hL, hbel⟩ := hrel
        have HL : Hid (Lst D.nb k wA.heap.size (fun j => ra (D.role j)) (fun j => (D.P (D.role j)).place) pn px f wr) := hL
        have HBR : Hid (Below wA.heap.size wA wr) := hbel
        have hll : wA.heap.size < wr.heap.size := hL.row.lt
        clear hL hbel
        by_cases hlt : k < D.nb
        · have hbw : Below w.heap.size w wr := HWA.out.trans (HBR.out.mono HWA.out.size)
          have hB := H4.out.below hbw
          have hb4 : b4 < w.heap.size := H4.out.lt (by omega)
          have hwA := HWA.out.size
          have ix0 := fun w' => hB.idx k w' hlt
          obtain ⟨hrl, hre⟩ := HOK.out.role hlt
          have hRw := HRA.out.below HBR.out
          have hrb := hRw.rb _ hrl
          have hrg := HOK.out.prg _ hrl
          obtain ⟨r, HRR⟩ : ∃ r, Hid (r = D.role k) := ⟨_, rfl⟩
          rw [← HRR.out] at hrl hre hrb hrg
          have HC : Hid (∀ u : World, u.heap[b4]? = wr.heap[b4]? ∧ u.heap[w.heap.size + 1]? = wr.heap[w.heap.size + 1]? → u.cell? ⟨b4, o4 + k * 3, none⟩ = some (.int .i64 (r : Int)) ∧ u.cell? ⟨b4, o4 + k * 3 + 1, none⟩ = some (.pointer (pn k)) ∧ u.cell? ⟨b4, o4 + k * 3 + 2, none⟩ = some (.pointer (px k)) ∧ u.cell? ⟨w.heap.size + 1, r, none⟩ = some (.pointer (some ⟨ra r, 0, none⟩))) := fun u hu =>
            ⟨((World.cell?_of_block (a := ⟨b4, _, none⟩) hu.1).trans (hB.c0 k hlt)).trans (by rw [hre]), (World.cell?_of_block (a := ⟨b4, _, none⟩) hu.1).trans (hB.c1 k hlt), (World.cell?_of_block (a := ⟨b4, _, none⟩) hu.1).trans (hB.c2 k hlt), (World.cell?_of_block (a := ⟨w.heap.size + 1, _, none⟩) hu.2).trans (row_at hRw.row hrl hrl)⟩
          have H28 : Hid (Calls Try.prog 28 #[.pointer (some ⟨ra r, 0, none⟩), .pointer (pn k), .pointer (px k)] wr.drew fun e w' => e = .returned (.agg #[.pointer (some ⟨ra r, 0, none⟩), .int .i32 (D.P r).place, .int .i32 0, .pointer (pn k), .pointer (px k)]) ∧ Below wr.heap.size wr.drew w') := newBinding_any (ra r) (D.P r).place (pn k) (px k) wr.drew (role_cells hrb).1 (lt_of_heap hrb) hrg
          have HX : Hid (∀ wa : World, Below wr.heap.size wr.drew wa → (wa.heap[b4]? = wr.heap[b4]? ∧ wa.heap[w.heap.size + 1]? = wr.heap[w.heap.size + 1]?) ∧ (wa.cell? ⟨wA.heap.size, k * 5, none⟩ = some (f (k * 5)) ∧ wa.cell? ⟨wA.heap.size, k * 5 + 1, none⟩ = some (f (k * 5 + 1)) ∧ wa.cell? ⟨wA.heap.size, k * 5 + 2, none⟩ = some (f (k * 5 + 2)) ∧ wa.cell? ⟨wA.heap.size, k * 5 + 3, none⟩ = some (f (k * 5 + 3)) ∧ wa.cell? ⟨wA.heap.size, k * 5 + 4, none⟩ = some (f (k * 5 + 4))) ∧
              (wa.frozen? ⟨wA.heap.size, k * 5, none⟩ = false ∧ wa.frozen? ⟨wA.heap.size, k * 5 + 1, none⟩ = false ∧ wa.frozen? ⟨wA.heap.size, k * 5 + 2, none⟩ = false ∧ wa.frozen? ⟨wA.heap.size, k * 5 + 3, none⟩ = false ∧ wa.frozen? ⟨wA.heap.size, k * 5 + 4, none⟩ = false) ∧ ∃ f', Lst D.nb (k + 1) wA.heap.size (fun j => ra (D.role j)) (fun j => (D.P (D.role j)).place) pn px f' (((((wa.setCell ⟨wA.heap.size, k * 5, none⟩ (.pointer (some ⟨ra r, 0, none⟩))).setCell ⟨wA.heap.size, k * 5 + 1, none⟩ (.int .i32 (D.P r).place)).setCell ⟨wA.heap.size, k * 5 + 2, none⟩ (.int .i32 0)).setCell ⟨wA.heap.size, k * 5 + 3, none⟩ (.pointer (pn k))).setCell ⟨wA.heap.size, k * 5 + 4, none⟩ (.pointer (px k)))) := by
            intro wa hwa
            have hwa' : Below wr.heap.size wr wa := (Below.refl _ wr).drew.trans hwa
            have hl2 := HL.out.below hwa'
            refine ⟨⟨hwa'.block _ (by omega), hwa'.block _ (by have := row_lt HRA.out.row; omega)⟩, ⟨hl2.row.cell (by omega), hl2.row.cell (by omega), hl2.row.cell (by omega), hl2.row.cell (by omega), hl2.row.cell (by omega)⟩, ⟨hl2.row.frozen _, hl2.row.frozen _, hl2.row.frozen _, hl2.row.frozen _, hl2.row.frozen _⟩, ?_⟩
            rw [HRR.out]
            exact hl2.step
          have hgpA : w.heap.size + 1 < wA.heap.size := row_lt HRA.out.row
          have HSET : Hid (∀ (u : World) (v0 v1 v2 v3 v4 : Value), u.heap[b4]? = wr.heap[b4]? ∧ u.heap[w.heap.size + 1]? = wr.heap[w.heap.size + 1]? → (((((u.setCell ⟨wA.heap.size, k * 5, none⟩ v0).setCell ⟨wA.heap.size, k * 5 + 1, none⟩ v1).setCell ⟨wA.heap.size, k * 5 + 2, none⟩ v2).setCell ⟨wA.heap.size, k * 5 + 3, none⟩ v3).setCell ⟨wA.heap.size, k * 5 + 4, none⟩ v4).heap[b4]? = wr.heap[b4]? ∧ (((((u.setCell ⟨wA.heap.size, k * 5, none⟩ v0).setCell ⟨wA.heap.size, k * 5 + 1, none⟩ v1).setCell ⟨wA.heap.size, k * 5 + 2, none⟩ v2).setCell ⟨wA.heap.size, k * 5 + 3, none⟩ v3).setCell ⟨wA.heap.size, k * 5 + 4, none⟩ v4).heap[w.heap.size + 1]? = wr.heap[w.heap.size + 1]?) := by
            intro u v0 v1 v2 v3 v4 hu
            have n1 : b4 ≠ wA.heap.size := by omega
            have n2 : w.heap.size + 1 ≠ wA.heap.size := by omega
            constructor
            · iterate 5 rw [Below.heap_setCell _ _ _ _ (by simpa using n1)]
              exact hu.1
            · iterate 5 rw [Below.heap_setCell _ _ _ _ (by simpa using n2)]
              exact hu.2
          have HYD : Hid (wr.drew.heap[b4]? = wr.heap[b4]? ∧ wr.drew.heap[w.heap.size + 1]? = wr.heap[w.heap.size + 1]?) := (⟨rfl, rfl⟩ : wr.drew.heap[b4]? = wr.heap[b4]? ∧ wr.drew.heap[w.heap.size + 1]? = wr.heap[w.heap.size + 1]?)
          clear hB hb4 hRw hrb hrg hre hbw hwA hgpA
          go_wp2_with fail
          go_region_held3 (fun u => u.cell? ⟨b4, o4 + k * 3, none⟩ = some (.int .i64 (r : Int)) ∧ u.cell? ⟨b4, o4 + k * 3 + 1, none⟩ = some (.pointer (pn k)) ∧ u.cell? ⟨b4, o4 + k * 3 + 2, none⟩ = some (.pointer (px k)) ∧ u.cell? ⟨w.heap.size + 1, r, none⟩ = some (.pointer (some ⟨ra r, 0, none⟩)))
            (first | with_reducible exact HC.out _ HYS.out | with_reducible exact HC.out _ HY.out | with_reducible exact HC.out _ HYD.out)
            (first | (go_at_call 28; refine H28.out.mono ?_; rintro e wa ⟨rfl, hwa⟩; obtain ⟨z0, ⟨z1, z2, z3, z4, z5⟩, ⟨z6, z7, z8, z9, z10⟩, z11⟩ := HX.out wa hwa; have HY : Hid (wa.heap[b4]? = wr.heap[b4]? ∧ wa.heap[w.heap.size + 1]? = wr.heap[w.heap.size + 1]?) := z0; have HYS : Hid ((((((wa.setCell ⟨wA.heap.size, k * 5, none⟩ (.pointer (some ⟨ra r, 0, none⟩))).setCell ⟨wA.heap.size, k * 5 + 1, none⟩ (.int .i32 (D.P r).place)).setCell ⟨wA.heap.size, k * 5 + 2, none⟩ (.int .i32 0)).setCell ⟨wA.heap.size, k * 5 + 3, none⟩ (.pointer (pn k))).setCell ⟨wA.heap.size, k * 5 + 4, none⟩ (.pointer (px k))).heap[b4]? = wr.heap[b4]? ∧ (((((wa.setCell ⟨wA.heap.size, k * 5, none⟩ (.pointer (some ⟨ra r, 0, none⟩))).setCell ⟨wA.heap.size, k * 5 + 1, none⟩ (.int .i32 (D.P r).place)).setCell ⟨wA.heap.size, k * 5 + 2, none⟩ (.int .i32 0)).setCell ⟨wA.heap.size, k * 5 + 3, none⟩ (.pointer (pn k))).setCell ⟨wA.heap.size, k * 5 + 4, none⟩ (.pointer (px k))).heap[w.heap.size + 1]? = wr.heap[w.heap.size + 1]?) := HSET.out _ _ _ _ _ _ z0; have HST : Hid (∃ f', Lst D.nb (k + 1) wA.heap.size (fun j => ra (D.role j)) (fun j => (D.P (D.role j)).place) pn px f' (((((wa.setCell ⟨wA.heap.size, k * 5, none⟩ (.pointer (some ⟨ra r, 0, none⟩))).setCell ⟨wA.heap.size, k * 5 + 1, none⟩ (.int .i32 (D.P r).place)).setCell ⟨wA.heap.size, k * 5 + 2, none⟩ (.int .i32 0)).setCell ⟨wA.heap.size, k * 5 + 3, none⟩ (.pointer (pn k))).setCell ⟨wA.heap.size, k * 5 + 4, none⟩ (.pointer (px k)))) := z11; have HWB : Hid (Below wr.heap.size wr.drew wa) := hwa; clear hwa z0 z11))
          go_wp2_with fail
          go_roundw
          case rel =>
            obtain ⟨f', hf'⟩ := HST.out
            exact ⟨k + 1, f', by omega, by go_num, hf', ((((((HBR.out.drew.trans (HWB.out.mono (Nat.le_of_lt hll))).setCell (Nat.le_refl _) _).setCell (Nat.le_refl _) _).setCell (Nat.le_refl _) _).setCell (Nat.le_refl _) _).setCell (Nat.le_refl _) _)⟩
          case measure => simp [intOf]; omega
        · obtain ⟨wX, rfl⟩ : ∃ u, u = wr := ⟨wr, rfl⟩
          have HLX : Hid (BL wX wA.heap.size D.nb (fun j => ra (D.role j)) (fun j => (D.P (D.role j)).place) pn px) := by
            have e : k = D.nb := by omega
            have h := HL.out
            rw [e] at h
            exact h.bl
          have HRX : Hid (Roles D.P (w.heap.size + 1) D.np D.np ra wX) := HRA.out.below HBR.out
          have HWX : Hid (Below w.heap.size w wX) := HWA.out.trans (HBR.out.mono HWA.out.size)
          have HSX : Hid (wX.heap[w.heap.size]? = some (.cells #[.slice none 0 0, .pointer none] 45)) := (HBR.out.block _ (by have := row_lt HRA.out.row; omega)).trans HBX.out
          clear HL
          cases hx : D.ix
          · clear mk3
            have HGA : Hid (w.heap.size < wA.heap.size) := Nat.lt_trans (Nat.lt_succ_self _) (row_lt HRA.out.row)
            have HGX : Hid (w.heap.size + 1 < wX.heap.size) := row_lt HRX.out.row
            go_wp2_with (go_at_call 31; refine (newList_any _ _ _ _ _).mono ?_; rintro e w' ⟨rfl, rfl⟩)
            go_loopw [24] (fun i wr => ∃ k : Nat, k ≤ D.nr ∧ i = .int .i64 k ∧ (∃ f, wr.rowIs (wX.heap.size + 1 + 1) 55 D.nr f ∧ ∀ i, i < k → f i = .pointer (some ⟨ra (D.R i).toNat, 0, none⟩)) ∧ Below wX.heap.size wX wr ∧ wr.heap[wX.heap.size + 1]? = some (.cells #[.slice (some ⟨wA.heap.size, 0, none⟩) D.nb D.nb, .pointer none] 45)) (fun i _ => D.nr - (intOf i).toNat)
            case atStart =>
              have e0 := rowIs_made ((wX.alloc (.cells #[.slice (some ⟨wA.heap.size, 0, none⟩) D.nb D.nb, .pointer none] 45)).alloc (.cells #[.slice (some ⟨wA.heap.size, 0, none⟩) D.nb D.nb, .pointer none] 45)) #[Value.pointer none] D.nr 55
              have e1 := heap_alloc_new (wX.alloc (.cells #[.slice (some ⟨wA.heap.size, 0, none⟩) D.nb D.nb, .pointer none] 45)) (.cells #[.slice (some ⟨wA.heap.size, 0, none⟩) D.nb D.nb, .pointer none] 45)
              simp only [World.size_alloc] at e0 e1
              exact ⟨0, Nat.zero_le _, rfl, ⟨_, e0, fun i hi => absurd hi (by omega)⟩, (((Below.refl _ _).alloc (Nat.le_refl _) _).alloc (by simp) _).alloc (by simp <;> omega) _, (Below.heap_alloc _ _ _ (by simp)).trans e1⟩
            case round =>
              clear mk4
              obtain ⟨k, hk, rfl, hrow, hbel, hbox⟩ := hrel
              obtain ⟨wY, rfl⟩ : ∃ u, u = wr := ⟨wr, rfl⟩
              have HROW : Hid (∃ f, wY.rowIs (wX.heap.size + 1 + 1) 55 D.nr f ∧ ∀ i, i < k → f i = .pointer (some ⟨ra (D.R i).toNat, 0, none⟩)) := hrow
              have HBY : Hid (Below wX.heap.size wX wY) := hbel
              have HB22 : Hid (wY.heap[wX.heap.size + 1]? = some (.cells #[.slice (some ⟨wA.heap.size, 0, none⟩) D.nb D.nb, .pointer none] 45)) := hbox
              clear hrow hbel hbox
              by_cases hlt : k < D.nr
              · have hbw : Below w.heap.size w wY := HWX.out.trans (HBY.out.mono HWX.out.size)
                have hI := H8.out.below hbw
                have ix0 := fun w' => hI.idx k w' hlt
                have y0 := hI.c0 k hlt
                obtain ⟨hrl, hre⟩ := HOK.out.rr hlt
                obtain ⟨r, HRR⟩ : ∃ r, Hid (r = (D.R k).toNat) := ⟨_, rfl⟩
                rw [← HRR.out] at hrl hre
                rw [hre] at y0
                have y1 := row_at (HRX.out.below HBY.out).row hrl hrl
                obtain ⟨v0, x0, f0⟩ := row_some HROW.out hlt
                have HST : Hid (∃ f, (wY.setCell ⟨wX.heap.size + 1 + 1, k, none⟩ (.pointer (some ⟨ra r, 0, none⟩))).rowIs (wX.heap.size + 1 + 1) 55 D.nr f ∧ ∀ i, i < k + 1 → f i = .pointer (some ⟨ra (D.R i).toNat, 0, none⟩)) := by
                  rw [HRR.out]
                  exact row_step (V := fun i => .pointer (some ⟨ra (D.R i).toNat, 0, none⟩)) HROW.out
                clear hI hbw hre
                go_wp2_with fail
                go_roundw
                case rel => exact ⟨k + 1, by omega, by go_num, HST.out, HBY.out.setCell (by simp <;> omega) _, (Below.heap_setCell _ _ _ _ (by simp)).trans HB22.out⟩
                case measure => simp [intOf]; omega
              · have HROW2 : Hid (∃ f, wY.rowIs (wX.heap.size + 1 + 1) 55 D.nr f ∧ ∀ i, i < D.nr → f i = .pointer (some ⟨ra (D.R i).toNat, 0, none⟩)) := by
                  obtain ⟨f, h1, h2⟩ := HROW.out
                  exact ⟨f, h1, fun i hi => h2 i (by omega)⟩
                have HS13 : Hid (wY.heap[w.heap.size]? = some (.cells #[.slice none 0 0, .pointer none] 45)) := (HBY.out.block _ (by have := HGX.out; omega)).trans HSX.out
                have d0 : wY.cell? ⟨wX.heap.size + 1, 0, none⟩ = some (.slice (some ⟨wA.heap.size, 0, none⟩) D.nb D.nb) := by simp [World.cell?, HB22.out]
                have d1 : wY.cell? ⟨wX.heap.size + 1, 1, none⟩ = some (.pointer none) := by simp [World.cell?, HB22.out]
                have d2 : wY.cell? ⟨w.heap.size, 0, none⟩ = some (.slice none 0 0) := by simp [World.cell?, HS13.out]
                have d3 : wY.cell? ⟨w.heap.size, 1, none⟩ = some (.pointer none) := by simp [World.cell?, HS13.out]
                have d4 : wY.frozen? ⟨w.heap.size, 0, none⟩ = false := by simp [World.frozen?, HS13.out]
                have d5 : wY.frozen? ⟨w.heap.size, 1, none⟩ = false := by simp [World.frozen?, HS13.out]
                clear HROW
                go_wp2_with fail
                have HOFF : Hid (∀ k, k ≠ w.heap.size → (((wY.setCell ⟨w.heap.size, 0, none⟩ (.slice (some ⟨wA.heap.size, 0, none⟩) D.nb D.nb)).setCell ⟨w.heap.size, 1, none⟩ (.pointer none)).drew).heap[k]? = wY.heap[k]?) := fun k hk => (Below.heap_setCell _ _ _ _ hk).trans (Below.heap_setCell _ _ _ _ hk)
                have HEND : Hid (Below w.heap.size w (((wY.setCell ⟨w.heap.size, 0, none⟩ (.slice (some ⟨wA.heap.size, 0, none⟩) D.nb D.nb)).setCell ⟨w.heap.size, 1, none⟩ (.pointer none)).drew)) := (((HWX.out.trans (HBY.out.mono HWX.out.size)).setCell (Nat.le_refl _) _).setCell (Nat.le_refl _) _).drew
                have HRES : Hid ((((wY.setCell ⟨w.heap.size, 0, none⟩ (.slice (some ⟨wA.heap.size, 0, none⟩) D.nb D.nb)).setCell ⟨w.heap.size, 1, none⟩ (.pointer none)).drew).heap[w.heap.size]? = some (.cells #[.slice (some ⟨wA.heap.size, 0, none⟩) D.nb D.nb, .pointer none] 45)) := by
                  show ((wY.setCell ⟨w.heap.size, 0, none⟩ (.slice (some ⟨wA.heap.size, 0, none⟩) D.nb D.nb)).setCell ⟨w.heap.size, 1, none⟩ (.pointer none)).heap[w.heap.size]? = _
                  have h := HS13.out
                  simp [World.setCell, Array.getElem?_modify, h]
                go_region
                go_wp2_with fail
                refine bodyPost_ret (res19 _ _ w.heap.size _ _ _ _ rfl rfl rfl HRES.out) rfl ⟨⟨w.heap.size + 1, wA.heap.size, 0, 0, wX.heap.size + 1 + 1, ra, ?_, env_of HEND.out HOFF.out H4.out H7.out H9.out (HRX.out.below HBY.out) (Nat.lt_succ_self _) (HLX.out.below HBY.out) (by have := HGA.out; omega) HROW2.out (by have := HGX.out; omega) (fun e => by rw [hx] at e; cases e) (fun e => by rw [hx] at e; cases e)⟩, HEND.out⟩
                rw [hx, if_neg (by decide)]
                rfl
          · have HGA : Hid (w.heap.size < wA.heap.size) := Nat.lt_trans (Nat.lt_succ_self _) (row_lt HRA.out.row)
            have HGL : Hid (w.heap.size < wX.heap.size) := Nat.lt_trans (Nat.lt_succ_self _) (row_lt HRX.out.row)
            obtain ⟨wL, HWL⟩ : ∃ u, Hid (u = wX) := ⟨_, rfl⟩
            rw [← HWL.out] at HLX HRX HWX HSX HGL ⊢
            clear HWL HBR
            go_wp2_with fail
            go_loopw [21] (fun i wr => ∃ (k : Nat) (f : Nat → Value), k ≤ D.nf ∧ i = .int .i64 k ∧ Kst D.nf k wL.heap.size (fun m => (D.K m).key) (fun m => (D.K m).place) f wr ∧ Below wL.heap.size wL wr) (fun i _ => D.nf - (intOf i).toNat)
            case atStart =>
              have e0 := rowIs_made wL (Value.agg #[.int .i32 0, .int .i32 0]).cells (D.nf * 2) 75
              exact ⟨0, _, Nat.zero_le _, rfl, ⟨e0, fun i hi => absurd hi (by omega), fun i hi => absurd hi (by omega)⟩, (Below.refl _ _).alloc (Nat.le_refl _) _⟩
            case round =>
              clear mk3
              obtain ⟨k, f, hk, rfl, hL, hbel⟩ := hrel
              obtain ⟨wM, rfl⟩ : ∃ u, u = wr := ⟨wr, rfl⟩
              have HK : Hid (Kst D.nf k wL.heap.size (fun m => (D.K m).key) (fun m => (D.K m).place) f wM) := hL
              have HBR : Hid (Below wL.heap.size wL wM) := hbel
              have hll : wL.heap.size < wM.heap.size := hL.row.lt
              clear hL hbel
              by_cases hlt : k < D.nf
              · have hbw : Below w.heap.size w wM := HWX.out.trans (HBR.out.mono HWX.out.size)
                have hB := H6.out.below hbw
                have hb6 : b6 < w.heap.size := H6.out.lt (by omega)
                have ix0 := fun w' => hB.idx k w' hlt
                have HC : Hid (∀ u : World, u.heap[b6]? = wM.heap[b6]? → u.cell? ⟨b6, o6 + k * 2, none⟩ = some (.int .i32 (D.K k).key) ∧ u.cell? ⟨b6, o6 + k * 2 + 1, none⟩ = some (.int .i32 (D.K k).place)) := fun u hu =>
                  ⟨(World.cell?_of_block (a := ⟨b6, _, none⟩) hu).trans (hB.c0 k hlt), (World.cell?_of_block (a := ⟨b6, _, none⟩) hu).trans (hB.c1 k hlt)⟩
                have H29 : Hid (Calls Try.prog 29 #[.int .i32 (D.K k).key, .int .i32 (D.K k).place] wM.drew fun e w' => e = .returned (.agg #[.int .i32 (D.K k).key, .int .i32 (D.K k).place]) ∧ Below wM.heap.size wM.drew w') := newKeyPlace_any (D.K k).key (D.K k).place wM.drew
                have HX : Hid (∀ wa : World, Below wM.heap.size wM.drew wa → wa.heap[b6]? = wM.heap[b6]? ∧ (wa.cell? ⟨wL.heap.size, k * 2, none⟩ = some (f (k * 2)) ∧ wa.cell? ⟨wL.heap.size, k * 2 + 1, none⟩ = some (f (k * 2 + 1))) ∧ (wa.frozen? ⟨wL.heap.size, k * 2, none⟩ = false ∧ wa.frozen? ⟨wL.heap.size, k * 2 + 1, none⟩ = false) ∧ (∃ f', Kst D.nf (k + 1) wL.heap.size (fun m => (D.K m).key) (fun m => (D.K m).place) f' ((wa.setCell ⟨wL.heap.size, k * 2, none⟩ (.int .i32 (D.K k).key)).setCell ⟨wL.heap.size, k * 2 + 1, none⟩ (.int .i32 (D.K k).place))) ∧ ((wa.setCell ⟨wL.heap.size, k * 2, none⟩ (.int .i32 (D.K k).key)).setCell ⟨wL.heap.size, k * 2 + 1, none⟩ (.int .i32 (D.K k).place)).heap[b6]? = wM.heap[b6]?) := by
                  intro wa hwa
                  have hwa' : Below wM.heap.size wM wa := (Below.refl _ wM).drew.trans hwa
                  have hl2 := HK.out.below hwa'
                  have n1 : b6 ≠ wL.heap.size := by have := HWX.out.size; omega
                  refine ⟨hwa'.block _ (by have := HWX.out.size; omega), ⟨hl2.row.cell (by omega), hl2.row.cell (by omega)⟩, ⟨hl2.row.frozen _, hl2.row.frozen _⟩, hl2.step, ?_⟩
                  iterate 2 rw [Below.heap_setCell _ _ _ _ (by simpa using n1)]
                  exact hwa'.block _ (by have := HWX.out.size; omega)
                have HYD : Hid (wM.drew.heap[b6]? = wM.heap[b6]?) := (rfl : wM.drew.heap[b6]? = wM.heap[b6]?)
                clear hB hb6 hbw
                go_wp2_with fail
                go_region_held3 (fun u => u.cell? ⟨b6, o6 + k * 2, none⟩ = some (.int .i32 (D.K k).key) ∧ u.cell? ⟨b6, o6 + k * 2 + 1, none⟩ = some (.int .i32 (D.K k).place))
                  (first | with_reducible exact HC.out _ HYS.out | with_reducible exact HC.out _ HY.out | with_reducible exact HC.out _ HYD.out)
                  (first | (go_at_call 29; refine H29.out.mono ?_; rintro e wa ⟨rfl, hwa⟩; obtain ⟨z0, ⟨z1, z2⟩, ⟨z6, z7⟩, z11, z12⟩ := HX.out wa hwa; have HY : Hid (wa.heap[b6]? = wM.heap[b6]?) := z0; have HYS : Hid (((wa.setCell ⟨wL.heap.size, k * 2, none⟩ (.int .i32 (D.K k).key)).setCell ⟨wL.heap.size, k * 2 + 1, none⟩ (.int .i32 (D.K k).place)).heap[b6]? = wM.heap[b6]?) := z12; have HST : Hid (∃ f', Kst D.nf (k + 1) wL.heap.size (fun m => (D.K m).key) (fun m => (D.K m).place) f' ((wa.setCell ⟨wL.heap.size, k * 2, none⟩ (.int .i32 (D.K k).key)).setCell ⟨wL.heap.size, k * 2 + 1, none⟩ (.int .i32 (D.K k).place))) := z11; have HWB : Hid (Below wM.heap.size wM.drew wa) := hwa; clear hwa z0 z11 z12))
                go_wp2_with fail
                go_roundw
                case rel =>
                  obtain ⟨f', hf'⟩ := HST.out
                  exact ⟨k + 1, f', by omega, by go_num, hf', ((HBR.out.drew.trans (HWB.out.mono (Nat.le_of_lt hll))).setCell (Nat.le_refl _) _).setCell (Nat.le_refl _) _⟩
                case measure => simp [intOf]; omega
              · obtain ⟨wC, HWC⟩ : ∃ u, Hid (u = wM) := ⟨_, rfl⟩
                have HKC : Hid (KL wC wL.heap.size D.nf (fun m => (D.K m).key) (fun m => (D.K m).place)) := by
                  have e : k = D.nf := by omega
                  have h := HK.out
                  rw [e] at h
                  rw [HWC.out]
                  exact h.kl
                have HBC : Hid (Below wL.heap.size wL wC) := by rw [HWC.out]; exact HBR.out
                have HCS : Hid (wL.heap.size ≤ wC.heap.size) := HBC.out.size
                rw [← HWC.out]
                clear HK HBR HWC
                obtain ⟨wX, HX⟩ : ∃ u, Hid (u = wC.alloc (.cells #[.slice (some ⟨wL.heap.size, 0, none⟩) D.nf D.nf, .slice a7 D.nw c7] 112)) := ⟨_, rfl⟩
                have hbx : Below wL.heap.size wL wX := by rw [HX.out]; exact HBC.out.alloc HBC.out.size _
                have hbc : Below wC.heap.size wC wX := by rw [HX.out]; exact (Below.refl _ _).alloc (Nat.le_refl _) _
                have HKX : Hid (KL wX wL.heap.size D.nf (fun m => (D.K m).key) (fun m => (D.K m).place)) := HKC.out.below hbc
                have HIX : Hid (wX.heap[wC.heap.size]? = some (.cells #[.slice (some ⟨wL.heap.size, 0, none⟩) D.nf D.nf, .slice a7 D.nw c7] 112)) := by rw [HX.out]; exact heap_alloc_new wC _
                have HLX2 : Hid (BL wX wA.heap.size D.nb (fun j => ra (D.role j)) (fun j => (D.P (D.role j)).place) pn px) := HLX.out.below hbx
                have HRX2 : Hid (Roles D.P (w.heap.size + 1) D.np D.np ra wX) := HRX.out.below hbx
                have HWX2 : Hid (Below w.heap.size w wX) := HWX.out.trans (hbx.mono HWX.out.size)
                have HSX2 : Hid (wX.heap[w.heap.size]? = some (.cells #[.slice none 0 0, .pointer none] 45)) := (hbx.block _ HGL.out).trans HSX.out
                clear hbx hbc HLX HRX HWX HSX HKC HBC
                have HLX := HLX2
                have HRX := HRX2
                have HWX := HWX2
                have HSX := HSX2
                clear HLX2 HRX2 HWX2 HSX2
                go_wp2_with (go_at_call 30; refine (newIndex_any _ _ _ _ _ _ _).mono ?_; rintro e w' ⟨rfl, rfl⟩; rw [← HX.out])
                clear HX hlt hk
                have HGX : Hid (w.heap.size + 1 < wX.heap.size) := row_lt HRX.out.row
                go_wp2_with (go_at_call 31; refine (newList_any _ _ _ _ _).mono ?_; rintro e w' ⟨rfl, rfl⟩)
                go_loopw [24] (fun i wr => ∃ k : Nat, k ≤ D.nr ∧ i = .int .i64 k ∧ (∃ f, wr.rowIs (wX.heap.size + 1 + 1) 55 D.nr f ∧ ∀ i, i < k → f i = .pointer (some ⟨ra (D.R i).toNat, 0, none⟩)) ∧ Below wX.heap.size wX wr ∧ wr.heap[wX.heap.size + 1]? = some (.cells #[.slice (some ⟨wA.heap.size, 0, none⟩) D.nb D.nb, .pointer (some ⟨wC.heap.size, 0, none⟩)] 45)) (fun i _ => D.nr - (intOf i).toNat)
                case atStart =>
                  have e0 := rowIs_made ((wX.alloc (.cells #[.slice (some ⟨wA.heap.size, 0, none⟩) D.nb D.nb, .pointer (some ⟨wC.heap.size, 0, none⟩)] 45)).alloc (.cells #[.slice (some ⟨wA.heap.size, 0, none⟩) D.nb D.nb, .pointer (some ⟨wC.heap.size, 0, none⟩)] 45)) #[Value.pointer none] D.nr 55
                  have e1 := heap_alloc_new (wX.alloc (.cells #[.slice (some ⟨wA.heap.size, 0, none⟩) D.nb D.nb, .pointer (some ⟨wC.heap.size, 0, none⟩)] 45)) (.cells #[.slice (some ⟨wA.heap.size, 0, none⟩) D.nb D.nb, .pointer (some ⟨wC.heap.size, 0, none⟩)] 45)
                  simp only [World.size_alloc] at e0 e1
                  exact ⟨0, Nat.zero_le _, rfl, ⟨_, e0, fun i hi => absurd hi (by omega)⟩, (((Below.refl _ _).alloc (Nat.le_refl _) _).alloc (by simp) _).alloc (by simp <;> omega) _, (Below.heap_alloc _ _ _ (by simp)).trans e1⟩
                case round =>
                  clear mk4
                  obtain ⟨k, hk, rfl, hrow, hbel, hbox⟩ := hrel
                  obtain ⟨wY, rfl⟩ : ∃ u, u = wr := ⟨wr, rfl⟩
                  have HROW : Hid (∃ f, wY.rowIs (wX.heap.size + 1 + 1) 55 D.nr f ∧ ∀ i, i < k → f i = .pointer (some ⟨ra (D.R i).toNat, 0, none⟩)) := hrow
                  have HBY : Hid (Below wX.heap.size wX wY) := hbel
                  have HB22 : Hid (wY.heap[wX.heap.size + 1]? = some (.cells #[.slice (some ⟨wA.heap.size, 0, none⟩) D.nb D.nb, .pointer (some ⟨wC.heap.size, 0, none⟩)] 45)) := hbox
                  clear hrow hbel hbox
                  by_cases hlt : k < D.nr
                  · have hbw : Below w.heap.size w wY := HWX.out.trans (HBY.out.mono HWX.out.size)
                    have hI := H8.out.below hbw
                    have ix0 := fun w' => hI.idx k w' hlt
                    have y0 := hI.c0 k hlt
                    obtain ⟨hrl, hre⟩ := HOK.out.rr hlt
                    obtain ⟨r, HRR⟩ : ∃ r, Hid (r = (D.R k).toNat) := ⟨_, rfl⟩
                    rw [← HRR.out] at hrl hre
                    rw [hre] at y0
                    have y1 := row_at (HRX.out.below HBY.out).row hrl hrl
                    obtain ⟨v0, x0, f0⟩ := row_some HROW.out hlt
                    have HST : Hid (∃ f, (wY.setCell ⟨wX.heap.size + 1 + 1, k, none⟩ (.pointer (some ⟨ra r, 0, none⟩))).rowIs (wX.heap.size + 1 + 1) 55 D.nr f ∧ ∀ i, i < k + 1 → f i = .pointer (some ⟨ra (D.R i).toNat, 0, none⟩)) := by
                      rw [HRR.out]
                      exact row_step (V := fun i => .pointer (some ⟨ra (D.R i).toNat, 0, none⟩)) HROW.out
                    clear hI hbw hre
                    go_wp2_with fail
                    go_roundw
                    case rel => exact ⟨k + 1, by omega, by go_num, HST.out, HBY.out.setCell (by simp <;> omega) _, (Below.heap_setCell _ _ _ _ (by simp)).trans HB22.out⟩
                    case measure => simp [intOf]; omega
                  · have HROW2 : Hid (∃ f, wY.rowIs (wX.heap.size + 1 + 1) 55 D.nr f ∧ ∀ i, i < D.nr → f i = .pointer (some ⟨ra (D.R i).toNat, 0, none⟩)) := by
                      obtain ⟨f, h1, h2⟩ := HROW.out
                      exact ⟨f, h1, fun i hi => h2 i (by omega)⟩
                    have HS13 : Hid (wY.heap[w.heap.size]? = some (.cells #[.slice none 0 0, .pointer none] 45)) := (HBY.out.block _ (by have := HGX.out; omega)).trans HSX.out
                    have d0 : wY.cell? ⟨wX.heap.size + 1, 0, none⟩ = some (.slice (some ⟨wA.heap.size, 0, none⟩) D.nb D.nb) := by simp [World.cell?, HB22.out]
                    have d1 : wY.cell? ⟨wX.heap.size + 1, 1, none⟩ = some (.pointer (some ⟨wC.heap.size, 0, none⟩)) := by simp [World.cell?, HB22.out]
                    have d2 : wY.cell? ⟨w.heap.size, 0, none⟩ = some (.slice none 0 0) := by simp [World.cell?, HS13.out]
                    have d3 : wY.cell? ⟨w.heap.size, 1, none⟩ = some (.pointer none) := by simp [World.cell?, HS13.out]
                    have d4 : wY.frozen? ⟨w.heap.size, 0, none⟩ = false := by simp [World.frozen?, HS13.out]
                    have d5 : wY.frozen? ⟨w.heap.size, 1, none⟩ = false := by simp [World.frozen?, HS13.out]
                    clear HROW
                    go_wp2_with fail
                    have HOFF : Hid (∀ k, k ≠ w.heap.size → (((wY.setCell ⟨w.heap.size, 0, none⟩ (.slice (some ⟨wA.heap.size, 0, none⟩) D.nb D.nb)).setCell ⟨w.heap.size, 1, none⟩ (.pointer (some ⟨wC.heap.size, 0, none⟩))).drew).heap[k]? = wY.heap[k]?) := fun k hk => (Below.heap_setCell _ _ _ _ hk).trans (Below.heap_setCell _ _ _ _ hk)
                    have HEND : Hid (Below w.heap.size w (((wY.setCell ⟨w.heap.size, 0, none⟩ (.slice (some ⟨wA.heap.size, 0, none⟩) D.nb D.nb)).setCell ⟨w.heap.size, 1, none⟩ (.pointer (some ⟨wC.heap.size, 0, none⟩))).drew)) := (((HWX.out.trans (HBY.out.mono HWX.out.size)).setCell (Nat.le_refl _) _).setCell (Nat.le_refl _) _).drew
                    have HRES : Hid ((((wY.setCell ⟨w.heap.size, 0, none⟩ (.slice (some ⟨wA.heap.size, 0, none⟩) D.nb D.nb)).setCell ⟨w.heap.size, 1, none⟩ (.pointer (some ⟨wC.heap.size, 0, none⟩))).drew).heap[w.heap.size]? = some (.cells #[.slice (some ⟨wA.heap.size, 0, none⟩) D.nb D.nb, .pointer (some ⟨wC.heap.size, 0, none⟩)] 45)) := by
                      show ((wY.setCell ⟨w.heap.size, 0, none⟩ (.slice (some ⟨wA.heap.size, 0, none⟩) D.nb D.nb)).setCell ⟨w.heap.size, 1, none⟩ (.pointer (some ⟨wC.heap.size, 0, none⟩))).heap[w.heap.size]? = _
                      have h := HS13.out
                      simp [World.setCell, Array.getElem?_modify, h]
                    go_region
                    go_wp2_with fail
                    refine bodyPost_ret (res19 _ _ w.heap.size _ _ _ _ rfl rfl rfl HRES.out) rfl ⟨⟨w.heap.size + 1, wA.heap.size, wC.heap.size, wL.heap.size, wX.heap.size + 1 + 1, ra, ?_, env_of HEND.out HOFF.out H4.out H7.out H9.out (HRX.out.below HBY.out) (Nat.lt_succ_self _) (HLX.out.below HBY.out) (by have := HGA.out; omega) HROW2.out (by have := HGX.out; omega) (fun _ => ⟨HKX.out.below HBY.out, by have := HGL.out; omega⟩) (fun _ => ⟨(HBY.out.block _ (lt_of_heap HIX.out)).trans HIX.out, by have := HGL.out; have := HCS.out; omega⟩)⟩, HEND.out⟩
                    rw [hx, if_pos rfl]
                    rfl

end Go.Proofs.Qxb6618997a.Lk
