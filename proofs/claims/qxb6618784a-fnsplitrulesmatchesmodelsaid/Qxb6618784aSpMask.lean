/-
  (*ruleSplit).mask (21), walked: where the mask of a word lies, put in at its place if there is none yet.
-/
import Derived.Test.Qxb6618784aSpSearch
import Derived.Deep.RegionLaw
import Derived.Deep.DrawnRows
import Derived.Laws.CopyOwn
namespace Go.Proofs.Qxb6618784a.Sp
open Go.RowKit Go.WideMaps Go.Maps

/-- A mask: its word, what is permitted, what is denied. -/
abbrev Mk := Nat × Nat × Nat
def mcells (m : Mk) : List Value := [.int .i64 m.1, .int .u64 m.2.1, .int .u64 m.2.2]
def flatM (ms : List Mk) : List Value := ms.flatMap mcells
def N (ms : List Mk) (i : Nat) : Mk := ms.getD i (0, 0, 0)

theorem flatM_length (ms : List Mk) : (flatM ms).length = ms.length * 3 := by
  induction ms with
  | nil => rfl
  | cons p r ih => simp [flatM, mcells] at ih ⊢; omega
theorem flatM_get : ∀ (ms : List Mk) (i r : Nat), i < ms.length → r < 3 → (flatM ms)[i * 3 + r]? = (mcells (N ms i))[r]?
  | [], i, r, h, _ => absurd h (by simp)
  | p :: ms, 0, r, _, hr => by
    have e : flatM (p :: ms) = mcells p ++ flatM ms := by simp [flatM]
    rw [e, List.getElem?_append_left (by simp [mcells]; omega)]
    simp [N]
  | p :: ms, i + 1, r, h, hr => by
    have e : flatM (p :: ms) = mcells p ++ flatM ms := by simp [flatM]
    have e2 : (i + 1) * 3 + r = 3 + (i * 3 + r) := by omega
    have e3 : (mcells p).length = 3 := rfl
    rw [e, e2, List.getElem?_append_right (by rw [e3]; omega), e3, Nat.add_sub_cancel_left, flatM_get ms i r (by simpa using h) hr]
    simp [N]

/-- The words ascend. -/
def Asc (ms : List Mk) : Prop := ms.Pairwise (fun a b => a.1 < b.1)

/-- The variable 'split' in block S: its masks and its asked rules lie in rows of the call's own, from 'base' on. -/
structure SInv (S base : Nat) (ms : List Mk) (ps : List Addr) (rd : Int) (w : World) : Prop where
  ve : ∃ ve va, w.heap[S]? = some (.cells #[ve, va, .int .u8 rd] 37 (0, 0)) ∧ w.ownsRow base 61 3 ve ms.length (flatM ms) ∧ w.ownsRow base 59 1 va ps.length (ps.map fun a => Value.pointer (some a))

set_option maxHeartbeats 400000 in
/-- The closure: does the mask at i name the word or a greater one? -/
theorem closure_any (S B g cap word i : Nat) (ms : List Mk) (w : World) (hi : i < ms.length)
    (x1 : w.cell? ⟨B, 0, none⟩ = some (.pointer (some ⟨S, 0, none⟩))) (x2 : w.cell? ⟨B + 1, 0, none⟩ = some (.int .i64 word)) (x3 : w.cell? ⟨S, 0, none⟩ = some (.slice (some ⟨g, 0, none⟩) ms.length cap)) (x4 : w.cell? ⟨g, i * 3, none⟩ = some (.int .i64 (N ms i).1)) :
    Calls Try.prog 23 #[.int .i64 i, .pointer (some ⟨B, 0, none⟩), .pointer (some ⟨B + 1, 0, none⟩)] w fun e w' => e = .returned (.bool (decide (word ≤ (N ms i).1))) ∧ ∃ q, w' = w.drewN q := by
  go_enter Try.func23, Try.ntmps23
  go_wp2
  go_quiet (fail)
  go_wp2
  go_ret
  exact ⟨rfl, _, rfl⟩

/-- Where the mask of a word lies, or would lie. -/
structure Place (ms : List Mk) (word i : Nat) : Prop where
  le : i ≤ ms.length
  lo : ∀ j, j < i → (N ms j).1 < word
  hi : ∀ j, i ≤ j → j < ms.length → word ≤ (N ms j).1

theorem info61 : (Try.prog.info? 61).map (fun i => (i.zero, i.size, i.bytes)) = some (some (.agg #[.int .i64 0, .int .u64 0, .int .u64 0]), 3, 24) := by kernel_rfl

theorem asc_get {ms : List Mk} (h : Asc ms) {a b : Nat} (hab : a < b) (hb : b < ms.length) : (N ms a).1 < (N ms b).1 := by
  have := List.pairwise_iff_getElem.1 h a b (by omega) hb hab
  simpa [N, List.getD, List.getElem?_eq_getElem hb, List.getElem?_eq_getElem (show a < ms.length by omega)] using this

theorem own_form {w : World} {base : Nat} {e : TypeId} {size : Nat} {v : Value} {n : Nat} {xs : List Value} (h : w.ownsRow base e size v n xs) : ∃ ao cap g, v = .slice ao n cap ∧ (0 < n → ao = some ⟨g, 0, none⟩ ∧ base ≤ g ∧ g < w.heap.size) := by
  by_cases h0 : n = 0
  · rcases h.2 with ⟨rfl, _⟩ | ⟨g, cap, cur, rfl, _⟩
    · exact ⟨none, 0, 0, by rw [h0], fun hn => absurd hn (by omega)⟩
    · exact ⟨_, cap, g, rfl, fun hn => absurd hn (by omega)⟩
  · obtain ⟨g, cap, rfl, hb, hlt⟩ := h.form (by omega)
    exact ⟨_, cap, g, rfl, fun _ => ⟨rfl, hb, hlt⟩⟩

/-- The world behind mask's two boxes. -/
def mwin (w : World) (S word : Nat) : World := (w.alloc (.cells #[.pointer (some ⟨S, 0, none⟩)] 64)).alloc (.cells #[.int .i64 (word : Int)] 3)

theorem mwin_blocks (w : World) (S word : Nat) : (mwin w S word).heap[w.heap.size]? = some (.cells #[.pointer (some ⟨S, 0, none⟩)] 64 (0, 0)) ∧ (mwin w S word).heap[w.heap.size + 1]? = some (.cells #[.int .i64 (word : Int)] 3 (0, 0)) := by
  refine ⟨(Below.heap_alloc _ _ _ (by simp)).trans (heap_alloc_new w _), ?_⟩
  have := heap_alloc_new (w.alloc (.cells #[.pointer (some ⟨S, 0, none⟩)] 64)) (.cells #[.int .i64 (word : Int)] 3)
  simpa [mwin] using this

theorem mwin_cells {w : World} {S word : Nat} {v : Value} (hS : S < w.heap.size) (cS : w.cell? ⟨S, 0, none⟩ = some v) :
    (mwin w S word).cell? ⟨w.heap.size, 0, none⟩ = some (.pointer (some ⟨S, 0, none⟩)) ∧ (mwin w S word).cell? ⟨w.heap.size + 1, 0, none⟩ = some (.int .i64 word) ∧ (mwin w S word).cell? ⟨S, 0, none⟩ = some v := by
  refine ⟨?_, ?_, ?_⟩
  · simp [World.cell?, (mwin_blocks w S word).1]
  · simp [World.cell?, (mwin_blocks w S word).2]
  · rw [mwin, World.cell?_alloc_lt _ _ _ (by simp; omega), World.cell?_alloc_lt _ _ _ hS]
    exact cS

theorem after_search {w w1 : World} {S word base q : Nat} {ve va : Value} {rd : Int} {ms : List Mk} {ps : List Addr} (hS : S < w.heap.size) (cS : w.cell? ⟨S, 0, none⟩ = some ve) (hcell : w.heap[S]? = some (.cells #[ve, va, .int .u8 rd] 37 (0, 0)))
    (own1 : w.ownsRow base 61 3 ve ms.length (flatM ms)) (own2 : w.ownsRow base 59 1 va ps.length (ps.map fun a => Value.pointer (some a))) (h : w1 = (mwin w S word).drewN q) :
    w1.heap[w.heap.size]? = some (.cells #[.pointer (some ⟨S, 0, none⟩)] 64 (0, 0)) ∧ w1.heap[w.heap.size + 1]? = some (.cells #[.int .i64 (word : Int)] 3 (0, 0)) ∧ w1.cell? ⟨S, 0, none⟩ = some ve ∧ w1.heap[S]? = some (.cells #[ve, va, .int .u8 rd] 37 (0, 0)) ∧
    w1.ownsRow base 61 3 ve ms.length (flatM ms) ∧ w1.ownsRow base 59 1 va ps.length (ps.map fun a => Value.pointer (some a)) ∧ w.heap.size + 2 ≤ w1.heap.size ∧ Below S w w1 := by
  subst h
  have c := mwin_cells (word := word) hS cS
  refine ⟨(mwin_blocks w S word).1, (mwin_blocks w S word).2, c.2.2, ?_, (own1.alloc _).alloc _, (own2.alloc _).alloc _, ?_, below_drewN (((Below.refl S w).alloc (by omega) _).alloc (by simp; omega) _) q⟩
  · exact ((Below.heap_alloc _ _ _ (by simp; omega)).trans (Below.heap_alloc _ _ _ hS)).trans hcell
  · show _ ≤ (mwin w S word).heap.size
    simp [mwin]

theorem far_block {wc w3 : World} {o : Obj} {row : Option Nat} (hg : (wc.alloc o).drew.grownBy w3 row) {k : Nat} (hlt : k < wc.heap.size) (hne : some k ≠ row) : w3.heap[k]? = wc.heap[k]? :=
  (hg.block k (by show k < (wc.alloc o).heap.size; simp; omega) hne).trans (Below.heap_alloc _ _ _ hlt)
theorem far_cell {wc w3 : World} {o : Obj} {row : Option Nat} (hg : (wc.alloc o).drew.grownBy w3 row) {k j : Nat} (hlt : k < wc.heap.size) (hne : some k ≠ row) : w3.cell? ⟨k, j, none⟩ = wc.cell? ⟨k, j, none⟩ :=
  World.cell?_of_block (w := wc) (far_block hg hlt hne)
/-- A block of another type than the row's is none of its. -/
theorem not_own {w : World} {base : Nat} {size : Nat} {v u : Value} {n b : Nat} {xs : List Value} {t e : TypeId} (h : w.ownsRow base e size v n xs) (hb : w.heap[b]? = some (.cells #[u] t (0, 0))) (ht : t ≠ e) : some b ≠ v.ownBlock := fun he => by
  rcases h.2 with ⟨rfl, _⟩ | ⟨g, cap, cur, rfl, _, hg, _⟩
  · simp [Value.ownBlock] at he
  · simp only [Value.ownBlock, Option.some.injEq] at he
    subst he
    rw [hb] at hg
    simp at hg
    exact ht hg.2
theorem cell_S {w : World} {S : Nat} {v0 v1 v2 : Value} (h : w.heap[S]? = some (.cells #[v0, v1, v2] 37 (0, 0))) : w.cell? ⟨S, 0, none⟩ = some v0 := by simp [World.cell?, h]
theorem free_S {w : World} {S : Nat} {v0 v1 v2 : Value} (h : w.heap[S]? = some (.cells #[v0, v1, v2] 37 (0, 0))) : w.frozen? ⟨S, 0, none⟩ = false := by simp [World.frozen?, h]

theorem own_ge {w : World} {base : Nat} {e : TypeId} {size : Nat} {v : Value} {n : Nat} {xs : List Value} (h : w.ownsRow base e size v n xs) {k : Nat} (hk : k < base) : some k ≠ v.ownBlock := fun e => by
  have := h.lt k e.symm
  omega

/-- mask's own state: the variable 'split' in block S, the boxes B and B + 1, the masks' row in block g. -/
structure MS (S base B g cap n word : Nat) (va : Value) (rd : Int) (ps : List Addr) (xs : List Value) (w0 w : World) : Prop where
  s : w.heap[S]? = some (.cells #[.slice (some ⟨g, 0, none⟩) n cap, va, .int .u8 rd] 37 (0, 0))
  b : w.heap[B]? = some (.cells #[.pointer (some ⟨S, 0, none⟩)] 64 (0, 0))
  b1 : w.heap[B + 1]? = some (.cells #[.int .i64 (word : Int)] 3 (0, 0))
  own : w.ownsRow base 61 3 (.slice (some ⟨g, 0, none⟩) n cap) n xs
  own2 : w.ownsRow base 59 1 va ps.length (ps.map fun a => Value.pointer (some a))
  bel : Below S w0 w

theorem rows_apart {w : World} {base : Nat} {v u : Value} {n m s t : Nat} {xs ys : List Value} (h : w.ownsRow base 61 s v n xs) (k : w.ownsRow base 59 t u m ys) : u.ownBlock = none ∨ u.ownBlock ≠ v.ownBlock := by
  rcases k.2 with ⟨rfl, _⟩ | ⟨g, cap, cur, rfl, _, hg, _⟩
  · exact .inl rfl
  · right
    intro e
    rcases h.2 with ⟨rfl, _⟩ | ⟨g', cap', cur', rfl, _, hg', _⟩
    · simp [Value.ownBlock] at e
    · simp only [Value.ownBlock, Option.some.injEq] at e
      subst e
      rw [hg] at hg'
      simp at hg'

theorem one_S {w : World} {S : Nat} {v0 v1 v2 u : Value} (h : w.heap[S]? = some (.cells #[v0, v1, v2] 37 (0, 0))) : (w.setCell ⟨S, 0, none⟩ u).heap[S]? = some (.cells #[u, v1, v2] 37 (0, 0)) := by
  simp [World.setCell, Array.getElem?_modify, h]

theorem ownsRow_setCell_far {w : World} {base : Nat} {e : TypeId} {size : Nat} {v : Value} {n : Nat} {xs : List Value} (h : w.ownsRow base e size v n xs) {a : Addr} (ha : a.block < base) (u : Value) : (w.setCell a u).ownsRow base e size v n xs := by
  refine ⟨h.1, ?_⟩
  rcases h.2 with h0 | ⟨g, cap, cur, hv, hb, hg, r⟩
  · exact .inl h0
  · exact .inr ⟨g, cap, cur, hv, hb, (Below.heap_setCell _ _ _ _ (by omega)).trans hg, r⟩

theorem own_cap {w : World} {base : Nat} {e : TypeId} {size g n cap : Nat} {xs : List Value} (h : w.ownsRow base e size (.slice (some ⟨g, 0, none⟩) n cap) n xs) : n ≤ cap := by
  rcases h.2 with ⟨h', _⟩ | ⟨g', cap', cur, h', _, _, hc, _⟩
  · simp at h'
  · simp at h'
    omega

/-- The masks with room at place i. -/
def shift (ms : List Mk) (i : Nat) : List Mk := if i < ms.length then ms.take (i + 1) ++ ms.drop i else ms ++ [(0, 0, 0)]

/-- copy, of elements of whatever size, into a row that is known whole. -/
theorem run_copy_wide {P : Program} (w : World) (dT sT ty elem : TypeId) (g o dLen dCap : Nat) (a : Addr) (sLen sCap : Nat) (cur : Array Value) (t : TypeId) (cs : List Value) (size n : Nat)
    (hu : P.underlying dT = some (.slice elem)) (hs : (P.info? elem).map (·.size) = some size) (hg : w.heap[g]? = some (.cells cur t (0, 0))) (hk : Nat.min sLen dLen = n) (hn : cs.length = n * size)
    (hsrc : ∀ j v, cs[j]? = some v → w.cell? (a.add j) = some v) (hfit : o + cs.length ≤ cur.size) (h1 : ∀ v ∈ cs, v.oneCell' = true) :
    (Builtin.copy_ #[dT, sT] ty #[.slice (some ⟨g, o, none⟩) dLen dCap, .slice (some a) sLen sCap]).run P w = .ok (goInt n) (w.setRow g (cur.toList.take o ++ cs ++ cur.toList.drop (o + cs.length)).toArray) := by
  have hl := run_loadCells_list (P := P) w a cs hsrc
  have hst := run_storeCells_at P g o t cs 0 cur w hg (by simpa using hfit) h1
  cases hq : P.info? elem with
  | none => simp [hq] at hs
  | some i =>
    have hi : i.size = size := by simpa [hq] using hs
    simp [Builtin.copy_, run_underlying hu, Builtin.lenOf, Builtin.firstCells, sizeOf, typeInfo, hq, hi, hk, ← hn, hl, hst]

theorem flatM_cons (p : Mk) (ms : List Mk) : flatM (p :: ms) = mcells p ++ flatM ms := by simp [flatM]
theorem flatM_append (a b : List Mk) : flatM (a ++ b) = flatM a ++ flatM b := by simp [flatM]
theorem flatM_take : ∀ (ms : List Mk) (k : Nat), (flatM ms).take (k * 3) = flatM (ms.take k)
  | [], k => by simp [flatM]
  | p :: ms, 0 => by simp [flatM]
  | p :: ms, k + 1 => by
    have e2 : (k + 1) * 3 = 3 + k * 3 := by omega
    have e3 : (mcells p).length = 3 := rfl
    rw [List.take_succ_cons, flatM_cons, flatM_cons, e2, List.take_append, e3, Nat.add_sub_cancel_left, List.take_of_length_le (by rw [e3]; omega), flatM_take ms k]
theorem flatM_drop : ∀ (ms : List Mk) (k : Nat), (flatM ms).drop (k * 3) = flatM (ms.drop k)
  | [], k => by simp [flatM]
  | p :: ms, 0 => by simp [flatM]
  | p :: ms, k + 1 => by
    have e2 : (k + 1) * 3 = 3 + k * 3 := by omega
    have e3 : (mcells p).length = 3 := rfl
    rw [List.drop_succ_cons, flatM_cons, e2, List.drop_append, e3, Nat.add_sub_cancel_left, List.drop_of_length_le (by rw [e3]; omega), List.nil_append, flatM_drop ms k]

/-- The masks' row written anew. -/
theorem ms_row {S base B g cap n word : Nat} {va : Value} {rd : Int} {ps : List Addr} {xs : List Value} {w0 w : World} (hS : S < base) (h : MS S base B g cap n word va rd ps xs w0 w) (cur cur' : Array Value) (hg : w.heap[g]? = some (.cells cur 61 (0, 0))) (hsz : cur'.size = cap * 3) (hn : n ≤ cap) :
    MS S base B g cap n word va rd ps (cur'.toList.take (n * 3)) w0 (w.setRow g cur') := by
  have hb : base ≤ g := (h.own.lt g rfl).1
  have hSg : S ≠ g := by omega
  have nB : B ≠ g := fun e => by have := h.b; rw [e, hg] at this; simp at this
  have nB1 : B + 1 ≠ g := fun e => by have := h.b1; rw [e, hg] at this; simp at this
  have hcm : cap ≤ maxLen := by
    rcases h.own.2 with ⟨h', _⟩ | ⟨g', cap', _, h', _, _, _, hc, _⟩
    · simp at h'
    · simp at h'; omega
  refine ⟨(setRow_other w g S cur' hSg).trans h.s, (setRow_other w g B cur' nB).trans h.b, (setRow_other w g (B + 1) cur' nB1).trans h.b1, ⟨?_, .inr ⟨g, cap, cur', rfl, hb, setRow_heap w g cur cur' 61 _ hg, hn, hcm, hsz, rfl⟩⟩, ?_, below_setRow h.bel (by omega) _⟩
  · rw [List.length_take, Array.length_toList, hsz]
    have : n * 3 ≤ cap * 3 := Nat.mul_le_mul_right 3 hn
    omega
  · refine h.own2.kept (w' := w.setRow g cur') (row := some g) ⟨rfl, rfl, rfl, by simp [World.setRow], fun k _ hk => setRow_other w g k cur' (fun e => hk (by simp [e]))⟩ ?_
    have := rows_apart h.own h.own2
    simpa [Value.ownBlock] using this

theorem MS.drew {S base B g cap n word : Nat} {va : Value} {rd : Int} {ps : List Addr} {xs : List Value} {w0 w : World} (h : MS S base B g cap n word va rd ps xs w0 w) : MS S base B g cap n word va rd ps xs w0 w.drew := ⟨h.s, h.b, h.b1, h.own, h.own2, h.bel.drew⟩

theorem ms_copy {S base B g cap word i o dc sc : Nat} {va : Value} {rd : Int} {ps : List Addr} {ms : List Mk} {w0 w : World} (hS : S < base) (h : MS S base B g cap (ms.length + 1) word va rd ps (flatM (ms ++ [(0, 0, 0)])) w0 w) (hi : i ≤ ms.length) (ho : o = (i + 1) * 3 ∨ (i = ms.length ∧ o = 0)) :
    ∃ w3, (∀ ty, (Builtin.copy_ #[33, 33] ty #[.slice (some ⟨g, o, none⟩) (ms.length - i) dc, .slice (some ⟨g, i * 3, none⟩) (ms.length + 1 - i) sc]).run Try.prog w.drew = .ok (goInt (ms.length - i : Nat)) w3) ∧ MS S base B g cap (ms.length + 1) word va rd ps (flatM (shift ms i)) w0 w3 := by
  have hcap := own_cap h.own
  obtain ⟨cur, hg, hcs, htk⟩ : ∃ cur, w.heap[g]? = some (.cells cur 61 (0, 0)) ∧ cur.size = cap * 3 ∧ cur.toList.take ((ms.length + 1) * 3) = flatM (ms ++ [(0, 0, 0)]) := by
    rcases h.own.2 with ⟨h', _⟩ | ⟨g', cap', cur, h', _, hg, _, _, hcs, htk⟩
    · simp at h'
    · simp only [Value.slice.injEq, Option.some.injEq, Addr.mk.injEq, and_true, true_and] at h'
      obtain ⟨rfl, rfl⟩ := h'
      exact ⟨cur, hg, hcs, htk⟩
  have hlen : ((flatM ms).drop (i * 3)).length = (ms.length - i) * 3 := by rw [List.length_drop, flatM_length]; omega
  have hmin : Nat.min (ms.length + 1 - i) (ms.length - i) = ms.length - i := by
    show min _ _ = _
    omega
  have hfit : o + ((flatM ms).drop (i * 3)).length ≤ cur.size := by
    rw [hlen, hcs]
    have : (ms.length + 1) * 3 ≤ cap * 3 := Nat.mul_le_mul_right 3 hcap
    omega
  have hsrc : ∀ j v, ((flatM ms).drop (i * 3))[j]? = some v → w.drew.cell? ((⟨g, i * 3, none⟩ : Addr).add j) = some v := fun j v hv => by
    have hadd : (⟨g, i * 3, none⟩ : Addr).add j = ⟨g, i * 3 + j, none⟩ := by unfold Addr.add; split <;> simp_all
    rw [List.getElem?_drop] at hv
    have hj : i * 3 + j < (flatM ms).length := (List.getElem?_eq_some_iff.1 hv).1
    rw [flatM_length] at hj
    rw [hadd]
    show w.cell? ⟨g, i * 3 + j, none⟩ = some v
    rw [h.own.cellAt (i * 3 + j) (by omega), flatM_append, List.getElem?_append_left (by rw [flatM_length]; omega)]
    exact hv
  have hone : ∀ v ∈ (flatM ms).drop (i * 3), v.oneCell' = true := fun v hv => by
    have hv := List.mem_of_mem_drop hv
    unfold flatM at hv
    obtain ⟨m, _, hm⟩ := List.mem_flatMap.1 hv
    simp [mcells] at hm
    rcases hm with rfl | rfl | rfl <;> rfl
  have hr := fun ty => run_copy_wide (P := Try.prog) w.drew 33 33 ty 61 g o (ms.length - i) dc ⟨g, i * 3, none⟩ (ms.length + 1 - i) sc cur 61 ((flatM ms).drop (i * 3)) 3 (ms.length - i) Try.underlying33 (by kernel_rfl) hg hmin hlen hsrc hfit hone
  refine ⟨_, hr, ?_⟩
  have hrow := ms_row hS h.drew cur (cur.toList.take o ++ (flatM ms).drop (i * 3) ++ cur.toList.drop (o + ((flatM ms).drop (i * 3)).length)).toArray hg (by
    simp only [List.size_toArray, List.length_append, List.length_take, List.length_drop, Array.length_toList]
    rw [List.length_drop] at hfit
    rw [hcs] at hfit ⊢
    omega) hcap
  have e1 : (cur.toList.take o ++ (flatM ms).drop (i * 3) ++ cur.toList.drop (o + ((flatM ms).drop (i * 3)).length)).toArray.toList.take ((ms.length + 1) * 3) = flatM (shift ms i) := by
    show (cur.toList.take o ++ (flatM ms).drop (i * 3) ++ cur.toList.drop (o + ((flatM ms).drop (i * 3)).length)).take ((ms.length + 1) * 3) = flatM (shift ms i)
    unfold shift
    by_cases hil : i < ms.length
    · obtain rfl : o = (i + 1) * 3 := by omega
      rw [if_pos hil, hlen, List.take_append_of_le_length (by
        simp only [List.length_append, List.length_take, Array.length_toList, hlen, hcs]
        have : (ms.length + 1) * 3 ≤ cap * 3 := Nat.mul_le_mul_right 3 hcap
        omega), List.take_of_length_le (by
        simp only [List.length_append, List.length_take, hlen]
        omega)]
      have e2 : cur.toList.take ((i + 1) * 3) = flatM (ms.take (i + 1)) := by
        have : cur.toList.take ((i + 1) * 3) = (cur.toList.take ((ms.length + 1) * 3)).take ((i + 1) * 3) := by rw [List.take_take]; congr 1; omega
        rw [this, htk, flatM_take, List.take_append_of_le_length (by omega)]
      rw [e2, flatM_drop, flatM_append]
    · obtain rfl : i = ms.length := by omega
      have e3 : (flatM ms).drop (ms.length * 3) = [] := List.drop_of_length_le (by rw [flatM_length]; omega)
      rw [if_neg hil, e3, List.append_nil, List.length_nil]
      rw [show o + 0 = o from rfl, List.take_append_drop, htk]
  rw [e1] at hrow
  exact hrow

theorem flatM_set : ∀ (ms : List Mk) (i : Nat) (a b c : Nat), i < ms.length → (((flatM ms).set (i * 3) (.int .i64 a)).set (i * 3 + 1) (.int .u64 b)).set (i * 3 + 2) (.int .u64 c) = flatM (ms.set i (a, b, c))
  | [], i, _, _, _, h => absurd h (by simp)
  | p :: ms, 0, a, b, c, _ => by simp [flatM, mcells]
  | p :: ms, i + 1, a, b, c, h => by
    have e2 : (i + 1) * 3 = (i * 3) + 1 + 1 + 1 := by omega
    have ih := flatM_set ms i a b c (by simpa using h)
    rw [List.set_cons_succ, flatM_cons, flatM_cons, ← ih, e2]
    simp [mcells]

theorem MS.put {S base B g cap n word i : Nat} {va : Value} {rd : Int} {ps : List Addr} {ls : List Mk} {w0 w : World} (hS : S < base) (h : MS S base B g cap n word va rd ps (flatM ls) w0 w) (hl : ls.length = n) (hi : i < n) (a b c : Nat) :
    MS S base B g cap n word va rd ps (flatM (ls.set i (a, b, c))) w0 (((w.setCell ⟨g, i * 3, none⟩ (.int .i64 a)).setCell ⟨g, i * 3 + 1, none⟩ (.int .u64 b)).setCell ⟨g, i * 3 + 2, none⟩ (.int .u64 c)) := by
  have hb : base ≤ g := (h.own.lt g rfl).1
  obtain ⟨cur, hg⟩ : ∃ cur, w.heap[g]? = some (.cells cur 61 (0, 0)) := by
    rcases h.own.2 with ⟨h', _⟩ | ⟨g', cap', cur, h', _, hg, _⟩
    · simp at h'
    · simp only [Value.slice.injEq, Option.some.injEq, Addr.mk.injEq, and_true, true_and] at h'
      obtain ⟨rfl, rfl⟩ := h'
      exact ⟨cur, hg⟩
  have nB : B ≠ g := fun e => by have := h.b; rw [e, hg] at this; simp at this
  have nB1 : B + 1 ≠ g := fun e => by have := h.b1; rw [e, hg] at this; simp at this
  have hSg : S ≠ g := by omega
  obtain ⟨o1, g1⟩ := h.own.stored (i * 3) (.int .i64 a)
  obtain ⟨o2, g2⟩ := o1.stored (i * 3 + 1) (.int .u64 b)
  obtain ⟨o3, g3⟩ := o2.stored (i * 3 + 2) (.int .u64 c)
  rw [flatM_set ls i a b c (by omega)] at o3
  have far : ∀ k, k ≠ g → (((w.setCell ⟨g, i * 3, none⟩ (.int .i64 a)).setCell ⟨g, i * 3 + 1, none⟩ (.int .u64 b)).setCell ⟨g, i * 3 + 2, none⟩ (.int .u64 c)).heap[k]? = w.heap[k]? := fun k hk =>
    (Below.heap_setCell _ _ _ _ hk).trans ((Below.heap_setCell _ _ _ _ hk).trans (Below.heap_setCell _ _ _ _ hk))
  have ra := rows_apart h.own h.own2
  have ra' : va.ownBlock = none ∨ va.ownBlock ≠ some g := by simpa [Value.ownBlock] using ra
  exact ⟨(far S hSg).trans h.s, (far B nB).trans h.b, (far (B + 1) nB1).trans h.b1, o3, ((h.own2.kept g1 ra').kept g2 ra').kept g3 ra', ((h.bel.setCell (by show S ≤ g; omega) _).setCell (by show S ≤ g; omega) _).setCell (by show S ≤ g; omega) _⟩

/-- The masks with a new one at place i. -/
def putIn (ms : List Mk) (word i : Nat) : List Mk := ms.take i ++ (word, 0, 0) :: ms.drop i
theorem shift_length (ms : List Mk) (i : Nat) : (shift ms i).length = ms.length + 1 := by
  unfold shift
  split <;> simp <;> omega
theorem shift_set (ms : List Mk) (word i : Nat) (hi : i ≤ ms.length) : (shift ms i).set i (word, 0, 0) = putIn ms word i := by
  unfold shift putIn
  split
  · rename_i h
    have e1 : ms.take (i + 1) = ms.take i ++ [ms[i]] := by rw [List.take_add_one, List.getElem?_eq_getElem h]; rfl
    rw [e1, List.append_assoc, List.set_append_right _ _ (by simp; omega)]
    simp [Nat.min_eq_left hi]
  · obtain rfl : i = ms.length := by omega
    rw [List.set_append_right _ _ (Nat.le_refl _)]
    simp
theorem putIn_length (ms : List Mk) (word i : Nat) (hi : i ≤ ms.length) : (putIn ms word i).length = ms.length + 1 := by
  unfold putIn
  rw [List.length_append, List.length_take, List.length_cons, List.length_drop, Nat.min_eq_left hi]
  omega

/-- How mask ends: the mask's place, and the variable 'split' as it is then. -/
def Masked (S base : Nat) (ms' : List Mk) (i : Nat) (ps : List Addr) (rd : Int) (w : World) (e : Ending) (w' : World) : Prop :=
  ∃ g cap va, e = .returned (.pointer (some ⟨g, i * 3, none⟩)) ∧ i < ms'.length ∧ w'.heap[S]? = some (.cells #[.slice (some ⟨g, 0, none⟩) ms'.length cap, va, .int .u8 rd] 37 (0, 0)) ∧
    w'.ownsRow base 61 3 (.slice (some ⟨g, 0, none⟩) ms'.length cap) ms'.length (flatM ms') ∧ w'.ownsRow base 59 1 va ps.length (ps.map fun a => Value.pointer (some a)) ∧ Below S w w'

theorem own_ne {w : World} {base : Nat} {e t : TypeId} {size g n cap b : Nat} {xs : List Value} {u : Value} (h : w.ownsRow base e size (.slice (some ⟨g, 0, none⟩) n cap) n xs) (hb : w.heap[b]? = some (.cells #[u] t (0, 0))) (ht : t ≠ e) : b ≠ g := fun he => by
  rcases h.2 with ⟨h', _⟩ | ⟨g', cap', cur, h', _, hg, _⟩
  · simp at h'
  · simp only [Value.slice.injEq, Option.some.injEq, Addr.mk.injEq, and_true, true_and] at h'
    obtain ⟨rfl, rfl⟩ := h'
    rw [he, hg] at hb
    simp at hb
    exact ht hb.2.symm

theorem ms_append {S base B g2 cap2 word : Nat} {va : Value} {rd : Int} {ps : List Addr} {ms : List Mk} {ve : Value} {o : Obj} {w wc w3 : World} (hS : S < base) (h1 : S < wc.heap.size) (h2 : B + 1 < wc.heap.size) (hSB : S < B)
    (hb : wc.heap[B]? = some (.cells #[.pointer (some ⟨S, 0, none⟩)] 64 (0, 0))) (hb1 : wc.heap[B + 1]? = some (.cells #[.int .i64 (word : Int)] 3 (0, 0))) (hs : wc.heap[S]? = some (.cells #[ve, va, .int .u8 rd] 37 (0, 0)))
    (own : wc.ownsRow base 61 3 ve ms.length (flatM ms)) (own2 : wc.ownsRow base 59 1 va ps.length (ps.map fun a => Value.pointer (some a))) (bel : Below S w wc)
    (own3 : w3.ownsRow base 61 3 (.slice (some ⟨g2, 0, none⟩) (ms.length + 1) cap2) (ms.length + 1) (flatM ms ++ [.int .i64 0, .int .u64 0, .int .u64 0])) (hg : (wc.alloc o).drew.grownBy w3 ve.ownBlock) :
    MS S base B g2 cap2 (ms.length + 1) word va rd ps (flatM (ms ++ [(0, 0, 0)])) w (w3.setCell ⟨S, 0, none⟩ (.slice (some ⟨g2, 0, none⟩) (ms.length + 1) cap2)) := by
  have e1 : flatM (ms ++ [(0, 0, 0)]) = flatM ms ++ [.int .i64 0, .int .u64 0, .int .u64 0] := by simp [flatM, mcells]
  rw [e1]
  refine ⟨one_S ((far_block hg h1 (own_ge own hS)).trans hs), ?_, ?_, ownsRow_setCell_far own3 hS _, ownsRow_setCell_far ((own2.alloc o).drew.kept hg (rows_apart own own2)) hS _, ?_⟩
  · exact (Below.heap_setCell _ _ _ _ (by show B ≠ S; omega)).trans ((far_block hg (by omega) (not_own own hb (by decide))).trans hb)
  · exact (Below.heap_setCell _ _ _ _ (by show B + 1 ≠ S; omega)).trans ((far_block hg h2 (not_own own hb1 (by decide))).trans hb1)
  · exact (((bel.alloc (by omega) o).drew.grown hg (by show S ≤ (wc.alloc o).heap.size; simp; omega) (fun k hk => by have := own.lt k hk; omega)).setCell (Nat.le_refl _) _)

set_option maxHeartbeats 2000000 in
set_option maxRecDepth 100000 in
theorem mask_new (S base word : Nat) (ms : List Mk) (ps : List Addr) (rd : Int) (w : World) (h : SInv S base ms ps rd w) (hS : S < base) (hbase : base ≤ w.heap.size) (hm : ms.length < 4096) (hasc : Asc ms) (hno : ∀ j, j < ms.length → (N ms j).1 ≠ word) :
    Calls Try.prog 21 #[.pointer (some ⟨S, 0, none⟩), .int .i64 word] w fun e w' => ∃ i, Place ms word i ∧ Masked S base (putIn ms word i) i ps rd w e w' := by
  obtain ⟨ve, va, hcell, own1, own2⟩ := h
  obtain ⟨ao, cap, g, rfl, hao⟩ := own_form own1
  have hslt : S < w.heap.size := by omega
  have cS : w.cell? ⟨S, 0, none⟩ = some (.slice ao ms.length cap) := by simp [World.cell?, hcell]
  have hsr : Calls Try.prog 22 #[.int .i64 ms.length, .func (.func 23) #[] #[.pointer (some ⟨w.heap.size, 0, none⟩), .pointer (some ⟨w.heap.size + 1, 0, none⟩)]] (mwin w S word) fun e w' => Found ms.length (fun i => decide (word ≤ (N ms i).1)) e ∧ ∃ q, w' = (mwin w S word).drewN q :=
    search_any ms.length _ _ _ _ (by omega) (fun d i hi => by
      obtain ⟨rfl, hb, hlt⟩ := hao (by omega)
      refine (closure_any S w.heap.size g cap word i ms ((mwin w S word).drewN d) hi ?_ ?_ ?_ ?_).mono ?_
      · exact (mwin_cells hslt cS).1
      · exact (mwin_cells hslt cS).2.1
      · exact (mwin_cells hslt cS).2.2
      · show (mwin w S word).cell? ⟨g, i * 3, none⟩ = _
        have := ((own1.alloc (.cells #[.pointer (some ⟨S, 0, none⟩)] 64)).alloc (.cells #[.int .i64 word] 3)).cellAt (i * 3) (by omega)
        have e2 := flatM_get ms i 0 hi (by omega)
        exact this.trans e2
      · rintro e w' ⟨rfl, q, rfl⟩
        exact ⟨rfl, d + q, World.drewN_drewN _ _ _⟩) (fun a b hab hb ha => by
      by_cases e : a = b
      · rw [← e]; exact ha
      · have := asc_get hasc (show a < b by omega) hb
        simp only [decide_eq_true_eq] at ha ⊢
        omega)
  go_enter Try.func21, Try.ntmps21
  go_wp2_with fail
  refine hsr.mono ?_
  clear hsr
  rintro e w1 ⟨⟨i, rfl, hi, hlo, hhi⟩, q, hw1⟩
  have HP : Hid (Place ms word i) := ⟨hi, fun j hj => by simpa using hlo j hj, fun j h1 h2 => by simpa using hhi j h1 h2⟩
  obtain ⟨y1, y2, y3, y4, y5, y6, y7, y8⟩ := after_search hslt cS hcell own1 own2 hw1
  have HO1 : Hid (w1.ownsRow base 61 3 (.slice ao ms.length cap) ms.length (flatM ms)) := y5
  have HO2 : Hid (w1.ownsRow base 59 1 va ps.length (ps.map fun a => Value.pointer (some a))) := y6
  have HBL : Hid (Below S w w1) := y8
  have HSC : Hid (w1.heap[S]? = some (.cells #[.slice ao ms.length cap, va, .int .u8 rd] 37 (0, 0))) := y4
  have HX1 : Hid (w1.heap[w.heap.size]? = some (.cells #[.pointer (some ⟨S, 0, none⟩)] 64 (0, 0))) := y1
  have HX2 : Hid (w1.heap[w.heap.size + 1]? = some (.cells #[.int .i64 (word : Int)] 3 (0, 0))) := y2
  have x1 : w1.cell? ⟨w.heap.size, 0, none⟩ = some (.pointer (some ⟨S, 0, none⟩)) := by simp [World.cell?, y1]
  have x2 : w1.cell? ⟨w.heap.size + 1, 0, none⟩ = some (.int .i64 word) := by simp [World.cell?, y2]
  have hne : ¬ (i < ms.length ∧ (N ms i).1 = word) := fun ⟨h1, h2⟩ => hno i h1 h2
  clear hlo hhi hw1 hcell own1 own2 cS y1 y2 y4 y5 y6 y8
  obtain ⟨B, hB⟩ : ∃ B, w.heap.size = B := ⟨_, rfl⟩
  rw [hB] at x1 x2 y7 hslt hbase HX1 HX2 ⊢
  clear hB
  go_upto_region 2 with fail
  go_cut [31] (fun v wd => v = .bool true ∧ ∃ nq, wd = w1.drewN nq)
  case first =>
    by_cases hil : i = ms.length
    · have hb1 : ((i : Int) == (ms.length : Int)) = true := by simp [hil]
      clear hil hne
      go_quiet (fail)
      go_wp2_with fail
      go_meet
      exact ⟨rfl, _, rfl⟩
    · have hb1 : ((i : Int) == (ms.length : Int)) = false := by simp; omega
      have hlt : i < ms.length := by omega
      have hb2 : (((N ms i).1 : Int) != (word : Int)) = true := by
        have : (N ms i).1 ≠ word := fun e => hne ⟨hlt, e⟩
        simp; omega
      obtain ⟨rfl, hbg, hgl⟩ := hao (by omega)
      have cg : w1.cell? ⟨g, i * 3, none⟩ = some (.int .i64 (N ms i).1) := (HO1.out.cellAt (i * 3) (by omega)).trans (flatM_get ms i 0 hlt (by omega))
      have hI1 : (0 : Int) ≤ (i : Int) := by omega
      have hI2 : (i : Int) < (ms.length : Int) := by omega
      clear hne hil
      go_quiet (fail)
      go_wp2_with fail
      go_meet
      exact ⟨rfl, _, rfl⟩
  case rest =>
    obtain ⟨rfl, nq, hwc⟩ := hcut
    have z1 : wc.cell? ⟨B, 0, none⟩ = some (.pointer (some ⟨S, 0, none⟩)) := by rw [hwc]; exact x1
    have z2 : wc.cell? ⟨B + 1, 0, none⟩ = some (.int .i64 word) := by rw [hwc]; exact x2
    have z3 : wc.cell? ⟨S, 0, none⟩ = some (.slice ao ms.length cap) := by rw [hwc]; exact y3
    have z4 : B + 2 ≤ wc.heap.size := by rw [hwc]; exact y7
    have HP1 : Hid (wc.ownsRow base 61 3 (.slice ao ms.length cap) ms.length (flatM ms)) := by rw [hwc]; exact HO1.out
    have HP2 : Hid (wc.ownsRow base 59 1 va ps.length (ps.map fun a => Value.pointer (some a))) := by rw [hwc]; exact HO2.out
    have HBM : Hid (Below S w wc) := by rw [hwc]; exact below_drewN HBL.out nq
    have HSD : Hid (wc.heap[S]? = some (.cells #[.slice ao ms.length cap, va, .int .u8 rd] 37 (0, 0))) := by rw [hwc]; exact HSC.out
    have HY1 : Hid (wc.heap[B]? = some (.cells #[.pointer (some ⟨S, 0, none⟩)] 64 (0, 0))) := by rw [hwc]; exact HX1.out
    have HY2 : Hid (wc.heap[B + 1]? = some (.cells #[.int .i64 (word : Int)] 3 (0, 0))) := by rw [hwc]; exact HX2.out
    clear hwc x1 x2 y3 y7 HO1 HO2 HBL HSC HX1 HX2
    obtain ⟨i0, hi0, hz0, hz1, hz2⟩ := info_parts info61
    have nS : some S ≠ (Value.slice ao ms.length cap).ownBlock := own_ge HP1.out hS
    have nB : some B ≠ (Value.slice ao ms.length cap).ownBlock := not_own HP1.out HY1.out (by decide)
    have nB' : some (B + 1) ≠ (Value.slice ao ms.length cap).ownBlock := not_own HP1.out HY2.out (by decide)
    have hslt' : S < wc.heap.size := by omega
    have hBlt : B < wc.heap.size := by omega
    have hBlt' : B + 1 < wc.heap.size := by omega
    have hnews : ∀ j u, [Value.int .i64 0, Value.int .u64 0, Value.int .u64 0][j]? = some u → (wc.alloc (.cells #[.int .i64 0, .int .u64 0, .int .u64 0] 61)).drew.cell? ((⟨wc.heap.size, 0, none⟩ : Addr).add j) = some u := World.news_of_block (cs := #[.int .i64 0, .int .u64 0, .int .u64 0]) (t := 61) (fr := (0, 0)) (heap_alloc_new wc _)
    have HNW : Hid (∀ j u, [Value.int .i64 0, Value.int .u64 0, Value.int .u64 0][j]? = some u → (wc.alloc (.cells #[.int .i64 0, .int .u64 0, .int .u64 0] 61)).drew.cell? ((⟨wc.heap.size, 0, none⟩ : Addr).add j) = some u) := hnews
    clear hnews
    go_upto_region 3 with fail
    go_cut [32] (fun _ wd => ∃ g2 cap2, MS S base B g2 cap2 (ms.length + 1) word va rd ps (flatM (ms ++ [(0, 0, 0)])) w wd)
    case first =>
      go_region_law ((refine step_append_lies _ (by rfl) _ _ _ (by rfl) base 61 i0 _ 3 24 Try.underlying33 hi0 hz0 hz1 hz2 rfl (by omega) (.slice ao ms.length cap) ms.length (flatM ms) (by simp [Act.eval]) ((HP1.out.alloc _).drew) ⟨wc.heap.size, 0, none⟩ 1 1 [.int .i64 0, .int .u64 0, .int .u64 0] (by simp [Act.eval]) (by rfl) HNW.out (by simp [Value.oneCell']) (by omega) (by unfold maxLen; omega) (by omega) (by simp; omega) (wc.heap.size + 1) (by simp) ?_; intro g2 cap2 w3 own3 hgrow hat hlt3; have c3 := (far_block hgrow hslt' nS).trans HSD.out; have c3c := cell_S c3; have c3f := free_S c3; have c3b := (far_cell (j := 0) hgrow hBlt nB).trans z1))
      all_goals
        go_wp2_with fail
        go_meet
        exact ⟨g2, cap2, ms_append hS (by omega) (by omega) (by omega) HY1.out HY2.out HSD.out HP1.out HP2.out HBM.out own3 hgrow⟩
    case rest =>
      obtain ⟨w2, rfl⟩ : ∃ w2, w2 = wc := ⟨wc, rfl⟩
      obtain ⟨g2, cap2, hms⟩ := hcut
      clear z1 z2 z3 z4 HP1 HP2 HBM HSD HY1 HY2 hi0 hz0 hz1 hz2 nS nB nB' hslt' hBlt hBlt' HNW
      have hcap : ms.length + 1 ≤ cap2 := own_cap hms.own
      have v1 := cell_S hms.s
      have v2 : w2.cell? ⟨B, 0, none⟩ = some (.pointer (some ⟨S, 0, none⟩)) := by simp [World.cell?, hms.b]
      have hwr : IntKind.i64.wrap ((i : Int) + 1) = (i : Int) + 1 := by rw [IntKind.wrap_i64]; omega
      have hnt : ((i : Int) + 1).toNat = i + 1 := by omega
      have hi1 : (0 : Int) ≤ (i : Int) + 1 := by omega
      have hi2 : (i : Int) + 1 ≤ (ms.length : Int) + 1 := by omega
      have hi3 : (0 : Int) ≤ (i : Int) := by omega
      have hi4 : (i : Int) ≤ (ms.length : Int) + 1 := by omega
      go_upto_region 4 with fail
      go_cut [55] (fun _ wd => MS S base B g2 cap2 (ms.length + 1) word va rd ps (flatM (shift ms i)) w wd)
      case first =>
        have HMS : Hid (MS S base B g2 cap2 (ms.length + 1) word va rd ps (flatM (ms ++ [(0, 0, 0)])) w w2) := hms
        have n2 : ¬ cap2 = i := by omega
        clear hms
        by_cases n1 : cap2 = i + 1
        · obtain ⟨w3, hcp, hms3⟩ := ms_copy (dc := cap2 - (i + 1)) (sc := cap2 - i) hS HMS.out hi (.inr ⟨by omega, rfl⟩)
          have HM3 : Hid (MS S base B g2 cap2 (ms.length + 1) word va rd ps (flatM (shift ms i)) w w3) := hms3
          have n1' : (cap2 = i + 1) = True := by simp [n1]
          clear hms3 n1
          go_region
          go_wp2_with fail
          go_meet
          exact HM3.out
        · obtain ⟨w3, hcp, hms3⟩ := ms_copy (dc := cap2 - (i + 1)) (sc := cap2 - i) hS HMS.out hi (.inl rfl)
          have HM3 : Hid (MS S base B g2 cap2 (ms.length + 1) word va rd ps (flatM (shift ms i)) w w3) := hms3
          clear hms3
          go_region
          go_wp2_with fail
          go_meet
          exact HM3.out
      case rest =>
        obtain ⟨w4, rfl⟩ : ∃ w4, w4 = wc := ⟨wc, rfl⟩
        have hms4 : MS S base B g2 cap2 (ms.length + 1) word va rd ps (flatM (shift ms i)) w w4 := hcut
        clear hms v1 v2 hcut
        have v1 := cell_S hms4.s
        have v2 : w4.cell? ⟨B, 0, none⟩ = some (.pointer (some ⟨S, 0, none⟩)) := by simp [World.cell?, hms4.b]
        have v3 : w4.cell? ⟨B + 1, 0, none⟩ = some (.int .i64 word) := by simp [World.cell?, hms4.b1]
        have hxl : (flatM (shift ms i)).length = (ms.length + 1) * 3 := by rw [flatM_length, shift_length ms i]
        obtain ⟨t0, e0⟩ : ∃ v, w4.cell? ⟨g2, i * 3, none⟩ = some v := ⟨_, (hms4.own.cellAt (i * 3) (by omega)).trans (List.getElem?_eq_getElem (by omega))⟩
        obtain ⟨t1, e1⟩ : ∃ v, w4.cell? ⟨g2, i * 3 + 1, none⟩ = some v := ⟨_, (hms4.own.cellAt (i * 3 + 1) (by omega)).trans (List.getElem?_eq_getElem (by omega))⟩
        obtain ⟨t2, e2⟩ : ∃ v, w4.cell? ⟨g2, i * 3 + 2, none⟩ = some v := ⟨_, (hms4.own.cellAt (i * 3 + 2) (by omega)).trans (List.getElem?_eq_getElem (by omega))⟩
        have f0 := hms4.own.frozenAt (i * 3)
        have f1 := hms4.own.frozenAt (i * 3 + 1)
        have f2 := hms4.own.frozenAt (i * 3 + 2)
        have hms5 := hms4.put hS (shift_length ms i) (show i < ms.length + 1 by omega) word 0 0
        rw [shift_set ms word i hi] at hms5
        have HM5 : Hid (MS S base B g2 cap2 (ms.length + 1) word va rd ps (flatM (putIn ms word i)) w (((w4.setCell ⟨g2, i * 3, none⟩ (.int .i64 word)).setCell ⟨g2, i * 3 + 1, none⟩ (.int .u64 (0 : Nat))).setCell ⟨g2, i * 3 + 2, none⟩ (.int .u64 (0 : Nat)))) := hms5
        have hi5 : (i : Int) < (ms.length : Int) + 1 := by omega
        have hgS : ¬ g2 = S := by have := (hms4.own.lt g2 rfl).1; omega
        have hgB : ¬ g2 = B := fun e => own_ne hms4.own hms4.b (by decide) e.symm
        clear hms4 hms5 hxl
        go_wp2_with fail
        go_region
        go_wp2_with fail
        go_ret
        have hm5 := HM5.out
        rw [← putIn_length ms word i hi] at hm5
        exact ⟨i, HP.out, g2, cap2, va, rfl, by rw [putIn_length ms word i hi]; omega, hm5.s, hm5.own, hm5.own2, hm5.bel.drew⟩

set_option maxHeartbeats 2000000 in
set_option maxRecDepth 100000 in
theorem mask_old (S base word : Nat) (ms : List Mk) (ps : List Addr) (rd : Int) (w : World) (h : SInv S base ms ps rd w) (hS : S < base) (hbase : base ≤ w.heap.size) (hm : ms.length < 4096) (hasc : Asc ms) (hyes : ∃ j, j < ms.length ∧ (N ms j).1 = word) :
    Calls Try.prog 21 #[.pointer (some ⟨S, 0, none⟩), .int .i64 word] w fun e w' => ∃ i, Place ms word i ∧ (N ms i).1 = word ∧ Masked S base ms i ps rd w e w' := by
  obtain ⟨ve, va, hcell, own1, own2⟩ := h
  obtain ⟨ao, cap, g, rfl, hao⟩ := own_form own1
  have hslt : S < w.heap.size := by omega
  have cS : w.cell? ⟨S, 0, none⟩ = some (.slice ao ms.length cap) := by simp [World.cell?, hcell]
  have hsr : Calls Try.prog 22 #[.int .i64 ms.length, .func (.func 23) #[] #[.pointer (some ⟨w.heap.size, 0, none⟩), .pointer (some ⟨w.heap.size + 1, 0, none⟩)]] (mwin w S word) fun e w' => Found ms.length (fun i => decide (word ≤ (N ms i).1)) e ∧ ∃ q, w' = (mwin w S word).drewN q :=
    search_any ms.length _ _ _ _ (by omega) (fun d i hi => by
      obtain ⟨rfl, hb, hlt⟩ := hao (by omega)
      refine (closure_any S w.heap.size g cap word i ms ((mwin w S word).drewN d) hi ?_ ?_ ?_ ?_).mono ?_
      · exact (mwin_cells hslt cS).1
      · exact (mwin_cells hslt cS).2.1
      · exact (mwin_cells hslt cS).2.2
      · show (mwin w S word).cell? ⟨g, i * 3, none⟩ = _
        have := ((own1.alloc (.cells #[.pointer (some ⟨S, 0, none⟩)] 64)).alloc (.cells #[.int .i64 word] 3)).cellAt (i * 3) (by omega)
        have e2 := flatM_get ms i 0 hi (by omega)
        exact this.trans e2
      · rintro e w' ⟨rfl, q, rfl⟩
        exact ⟨rfl, d + q, World.drewN_drewN _ _ _⟩) (fun a b hab hb ha => by
      by_cases e : a = b
      · rw [← e]; exact ha
      · have := asc_get hasc (show a < b by omega) hb
        simp only [decide_eq_true_eq] at ha ⊢
        omega)
  go_enter Try.func21, Try.ntmps21
  go_wp2_with fail
  refine hsr.mono ?_
  clear hsr
  rintro e w1 ⟨⟨i, rfl, hi, hlo, hhi⟩, q, hw1⟩
  have HP : Hid (Place ms word i) := ⟨hi, fun j hj => by simpa using hlo j hj, fun j h1 h2 => by simpa using hhi j h1 h2⟩
  obtain ⟨y1, y2, y3, y4, y5, y6, y7, y8⟩ := after_search hslt cS hcell own1 own2 hw1
  have HO1 : Hid (w1.ownsRow base 61 3 (.slice ao ms.length cap) ms.length (flatM ms)) := y5
  have HO2 : Hid (w1.ownsRow base 59 1 va ps.length (ps.map fun a => Value.pointer (some a))) := y6
  have HBL : Hid (Below S w w1) := y8
  have HSC : Hid (w1.heap[S]? = some (.cells #[.slice ao ms.length cap, va, .int .u8 rd] 37 (0, 0))) := y4
  have HX1 : Hid (w1.heap[w.heap.size]? = some (.cells #[.pointer (some ⟨S, 0, none⟩)] 64 (0, 0))) := y1
  have HX2 : Hid (w1.heap[w.heap.size + 1]? = some (.cells #[.int .i64 (word : Int)] 3 (0, 0))) := y2
  have x1 : w1.cell? ⟨w.heap.size, 0, none⟩ = some (.pointer (some ⟨S, 0, none⟩)) := by simp [World.cell?, y1]
  have x2 : w1.cell? ⟨w.heap.size + 1, 0, none⟩ = some (.int .i64 word) := by simp [World.cell?, y2]
  have hfd : i < ms.length ∧ (N ms i).1 = word := by
    obtain ⟨j, hj, hjw⟩ := hyes
    have a1 : ¬ j < i := fun h => by have := HP.out.lo j h; omega
    have hil : i < ms.length := by omega
    have a2 := HP.out.hi i (Nat.le_refl _) hil
    refine ⟨hil, ?_⟩
    by_cases e : i = j
    · rw [e, hjw]
    · have := asc_get hasc (show i < j by omega) hj
      omega
  obtain ⟨hil, hwd⟩ := hfd
  clear hlo hhi hw1 hcell own1 own2 cS y1 y2 y4 y5 y6 y8
  obtain ⟨B, hB⟩ : ∃ B, w.heap.size = B := ⟨_, rfl⟩
  rw [hB] at x1 x2 y7 hslt hbase HX1 HX2 ⊢
  clear hB
  obtain ⟨rfl, hbg, hgl⟩ := hao (by omega)
  have cg : w1.cell? ⟨g, i * 3, none⟩ = some (.int .i64 word) := by
    rw [← hwd]
    exact (HO1.out.cellAt (i * 3) (by omega)).trans (flatM_get ms i 0 hil (by omega))
  have hb1 : ((i : Int) == (ms.length : Int)) = false := by simp; omega
  have hI1 : (0 : Int) ≤ (i : Int) := by omega
  have hI2 : (i : Int) < (ms.length : Int) := by omega
  have HWD : Hid ((N ms i).1 = word) := hwd
  clear hwd hao
  go_wp2_with fail
  go_quiet (fail)
  go_wp2_with fail
  go_ret
  exact ⟨i, HP.out, HWD.out, g, cap, va, rfl, hil, HSC.out, HO1.out, HO2.out, below_drewN HBL.out _⟩

end Go.Proofs.Qxb6618784a.Sp
