/-
  readPieces (function 19), walked: the closure by its contract.
-/
import Derived.Test.Qxb6618127aRpAdd
namespace Go.Proofs.Qxb6618127a.Rp
open Go.RowKit Go.WideMaps Go.Maps

/-- The flag of zeros. -/
def zb (f : Int) : Bool := bits .and .u32 f 2 != 0

/-- The extents, as the row holds them. -/
def exts (L F : Nat → Int) (m : Nat) : List (Int × Bool) := (List.range m).map fun i => (L i, zb (F i))

theorem exts_drop (L F : Nat → Int) (m k : Nat) (h : k < m) : (exts L F m).drop k = (L k, zb (F k)) :: (exts L F m).drop (k + 1) := by
  rw [List.drop_eq_getElem_cons (by simpa [exts] using h)]
  simp [exts]
theorem exts_done (L F : Nat → Int) (m : Nat) : (exts L F m).drop m = [] := List.drop_of_length_le (by simp [exts])

theorem Inv.alloc {B : Nat} {fin off : Int} {ps : List Pc} {w : World} (h : Inv B fin off ps w) (o : Obj) : Inv B fin off ps (w.alloc o) := by
  obtain ⟨h1, h2, v, h3, h4⟩ := h
  exact ⟨(Below.heap_alloc _ _ _ (block_lt h1)).trans h1, (Below.heap_alloc _ _ _ (block_lt h2)).trans h2, v, (Below.heap_alloc _ _ _ (block_lt h3)).trans h3, h4.alloc o⟩

/-- Behind k extents: what has been laid, and what is still to come. -/
structure At (L F : Nat → Int) (m k : Nat) (fin off off' : Int) (ps : List Pc) : Prop where
  all : ps ++ pieces fin ((exts L F m).drop k) off' = pieces fin (exts L F m) off
  lo : off ≤ off'
  hi : off' = off ∨ off' ≤ fin
  len : (ps.length : Int) ≤ off' - off

theorem At.start (L F : Nat → Int) (m : Nat) (fin off : Int) : At L F m 0 fin off off [] := ⟨by simp, Int.le_refl _, .inl rfl, by simp⟩
theorem At.step {L F : Nat → Int} {m k : Nat} {fin off off' : Int} {ps : List Pc} (h : At L F m k fin off off' ps) (hk : k < m) : At L F m (k + 1) fin off (off' + clip fin off' (L k)) (ps ++ seg (zb (F k)) off' (clip fin off' (L k))) := by
  have h0 := clip_nonneg fin off' (L k)
  have h1 := seg_length (zb (F k)) off' (clip fin off' (L k)) h0
  refine ⟨?_, by have := h.lo; omega, ?_, by rw [List.length_append]; have := h.len; omega⟩
  · rw [List.append_assoc, ← h.all, exts_drop L F m k hk]
    rfl
  · by_cases hx : off' < fin
    · have := clip_le fin off' (L k) hx; right; omega
    · have := clip_out fin off' (L k) hx
      rcases h.hi with e | e
      · left; omega
      · right; omega
theorem At.done {L F : Nat → Int} {m : Nat} {fin off off' : Int} {ps : List Pc} (h : At L F m m fin off off' ps) : ps ++ seg false off' (clip fin off' (fin - off')) = pieces fin (exts L F m) off := by
  have := h.all
  rwa [exts_done] at this
theorem At.room {L F : Nat → Int} {m k : Nat} {fin off off' : Int} {ps : List Pc} (h : At L F m k fin off off' ps) (hn : fin - off ≤ 2147483647) (len : Int) : (ps.length : Int) + clip fin off' len ≤ 2147483648 := by
  have h1 := h.len
  have h2 := h.lo
  by_cases hx : off' < fin
  · have := clip_le fin off' len hx; omega
  · have := clip_out fin off' len hx
    rcases h.hi with e | e <;> omega

set_option maxHeartbeats 1000000 in
theorem read_any (off n : Int) (xb m cap : Nat) (L F : Nat → Int) (w : World) (h1 : -4611686018427387904 ≤ off) (h2 : off ≤ 4611686018427387904) (h3 : -4611686018427387904 ≤ n) (h4 : n ≤ 2147483647) (hm : m ≤ 65537)
    (hb : xb < w.heap.size) (hL : ∀ i, i < m → w.cell? ⟨xb, i * 2, none⟩ = some (.int .i64 (L i))) (hF : ∀ i, i < m → w.cell? ⟨xb, i * 2 + 1, none⟩ = some (.int .u32 (F i))) (hLw : ∀ i, i < m → -9223372036854775808 ≤ L i ∧ L i ≤ 9223372036854775807) :
    Calls Try.prog 19 #[.int .i64 off, .int .i64 n, .slice (some ⟨xb, 0, none⟩) m cap] w fun e w' => (∃ v, e = .returned v ∧ w'.ownsRow (w.heap.size + 3) 49 3 v (pieces (off + n) (exts L F m) off).length (flat (pieces (off + n) (exts L F m) off))) ∧ Below w.heap.size w w' := by
  obtain ⟨fin, hfin⟩ : ∃ fin, fin = off + n := ⟨_, rfl⟩
  rw [← hfin]
  have hf1 : -9223372036854775808 ≤ fin := by omega
  have hf2 : fin ≤ 4611686018427387904 + 2147483648 := by omega
  have hf3 : fin - off ≤ 2147483647 := by omega
  have hf4 : -4611686018427387904 ≤ fin - off := by omega
  have HF : Hid (fin = off + n) := hfin
  clear hfin
  go_enter Try.func19, Try.ntmps19
  go_wp2_with fail
  rw [← HF.out]
  go_loopw [18] (fun i wr => ∃ (k : Nat) (off' : Int) (ps : List Pc), k ≤ m ∧ i = .int .i64 k ∧ Inv w.heap.size fin off' ps wr ∧ Hid (At L F m k fin off off' ps) ∧ Below w.heap.size w wr) (fun i _ => m - (intOf i).toNat)
  case atStart =>
    refine ⟨0, off, [], Nat.zero_le _, rfl, ⟨?_, ?_, ⟨.slice none 0 0, ?_, World.ownsRow_nil _ _ _ _⟩⟩, At.start L F m fin off, ((((Below.refl _ _).alloc (Nat.le_refl _) _).alloc (by simp) _).alloc (by simp; omega) _)⟩
    · rw [Below.heap_alloc _ _ _ (by simp; omega), Below.heap_alloc _ _ _ (by simp)]
      exact heap_alloc_new _ _
    · have := heap_alloc_new ((w.alloc (Obj.cells #[Value.int IntKind.i64 off] 2)).alloc (Obj.cells #[Value.slice none 0 0] 46)) (Obj.cells #[Value.int IntKind.i64 fin] 2)
      simpa using this
    · rw [Below.heap_alloc _ _ _ (by simp)]
      have := heap_alloc_new (w.alloc (Obj.cells #[Value.int IntKind.i64 off] 2)) (Obj.cells #[Value.slice none 0 0] 46)
      simpa using this
  case round =>
    obtain ⟨k, off', ps, hk, rfl, hinv, hat, hnx⟩ := hrel
    by_cases hlt : k < m
    · have cL := (hnx.cell (p := ⟨xb, k * 2, none⟩) hb).trans (hL k hlt)
      have cF := (hnx.cell (p := ⟨xb, k * 2 + 1, none⟩) hb).trans (hF k hlt)
      obtain ⟨w1, w2⟩ := hLw k hlt
      clear hL hF hLw
      have c1 := fun o => add_any (bits .and .u32 (F k) 2 != 0) w.heap.size fin off' (L k) ps (wr.alloc o) (hinv.alloc o) (by have := hat.out.lo; omega) (by have := hat.out.hi; omega) hf1 hf2 w1 w2 (by have := hat.out.lo; omega) (hat.out.room hf3 _)
      have HN : Hid (At L F m (k + 1) fin off (off' + clip fin off' (L k)) (ps ++ seg (bits .and .u32 (F k) 2 != 0) off' (clip fin off' (L k)))) := hat.out.step hlt
      have HB : Hid (∀ o, Below w.heap.size w (wr.alloc o)) := fun o => hnx.alloc hnx.size o
      clear hinv hat hnx
      go_wp2_with fail
      refine (c1 _).mono ?_
      clear c1
      rintro e w3 ⟨rfl, hinv3, hb3⟩
      have HB3 : Hid (Below w.heap.size w w3) := (HB.out _).trans hb3
      clear hb3 HB cL cF
      go_wp2_with fail
      go_roundw
      case rel => exact ⟨k + 1, _, _, by omega, by go_num, hinv3, HN, HB3.out⟩
      case measure => simp [intOf]; omega
    · obtain rfl : k = m := by omega
      have hat' := hat.out
      have c1 := add_any false w.heap.size fin off' (fin - off') ps wr hinv (by have := hat'.lo; omega) (by have := hat'.hi; omega) hf1 hf2 (by have := hat'.hi; omega) (by have := hat'.lo; omega) (by have := hat'.lo; omega) (hat'.room hf3 _)
      rw [hat'.done] at c1
      have b1 := hat'.lo
      have b2 := hat'.hi
      have co := cell_of_one hinv.o
      have ce := cell_of_one hinv.e
      clear hinv hat' hat hL hF hLw
      go_wp2_with fail
      refine c1.mono ?_
      clear c1 co ce
      rintro e w3 ⟨rfl, ⟨ho, he, v, hp, hown⟩, hb3⟩
      have cp := cell_of_one hp
      have HB3 : Hid (Below w.heap.size w w3) := hnx.trans hb3
      have HO : Hid (w3.ownsRow (w.heap.size + 3) 49 3 v (pieces fin (exts L F k) off).length (flat (pieces fin (exts L F k) off))) := hown
      clear hown ho he hp hb3 hnx
      go_wp2_with fail
      go_ret
      exact ⟨⟨v, rfl, HO.out⟩, HB3.out⟩
end Go.Proofs.Qxb6618127a.Rp
