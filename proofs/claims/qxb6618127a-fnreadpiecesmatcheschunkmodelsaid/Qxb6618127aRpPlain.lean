/-
  THE PLAIN LAW beneath the two laws over readPieces: which pieces a window is cut into; no Go text in sight.
-/
namespace Go.Proofs.Qxb6618127a.Rp

/-- A piece: where it begins, how many bytes it holds, whether they read as zeros. -/
abbrev Pc := Int × Int × Bool

/-- What is left of the window, taken from an extent of 'len' bytes. -/
def clip (fin off len : Int) : Int := if 0 < len ∧ off < fin then (if len < fin - off then len else fin - off) else 0
/-- How many data pieces c bytes make. -/
def nch (c : Int) : Nat := ((c + 262143) / 262144).toNat
/-- How many bytes the first j of them hold. -/
def dn (c : Int) (j : Nat) : Int := if (j : Int) * 262144 < c then (j : Int) * 262144 else c
def chunk (off c : Int) (j : Nat) : Pc := (off + (j : Int) * 262144, (if 262144 < c - (j : Int) * 262144 then 262144 else c - (j : Int) * 262144), false)
def chunks (off c : Int) : List Pc := (List.range (nch c)).map (chunk off c)
def seg (z : Bool) (off c : Int) : List Pc := if z then (if 0 < c then [(off, c, true)] else []) else chunks off c
/-- The pieces of the window from off to fin, whose extents are given. -/
def pieces (fin : Int) : List (Int × Bool) → Int → List Pc
  | [], off => seg false off (clip fin off (fin - off))
  | (len, z) :: r, off => seg z off (clip fin off len) ++ pieces fin r (off + clip fin off len)

theorem clip_nonneg (fin off len : Int) : 0 ≤ clip fin off len := by unfold clip; split <;> (try split) <;> omega
theorem clip_le (fin off len : Int) (h : off < fin) : clip fin off len ≤ fin - off := by unfold clip; split <;> (try split) <;> omega
theorem clip_out (fin off len : Int) (h : ¬ off < fin) : clip fin off len = 0 := by unfold clip; rw [if_neg (by omega)]
theorem clip_empty (fin off len : Int) (h : ¬ 0 < len) : clip fin off len = 0 := by unfold clip; rw [if_neg (by omega)]
theorem clip_rest (fin off : Int) (h : off < fin) : clip fin off (fin - off) = fin - off := by unfold clip; rw [if_pos (by omega), if_neg (by omega)]
/-- At the end of an extent, clipped: the extent or the window is through. -/
theorem clip_through (fin off len : Int) : ¬ (0 < len - clip fin off len ∧ off + clip fin off len < fin) := by unfold clip; split <;> (try split) <;> omega

theorem nch_zero : nch 0 = 0 := by decide
theorem lt_nch {c : Int} {j : Nat} : j < nch c ↔ (j : Int) * 262144 < c := by unfold nch; omega
theorem nch_le {c : Int} (h : 0 ≤ c) : (nch c : Int) ≤ c := by unfold nch; omega
theorem dn_zero {c : Int} (h : 0 ≤ c) : dn c 0 = 0 := by unfold dn; split <;> omega
theorem dn_nch (c : Int) : dn c (nch c) = c := by
  have : ¬ ((nch c : Int) * 262144 < c) := fun h => Nat.lt_irrefl _ (lt_nch.2 h)
  unfold dn; rw [if_neg this]
theorem dn_lt {c : Int} {j : Nat} (h : j < nch c) : dn c j = (j : Int) * 262144 := by unfold dn; rw [if_pos (lt_nch.1 h)]
theorem dn_le (c : Int) (j : Nat) : dn c j ≤ c := by unfold dn; split <;> omega
theorem dn_nonneg {c : Int} (h : 0 ≤ c) (j : Nat) : 0 ≤ dn c j := by unfold dn; split <;> omega
theorem dn_succ {c : Int} {j : Nat} (h : j < nch c) : dn c (j + 1) = dn c j + (if 262144 < c - (j : Int) * 262144 then 262144 else c - (j : Int) * 262144) := by
  have h1 := lt_nch.1 h
  rw [dn_lt h]
  unfold dn
  split <;> split <;> omega

theorem chunks_take_succ (off c : Int) (j : Nat) (h : j < nch c) : (chunks off c).take (j + 1) = (chunks off c).take j ++ [chunk off c j] := by
  unfold chunks
  rw [List.take_add_one, List.getElem?_map, List.getElem?_range h]
  rfl
theorem chunks_length (off c : Int) : (chunks off c).length = nch c := by simp [chunks]
theorem chunks_all (off c : Int) : (chunks off c).take (nch c) = chunks off c := by rw [List.take_of_length_le (by rw [chunks_length]; exact Nat.le_refl _)]
theorem seg_none (z : Bool) (off : Int) : seg z off 0 = [] := by unfold seg; cases z <;> simp [chunks, nch_zero]
theorem seg_length (z : Bool) (off c : Int) (h : 0 ≤ c) : ((seg z off c).length : Int) ≤ c := by
  unfold seg
  cases z
  · simp only [Bool.false_eq_true, if_false, chunks_length]
    exact nch_le h
  · simp only [if_true]
    split <;> simp <;> omega

theorem pieces_length (fin : Int) : ∀ (es : List (Int × Bool)) (off : Int), ((pieces fin es off).length : Int) ≤ if off < fin then fin - off else 0
  | [], off => by
    have h1 := seg_length false off (clip fin off (fin - off)) (clip_nonneg _ _ _)
    rw [pieces]
    split
    · rename_i h; rw [clip_rest fin off h] at h1 ⊢; omega
    · rename_i h; rw [clip_out fin off _ h] at h1 ⊢; omega
  | (len, z) :: r, off => by
    have h1 := seg_length z off (clip fin off len) (clip_nonneg _ _ _)
    have h2 := pieces_length fin r (off + clip fin off len)
    have h3 := clip_nonneg fin off len
    rw [pieces, List.length_append]
    split
    · rename_i h
      have h4 := clip_le fin off len h
      split at h2 <;> omega
    · rename_i h
      rw [clip_out fin off _ h] at h1 h2 ⊢
      split at h2 <;> omega

/-! ### an extent of no bytes changes nothing -/
theorem pieces_skip (fin : Int) (ys : List (Int × Bool)) (len : Int) (z : Bool) (h : ¬ 0 < len) : ∀ (xs : List (Int × Bool)) (off : Int), pieces fin (xs ++ (len, z) :: ys) off = pieces fin (xs ++ ys) off
  | [], off => by
    show seg z off (clip fin off len) ++ pieces fin ys (off + clip fin off len) = pieces fin ys off
    rw [clip_empty fin off len h, seg_none]
    simp
  | (l, y) :: xs, off => by
    show seg y off (clip fin off l) ++ pieces fin (xs ++ (len, z) :: ys) (off + clip fin off l) = seg y off (clip fin off l) ++ pieces fin (xs ++ ys) (off + clip fin off l)
    rw [pieces_skip fin ys len z h xs]

/-! ### the pieces tile the window -/
/-- From pos to stop, no gap, no overlap, none empty, none beyond fin, each data piece short. -/
def Tiles (fin : Int) : Int → List Pc → Int → Prop
  | pos, [], stop => pos = stop
  | pos, (o, m, z) :: r, stop => o = pos ∧ 0 < m ∧ (z = false → m ≤ 262144) ∧ m ≤ fin - pos ∧ Tiles fin (pos + m) r stop

theorem tiles_append (fin : Int) : ∀ (xs ys : List Pc) (a b c : Int), Tiles fin a xs b → Tiles fin b ys c → Tiles fin a (xs ++ ys) c
  | [], ys, a, b, c, h, k => by
    have : a = b := h
    subst this; exact k
  | (o, m, z) :: xs, ys, a, b, c, ⟨h1, h2, h3, h4, h5⟩, k => ⟨h1, h2, h3, h4, tiles_append fin xs ys (a + m) b c h5 k⟩

theorem tiles_chunks (fin off c : Int) (hc : 0 ≤ c) (hf : off + c ≤ fin) : ∀ j, j ≤ nch c → Tiles fin off ((chunks off c).take j) (off + dn c j)
  | 0, _ => by show off = _; rw [dn_zero hc]; omega
  | j + 1, h => by
    have hlt : j < nch c := by omega
    rw [chunks_take_succ off c j hlt]
    refine tiles_append fin _ _ off (off + dn c j) _ (tiles_chunks fin off c hc hf j (by omega)) ?_
    have h1 := lt_nch.1 hlt
    have h2 := dn_succ hlt
    have h3 := dn_lt hlt
    refine ⟨by rw [h3], ?_, ?_, ?_, ?_⟩
    · split <;> omega
    · intro _; split <;> omega
    · split <;> omega
    · show _ = _
      rw [h2]; omega

theorem tiles_seg (fin : Int) (z : Bool) (off c : Int) (hc : 0 ≤ c) (hf : off + c ≤ fin) : Tiles fin off (seg z off c) (off + c) := by
  unfold seg
  cases z
  · simp only [Bool.false_eq_true, if_false]
    have := tiles_chunks fin off c hc hf (nch c) (Nat.le_refl _)
    rwa [chunks_all, dn_nch] at this
  · simp only [if_true]
    split
    · exact ⟨rfl, by omega, fun h => (by cases h), by omega, rfl⟩
    · show off = _
      omega

theorem tiles_pieces (fin : Int) : ∀ (es : List (Int × Bool)) (off : Int), off ≤ fin → Tiles fin off (pieces fin es off) fin
  | [], off, h => by
    rw [pieces]
    have := tiles_seg fin false off (clip fin off (fin - off)) (clip_nonneg _ _ _) (by
      by_cases h0 : off < fin
      · rw [clip_rest fin off h0]; omega
      · rw [clip_out fin off _ h0]; omega)
    have e : off + clip fin off (fin - off) = fin := by
      by_cases h0 : off < fin
      · rw [clip_rest fin off h0]; omega
      · rw [clip_out fin off _ h0]; omega
    rwa [e] at this
  | (len, z) :: r, off, h => by
    have hle : off + clip fin off len ≤ fin := by
      by_cases h0 : off < fin
      · have := clip_le fin off len h0; omega
      · rw [clip_out fin off _ h0]; omega
    exact tiles_append fin _ _ off (off + clip fin off len) fin (tiles_seg fin z off _ (clip_nonneg _ _ _) hle) (tiles_pieces fin r _ hle)

theorem pieces_none (fin : Int) : ∀ (es : List (Int × Bool)) (off : Int), ¬ off < fin → pieces fin es off = []
  | [], off, h => by rw [pieces, clip_out fin off _ h, seg_none]
  | (len, z) :: r, off, h => by rw [pieces, clip_out fin off _ h, seg_none, List.nil_append, Int.add_zero, pieces_none fin r off h]

end Go.Proofs.Qxb6618127a.Rp
