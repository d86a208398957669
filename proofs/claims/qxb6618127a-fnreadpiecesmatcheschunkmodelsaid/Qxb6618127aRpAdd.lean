/-
  THE CLOSURE 'add' of readPieces (function 21), walked: what one extent adds to the pieces.
-/
import Derived.Test.Qxb6618127aRows
import Derived.Test.Qxb6618127aRpPlain
import Derived.WalkKit
import Derived.WalkSpells
import Derived.WalkLawsBesides
import Derived.Handy
import Derived.Deep.QuietTactic
import Derived.BigQuiet
import Derived.Deep.AppendLies
import Derived.Deep.OwnRows
namespace Go.Proofs.Qxb6618127a.Rp
open Go.RowKit Go.WideMaps Go.Maps

/-- A piece's three cells. -/
def cellsOf (p : Pc) : List Value := [.int .i64 p.1, .int .i64 p.2.1, .bool p.2.2]
def flat (ps : List Pc) : List Value := ps.flatMap cellsOf
theorem flat_snoc (ps : List Pc) (p : Pc) : flat (ps ++ [p]) = flat ps ++ cellsOf p := by simp [flat]

/-- readPieces' own variables: off in block B, pieces in B + 1, end in B + 2; the pieces' row from B + 3 on. -/
structure Inv (B : Nat) (fin off : Int) (ps : List Pc) (w : World) : Prop where
  o : w.heap[B]? = some (.cells #[.int .i64 off] 2 (0, 0))
  e : w.heap[B + 2]? = some (.cells #[.int .i64 fin] 2 (0, 0))
  p : ∃ v, w.heap[B + 1]? = some (.cells #[v] 46 (0, 0)) ∧ w.ownsRow (B + 3) 49 3 v ps.length (flat ps)

theorem cell_of_one {w : World} {b : Nat} {v : Value} {t : TypeId} (h : w.heap[b]? = some (.cells #[v] t (0, 0))) : w.cell? ⟨b, 0, none⟩ = some v := by simp [World.cell?, h]
theorem free_of_one {w : World} {b : Nat} {v : Value} {t : TypeId} (h : w.heap[b]? = some (.cells #[v] t (0, 0))) : w.frozen? ⟨b, 0, none⟩ = false := by simp [World.frozen?, h]
theorem one_setCell {w : World} {b : Nat} {v u : Value} {t : TypeId} (h : w.heap[b]? = some (.cells #[v] t (0, 0))) : (w.setCell ⟨b, 0, none⟩ u).heap[b]? = some (.cells #[u] t (0, 0)) := by
  simp [World.setCell, Array.getElem?_modify, h]
theorem block_lt {w : World} {b : Nat} {o : Obj} (h : w.heap[b]? = some o) : b < w.heap.size := (Array.getElem?_eq_some_iff.1 h).1

theorem ownsRow_setCell_far {w : World} {base : Nat} {e : TypeId} {size : Nat} {v : Value} {n : Nat} {xs : List Value} (h : w.ownsRow base e size v n xs) {a : Addr} (ha : a.block < base) (u : Value) : (w.setCell a u).ownsRow base e size v n xs := by
  refine ⟨h.1, ?_⟩
  rcases h.2 with h0 | ⟨g, cap, cur, hv, hb, hg, r⟩
  · exact .inl h0
  · exact .inr ⟨g, cap, cur, hv, hb, (Below.heap_setCell _ _ _ _ (by omega)).trans hg, r⟩

theorem own_ge {w : World} {base : Nat} {e : TypeId} {size : Nat} {v : Value} {n : Nat} {xs : List Value} (h : w.ownsRow base e size v n xs) {k : Nat} (hk : k < base) : some k ≠ v.ownBlock := fun e => by
  have := h.lt k e.symm
  omega

theorem info49 : (Try.prog.info? 49).map (fun i => (i.zero, i.size, i.bytes)) = some (some (.agg #[.int .i64 0, .int .i64 0, .bool false]), 3, 24) := by kernel_rfl

/-- What the append of one piece, and the two stores behind it, make of the variables. -/
theorem inv_push {B : Nat} {fin off x st off' : Int} {z : Bool} {qs : List Pc} {wr w1 : World} {v : Value} {o' : Obj} {g cap : Nat} (ho : wr.heap[B]? = some (.cells #[.int .i64 off] 2 (0, 0))) (he : wr.heap[B + 2]? = some (.cells #[.int .i64 fin] 2 (0, 0)))
    (hp : wr.heap[B + 1]? = some (.cells #[v] 46 (0, 0))) (hown : wr.ownsRow (B + 3) 49 3 v qs.length (flat qs))
    (hown1 : w1.ownsRow (B + 3) 49 3 (.slice (some ⟨g, 0, none⟩) (qs.length + 1) cap) (qs.length + 1) (flat qs ++ [.int .i64 x, .int .i64 st, .bool z])) (hgrow : (wr.alloc o').grownBy w1 v.ownBlock) :
    w1.heap[B]? = some (.cells #[.int .i64 off] 2 (0, 0)) ∧ w1.heap[B + 1]? = some (.cells #[v] 46 (0, 0)) ∧
    Inv B fin off' (qs ++ [(x, st, z)]) ((w1.setCell ⟨B + 1, 0, none⟩ (.slice (some ⟨g, 0, none⟩) (qs.length + 1) cap)).setCell ⟨B, 0, none⟩ (.int .i64 off')) ∧
    Below B wr ((w1.setCell ⟨B + 1, 0, none⟩ (.slice (some ⟨g, 0, none⟩) (qs.length + 1) cap)).setCell ⟨B, 0, none⟩ (.int .i64 off')) := by
  have hlt := block_lt he
  have keep : ∀ k, k < B + 3 → w1.heap[k]? = wr.heap[k]? := fun k hk => (hgrow.block k (by simp; omega) (own_ge hown hk)).trans (Below.heap_alloc _ _ _ (by omega))
  have o1 := (keep B (by omega)).trans ho
  have p1 := (keep (B + 1) (by omega)).trans hp
  have e1 := (keep (B + 2) (by omega)).trans he
  refine ⟨o1, p1, ⟨one_setCell (v := .int .i64 off) ?_, ?_, ⟨.slice (some ⟨g, 0, none⟩) (qs.length + 1) cap, ?_, ?_⟩⟩, ?_⟩
  · exact (Below.heap_setCell _ _ _ _ (by simp)).trans o1
  · exact (Below.heap_setCell _ _ _ _ (by simp)).trans ((Below.heap_setCell _ _ _ _ (by simp)).trans e1)
  · exact (Below.heap_setCell _ _ _ _ (by simp)).trans (one_setCell p1)
  · rw [flat_snoc]
    have := ownsRow_setCell_far (ownsRow_setCell_far hown1 (a := ⟨B + 1, 0, none⟩) (by simp) (.slice (some ⟨g, 0, none⟩) (qs.length + 1) cap)) (a := ⟨B, 0, none⟩) (by simp) (.int .i64 off')
    simpa [cellsOf] using this
  · exact ((((Below.refl B wr).alloc (by omega) o').grown hgrow (by simp; omega) (fun k hk => by have := hown.lt k hk; omega)).setCell (by simp) _).setCell (Nat.le_refl _) _

theorem three_one (x y : Int) (z : Bool) : ∀ u ∈ [Value.int .i64 x, Value.int .i64 y, Value.bool z], u.oneCell' = true := by
  intro u hu
  simp at hu
  rcases hu with rfl | rfl | rfl <;> rfl

theorem data_step {off c X : Int} {j : Nat} {ps qs : List Pc} (ht : (chunks off c).take (j + 1) = (chunks off c).take j ++ [chunk off c j]) (hq : qs = ps ++ (chunks off c).take j) (hd : dn c j = (j : Int) * 262144)
    (hs : dn c (j + 1) = dn c j + (if 262144 < c - (j : Int) * 262144 then 262144 else c - (j : Int) * 262144)) (hX : X = if 262144 < c - (j : Int) * 262144 then 262144 else c - (j : Int) * 262144) :
    dn c (j + 1) = dn c j + X ∧ ps ++ (chunks off c).take (j + 1) = qs ++ [(off + dn c j, X, false)] := by
  refine ⟨by rw [hs, hX], ?_⟩
  rw [ht, hq, List.append_assoc, hd, hX]
  rfl

set_option maxHeartbeats 1000000 in
theorem add_data (B : Nat) (fin off len : Int) (ps : List Pc) (w : World) (h : Inv B fin off ps w) (h1 : -4611686018427387904 ≤ off) (h2 : off ≤ 4611686018427387904 + 2147483648) (h3 : -9223372036854775808 ≤ fin) (h4 : fin ≤ 4611686018427387904 + 2147483648)
    (h5 : -9223372036854775808 ≤ len) (h6 : len ≤ 9223372036854775807) (h7 : fin - off ≤ 2147483648) (h8 : (ps.length : Int) + clip fin off len ≤ 2147483648) :
    Calls Try.prog 21 #[.int .i64 len, .bool false, .pointer (some ⟨B, 0, none⟩), .pointer (some ⟨B + 2, 0, none⟩), .pointer (some ⟨B + 1, 0, none⟩)] w fun e w' => e = .returned (.tuple #[]) ∧ Inv B fin (off + clip fin off len) (ps ++ seg false off (clip fin off len)) w' ∧ Below B w w' := by
  obtain ⟨i0, hi, hz0, hz1, hz2⟩ := info_parts info49
  obtain ⟨c, hc⟩ : ∃ c, clip fin off len = c := ⟨_, rfl⟩
  have hc0 := clip_nonneg fin off len
  have hth := clip_through fin off len
  have hcc : 0 < c → (c = len ∨ c = fin - off) ∧ c ≤ len ∧ c ≤ fin - off := by
    intro h0
    rw [← hc] at h0 ⊢
    unfold clip at h0 ⊢
    split at h0
    · rename_i hx
      rw [if_pos hx]
      split <;> omega
    · omega
  rw [hc] at hc0 hth h8 ⊢
  clear hc
  have hnc := nch_le hc0
  go_enter Try.func21, Try.ntmps21
  go_wp2
  go_loopw [0] (fun l wr => ∃ j : Nat, j ≤ nch c ∧ l = .int .i64 (len - dn c j) ∧ Inv B fin (off + dn c j) (ps ++ (chunks off c).take j) wr ∧ Below B w wr) (fun l _ => (intOf l).toNat)
  case atStart => exact ⟨0, Nat.zero_le _, by rw [dn_zero hc0]; go_num, by rw [dn_zero hc0]; simpa using h, Below.refl _ _⟩
  case round =>
    obtain ⟨j, hj, rfl, ⟨ho, he, v, hp, hown⟩, hnx⟩ := hrel
    have co := cell_of_one ho
    have ce := cell_of_one he
    have cp := cell_of_one hp
    have fo := free_of_one ho
    have fp := free_of_one hp
    have d1 := dn_le c j
    have d0 := dn_nonneg hc0 j
    have hel := block_lt he
    by_cases hlt : j < nch c
    · have e1 := lt_nch.1 hlt
      have HT : Hid ((chunks off c).take (j + 1) = (chunks off c).take j ++ [chunk off c j]) := chunks_take_succ off c j hlt
      have HD : Hid (dn c j = (j : Int) * 262144) := dn_lt hlt
      have HS : Hid (dn c (j + 1) = dn c j + (if 262144 < c - (j : Int) * 262144 then 262144 else c - (j : Int) * 262144)) := dn_succ hlt
      have l1 : dn c j < c := by rw [HD.out]; exact e1
      obtain ⟨l4, l2, l3⟩ := hcc (by omega)
      have HE : Hid (c = len ∨ c = fin - off) := l4
      have hql : ((ps ++ (chunks off c).take j).length : Int) ≤ ps.length + j := by
        have := List.length_take_le j (chunks off c)
        rw [List.length_append]; omega
      obtain ⟨qs, hqs⟩ : ∃ qs, qs = ps ++ (chunks off c).take j := ⟨_, rfl⟩
      rw [← hqs] at hown hql
      have HQ : Hid (qs = ps ++ (chunks off c).take j) := hqs
      clear hth hcc l4 hqs h
      by_cases hA : fin - (off + dn c j) < len - dn c j
      · by_cases hB : 262144 < fin - (off + dn c j)
        · have S : Hid (dn c (j + 1) = dn c j + (262144) ∧ ps ++ (chunks off c).take (j + 1) = qs ++ [(off + dn c j, (262144), false)]) := data_step HT.out HQ.out HD.out HS.out (by rw [← HD.out]; have := HE.out; split <;> omega)
          go_wp2_with (at_builtin; refine wpList_append_lies _ rfl (.tmp 24) (.tmp 29) 46 rfl (B + 3) 49 i0 _ 3 24 Try.underlying46 hi hz0 hz1 hz2 rfl (by decide) v qs.length (flat qs) rfl (hown.alloc _) ⟨wr.heap.size, 0, none⟩ 1 1 [.int .i64 (off + dn c j), .int .i64 (262144), .bool false] rfl rfl (World.news_of_block (heap_alloc_new _ _)) (three_one _ _ _) (by decide) (by unfold maxLen; omega) (by omega) (by simp; omega) _ rfl ?_; intro g cap w1 hown1 hgrow hat hg; obtain ⟨o1, p1, R1, R2⟩ := inv_push (off' := off + dn c j + (262144)) ho he hp hown hown1 hgrow; have co1 := cell_of_one o1; have cp1 := cell_of_one p1; have fo1 := free_of_one o1; have fp1 := free_of_one p1; clear hown1 hgrow hat hg o1 p1)
          go_roundw
          case rel => exact ⟨j + 1, by omega, by rw [S.out.1]; go_num, by rw [S.out.1, S.out.2, ← Int.add_assoc]; exact R1, hnx.trans R2⟩
          case measure => simp [intOf]; omega
        · have S : Hid (dn c (j + 1) = dn c j + (fin - (off + dn c j)) ∧ ps ++ (chunks off c).take (j + 1) = qs ++ [(off + dn c j, (fin - (off + dn c j)), false)]) := data_step HT.out HQ.out HD.out HS.out (by rw [← HD.out]; have := HE.out; split <;> omega)
          go_wp2_with (at_builtin; refine wpList_append_lies _ rfl (.tmp 24) (.tmp 29) 46 rfl (B + 3) 49 i0 _ 3 24 Try.underlying46 hi hz0 hz1 hz2 rfl (by decide) v qs.length (flat qs) rfl (hown.alloc _) ⟨wr.heap.size, 0, none⟩ 1 1 [.int .i64 (off + dn c j), .int .i64 (fin - (off + dn c j)), .bool false] rfl rfl (World.news_of_block (heap_alloc_new _ _)) (three_one _ _ _) (by decide) (by unfold maxLen; omega) (by omega) (by simp; omega) _ rfl ?_; intro g cap w1 hown1 hgrow hat hg; obtain ⟨o1, p1, R1, R2⟩ := inv_push (off' := off + dn c j + (fin - (off + dn c j))) ho he hp hown hown1 hgrow; have co1 := cell_of_one o1; have cp1 := cell_of_one p1; have fo1 := free_of_one o1; have fp1 := free_of_one p1; clear hown1 hgrow hat hg o1 p1)
          go_roundw
          case rel => exact ⟨j + 1, by omega, by rw [S.out.1]; go_num, by rw [S.out.1, S.out.2, ← Int.add_assoc]; exact R1, hnx.trans R2⟩
          case measure => simp [intOf]; omega
      · by_cases hB : 262144 < len - dn c j
        · have S : Hid (dn c (j + 1) = dn c j + (262144) ∧ ps ++ (chunks off c).take (j + 1) = qs ++ [(off + dn c j, (262144), false)]) := data_step HT.out HQ.out HD.out HS.out (by rw [← HD.out]; have := HE.out; split <;> omega)
          go_wp2_with (at_builtin; refine wpList_append_lies _ rfl (.tmp 24) (.tmp 29) 46 rfl (B + 3) 49 i0 _ 3 24 Try.underlying46 hi hz0 hz1 hz2 rfl (by decide) v qs.length (flat qs) rfl (hown.alloc _) ⟨wr.heap.size, 0, none⟩ 1 1 [.int .i64 (off + dn c j), .int .i64 (262144), .bool false] rfl rfl (World.news_of_block (heap_alloc_new _ _)) (three_one _ _ _) (by decide) (by unfold maxLen; omega) (by omega) (by simp; omega) _ rfl ?_; intro g cap w1 hown1 hgrow hat hg; obtain ⟨o1, p1, R1, R2⟩ := inv_push (off' := off + dn c j + (262144)) ho he hp hown hown1 hgrow; have co1 := cell_of_one o1; have cp1 := cell_of_one p1; have fo1 := free_of_one o1; have fp1 := free_of_one p1; clear hown1 hgrow hat hg o1 p1)
          go_roundw
          case rel => exact ⟨j + 1, by omega, by rw [S.out.1]; go_num, by rw [S.out.1, S.out.2, ← Int.add_assoc]; exact R1, hnx.trans R2⟩
          case measure => simp [intOf]; omega
        · have S : Hid (dn c (j + 1) = dn c j + (len - dn c j) ∧ ps ++ (chunks off c).take (j + 1) = qs ++ [(off + dn c j, (len - dn c j), false)]) := data_step HT.out HQ.out HD.out HS.out (by rw [← HD.out]; have := HE.out; split <;> omega)
          go_wp2_with (at_builtin; refine wpList_append_lies _ rfl (.tmp 24) (.tmp 29) 46 rfl (B + 3) 49 i0 _ 3 24 Try.underlying46 hi hz0 hz1 hz2 rfl (by decide) v qs.length (flat qs) rfl (hown.alloc _) ⟨wr.heap.size, 0, none⟩ 1 1 [.int .i64 (off + dn c j), .int .i64 (len - dn c j), .bool false] rfl rfl (World.news_of_block (heap_alloc_new _ _)) (three_one _ _ _) (by decide) (by unfold maxLen; omega) (by omega) (by simp; omega) _ rfl ?_; intro g cap w1 hown1 hgrow hat hg; obtain ⟨o1, p1, R1, R2⟩ := inv_push (off' := off + dn c j + (len - dn c j)) ho he hp hown hown1 hgrow; have co1 := cell_of_one o1; have cp1 := cell_of_one p1; have fo1 := free_of_one o1; have fp1 := free_of_one p1; clear hown1 hgrow hat hg o1 p1)
          go_roundw
          case rel => exact ⟨j + 1, by omega, by rw [S.out.1]; go_num, by rw [S.out.1, S.out.2, ← Int.add_assoc]; exact R1, hnx.trans R2⟩
          case measure => simp [intOf]; omega
    · obtain rfl : j = nch c := by omega
      have HN : Hid (dn c (nch c) = c) := dn_nch c
      rw [HN.out] at co d1 d0 ⊢
      have HI : Hid (Inv B fin (off + c) (ps ++ seg false off c) wr) := by
        refine ⟨?_, he, v, hp, ?_⟩
        · rw [HN.out] at ho; exact ho
        · rw [chunks_all] at hown; exact hown
      clear hown ho he hp hcc h
      by_cases hl : 0 < len - c
      · have hf : fin ≤ off + c := by omega
        go_wp2_with fail
        go_end0
        exact ⟨rfl, HI.out, hnx⟩
      · go_wp2_with fail
        go_end0
        exact ⟨rfl, HI.out, hnx⟩

set_option maxHeartbeats 1000000 in
theorem add_zeros (B : Nat) (fin off len : Int) (ps : List Pc) (w : World) (h : Inv B fin off ps w) (h1 : -4611686018427387904 ≤ off) (h2 : off ≤ 4611686018427387904 + 2147483648) (h3 : -9223372036854775808 ≤ fin) (h4 : fin ≤ 4611686018427387904 + 2147483648)
    (h5 : -9223372036854775808 ≤ len) (h6 : len ≤ 9223372036854775807) (h7 : fin - off ≤ 2147483648) (h8 : (ps.length : Int) + clip fin off len ≤ 2147483648) :
    Calls Try.prog 21 #[.int .i64 len, .bool true, .pointer (some ⟨B, 0, none⟩), .pointer (some ⟨B + 2, 0, none⟩), .pointer (some ⟨B + 1, 0, none⟩)] w fun e w' => e = .returned (.tuple #[]) ∧ Inv B fin (off + clip fin off len) (ps ++ seg true off (clip fin off len)) w' ∧ Below B w w' := by
  obtain ⟨i0, hi, hz0, hz1, hz2⟩ := info_parts info49
  obtain ⟨c, hc⟩ : ∃ c, clip fin off len = c := ⟨_, rfl⟩
  have hc0 := clip_nonneg fin off len
  have hth := clip_through fin off len
  have hcc : 0 < c → (c = len ∨ c = fin - off) ∧ c ≤ len ∧ c ≤ fin - off := by
    intro h0
    rw [← hc] at h0 ⊢
    unfold clip at h0 ⊢
    split at h0
    · rename_i hx
      rw [if_pos hx]
      split <;> omega
    · omega
  rw [hc] at hc0 hth h8 ⊢
  clear hc
  go_enter Try.func21, Try.ntmps21
  go_wp2
  go_loopw [0] (fun l wr => ∃ (d : Int) (qs : List Pc), ((d = 0 ∧ qs = ps) ∨ (0 < c ∧ d = c ∧ qs = ps ++ [(off, c, true)])) ∧ l = .int .i64 (len - d) ∧ Inv B fin (off + d) qs wr ∧ Below B w wr) (fun l _ => (intOf l).toNat)
  case atStart => exact ⟨0, ps, .inl ⟨rfl, rfl⟩, by go_num, by simpa using h, Below.refl _ _⟩
  case round =>
    obtain ⟨d, qs, hd, rfl, hinv, hnx⟩ := hrel
    clear h
    by_cases hfirst : d = 0 ∧ qs = ps ∧ 0 < c
    · obtain ⟨rfl, rfl, h0⟩ := hfirst
      clear hd
      rw [Int.add_zero] at hinv
      rw [Int.sub_zero]
      obtain ⟨ho, he, v, hp, hown⟩ := hinv
      have co := cell_of_one ho
      have ce := cell_of_one he
      have cp := cell_of_one hp
      have fo := free_of_one ho
      have fp := free_of_one hp
      have hel := block_lt he
      obtain ⟨l4, l2, l3⟩ := hcc h0
      clear hth hcc
      by_cases hA : fin - off < len
      · have HX : Hid (fin - off = c) := (by omega : fin - off = c)
        clear l4
        go_wp2_with (at_builtin; refine wpList_append_lies _ rfl (.tmp 24) (.tmp 29) 46 rfl (B + 3) 49 i0 _ 3 24 Try.underlying46 hi hz0 hz1 hz2 rfl (by decide) v qs.length (flat qs) rfl (hown.alloc _) ⟨wr.heap.size, 0, none⟩ 1 1 [.int .i64 off, .int .i64 (fin - off), .bool true] rfl rfl (World.news_of_block (heap_alloc_new _ _)) (three_one _ _ _) (by decide) (by unfold maxLen; omega) (by omega) (by simp; omega) _ rfl ?_; intro g cap w1 hown1 hgrow hat hg; obtain ⟨o1, p1, R1, R2⟩ := inv_push (off' := off + (fin - off)) ho he hp hown hown1 hgrow; have co1 := cell_of_one o1; have cp1 := cell_of_one p1; have fo1 := free_of_one o1; have fp1 := free_of_one p1; clear hown1 hgrow hat hg o1 p1)
        go_roundw
        case rel => exact ⟨c, _, .inr ⟨h0, rfl, rfl⟩, by have := HX.out; go_num, by rw [← HX.out]; exact R1, hnx.trans R2⟩
        case measure => simp [intOf]; omega
      · have HX : Hid (len = c) := (by omega : len = c)
        clear l4
        go_wp2_with (at_builtin; refine wpList_append_lies _ rfl (.tmp 24) (.tmp 29) 46 rfl (B + 3) 49 i0 _ 3 24 Try.underlying46 hi hz0 hz1 hz2 rfl (by decide) v qs.length (flat qs) rfl (hown.alloc _) ⟨wr.heap.size, 0, none⟩ 1 1 [.int .i64 off, .int .i64 (len), .bool true] rfl rfl (World.news_of_block (heap_alloc_new _ _)) (three_one _ _ _) (by decide) (by unfold maxLen; omega) (by omega) (by simp; omega) _ rfl ?_; intro g cap w1 hown1 hgrow hat hg; obtain ⟨o1, p1, R1, R2⟩ := inv_push (off' := off + (len)) ho he hp hown hown1 hgrow; have co1 := cell_of_one o1; have cp1 := cell_of_one p1; have fo1 := free_of_one o1; have fp1 := free_of_one p1; clear hown1 hgrow hat hg o1 p1)
        go_roundw
        case rel => exact ⟨c, _, .inr ⟨h0, rfl, rfl⟩, by have := HX.out; go_num, by rw [← HX.out]; exact R1, hnx.trans R2⟩
        case measure => simp [intOf]; omega
    · have hend : d = c ∧ qs = ps ++ seg true off c := by
        unfold seg
        rcases hd with ⟨rfl, rfl⟩ | ⟨h0, rfl, rfl⟩
        · have : ¬ 0 < c := fun h => hfirst ⟨rfl, rfl, h⟩
          refine ⟨by omega, ?_⟩
          rw [if_pos rfl, if_neg this, List.append_nil]
        · exact ⟨rfl, by rw [if_pos rfl, if_pos h0]⟩
      obtain ⟨rfl, hq⟩ := hend
      rw [hq] at hinv
      have HI : Hid (Inv B fin (off + d) (ps ++ seg true off d) wr) := hinv
      obtain ⟨ho, he, v, hp, hown⟩ := hinv
      have co := cell_of_one ho
      have ce := cell_of_one he
      clear hd hfirst hq ho he hp hown hcc
      by_cases hl : 0 < len - d
      · have hf : fin ≤ off + d := by omega
        go_wp2_with fail
        go_end0
        exact ⟨rfl, HI.out, hnx⟩
      · go_wp2_with fail
        go_end0
        exact ⟨rfl, HI.out, hnx⟩

/-- What one extent adds. -/
theorem add_any (z : Bool) (B : Nat) (fin off len : Int) (ps : List Pc) (w : World) (h : Inv B fin off ps w) (h1 : -4611686018427387904 ≤ off) (h2 : off ≤ 4611686018427387904 + 2147483648) (h3 : -9223372036854775808 ≤ fin) (h4 : fin ≤ 4611686018427387904 + 2147483648)
    (h5 : -9223372036854775808 ≤ len) (h6 : len ≤ 9223372036854775807) (h7 : fin - off ≤ 2147483648) (h8 : (ps.length : Int) + clip fin off len ≤ 2147483648) :
    Calls Try.prog 21 #[.int .i64 len, .bool z, .pointer (some ⟨B, 0, none⟩), .pointer (some ⟨B + 2, 0, none⟩), .pointer (some ⟨B + 1, 0, none⟩)] w fun e w' => e = .returned (.tuple #[]) ∧ Inv B fin (off + clip fin off len) (ps ++ seg z off (clip fin off len)) w' ∧ Below B w w' := by
  cases z
  · exact add_data B fin off len ps w h h1 h2 h3 h4 h5 h6 h7 h8
  · exact add_zeros B fin off len ps w h h1 h2 h3 h4 h5 h6 h7 h8

end Go.Proofs.Qxb6618127a.Rp
