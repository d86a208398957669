/-
  zzDataChunksMatch (function 20) and zzPiecesMatchModel (function 9), walked.
-/
import Derived.Test.Qxb6618127aRpCopy
namespace Go.Proofs.Qxb6618127a.Rp
open Go.RowKit Go.WideMaps Go.Maps

set_option maxHeartbeats 1000000 in
set_option maxRecDepth 100000 in
theorem data_any (start c : Int) (k0 g lo : Nat) (ps : List Pc) (w : World) (h : Out w lo g ps) (hN : ps.length ≤ 2147483647) (h1 : -4611686018427387904 ≤ start) (h2 : start + c ≤ 4611686018427387904 + 2147483648) (hc0 : 0 ≤ c) (hc1 : c ≤ 2147483648)
    (hk : k0 + nch c ≤ ps.length) (hP : ∀ j, j < nch c → P ps (k0 + j) = chunk start c j) :
    Calls Try.prog 20 #[.int .i64 start, .int .i64 c, .int .i64 k0, .slice (some ⟨g, 0, none⟩) ps.length ps.length, .slice (some ⟨g + 1, 0, none⟩) ps.length ps.length, .slice (some ⟨g + 1 + 1, 0, none⟩) ps.length ps.length] w fun e w' => e = .returned (.tuple #[.int .i64 ((k0 + nch c : Nat) : Int), .bool true]) ∧ w' = w := by
  obtain ⟨c0, c1, c2, _, _⟩ := h
  go_enter Try.func20, Try.ntmps20
  go_wp2_with fail
  go_loop [2, 14] (fun k i => ∃ j : Nat, j ≤ nch c ∧ k = .int .i64 ((k0 + j : Nat) : Int) ∧ i = .int .i64 j) (fun _ i => nch c - (intOf i).toNat)
  case atStart => exact ⟨0, Nat.zero_le _, by simp, rfl⟩
  case round =>
    obtain ⟨j, hj, rfl, rfl⟩ := hrel
    by_cases hlt : j < nch c
    · have e1 := lt_nch.1 hlt
      have z0 := c0 (k0 + j) (by omega)
      have z1 := c1 (k0 + j) (by omega)
      have z2 := c2 (k0 + j) (by omega)
      rw [hP j hlt] at z0 z1 z2
      simp only [chunk] at z0 z1 z2
      have hkj : k0 + j < ps.length := by omega
      clear c0 c1 c2 hP
      by_cases hB : 262144 < c - (j : Int) * 262144
      · rw [if_pos hB] at z1
        go_wp2_with fail
        go_round
        case rel => exact ⟨j + 1, by omega, by go_num, by go_num⟩
        case measure => simp [intOf]; omega
      · rw [if_neg hB] at z1
        go_wp2_with fail
        go_round
        case rel => exact ⟨j + 1, by omega, by go_num, by go_num⟩
        case measure => simp [intOf]; omega
    · obtain rfl : j = nch c := by omega
      have e1 : ¬ ((nch c : Int) * 262144 < c) := fun hx => hlt (lt_nch.2 hx)
      clear c0 c1 c2 hP
      go_wp2_with fail
      go_ret2
      exact ⟨rfl, rfl⟩

/-- A piece in the midst of the list. -/
theorem P_mid (a s r : List Pc) (j : Nat) (h : j < s.length) : P (a ++ (s ++ r)) (a.length + j) = P s j := by
  unfold P
  rw [List.getD, List.getD, List.getElem?_append_right (by omega), Nat.add_sub_cancel_left, List.getElem?_append_left h]
theorem P_chunks (off c : Int) (j : Nat) (h : j < nch c) : P (chunks off c) j = chunk off c j := by
  simp [P, chunks, List.getD, List.getElem?_range h]

/-- The pieces of the next extent, where they lie in the whole list. -/
theorem seg_at {L F : Nat → Int} {m k : Nat} {fin off off' : Int} {ps qs : List Pc} (h : At L F m k fin off off' ps) (hq : pieces fin (exts L F m) off = qs) (hk : k < m) :
    ∃ r, qs = ps ++ (seg (zb (F k)) off' (clip fin off' (L k)) ++ r) := by
  refine ⟨pieces fin ((exts L F m).drop (k + 1)) (off' + clip fin off' (L k)), ?_⟩
  rw [← hq, ← h.all, exts_drop L F m k hk]
  rfl

theorem At.skip {L F : Nat → Int} {m k : Nat} {fin off off' : Int} {ps : List Pc} (h : At L F m k fin off off' ps) (hk : k < m) (hc : clip fin off' (L k) = 0) : At L F m (k + 1) fin off off' ps := by
  have := h.step hk
  rwa [hc, seg_none, Int.add_zero, List.append_nil] at this

set_option maxHeartbeats 2000000 in
set_option maxRecDepth 100000 in
theorem model_any (off n : Int) (a1 a2 : Option Addr) (m c1 b1 o1 c2 b2 o2 g lo : Nat) (L F : Nat → Int) (ps : List Pc) (w : World) (hL : Ints 22 .i64 w a1 m c1 b1 o1 L) (hF : Ints 23 .u32 w a2 m c2 b2 o2 F) (h : Out w lo g ps) (hN : ps.length ≤ 2147483647)
    (h1 : -4611686018427387904 ≤ off) (h2 : off ≤ 4611686018427387904) (h3 : -4611686018427387904 ≤ n) (h4 : n ≤ 2147483647) (hm : m ≤ 65536) (hps : pieces (off + n) (exts L F m) off = ps) (hLw : ∀ i, i < m → -9223372036854775808 ≤ L i ∧ L i ≤ 9223372036854775807) :
    Calls Try.prog 9 #[.int .i64 off, .int .i64 n, .slice a1 m c1, .slice a2 m c2, .slice (some ⟨g, 0, none⟩) ps.length ps.length, .slice (some ⟨g + 1, 0, none⟩) ps.length ps.length, .slice (some ⟨g + 1 + 1, 0, none⟩) ps.length ps.length] w fun e w' => e = .returned (.bool true) ∧ w' = w := by
  obtain ⟨fin, hfin⟩ : ∃ fin, fin = off + n := ⟨_, rfl⟩
  rw [← hfin] at hps
  have hf3 : fin - off ≤ 2147483647 := by omega
  have hf4 : -4611686018427387904 ≤ fin - off := by omega
  have HFN : Hid (fin = off + n) := hfin
  have HPS : Hid (pieces fin (exts L F m) off = ps) := hps
  have HL : Hid (Ints 22 .i64 w a1 m c1 b1 o1 L) := hL
  have HF : Hid (Ints 23 .u32 w a2 m c2 b2 o2 F) := hF
  have HO : Hid (Out w lo g ps) := h
  have HW : Hid (∀ i, i < m → -9223372036854775808 ≤ L i ∧ L i ≤ 9223372036854775807) := hLw
  clear hfin hps hL hF h hLw
  go_enter Try.func9, Try.ntmps9
  go_wp2_with fail
  rw [← HFN.out]
  go_loop [16, 17, 18] (fun p k i => ∃ (i0 : Nat) (pos : Int) (qs : List Pc), i0 ≤ m ∧ i = .int .i64 i0 ∧ p = .int .i64 pos ∧ k = .int .i64 qs.length ∧ Hid (At L F m i0 fin off pos qs)) (fun _ _ i => m - (intOf i).toNat)
  case atStart => exact ⟨0, off, [], Nat.zero_le _, rfl, rfl, rfl, At.start L F m fin off⟩
  case round =>
    obtain ⟨i0, pos, qs, hi0, rfl, rfl, rfl, hat⟩ := hrel
    have p1 := hat.out.lo
    have p2 := hat.out.hi
    have p3 := hat.out.len
    by_cases hlt : i0 < m
    · have cL := HL.out.cell i0 hlt
      have cF := HF.out.cell i0 hlt
      have iL := fun w' => HL.out.idx i0 w' hlt
      have iF := fun w' => HF.out.idx i0 w' hlt
      obtain ⟨w1, w2⟩ := HW.out i0 hlt
      by_cases hz : L i0 ≤ 0
      · have HN := hat.out.skip hlt (clip_empty fin pos (L i0) (by omega))
        have HN' : Hid (At L F m (i0 + 1) fin off pos qs) := HN
        clear HN
        go_wp2_with fail
        go_round
        case rel => exact ⟨i0 + 1, pos, qs, by omega, by go_num, rfl, rfl, HN'⟩
        case measure => simp [intOf]; omega
      · by_cases hend : fin ≤ pos
        · have HN := hat.out.skip hlt (clip_out fin pos (L i0) (by omega))
          have HN' : Hid (At L F m (i0 + 1) fin off pos qs) := HN
          clear HN
          go_wp2_with fail
          go_round
          case rel => exact ⟨i0 + 1, pos, qs, by omega, by go_num, rfl, rfl, HN'⟩
          case measure => simp [intOf]; omega
        · obtain ⟨r, hr⟩ := seg_at hat.out HPS.out hlt
          have HN := hat.out.step hlt
          by_cases hA : L i0 < fin - pos
          · have hX : clip fin pos (L i0) = L i0 := by unfold clip; rw [if_pos (by omega), if_pos hA]
            cases hzb : zb (F i0)
            · rw [hzb, hX] at hr HN
              have hsg : seg false pos (L i0) = chunks pos (L i0) := rfl
              rw [hsg] at hr HN
              have hql : qs.length + nch (L i0) ≤ ps.length := by rw [hr]; simp [chunks_length]
              have hPq : ∀ j, j < nch (L i0) → P ps (qs.length + j) = chunk pos (L i0) j := fun j hj => by
                rw [hr, P_mid qs _ r j (by rw [chunks_length]; exact hj), P_chunks _ _ j hj]
              have t1 := data_any pos (L i0) qs.length g lo ps w HO.out hN (by omega) (by omega) (by omega) (by omega) hql hPq
              have HN' : Hid (At L F m (i0 + 1) fin off (pos + (L i0)) (qs ++ chunks pos (L i0))) := HN
              have hzb' : (bits .and .u32 (F i0) 2 != 0) = false := hzb
              clear HN hr hPq hsg hX hzb
              go_wp2_with fail
              refine t1.mono ?_
              clear t1
              rintro e w' ⟨rfl, hw'⟩
              rw [hw']
              clear hw' w'
              go_wp2_with fail
              go_round
              case rel => exact ⟨i0 + 1, _, _, by omega, by go_num, rfl, by rw [List.length_append, chunks_length]; go_num, HN'⟩
              case measure => simp [intOf]; omega
            · rw [hzb, hX] at hr HN
              have hsg : seg true pos (L i0) = [(pos, L i0, true)] := by unfold seg; rw [if_pos rfl, if_pos (by omega)]
              rw [hsg] at hr HN
              have hql : qs.length < ps.length := by rw [hr]; simp
              have hPq : P ps qs.length = (pos, L i0, true) := by
                have := P_mid qs [(pos, L i0, true)] r 0 (by simp)
                rw [← hr] at this
                exact this
              have z0 := HO.out.c0 qs.length hql
              have z1 := HO.out.c1 qs.length hql
              have z2 := HO.out.c2 qs.length hql
              rw [hPq] at z0 z1 z2
              have HN' : Hid (At L F m (i0 + 1) fin off (pos + (L i0)) (qs ++ [(pos, L i0, true)])) := HN
              have hzb' : (bits .and .u32 (F i0) 2 != 0) = true := hzb
              clear HN hr hPq hsg hX hzb
              go_wp2_with fail
              go_round
              case rel => exact ⟨i0 + 1, _, _, by omega, by go_num, rfl, by rw [List.length_append]; go_num, HN'⟩
              case measure => simp [intOf]; omega
          · have hX : clip fin pos (L i0) = fin - pos := by unfold clip; rw [if_pos (by omega), if_neg hA]
            cases hzb : zb (F i0)
            · rw [hzb, hX] at hr HN
              have hsg : seg false pos (fin - pos) = chunks pos (fin - pos) := rfl
              rw [hsg] at hr HN
              have hql : qs.length + nch (fin - pos) ≤ ps.length := by rw [hr]; simp [chunks_length]
              have hPq : ∀ j, j < nch (fin - pos) → P ps (qs.length + j) = chunk pos (fin - pos) j := fun j hj => by
                rw [hr, P_mid qs _ r j (by rw [chunks_length]; exact hj), P_chunks _ _ j hj]
              have t1 := data_any pos (fin - pos) qs.length g lo ps w HO.out hN (by omega) (by omega) (by omega) (by omega) hql hPq
              have HN' : Hid (At L F m (i0 + 1) fin off (pos + (fin - pos)) (qs ++ chunks pos (fin - pos))) := HN
              have hzb' : (bits .and .u32 (F i0) 2 != 0) = false := hzb
              clear HN hr hPq hsg hX hzb
              go_wp2_with fail
              refine t1.mono ?_
              clear t1
              rintro e w' ⟨rfl, hw'⟩
              rw [hw']
              clear hw' w'
              go_wp2_with fail
              go_round
              case rel => exact ⟨i0 + 1, _, _, by omega, by go_num, rfl, by rw [List.length_append, chunks_length]; go_num, HN'⟩
              case measure => simp [intOf]; omega
            · rw [hzb, hX] at hr HN
              have hsg : seg true pos (fin - pos) = [(pos, fin - pos, true)] := by unfold seg; rw [if_pos rfl, if_pos (by omega)]
              rw [hsg] at hr HN
              have hql : qs.length < ps.length := by rw [hr]; simp
              have hPq : P ps qs.length = (pos, fin - pos, true) := by
                have := P_mid qs [(pos, fin - pos, true)] r 0 (by simp)
                rw [← hr] at this
                exact this
              have z0 := HO.out.c0 qs.length hql
              have z1 := HO.out.c1 qs.length hql
              have z2 := HO.out.c2 qs.length hql
              rw [hPq] at z0 z1 z2
              have HN' : Hid (At L F m (i0 + 1) fin off (pos + (fin - pos)) (qs ++ [(pos, fin - pos, true)])) := HN
              have hzb' : (bits .and .u32 (F i0) 2 != 0) = true := hzb
              clear HN hr hPq hsg hX hzb
              go_wp2_with fail
              go_round
              case rel => exact ⟨i0 + 1, _, _, by omega, by go_num, rfl, by rw [List.length_append]; go_num, HN'⟩
              case measure => simp [intOf]; omega
    · obtain rfl : i0 = m := by omega
      have hd := hat.out.done
      rw [HPS.out] at hd
      by_cases hend : pos < fin
      · rw [clip_rest fin pos hend] at hd
        have hsg : seg false pos (fin - pos) = chunks pos (fin - pos) := rfl
        rw [hsg] at hd
        have hlen : qs.length + nch (fin - pos) = ps.length := by rw [← hd]; simp [chunks_length]
        have hPq : ∀ j, j < nch (fin - pos) → P ps (qs.length + j) = chunk pos (fin - pos) j := fun j hj => by
          have := P_mid qs (chunks pos (fin - pos)) [] j (by rw [chunks_length]; exact hj)
          rw [List.append_nil, hd] at this
          rw [this, P_chunks _ _ j hj]
        have t1 := data_any pos (fin - pos) qs.length g lo ps w HO.out hN (by omega) (by omega) (by omega) (by omega) (by omega) hPq
        rw [hlen] at t1
        clear hd hsg hlen hPq
        go_wp2_with fail
        refine t1.mono ?_
        clear t1
        rintro e w' ⟨rfl, hw'⟩
        rw [hw']
        clear hw' w'
        go_wp2_with fail
        go_ret
        exact ⟨rfl, rfl⟩
      · rw [clip_out fin pos _ hend, seg_none, List.append_nil] at hd
        have hq : ((qs.length : Int) == (ps.length : Int)) = true := by rw [hd]; simp
        clear hd
        go_wp2_with fail
        go_ret
        exact ⟨rfl, rfl⟩
end Go.Proofs.Qxb6618127a.Rp
