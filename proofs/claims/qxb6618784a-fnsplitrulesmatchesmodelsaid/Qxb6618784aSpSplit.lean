/-
  splitRules (20) and ZZsplitRules (10), walked.
-/
import Derived.Test.Qxb6618784aSpPlain
import Derived.Test.Qxb6618784aSpCols
import Derived.Laws.BitsAllLaws
namespace Go.Proofs.Qxb6618784a.Sp
open Go.RowKit Go.WideMaps Go.Maps

/-- mask, whether the word has a mask or not. -/
theorem mask_any (S base word : Nat) (ms : List Mk) (ps : List Addr) (rd : Int) (w : World) (h : SInv S base ms ps rd w) (hS : S < base) (hbase : base ≤ w.heap.size) (hm : ms.length < 4096) (hasc : Asc ms) (hfit : Fits ms) :
    Calls Try.prog 21 #[.pointer (some ⟨S, 0, none⟩), .int .i64 word] w fun e w' => ∃ i ms', (∀ bit deny, orIn word bit deny ms = ms'.set i (upd (N ms' i) bit deny)) ∧ (N ms' i).2.1 < 18446744073709551616 ∧ (N ms' i).2.2 < 18446744073709551616 ∧ Masked S base ms' i ps rd w e w' := by
  by_cases hyes : ∃ j, j < ms.length ∧ (N ms j).1 = word
  · refine (mask_old S base word ms ps rd w h hS hbase hm hasc hyes).mono ?_
    rintro e w' ⟨i, hp, hw, hmk⟩
    have hil : i < ms.length := by obtain ⟨g, cap, va, _, hl, _⟩ := hmk; exact hl
    have hf := hfit (N ms i) (by simp [N, List.getD, List.getElem?_eq_getElem hil])
    exact ⟨i, ms, fun bit deny => orIn_found word bit deny ms i hp hil hw, hf.1, hf.2, hmk⟩
  · have hno : ∀ j, j < ms.length → (N ms j).1 ≠ word := fun j hj e => hyes ⟨j, hj, e⟩
    refine (mask_new S base word ms ps rd w h hS hbase hm hasc hno).mono ?_
    rintro e w' ⟨i, hp, hmk⟩
    have hN : N (putIn ms word i) i = (word, 0, 0) := by
      have := hp.le
      simp [N, putIn, List.getD, Nat.min_eq_left this]
    exact ⟨i, putIn ms word i, fun bit deny => orIn_new word bit deny ms i hp hno, by rw [hN]; show 0 < _; omega, by rw [hN]; show 0 < _; omega, hmk⟩

theorem SInv.drew {S base : Nat} {ms : List Mk} {ps : List Addr} {rd : Int} {w : World} (h : SInv S base ms ps rd w) : SInv S base ms ps rd w.drew := by
  obtain ⟨ve, va, h1, h2, h3⟩ := h.ve
  exact ⟨ve, va, h1, h2, h3⟩

/-- The asked rules' addresses: the rules lie in block G, the slice begins at rule s. -/
def adr (G s : Nat) (l : List Nat) : List Addr := l.map fun j => ⟨G, (s + j) * 8, none⟩

theorem info59 : (Try.prog.info? 59).map (fun i => (i.zero, i.size, i.bytes)) = some (some (.pointer none), 1, 8) := by kernel_rfl

def ptrs (ps : List Addr) : List Value := ps.map fun a => Value.pointer (some a)

theorem ask_push {S base g2 cap2 : Nat} {ms : List Mk} {ps : List Addr} {rd rd' : Int} {ve va : Value} {a : Addr} {o : Obj} {wr w3 : World} (hS : S < base) (h1 : S < wr.heap.size) (hs : wr.heap[S]? = some (.cells #[ve, va, .int .u8 rd] 37 (0, 0)))
    (own : wr.ownsRow base 61 3 ve ms.length (flatM ms)) (own2 : wr.ownsRow base 59 1 va ps.length (ptrs ps))
    (own3 : w3.ownsRow base 59 1 (.slice (some ⟨g2, 0, none⟩) (ps.length + 1) cap2) (ps.length + 1) (ptrs ps ++ [.pointer (some a)])) (hg : (wr.alloc o).grownBy w3 va.ownBlock) :
    SInv S base ms (ps ++ [a]) rd' ((w3.setCell ⟨S, 1, none⟩ (.slice (some ⟨g2, 0, none⟩) (ps.length + 1) cap2)).setCell ⟨S, 2, none⟩ (.int .u8 rd')) := by
  have hb : w3.heap[S]? = some (.cells #[ve, va, .int .u8 rd] 37 (0, 0)) := (hg.block S (by simp; omega) (own_ge own2 hS)).trans ((Below.heap_alloc _ _ _ h1).trans hs)
  have hra : ve.ownBlock = none ∨ ve.ownBlock ≠ va.ownBlock := by
    rcases rows_apart own own2 with h | h
    · rw [h]
      cases ve.ownBlock <;> simp
    · exact .inr (fun e => h e.symm)
  refine ⟨ve, .slice (some ⟨g2, 0, none⟩) (ps.length + 1) cap2, ?_, ?_, ?_⟩
  · simp [World.setCell, Array.getElem?_modify, hb]
  · exact ownsRow_setCell_far (ownsRow_setCell_far ((own.alloc o).kept hg hra) hS _) hS _
  · rw [List.map_append, List.length_append]
    exact ownsRow_setCell_far (ownsRow_setCell_far own3 hS _) hS _

theorem far_ask {base k n : Nat} {va : Value} {xs : List Value} {o : Obj} {wr w3 : World} (own2 : wr.ownsRow base 59 1 va n xs) (hg : (wr.alloc o).grownBy w3 va.ownBlock) (hk : k < base) (h1 : k < wr.heap.size) : w3.heap[k]? = wr.heap[k]? :=
  (hg.block k (by simp; omega) (own_ge own2 hk)).trans (Below.heap_alloc _ _ _ h1)
theorem cells_S {w : World} {S : Nat} {v0 v1 v2 : Value} (h : w.heap[S]? = some (.cells #[v0, v1, v2] 37 (0, 0))) : w.cell? ⟨S, 0, none⟩ = some v0 ∧ w.cell? ⟨S, 1, none⟩ = some v1 ∧ w.cell? ⟨S, 2, none⟩ = some v2 ∧ w.frozen? ⟨S, 0, none⟩ = false ∧ w.frozen? ⟨S, 1, none⟩ = false ∧ w.frozen? ⟨S, 2, none⟩ = false := by
  simp [World.cell?, World.frozen?, h]

theorem flatM_set1 : ∀ (ms : List Mk) (i x : Nat), i < ms.length → (flatM ms).set (i * 3 + 1) (.int .u64 x) = flatM (ms.set i ((N ms i).1, x, (N ms i).2.2))
  | [], i, _, h => absurd h (by simp)
  | p :: ms, 0, x, _ => by simp [flatM, mcells, N]
  | p :: ms, i + 1, x, h => by
    have e2 : (i + 1) * 3 + 1 = (i * 3 + 1) + 1 + 1 + 1 := by omega
    have ih := flatM_set1 ms i x (by simpa using h)
    rw [List.set_cons_succ, flatM_cons, flatM_cons, N_succ, ← ih, e2]
    simp [mcells]
theorem flatM_set2 : ∀ (ms : List Mk) (i x : Nat), i < ms.length → (flatM ms).set (i * 3 + 2) (.int .u64 x) = flatM (ms.set i ((N ms i).1, (N ms i).2.1, x))
  | [], i, _, h => absurd h (by simp)
  | p :: ms, 0, x, _ => by simp [flatM, mcells, N]
  | p :: ms, i + 1, x, h => by
    have e2 : (i + 1) * 3 + 2 = (i * 3 + 2) + 1 + 1 + 1 := by omega
    have ih := flatM_set2 ms i x (by simpa using h)
    rw [List.set_cons_succ, flatM_cons, flatM_cons, N_succ, ← ih, e2]
    simp [mcells]

/-- One cell of the masks' row written. -/
theorem mask_put {S base g cap o : Nat} {ms ms2 : List Mk} {ps : List Addr} {rd : Int} {va v : Value} {w : World} (hS : S < base) (hs : w.heap[S]? = some (.cells #[.slice (some ⟨g, 0, none⟩) ms.length cap, va, .int .u8 rd] 37 (0, 0)))
    (own : w.ownsRow base 61 3 (.slice (some ⟨g, 0, none⟩) ms.length cap) ms.length (flatM ms)) (own2 : w.ownsRow base 59 1 va ps.length (ptrs ps)) (h : (flatM ms).set o v = flatM ms2) (hl : ms2.length = ms.length) :
    SInv S base ms2 ps rd (w.setCell ⟨g, o, none⟩ v) := by
  have hb : base ≤ g := (own.lt g rfl).1
  obtain ⟨o1, g1⟩ := own.stored o v
  have ra := rows_apart own own2
  have ra' : va.ownBlock = none ∨ va.ownBlock ≠ some g := by simpa [Value.ownBlock] using ra
  rw [h, ← hl] at o1
  rw [← hl] at hs
  exact ⟨_, va, (Below.heap_setCell _ _ _ _ (by show S ≠ g; omega)).trans hs, o1, own2.kept g1 ra'⟩

/-- How splitRules ends: the masks, the asked rules' addresses, what they read; its rows lie behind what was there. -/
def SplitIs (G s n : Nat) (r : Nat → Rule) (w : World) (e : Ending) (w' : World) : Prop :=
  ∃ ve va, e = .returned (.agg #[ve, va, .int .u8 (rdT (fun j => r (s + j)) n)]) ∧ w'.ownsRow (w.heap.size + 2) 61 3 ve (msT (fun j => r (s + j)) n).length (flatM (msT (fun j => r (s + j)) n)) ∧
    w'.ownsRow (w.heap.size + 2) 59 1 va (askT (fun j => r (s + j)) n).length (ptrs (adr G s (askT (fun j => r (s + j)) n))) ∧ Below w.heap.size w w'

set_option maxHeartbeats 2000000 in
set_option maxRecDepth 100000 in
theorem split_any (a : Option Addr) (n c G s : Nat) (r : Nat → Rule) (w : World) (hn : n ≤ 4096) (_hs : s ≤ 4096) (ha : 0 < n → a = some ⟨G, s * 8, none⟩) (hb : Built w G (s + n) r) (hrk : ∀ k, k < s + n → 0 ≤ (r k).rank ∧ (r k).rank ≤ 2147483647) (hrd : ∀ k, k < s + n → 0 ≤ (r k).reads ∧ (r k).reads ≤ 255) :
    Calls Try.prog 20 #[.slice a n c] w fun e w' => SplitIs G s n r w e w' := by
  go_enter Try.func20, Try.ntmps20
  go_wp2
  go_loopw [10] (fun i wr => ∃ j, j ≤ n ∧ i = .int .i64 (j : Nat) ∧ SInv (w.heap.size + 1) (w.heap.size + 2) (msT (fun j => r (s + j)) j) (adr G s (askT (fun j => r (s + j)) j)) (rdT (fun j => r (s + j)) j) wr ∧ wr.heap[w.heap.size]? = some (.cells #[.slice none 0 0, .slice none 0 0, .int .u8 0] 37 (0, 0)) ∧ Below w.heap.size w wr ∧ w.heap.size + 2 ≤ wr.heap.size) (fun i _ => n - (intOf i).toNat)
  case atStart =>
    refine ⟨0, Nat.zero_le _, rfl, ⟨.slice none 0 0, .slice none 0 0, heap_alloc2_new w _ _, ⟨rfl, .inl ⟨rfl, rfl⟩⟩, ⟨rfl, .inl ⟨rfl, rfl⟩⟩⟩, heap_alloc2_old w _ _, ((Below.refl _ w).alloc (Nat.le_refl _) _).alloc (by simp) _, by simp⟩
  case round =>
    obtain ⟨j, hj, rfl, hI, hR, hbel, hsz⟩ := hrel
    by_cases hlt : j < n
    · obtain rfl := ha (by omega)
      have e8 : (s + j) * 8 = s * 8 + j * 8 := by omega
      have x3 := (hbel.cell (p := ⟨G, (s + j) * 8 + 3, none⟩) (by show G < _; exact hb.lt)).trans (hb.ev (s + j) (by omega))
      have x4 := (hbel.cell (p := ⟨G, (s + j) * 8 + 4, none⟩) (by show G < _; exact hb.lt)).trans (hb.rd (s + j) (by omega))
      have x2 := (hbel.cell (p := ⟨G, (s + j) * 8 + 2, none⟩) (by show G < _; exact hb.lt)).trans (hb.dn (s + j) (by omega))
      have x7 := (hbel.cell (p := ⟨G, (s + j) * 8 + 7, none⟩) (by show G < _; exact hb.lt)).trans (hb.rk (s + j) (by omega))
      rw [e8] at x2 x3 x4 x7
      have hms := msT_length (fun j => r (s + j)) j
      have hak := askT_length (fun j => r (s + j)) j
      have hGl := hb.lt
      cases hev : (r (s + j)).every
      · rw [hev] at x3
        have hrd0 := hrd (s + j) (by omega)
        obtain ⟨rv, hrv⟩ : ∃ x : Nat, (r (s + j)).reads = (x : Int) := ⟨(r (s + j)).reads.toNat, by omega⟩
        rw [hrv] at x4 hrd0
        have hor := u8_or_nat (rdT (fun j => r (s + j)) j) rv (rdT_lt _ n (fun k hk => hrd (s + k) (by omega)) j (by omega)) (by omega)
        have HE : Hid ((r (s + j)).every = false ∧ (r (s + j)).reads = (rv : Int)) := ⟨hev, hrv⟩
        obtain ⟨ve, va, hcell, own1, own2⟩ := hI
        obtain ⟨ms, HM⟩ : ∃ ms, Hid (ms = msT (fun j => r (s + j)) j) := ⟨_, rfl⟩
        obtain ⟨ps, HPS⟩ : ∃ ps, Hid (ps = adr G s (askT (fun j => r (s + j)) j)) := ⟨_, rfl⟩
        obtain ⟨rd, HRD⟩ : ∃ rd, Hid (rd = rdT (fun j => r (s + j)) j) := ⟨_, rfl⟩
        have hpl : ps.length ≤ j := by rw [HPS.out, adr, List.length_map]; exact hak
        rw [← HM.out] at own1
        rw [← HPS.out] at own2
        rw [← HRD.out] at hor hcell
        obtain ⟨ao, cap, g, rfl, hao⟩ := own_form own2
        have HOW : Hid (wr.heap[w.heap.size + 1]? = some (.cells #[ve, .slice ao ps.length cap, .int .u8 rd] 37 (0, 0)) ∧ wr.ownsRow (w.heap.size + 2) 61 3 ve ms.length (flatM ms) ∧ wr.ownsRow (w.heap.size + 2) 59 1 (.slice ao ps.length cap) ps.length (ptrs ps)) := ⟨hcell, own1, own2⟩
        have c1 : wr.cell? ⟨w.heap.size + 1, 1, none⟩ = some (.slice ao ps.length cap) := by simp [World.cell?, hcell]
        have c2 : wr.cell? ⟨w.heap.size + 1, 2, none⟩ = some (.int .u8 rd) := by simp [World.cell?, hcell]
        obtain ⟨i0, hi0, hz0, hz1, hz2⟩ := info_parts info59
        clear hcell own1 own2 hev hrv hms hak hb ha hrk hrd
        go_upto_region 7 with fail
        go_wp2_with (at_builtin; refine wpList_append_lies _ rfl (.tmp 22) (.tmp 24) 34 rfl (w.heap.size + 2) 59 i0 _ 1 8 Try.underlying34 hi0 hz0 hz1 hz2 rfl (by decide) (.slice ao ps.length cap) ps.length (ptrs ps) rfl (HOW.out.2.2.alloc _) ⟨wr.heap.size, 0, none⟩ 1 1 [.pointer (some ⟨G, s * 8 + j * 8, none⟩)] rfl rfl (World.news_of_block (heap_alloc_new _ _)) (by simp [Value.oneCell']) (by decide) (by unfold maxLen; omega) (by omega) (by simp; omega) _ rfl ?_; intro g2 cap2 w3 own3 hgrow hat hlt3; have HG3 : Hid (w3.ownsRow (w.heap.size + 2) 59 1 (.slice (some ⟨g2, 0, none⟩) (ps.length + 1) cap2) (ps.length + 1) (ptrs ps ++ [.pointer (some ⟨G, s * 8 + j * 8, none⟩)]) ∧ (wr.alloc (.cells #[.pointer (some ⟨G, s * 8 + j * 8, none⟩)] 59)).grownBy w3 (Value.slice ao ps.length cap).ownBlock) := ⟨own3, hgrow⟩; obtain ⟨-, y1, y2, -, y4, y5⟩ := cells_S ((far_ask HOW.out.2.2 hgrow (by omega) (by omega)).trans HOW.out.1); have y6 := (World.cell?_of_block (a := ⟨G, s * 8 + j * 8 + 4, none⟩) (far_ask HOW.out.2.2 hgrow (k := G) (by omega) (by omega))).trans x4; clear own3 hgrow hat)
        have hGS : ¬ w.heap.size + 1 = G := by omega
        go_region
        go_wp2
        go_roundw
        case rel =>
          have e1 : msT (fun j => r (s + j)) (j + 1) = ms := by rw [msT, HM.out, if_neg (by rw [HE.out.1]; decide)]
          have e2 : askT (fun j => r (s + j)) (j + 1) = askT (fun j => r (s + j)) j ++ [j] := by rw [askT, if_neg (by rw [HE.out.1]; decide)]
          have e3 : rdT (fun j => r (s + j)) (j + 1) = rd ||| rv := by rw [rdT, HRD.out, if_neg (by rw [HE.out.1]; decide), HE.out.2]; rfl
          have e4 : adr G s (askT (fun j => r (s + j)) (j + 1)) = ps ++ [⟨G, s * 8 + j * 8, none⟩] := by rw [e2, HPS.out, ← e8]; simp [adr]
          refine ⟨j + 1, by omega, by go_num, ?_, ?_, ?_, ?_⟩
          · rw [e1, e3, e4]
            exact (ask_push (rd' := ((rd ||| rv : Nat) : Int)) (by omega) (by omega) HOW.out.1 HOW.out.2.1 HOW.out.2.2 HG3.out.1 HG3.out.2).drew
          · exact (Below.heap_setCell _ _ _ _ (by simp)).trans ((Below.heap_setCell _ _ _ _ (by simp)).trans ((far_ask HOW.out.2.2 HG3.out.2 (by omega) (by omega)).trans hR))
          · exact (((((hbel.alloc (by omega) _).grown HG3.out.2 (by simp; omega) (fun k hk => by have := HOW.out.2.2.lt k hk; omega)).setCell (by simp) _).setCell (by simp) _)).drew
          · have := (HG3.out.1.lt g2 rfl).1
            simp
            omega
        case measure => simp [intOf]; omega
      · rw [hev] at x3
        have hrk0 := hrk (s + j) (by omega)
        obtain ⟨rv, hrv⟩ : ∃ x : Nat, (r (s + j)).rank = (x : Int) := ⟨(r (s + j)).rank.toNat, by omega⟩
        rw [hrv] at x7 hrk0
        have hI' := hI
        obtain ⟨ms, HM⟩ : ∃ ms, Hid (ms = msT (fun j => r (s + j)) j) := ⟨_, rfl⟩
        obtain ⟨ps, HPS⟩ : ∃ ps, Hid (ps = adr G s (askT (fun j => r (s + j)) j)) := ⟨_, rfl⟩
        obtain ⟨rd, HRD⟩ : ∃ rd, Hid (rd = rdT (fun j => r (s + j)) j) := ⟨_, rfl⟩
        rw [← HM.out] at hms hI'
        rw [← HPS.out, ← HRD.out] at hI'
        obtain ⟨dn, hdn⟩ : ∃ b, b = (r (s + j)).deny := ⟨_, rfl⟩
        rw [← hdn] at x2
        have HE : Hid ((r (s + j)).every = true ∧ (r (s + j)).rank = (rv : Int) ∧ dn = (r (s + j)).deny) := ⟨hev, hrv, hdn⟩
        have HMS : Hid (Asc ms ∧ Fits ms) := by rw [HM.out]; exact ⟨msT_asc _ _, msT_fits _ _⟩
        have HI : Hid (SInv (w.heap.size + 1) (w.heap.size + 2) ms ps rd wr) := hI'
        obtain ⟨q, HQ⟩ : ∃ q, Hid (q = rv / 64) := ⟨_, rfl⟩
        obtain ⟨t, HT⟩ : ∃ t, Hid (t = rv % 64) := ⟨_, rfl⟩
        have ht : t < 64 := by have := HT.out; omega
        have hq1 : IntKind.i32.wrap ((rv : Int) / 64) = (q : Int) := by rw [IntKind.wrap_i32, HQ.out]; omega
        have hq2 : IntKind.i64.wrap (q : Int) = (q : Int) := by rw [IntKind.wrap_i64, HQ.out]; omega
        have hq3 : (rv : Int).tmod 64 = (t : Int) := by rw [HT.out, Int.tmod_eq_emod_of_nonneg (by omega)]; omega
        obtain ⟨B, HB⟩ : ∃ B, Hid (B = 2 ^ t) := ⟨2 ^ t, (rfl : 2 ^ t = 2 ^ t)⟩
        have hBl : B < 18446744073709551616 := by rw [HB.out]; exact Nat.pow_lt_pow_right (a := 2) (by omega) ht
        have hsh : IntKind.u64.wrap (2 ^ t) = (B : Int) := by rw [HB.out, IntKind.wrap_u64]; have : ((2 ^ t : Nat) : Int) = 2 ^ t := by push_cast; rfl
                                                              rw [← this, ← HB.out]; omega
        clear hI hI' hev hrv hdn hb ha hrk hrd hak x4
        go_upto_region 9 with fail
        go_cut [6, 7] (fun m bit wd => ∃ i ms' g cap va, m = .pointer (some ⟨g, i * 3, none⟩) ∧ bit = .int .u64 (B : Nat) ∧ i < ms'.length ∧ (∀ bit deny, orIn q bit deny ms = ms'.set i (upd (N ms' i) bit deny)) ∧ (N ms' i).2.1 < 18446744073709551616 ∧ (N ms' i).2.2 < 18446744073709551616 ∧ wd.heap[w.heap.size + 1]? = some (.cells #[.slice (some ⟨g, 0, none⟩) ms'.length cap, va, .int .u8 rd] 37 (0, 0)) ∧
          wd.ownsRow (w.heap.size + 2) 61 3 (.slice (some ⟨g, 0, none⟩) ms'.length cap) ms'.length (flatM ms') ∧ wd.ownsRow (w.heap.size + 2) 59 1 va ps.length (ptrs ps) ∧ Below (w.heap.size + 1) wr wd)
        case first =>
          go_region_with (go_at_call 21; refine (mask_any (w.heap.size + 1) (w.heap.size + 2) q ms ps rd wr.drew HI.out.drew (by omega) hsz (by omega) HMS.out.1 HMS.out.2).mono ?_; rintro e w' ⟨i, ms', ho, hf1, hf2, g, cap, va, rfl, hil, hs', o1, o2, hb'⟩; have y7 := (hb'.cell (p := ⟨G, s * 8 + j * 8 + 7, none⟩) (by show G < _; omega)).trans x7)
          all_goals
            go_wp2_with fail
            go_meet
            exact ⟨i, ms', g, cap, va, rfl, rfl, hil, ho, hf1, hf2, hs', o1, o2, (Below.refl _ wr).drew.trans hb'⟩
        case rest =>
          obtain ⟨w2, rfl⟩ : ∃ w2, w2 = wc := ⟨wc, rfl⟩
          obtain ⟨i, ms', g, cap, va, rfl, rfl, hil, ho, hf1, hf2, hs', o1, o2, hb'⟩ := hcut
          have y2 := (hb'.cell (p := ⟨G, s * 8 + j * 8 + 2, none⟩) (by show G < _; omega)).trans x2
          have HO : Hid (∀ bit deny, orIn q bit deny ms = ms'.set i (upd (N ms' i) bit deny)) := ho
          have HS' : Hid (w2.heap[w.heap.size + 1]? = some (.cells #[.slice (some ⟨g, 0, none⟩) ms'.length cap, va, .int .u8 rd] 37 (0, 0)) ∧ w2.ownsRow (w.heap.size + 2) 61 3 (.slice (some ⟨g, 0, none⟩) ms'.length cap) ms'.length (flatM ms') ∧ w2.ownsRow (w.heap.size + 2) 59 1 va ps.length (ptrs ps) ∧ Below (w.heap.size + 1) wr w2) := ⟨hs', o1, o2, hb'⟩
          have z1 : w2.cell? ⟨g, i * 3 + 1, none⟩ = some (.int .u64 (N ms' i).2.1) := (o1.cellAt (i * 3 + 1) (by omega)).trans (flatM_get ms' i 1 hil (by omega))
          have z2 : w2.cell? ⟨g, i * 3 + 2, none⟩ = some (.int .u64 (N ms' i).2.2) := (o1.cellAt (i * 3 + 2) (by omega)).trans (flatM_get ms' i 2 hil (by omega))
          have f1 := o1.frozenAt (i * 3 + 1)
          have f2 := o1.frozenAt (i * 3 + 2)
          have hor1 := u64_or_nat (N ms' i).2.1 B hf1 hBl
          have hor2 := u64_or_nat (N ms' i).2.2 B hf2 hBl
          clear hs' o1 o2 hb' ho x2 x3 x7 hq1 hq2 hq3 hsh
          cases hd : dn
          · rw [hd] at y2
            go_wp2_with fail
            go_roundw
            case rel =>
              have e0 := HE.out
              have e1 : msT (fun j => r (s + j)) (j + 1) = ms'.set i (upd (N ms' i) B false) := by
                rw [msT, if_pos e0.1, ← HM.out, ← e0.2.2, hd]
                have w1 : wordOf (r (s + j)) = q := by rw [wordOf, e0.2.1, HQ.out]; rfl
                have w2 : bitOf (r (s + j)) = B := by rw [bitOf, e0.2.1, HB.out, HT.out]; rfl
                rw [w1, w2]
                exact HO.out B false
              have e2 : askT (fun j => r (s + j)) (j + 1) = askT (fun j => r (s + j)) j := by rw [askT, if_pos e0.1]
              have e3 : rdT (fun j => r (s + j)) (j + 1) = rd := by rw [rdT, if_pos e0.1, HRD.out]
              obtain ⟨h1, h2, h3, h4⟩ := HS'.out
              have hg := (h2.lt g rfl).1
              refine ⟨j + 1, by omega, by go_num, ?_, ?_, ?_, ?_⟩
              · rw [e1, e2, e3, ← HPS.out]
                exact mask_put (by omega) h1 h2 h3 (flatM_set1 ms' i _ hil) (by simp)
              · exact (Below.heap_setCell _ _ _ _ (by show w.heap.size ≠ g; omega)).trans ((h4.block _ (by omega)).trans hR)
              · exact (hbel.trans (h4.mono (by omega))).setCell (by show _ ≤ g; omega) _
              · have := h4.size
                simp
                omega
            case measure => simp [intOf]; omega
          · rw [hd] at y2
            go_wp2_with fail
            go_roundw
            case rel =>
              have e0 := HE.out
              have e1 : msT (fun j => r (s + j)) (j + 1) = ms'.set i (upd (N ms' i) B true) := by
                rw [msT, if_pos e0.1, ← HM.out, ← e0.2.2, hd]
                have w1 : wordOf (r (s + j)) = q := by rw [wordOf, e0.2.1, HQ.out]; rfl
                have w2 : bitOf (r (s + j)) = B := by rw [bitOf, e0.2.1, HB.out, HT.out]; rfl
                rw [w1, w2]
                exact HO.out B true
              have e2 : askT (fun j => r (s + j)) (j + 1) = askT (fun j => r (s + j)) j := by rw [askT, if_pos e0.1]
              have e3 : rdT (fun j => r (s + j)) (j + 1) = rd := by rw [rdT, if_pos e0.1, HRD.out]
              obtain ⟨h1, h2, h3, h4⟩ := HS'.out
              have hg := (h2.lt g rfl).1
              refine ⟨j + 1, by omega, by go_num, ?_, ?_, ?_, ?_⟩
              · rw [e1, e2, e3, ← HPS.out]
                exact mask_put (by omega) h1 h2 h3 (flatM_set2 ms' i _ hil) (by simp)
              · exact (Below.heap_setCell _ _ _ _ (by show w.heap.size ≠ g; omega)).trans ((h4.block _ (by omega)).trans hR)
              · exact (hbel.trans (h4.mono (by omega))).setCell (by show _ ≤ g; omega) _
              · have := h4.size
                simp
                omega
            case measure => simp [intOf]; omega
    · obtain rfl : j = n := by omega
      obtain ⟨ms, HM⟩ : ∃ ms, Hid (ms = msT (fun j => r (s + j)) j) := ⟨_, rfl⟩
      obtain ⟨ps, HPS⟩ : ∃ ps, Hid (ps = adr G s (askT (fun j => r (s + j)) j)) := ⟨_, rfl⟩
      obtain ⟨rd, HRD⟩ : ∃ rd, Hid (rd = rdT (fun j => r (s + j)) j) := ⟨_, rfl⟩
      rw [← HM.out, ← HPS.out, ← HRD.out] at hI
      obtain ⟨ve, va, hcell, own1, own2⟩ := hI
      obtain ⟨ao, cap, g, rfl, -⟩ := own_form own1
      obtain ⟨ao', cap', g', rfl, -⟩ := own_form own2
      obtain ⟨c0, c1, c2, -, -, -⟩ := cells_S hcell
      obtain ⟨d0, d1, d2, f0, f1, f2⟩ := cells_S hR
      have HO : Hid (wr.ownsRow (w.heap.size + 2) 61 3 (.slice ao ms.length cap) ms.length (flatM ms) ∧ wr.ownsRow (w.heap.size + 2) 59 1 (.slice ao' ps.length cap') ps.length (ptrs ps)) := ⟨own1, own2⟩
      clear own1 own2 hcell
      go_wp2
      refine bodyPost_ret (results_cell_row (d := _) rfl _ _ w.heap.size 37 #[.slice ao ms.length cap, .slice ao' ps.length cap', .int .u8 rd] (0, 0) rfl ?_ Try.underlying37 rfl (by kernel_rfl)) rfl ?_
      · simp [World.setCell, Array.getElem?_modify, hR]
      · refine ⟨_, _, by rw [← HRD.out], ?_, ?_, ((hbel.setCell (Nat.le_refl _) _).setCell (Nat.le_refl _) _).setCell (Nat.le_refl _) _⟩
        · rw [← HM.out]
          exact ownsRow_setCell_far (ownsRow_setCell_far (ownsRow_setCell_far HO.out.1 (by show w.heap.size < _; omega) _) (by show w.heap.size < _; omega) _) (by show w.heap.size < _; omega) _
        · rw [← HPS.out, show (askT (fun j => r (s + j)) j).length = ps.length by rw [HPS.out, adr, List.length_map]]
          exact ownsRow_setCell_far (ownsRow_setCell_far (ownsRow_setCell_far HO.out.2 (by show w.heap.size < _; omega) _) (by show w.heap.size < _; omega) _) (by show w.heap.size < _; omega) _

end Go.Proofs.Qxb6618784a.Sp
