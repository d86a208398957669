/-
  FnSplitRulesJoinsAtAnyCut (4), walked: the whole.
-/
import Derived.Test.Qxb6618784aSpJoinB
namespace Go.Proofs.Qxb6618784a.Sp
open Go.RowKit Go.WideMaps Go.Maps

set_option maxHeartbeats 4000000 in
set_option maxRecDepth 100000 in
theorem join_any (a : Option Addr) (n c b o : Nat) (kk : Int) (r : Nat → Rule) (w : World) (h : Rules w a n c b o r) :
    Calls Try.prog 4 #[.slice a n c, .int .i64 kk] w (Fine w) := by
  have HR : Hid (Rules w a n c b o r) := h
  have k17 := bytes17_any a n c b o kk r w h
  have k6 := count_any a n c b o r w h
  clear h
  go_enter Try.func4, Try.ntmps4
  go_wp2_with fail
  refine k17.mono ?_
  clear k17
  rintro e w' ⟨⟨t, rfl⟩, hw⟩
  rw [hw]
  clear hw w'
  cases t
  · go_wp2_with fail
    go_ret
    exact ⟨rfl, Below.refl _ _⟩
  go_wp2_with fail
  refine k6.mono ?_
  clear k6
  rintro e w' ⟨⟨t, rfl, hn⟩, hw⟩
  rw [hw]
  clear hw w'
  by_cases ht : t ≤ 1048576
  case neg =>
    have ht' : 1048576 < t := by omega
    clear hn ht
    go_wp2_with fail
    go_ret
    exact ⟨rfl, Below.refl _ _⟩
  have hn := hn ht
  have k7 := ranks_any a n c b o r w hn HR.out
  go_wp2_with fail
  refine k7.mono ?_
  clear k7
  rintro e w' ⟨⟨t, rfl, hr0⟩, hw⟩
  rw [hw]
  clear hw w'
  cases t
  · clear hr0
    go_wp2_with fail
    go_ret
    exact ⟨rfl, Below.refl _ _⟩
  have hr0 : ∀ k, k < n → 0 ≤ (r k).rank := hr0 rfl
  have HRK : Hid (∀ k, k < n → 0 ≤ (r k).rank) := hr0
  clear hr0
  by_cases hk : 0 ≤ kk ∧ kk ≤ n
  case neg =>
    by_cases h0 : 0 ≤ kk
    · have h1 : (n : Int) < kk := by omega
      clear hk
      go_wp2_with fail
      go_ret
      exact ⟨rfl, Below.refl _ _⟩
    · have h1 : kk < 0 := by omega
      clear hk h0
      go_wp2_with fail
      go_ret
      exact ⟨rfl, Below.refl _ _⟩
  obtain ⟨k, rfl⟩ : ∃ k : Nat, kk = (k : Int) := ⟨kk.toNat, by omega⟩
  obtain ⟨hk0, hk1⟩ := hk
  have hkn : k ≤ n := by omega
  go_wp2_with fail
  refine (cols_any a n c b o r w hn HR.out).mono ?_
  rintro e w1 ⟨⟨g, rfl, hcols⟩, hb1⟩
  have k8 := build_any g n r w1 hn hcols
  have HB1 : Hid (Below w.heap.size w w1) := hb1
  clear hcols hb1
  go_wp2_with fail
  refine k8.mono ?_
  clear k8
  rintro e w2 ⟨rfl, hbuilt, hb2⟩
  obtain ⟨G, hG⟩ : ∃ G, G = w1.heap.size := ⟨_, rfl⟩
  rw [← hG] at hbuilt ⊢
  have HB2 : Hid (Below w.heap.size w w2) := HB1.out.trans (hb2.mono HB1.out.size)
  have HBT : Hid (Built w2 G n r) := hbuilt
  have HKR : Hid (∀ k, k < n → 0 ≤ (r k).rank ∧ (r k).rank ≤ 2147483647) := fun k hk => ⟨HRK.out k hk, HR.out.rk k hk⟩
  have HKD : Hid (∀ k, k < n → 0 ≤ (r k).reads ∧ (r k).reads ≤ 255) := HR.out.rd
  have k10 := zzsplit_any (some ⟨G, 0, none⟩) n n G 0 r w2 hn (by omega) (fun _ => by simp) (by rw [Nat.zero_add]; exact hbuilt) (by rw [Nat.zero_add]; exact HKR.out) (by rw [Nat.zero_add]; exact HKD.out)
  clear hbuilt hb2 HB1 hG
  go_wp2_with fail
  refine k10.mono ?_
  clear k10
  rintro e w3 ⟨a1, c1, g1, a2, c2, g2, rfl, hspl, hb3⟩
  have hz : (fun j => r (0 + j)) = r := by funext j; rw [Nat.zero_add]
  rw [hz] at hspl ⊢
  obtain ⟨W, HW⟩ : ∃ W, Hid (W = msT r n) := ⟨_, rfl⟩
  obtain ⟨P, HP⟩ : ∃ P, Hid (P = adr G 0 (askT r n)) := ⟨_, rfl⟩
  obtain ⟨D, HD⟩ : ∃ D, Hid (D = rdT r n) := ⟨_, rfl⟩
  rw [← HW.out, ← HP.out] at hspl ⊢
  rw [← HD.out]
  have HB3 : Hid (Below w2.heap.size w2 (w3.alloc (.cells #[.slice a1 W.length c1, .slice a2 P.length c2, .int .u8 D] 37))) := hb3.alloc hb3.size _
  have HH3 : Hid (Held (w3.alloc (.cells #[.slice a1 W.length c1, .slice a2 P.length c2, .int .u8 D] 37)) w3.heap.size a1 c1 g1 a2 c2 g2 W P D) := held_new hspl
  clear hspl hb3 hz
  unfold sval
  go_upto_region 11 with fail
  obtain ⟨v6, hv6⟩ : ∃ v, v = w3.heap.size := ⟨_, rfl⟩
  obtain ⟨w4, hw4⟩ : ∃ w4, w4 = w3.alloc (.cells #[.slice a1 W.length c1, .slice a2 P.length c2, .int .u8 D] 37) := ⟨_, rfl⟩
  rw [← hw4, ← hv6] at HH3
  rw [← hw4] at HB3
  rw [← hw4, ← hv6]
  clear hv6 hw4 w3
  have k10 := zzsplit_any (some ⟨G, 0, none⟩) k n G 0 r w4 (by omega) (by omega) (fun _ => by simp) (by rw [Nat.zero_add]; have := HBT.out.below HB3.out; exact ⟨fun i hi => this.dn i (by omega), fun i hi => this.ev i (by omega), fun i hi => this.rd i (by omega), fun i hi => this.rk i (by omega), this.lt⟩) (by rw [Nat.zero_add]; exact fun i hi => HKR.out i (by omega)) (by rw [Nat.zero_add]; exact fun i hi => HKD.out i (by omega))
  go_wp2_with fail
  refine k10.mono ?_
  clear k10
  rintro e w5 ⟨b1, d1, h1, b2, d2, h2, rfl, hspl, hb3⟩
  have hz : (fun j => r (0 + j)) = r := by funext j; rw [Nat.zero_add]
  rw [hz] at hspl ⊢
  obtain ⟨L, HL⟩ : ∃ W, Hid (W = msT r k) := ⟨_, rfl⟩
  obtain ⟨PL, HPL⟩ : ∃ P, Hid (P = adr G 0 (askT r k)) := ⟨_, rfl⟩
  obtain ⟨DL, HDL⟩ : ∃ D, Hid (D = rdT r k) := ⟨_, rfl⟩
  rw [← HL.out, ← HPL.out] at hspl ⊢
  rw [← HDL.out]
  have HB5 : Hid (Below w2.heap.size w2 (w5.alloc (.cells #[.slice b1 L.length d1, .slice b2 PL.length d2, .int .u8 DL] 37))) := HB3.out.trans ((hb3.alloc hb3.size _).mono HB3.out.size)
  have HH5 : Hid (Held (w5.alloc (.cells #[.slice b1 L.length d1, .slice b2 PL.length d2, .int .u8 DL] 37)) w5.heap.size b1 d1 h1 b2 d2 h2 L PL DL) := held_new hspl
  have HH4 : Hid (Held (w5.alloc (.cells #[.slice b1 L.length d1, .slice b2 PL.length d2, .int .u8 DL] 37)) v6 a1 c1 g1 a2 c2 g2 W P D) := HH3.out.below (hb3.alloc hb3.size _)
  clear hspl hb3 hz HB3 HH3
  unfold sval
  go_upto_region 12 with fail
  obtain ⟨v7, hv7⟩ : ∃ v, v = w5.heap.size := ⟨_, rfl⟩
  obtain ⟨w6, hw6⟩ : ∃ w4, w4 = w5.alloc (.cells #[.slice b1 L.length d1, .slice b2 PL.length d2, .int .u8 DL] 37) := ⟨_, rfl⟩
  rw [← hw6, ← hv7] at HH5
  rw [← hw6] at HB5 HH4
  rw [← hw6, ← hv7]
  clear hv7 hw6 w5
  have k10 : ∀ ao, (0 < n - k → ao = some ⟨G, k * 8, none⟩) → Calls Try.prog 10 #[.slice ao (n - k : Nat) (n - k : Nat)] w6 (SplitV G k (n - k) r w6) := fun ao hao =>
    zzsplit_any ao (n - k) (n - k) G k r w6 (by omega) (by omega) hao (by have := HBT.out.below HB5.out; exact ⟨fun i hi => this.dn i (by omega), fun i hi => this.ev i (by omega), fun i hi => this.rd i (by omega), fun i hi => this.rk i (by omega), this.lt⟩) (fun i hi => HKR.out i (by omega)) (fun i hi => HKD.out i (by omega))
  have HK : Hid (∀ ao, (0 < n - k → ao = some ⟨G, k * 8, none⟩) → Calls Try.prog 10 #[.slice ao (n - k : Nat) (n - k : Nat)] w6 (SplitV G k (n - k) r w6)) := k10
  clear k10
  go_cut [8] (fun v wd => ∃ v8 e1 f1 k1 e2 f2 k2, v = .pointer (some ⟨v8, 0, none⟩) ∧ Held wd v8 e1 f1 k1 e2 f2 k2 (msT (fun j => r (k + j)) (n - k)) (adr G k (askT (fun j => r (k + j)) (n - k))) (rdT (fun j => r (k + j)) (n - k)) ∧ Held wd v7 b1 d1 h1 b2 d2 h2 L PL DL ∧ Held wd v6 a1 c1 g1 a2 c2 g2 W P D ∧ Below w2.heap.size w2 wd)
  case first =>
    by_cases hnk : n = k
    · have k10 := HK.out (some ⟨G, 0, none⟩) (fun h => absurd h (by omega))
      have hkk : n - k = 0 := by omega
      rw [hkk] at k10
      have hnk' : (n = k) = True := by simp [hnk]
      clear hnk
      go_wp2_with fail
      refine k10.mono ?_
      clear k10
      rintro e w7 ⟨e1, f1, k1, e2, f2, k2, rfl, hspl, hb3⟩
      unfold sval
      go_wp2_with fail
      go_meet
      rw [hkk]
      have hb4 := (hb3.alloc hb3.size (.cells #[.slice e1 (msT (fun j => r (k + j)) 0).length f1, .slice e2 (adr G k (askT (fun j => r (k + j)) 0)).length f2, .int .u8 (rdT (fun j => r (k + j)) 0)] 37))
      exact ⟨_, e1, f1, k1, e2, f2, k2, rfl, held_new hspl, HH5.out.below hb4, HH4.out.below hb4, HB5.out.trans (hb4.mono HB5.out.size)⟩
    · have k10 := HK.out (some ⟨G, k * 8, none⟩) (fun _ => rfl)
      go_wp2_with fail
      refine k10.mono ?_
      clear k10
      rintro e w7 ⟨e1, f1, k1, e2, f2, k2, rfl, hspl, hb3⟩
      unfold sval
      go_wp2_with fail
      go_meet
      have hb4 := (hb3.alloc hb3.size (.cells #[.slice e1 (msT (fun j => r (k + j)) (n - k)).length f1, .slice e2 (adr G k (askT (fun j => r (k + j)) (n - k))).length f2, .int .u8 (rdT (fun j => r (k + j)) (n - k))] 37))
      exact ⟨_, e1, f1, k1, e2, f2, k2, rfl, held_new hspl, HH5.out.below hb4, HH4.out.below hb4, HB5.out.trans (hb4.mono HB5.out.size)⟩
  case rest =>
    obtain ⟨w8, rfl⟩ : ∃ w2, w2 = wc := ⟨wc, rfl⟩
    obtain ⟨v8, e1, f1, k1, e2, f2, k2, rfl, hh8, hh7, hh6, hb8⟩ := hcut
    obtain ⟨Q, HQ⟩ : ∃ W, Hid (W = msT (fun j => r (k + j)) (n - k)) := ⟨_, rfl⟩
    obtain ⟨PQ, HPQ⟩ : ∃ P, Hid (P = adr G k (askT (fun j => r (k + j)) (n - k))) := ⟨_, rfl⟩
    obtain ⟨DQ, HDQ⟩ : ∃ D, Hid (D = rdT (fun j => r (k + j)) (n - k)) := ⟨_, rfl⟩
    rw [← HQ.out, ← HPQ.out, ← HDQ.out] at hh8
    have HB8 : Hid (Below w.heap.size w w8) := HB2.out.trans (hb8.mono HB2.out.size)
    have H8 : Hid (Held w8 v8 e1 f1 k1 e2 f2 k2 Q PQ DQ) := hh8
    have H7 : Hid (Held w8 v7 b1 d1 h1 b2 d2 h2 L PL DL) := hh7
    have H6 : Hid (Held w8 v6 a1 c1 g1 a2 c2 g2 W P D) := hh6
    have HJ : Hid (W = mergeM L Q) := by have := msT_join r k (n - k); rw [show k + (n - k) = n by omega] at this; rw [HW.out, HL.out, HQ.out]; exact this
    have HJP : Hid (P = PL ++ PQ) := by have := adr_join G r k (n - k); rw [show k + (n - k) = n by omega] at this; rw [HP.out, HPL.out, HPQ.out]; exact this
    have HJD : Hid (D = DL ||| DQ) := by have := rdT_join r k (n - k); rw [show k + (n - k) = n by omega] at this; rw [HD.out, HDL.out, HDQ.out]; exact this
    have HPN : Hid (P.length = (askT r n).length) := by rw [HP.out, adr, List.length_map]; rfl
    have hWn : W.length ≤ n := by rw [HW.out]; exact msT_length r n
    have hPn : P.length ≤ n := by rw [HPN.out]; exact askT_length r n
    have HPP : Hid (P.length = PL.length + PQ.length) := by rw [HJP.out, List.length_append]; rfl
    have hPLn : PL.length ≤ n := by have := HPP.out; omega
    have hPQn : PQ.length ≤ n := by have := HPP.out; omega
    have hLn : L.length ≤ n := by have := msT_length r k; rw [HL.out]; omega
    have hQn : Q.length ≤ n := by have := msT_length (fun j => r (k + j)) (n - k); rw [HQ.out]; omega
    have HFL : Hid (Fits L ∧ Fits Q) := by rw [HL.out, HQ.out]; exact ⟨msT_fits _ _, msT_fits _ _⟩
    have HDD : Hid (DL < 256 ∧ DQ < 256) := by
      rw [HDL.out, HDQ.out]
      exact ⟨rdT_lt r n (fun i hi => HKD.out i hi) k hkn, rdT_lt _ (n - k) (fun i hi => HKD.out (k + i) (by omega)) (n - k) (Nat.le_refl _)⟩
    have HRR : Hid (Rules w8 a n c b o r) := HR.out.below HB8.out
    rename_i K hK
    exact hK _ _ (joinB a n c b o r w w8 v6 v7 v8 a1 c1 g1 a2 c2 g2 W P D b1 d1 h1 b2 d2 h2 L PL DL e1 f1 k1 e2 f2 k2 Q PQ DQ _ _ _ _ _ _ _ _ _ _ _ _ _ _ _ _ _ _ _ _ _ _ _ _ _ _ _ _ _ _ _ _ _ _ _ _ _ _ _ _ _ _ _ _ _ _ _ _ _ _ _ _ _ _ _ _ _ _ _ _ _ _ _ _ _ _ _ _ _ _ _ _ _ _ _ _ _ _ _ _ _ _ _ _ _ _ _ _ _ _ _ _ _ _ _ _ _ _ _ _ _ _ _ _ _ _ _ _ _ _ _ _ _ _ _ _ _ _ _ _ _ _ _ _ _ _ _ _ _ _ _ _ _ _ _ _ _ _ _ _ _ _ _ _ _ _ _ _ _ _ _ _ _ _ _ _ _ _ _ _ _ _ _ _ _ _ _ _ _ _ _ _ _ _ _ _ _ _ _ _ _ _ _ _ _ _ _ _ _ _ _ _ _ _ _ _ _ _ _ _ _ _ _ _ _ _ _ _ _ _ _ _ _ _ _ _ _ _ _ _ _ _ _ _ _ _ _ _ _ _ _ _ _ _ _ _ _ _ _ _ _ _ _ _ hn HB8 H6 H7 H8 HRR HW HJ HJP HJD HPN HPP HFL HDD hWn hPLn hPQn hLn hQn)

end Go.Proofs.Qxb6618784a.Sp
