/-
  FnSplitRulesMatchesModel (3), walked: the whole.
-/
import Derived.Test.Qxb6618784aSpModelB
namespace Go.Proofs.Qxb6618784a.Sp
open Go.RowKit Go.WideMaps Go.Maps

set_option maxHeartbeats 4000000 in
set_option maxRecDepth 100000 in
theorem model_any (a : Option Addr) (n c b o : Nat) (r : Nat → Rule) (w : World) (h : Rules w a n c b o r) :
    Calls Try.prog 3 #[.slice a n c] w (Fine w) := by
  have HR : Hid (Rules w a n c b o r) := h
  have k5 := bytes5_any a n c b o r w h
  have k6 := count_any a n c b o r w h
  clear h
  go_enter Try.func3, Try.ntmps3
  go_wp2_with fail
  refine k5.mono ?_
  clear k5
  rintro e w' ⟨⟨t, rfl⟩, hw⟩
  rw [hw]
  clear hw w'
  cases t
  · go_wp2_with fail
    go_ret
    exact ⟨rfl, Below.refl _ _⟩
  go_wp2_with fail
  refine k6.mono ?_
  clear k6
  rintro e w' ⟨⟨t, rfl, hn⟩, hw⟩
  rw [hw]
  clear hw w'
  by_cases ht : t ≤ 1048576
  case neg =>
    have ht' : 1048576 < t := by omega
    clear hn ht
    go_wp2_with fail
    go_ret
    exact ⟨rfl, Below.refl _ _⟩
  have hn := hn ht
  have k7 := ranks_any a n c b o r w hn HR.out
  go_wp2_with fail
  refine k7.mono ?_
  clear k7
  rintro e w' ⟨⟨t, rfl, hr0⟩, hw⟩
  rw [hw]
  clear hw w'
  cases t
  · clear hr0
    go_wp2_with fail
    go_ret
    exact ⟨rfl, Below.refl _ _⟩
  have hr0 : ∀ k, k < n → 0 ≤ (r k).rank := hr0 rfl
  have HRK : Hid (∀ k, k < n → 0 ≤ (r k).rank) := hr0
  clear hr0
  go_wp2_with fail
  refine (cols_any a n c b o r w hn HR.out).mono ?_
  rintro e w1 ⟨⟨g, rfl, hcols⟩, hb1⟩
  have k8 := build_any g n r w1 hn hcols
  have HB1 : Hid (Below w.heap.size w w1) := hb1
  clear hcols hb1
  go_wp2_with fail
  refine k8.mono ?_
  clear k8
  rintro e w2 ⟨rfl, hbuilt, hb2⟩
  obtain ⟨G, hG⟩ : ∃ G, G = w1.heap.size := ⟨_, rfl⟩
  rw [← hG] at hbuilt ⊢
  have HB2 : Hid (Below w.heap.size w w2) := HB1.out.trans (hb2.mono HB1.out.size)
  have HBT : Hid (Built w2 G n r) := hbuilt
  have HKR : Hid (∀ k, k < n → 0 ≤ (r k).rank ∧ (r k).rank ≤ 2147483647) := fun k hk => ⟨HRK.out k hk, HR.out.rk k hk⟩
  have HKD : Hid (∀ k, k < n → 0 ≤ (r k).reads ∧ (r k).reads ≤ 255) := HR.out.rd
  have k10 := zzsplit_any (some ⟨G, 0, none⟩) n n G 0 r w2 hn (by omega) (fun _ => by simp) (by rw [Nat.zero_add]; exact hbuilt) (by rw [Nat.zero_add]; exact HKR.out) (by rw [Nat.zero_add]; exact HKD.out)
  clear hbuilt hb2 HB1 hG
  go_wp2_with fail
  refine k10.mono ?_
  clear k10
  rintro e w3 ⟨a1, c1, g1, a2, c2, g2, rfl, hspl, hb3⟩
  have hz : (fun j => r (0 + j)) = r := by funext j; rw [Nat.zero_add]
  rw [hz] at hspl ⊢
  obtain ⟨W, HW⟩ : ∃ W, Hid (W = msT r n) := ⟨_, rfl⟩
  obtain ⟨P, HP⟩ : ∃ P, Hid (P = adr G 0 (askT r n)) := ⟨_, rfl⟩
  obtain ⟨D, HD⟩ : ∃ D, Hid (D = rdT r n) := ⟨_, rfl⟩
  rw [← HW.out, ← HP.out] at hspl ⊢
  rw [← HD.out]
  have HB3 : Hid (Below w2.heap.size w2 (w3.alloc (.cells #[.slice a1 W.length c1, .slice a2 P.length c2, .int .u8 D] 37))) := hb3.alloc hb3.size _
  have HH3 : Hid (Held (w3.alloc (.cells #[.slice a1 W.length c1, .slice a2 P.length c2, .int .u8 D] 37)) w3.heap.size a1 c1 g1 a2 c2 g2 W P D) := held_new hspl
  clear hspl hb3 hz
  unfold sval
  go_upto_region 9 with fail
  rename_i K hK
  have HK := hideM hK
  clear hK
  obtain ⟨v4, hv4⟩ : ∃ v, v = w3.heap.size := ⟨_, rfl⟩
  obtain ⟨w4, hw4⟩ : ∃ w4, w4 = w3.alloc (.cells #[.slice a1 W.length c1, .slice a2 P.length c2, .int .u8 D] 37) := ⟨_, rfl⟩
  rw [← hw4, ← hv4] at HH3
  rw [← hw4] at HB3
  rw [← hw4, ← hv4]
  clear hv4 hw4 w3
  obtain ⟨x0, x1, x2, -, -, -⟩ := cells_S HH3.out.blk
  have q1 := askedLen_any a1 a2 W.length c1 P.length c2 D w4
  unfold sval at q1
  go_wp2_with fail
  refine q1.mono ?_
  clear q1 x0 x1 x2
  rintro e w5 ⟨rfl, hb5⟩
  have HB5 : Hid (Below w.heap.size w w5) := (HB2.out.trans (HB3.out.mono HB2.out.size)).trans (hb5.mono (HB2.out.trans (HB3.out.mono HB2.out.size)).size)
  have HH5 := hideM (HH3.out.below hb5)
  clear hb5
  go_wp2_with fail
  exact HK.out _ _ (modelB a n c b o G r w w5 v4 a1 c1 g1 a2 c2 g2 W P D _ _ _ _ _ _ _ _ _ _ _ _ _ _ _ _ _ _ _ _ _ _ _ _ _ _ _ _ _ _ _ _ _ _ _ _ _ _ _ _ _ _ _ _ _ _ _ _ _ _ _ _ _ _ _ _ _ _ _ _ _ _ _ _ _ _ _ _ _ _ _ _ _ _ _ _ _ _ _ _ _ _ _ _ _ _ _ _ _ _ _ _ _ _ _ _ _ _ _ _ _ _ _ _ _ _ _ _ _ _ _ _ _ _ _ _ _ _ _ _ _ _ _ _ _ _ _ _ _ _ _ _ _ _ _ _ _ _ _ _ _ _ _ _ _ _ _ _ _ _ _ _ _ _ _ _ _ _ _ _ _ _ _ _ _ _ hn HB5 HH5 (HR.out.below HB5.out) HRK HW HP HD (by rw [HW.out]; exact msT_length r n) (by rw [HP.out, adr, List.length_map]; exact askT_length r n))

end Go.Proofs.Qxb6618784a.Sp
