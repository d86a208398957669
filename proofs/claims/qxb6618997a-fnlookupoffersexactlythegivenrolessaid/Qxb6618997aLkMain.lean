/-
  ZZlookUp (21) and FnLookUpOffersExactlyTheGivenRoles (6), walked: the law returns true.
-/
import Derived.Test.Qxb6618997aLkLook
import Derived.Test.Qxb6618997aLkBuild
import Derived.Test.Qxb6618997aLkModel
namespace Go.Proofs.Qxb6618997a.Lk
open Go.RowKit Go.WideMaps Go.Maps

/-- How ZZlookUp ends. -/
def GotIs (D : Data) (X : Adr) (e : Ending) (w' : World) : Prop := ∃ (a : Option Addr) (n c g : Nat), e = .returned (.slice a n c) ∧ Got w' a n g (offs D X D.ask.all)

theorem got_of {D : Data} {X : Adr} {c base : Nat} {w : World} (h : LI c base (offs D X D.ask.all) w) : ∃ (a : Option Addr) (n cap g : Nat), w.cell? ⟨c, 0, none⟩ = some (.slice a n cap) ∧ Got w a n g (offs D X D.ask.all) := by
  obtain ⟨ve, hcell, own⟩ := h
  obtain ⟨ao, cap, g, rfl, hao⟩ := own_form own
  refine ⟨ao, (offs D X D.ask.all).length, cap, g, by simp [World.cell?, hcell], rfl, fun h => (hao h).1, fun k r hk => ?_, fun h => (hao h).2.2⟩
  have hlen : k < (offs D X D.ask.all).length := (List.getElem?_eq_some_iff.mp hk).1
  obtain ⟨rfl, -, -⟩ := hao (by omega)
  refine (own.cellAt k (by omega)).trans ?_
  rw [rptrs, List.getElem?_map, hk]
  rfl

set_option maxRecDepth 100000 in
theorem zzLook_any (D : Data) (X : Adr) (ok : Ok D) (w : World) (E : Env D X w) (gh gq : Nat) (hH : Held w gh gq D.t D.pk D.pm) (pi : Option Addr) (hpi : pi = if D.ix = true then some ⟨X.gi, 0, none⟩ else none) :
    Calls Try.prog 21 #[.pointer (some ⟨gh, 0, none⟩), .agg #[.slice (some ⟨X.gl, 0, none⟩) D.nb D.nb, .pointer pi], .slice (some ⟨X.gr, 0, none⟩) D.nr D.nr, .slice X.a9 D.ns X.c9] w fun e w' => GotIs D X e w' ∧ Below w.heap.size w w' := by
  have hb : Below w.heap.size w ((w.alloc (.cells #[.slice (some ⟨X.gl, 0, none⟩) D.nb D.nb, .pointer pi] 45)).alloc (.cells #[.slice none 0 0] 41)) := ((Below.refl _ _).alloc (Nat.le_refl _) _).alloc (by simp) _
  have hn := heap_alloc_new (w.alloc (.cells #[.slice (some ⟨X.gl, 0, none⟩) D.nb D.nb, .pointer pi] 45)) (.cells #[.slice none 0 0] 41)
  rw [World.size_alloc] at hn
  have H32 := lookUp_any D X ok w _ E gh gq (w.heap.size + 1) hH hb (by omega) hn pi hpi
  have HB : Hid (Below w.heap.size w ((w.alloc (.cells #[.slice (some ⟨X.gl, 0, none⟩) D.nb D.nb, .pointer pi] 45)).alloc (.cells #[.slice none 0 0] 41))) := hb
  clear hb hn E hH hpi ok
  go_enter Try.func21, Try.ntmps21
  go_wp2_with (go_at_call 32; refine H32.mono ?_; rintro e w' ⟨rfl, ⟨base, hli⟩, hb2⟩; obtain ⟨a, n, cap, g, hc, hg⟩ := got_of hli; have HG : Hid (Got w' a n g (offs D X D.ask.all)) := hg; have HB2 : Hid (Below (w.heap.size + 1) ((w.alloc (.cells #[.slice (some ⟨X.gl, 0, none⟩) D.nb D.nb, .pointer pi] 45)).alloc (.cells #[.slice none 0 0] 41)) w') := hb2; clear hli hb2 hg)
  go_ret
  exact ⟨⟨a, n, cap, g, rfl, HG.out⟩, HB.out.trans (HB2.out.mono (by omega))⟩

set_option maxHeartbeats 8000000 in
set_option maxRecDepth 100000 in
theorem main_any (D : Data) (a3 : Option Addr) (c3 b3 o3 : Nat) (a4 : Option Addr) (c4 b4 o4 : Nat) (pn px : Nat → Option Addr) (a6 : Option Addr) (c6 b6 o6 : Nat) (a7 : Option Addr) (c7 b7 o7 : Nat) (a8 : Option Addr) (c8 b8 o8 : Nat) (a9 : Option Addr) (c9 b9 o9 : Nat) (w : World)
    (h3 : Pool w a3 D.np c3 b3 o3 D.P) (h4 : Bnds w a4 D.nb c4 b4 o4 D.B pn px) (h6 : Kps w a6 D.nf c6 b6 o6 D.K) (h7 : Ints 34 .i32 w a7 D.nw c7 b7 o7 D.W) (h8 : Ints 35 .i64 w a8 D.nr c8 b8 o8 D.R) (h9 : Ints 34 .i32 w a9 D.ns c9 b9 o9 D.S) :
    Calls Try.prog 6 #[.int .i64 D.t, .string D.pk, .string D.pm, .slice a3 D.np c3, .slice a4 D.nb c4, .bool D.ix, .slice a6 D.nf c6, .slice a7 D.nw c7, .slice a8 D.nr c8, .slice a9 D.ns c9] w fun e w' => e = .returned (.bool true) ∧ Below w.heap.size w w' := by
  have H14 := bytes_any D.t D.pk D.pm a3 D.np c3 b3 o3 D.P a4 a6 a7 a8 a9 D.nb c4 D.nf c6 D.nw c7 D.nr c8 D.ns c9 D.ix w h3
  have H15 := big_any D.pk D.pm a3 D.np c3 b3 o3 D.P a4 a6 a7 a8 a9 D.nb c4 D.nf c6 D.nw c7 D.nr c8 D.ns c9 w h3
  have H3 : Hid (Pool w a3 D.np c3 b3 o3 D.P) := h3
  have H4 : Hid (Bnds w a4 D.nb c4 b4 o4 D.B pn px) := h4
  have H6 : Hid (Kps w a6 D.nf c6 b6 o6 D.K) := h6
  have H7 : Hid (Ints 34 .i32 w a7 D.nw c7 b7 o7 D.W) := h7
  have H8 : Hid (Ints 35 .i64 w a8 D.nr c8 b8 o8 D.R) := h8
  have H9 : Hid (Ints 34 .i32 w a9 D.ns c9 b9 o9 D.S) := h9
  clear h3 h4 h6 h7 h8 h9
  go_enter Try.func6, Try.ntmps6
  go_wp2_with fail
  refine H14.mono ?_
  rintro e w' ⟨⟨r, rfl⟩, hw'⟩
  obtain rfl : w = w' := hw'.symm
  clear H14 hw'
  cases r
  · go_wp2_with fail
    go_ret
    exact ⟨rfl, Below.refl _ _⟩
  go_wp2_with fail
  refine H15.mono ?_
  rintro e w1 ⟨⟨r, rfl, hsz⟩, q, hw1⟩
  have HB1 : Hid (Below w.heap.size w w1) := by rw [hw1]; exact Below.drewN (Below.refl _ _) q
  have HSZ : Hid (r = false → D.np ≤ 1024 ∧ D.nb ≤ 1024 ∧ D.nf ≤ 1024 ∧ D.nw ≤ 1024 ∧ D.nr ≤ 1024 ∧ D.ns ≤ 1024) := hsz
  clear H15 hw1 hsz
  cases r
  case true =>
    go_wp2_with fail
    go_ret
    exact ⟨rfl, HB1.out⟩
  obtain ⟨t1, t2, t3, t4, t5, t6⟩ := HSZ.out rfl
  have H16 := prem_any a3 D.np c3 b3 o3 D.P a4 D.nb c4 b4 o4 D.B pn px D.ix a6 D.nf c6 b6 o6 D.K a7 D.nw c7 b7 o7 D.W a8 D.nr c8 b8 o8 D.R w1 (H3.out.below HB1.out) (H4.out.below HB1.out) (H6.out.below HB1.out) (H7.out.below HB1.out) (H8.out.below HB1.out) ⟨t1, t2, t3, t4, t5⟩
  go_wp2_with fail
  refine H16.mono ?_
  rintro e w2 ⟨⟨r, rfl, hpr⟩, q2, hw2⟩
  have HB2 : Hid (Below w.heap.size w w2) := by rw [hw2]; exact Below.drewN HB1.out q2
  have HPR : Hid (r = true → Prem D.np D.nb D.nf D.nw D.nr D.ix D.P D.B D.K D.W D.R) := hpr
  clear H16 hw2 hpr HSZ HB1
  cases r
  · go_wp2_with fail
    go_ret
    exact ⟨rfl, HB2.out⟩
  have HOK : Hid (Ok D) := ⟨t1, t2, t3, t4, t5, t6, H3.out.rg, HPR.out rfl⟩
  have H17 := copyBnds_any a4 D.nb c4 b4 o4 D.B pn px w2 t2 (H4.out.below HB2.out)
  clear HPR
  go_wp2_with fail
  refine H17.mono ?_
  rintro e w3 ⟨⟨a4', c4', b4', o4', pn', px', rfl, hf4, hB4⟩, hb3⟩
  have HB3 : Hid (Below w.heap.size w w3) := HB2.out.trans (hb3.mono HB2.out.size)
  have HF4 : Hid (0 < D.nb → ∃ g, a4' = some ⟨g, 0, none⟩ ∧ b4' = g ∧ o4' = 0) := hf4
  have HBB : Hid (Bnds w3 a4' D.nb c4' b4' o4' D.B pn' px') := hB4
  clear H17 hf4 hB4 hb3 HB2
  have H18 := copyInts_any a7 D.nw c7 b7 o7 D.W w3 t4 (H7.out.below HB3.out)
  go_wp2_with fail
  refine H18.mono ?_
  rintro e w4 ⟨⟨a7', c7', b7', o7', rfl, hI7⟩, hb4⟩
  have HB34 : Hid (Below w3.heap.size w3 w4) := hb4
  have HB4 : Hid (Below w.heap.size w w4) := HB3.out.trans (hb4.mono HB3.out.size)
  have HI7 : Hid (Ints 34 .i32 w4 a7' D.nw c7' b7' o7' D.W) := hI7
  clear H18 hI7 hb4
  have H18 := copyInts_any a9 D.ns c9 b9 o9 D.S w4 t6 (H9.out.below HB4.out)
  go_wp2_with fail
  refine H18.mono ?_
  rintro e w5 ⟨⟨a9', c9', b9', o9', rfl, hI9⟩, hb5⟩
  have HB5 : Hid (Below w.heap.size w w5) := HB4.out.trans (hb5.mono HB4.out.size)
  have HBB5 : Hid (Bnds w5 a4' D.nb c4' b4' o4' D.B pn' px') := (HBB.out.below HB34.out).below hb5
  have HI75 : Hid (Ints 34 .i32 w5 a7' D.nw c7' b7' o7' D.W) := HI7.out.below hb5
  have HI9 : Hid (Ints 34 .i32 w5 a9' D.ns c9' b9' o9' D.S) := hI9
  clear H18 hI9 hb5 HBB HI7 HB34 HB3 HB4
  have H19 := build_any D HOK.out a3 c3 b3 o3 a4' c4' b4' o4' pn' px' a6 c6 b6 o6 a7' c7' b7' o7' a8 c8 b8 o8 a9' c9' b9' o9' w5 (H3.out.below HB5.out) HBB5.out (H6.out.below HB5.out) HI75.out (H8.out.below HB5.out) HI9.out
  go_wp2_with fail
  refine H19.mono ?_
  rintro e w6 ⟨⟨gp, gl, gi, gk, gr, ra, rfl, hE⟩, hb6⟩
  have HB6 : Hid (Below w.heap.size w w6) := HB5.out.trans (hb6.mono HB5.out.size)
  have HBB6 : Hid (Bnds w6 a4' D.nb c4' b4' o4' D.B pn' px') := HBB5.out.below hb6
  have HE : Hid (Env D ⟨gp, gl, gi, gk, gr, ra, pn', px', a7', c7', b7', o7', a9', c9', b9', o9'⟩ w6) := hE
  clear H19 hE hb6 HBB5 HI75 HI9 HB5
  obtain ⟨pi, HPI⟩ : ∃ pi, Hid (pi = if D.ix = true then some (⟨gi, 0, none⟩ : Addr) else none) := ⟨_, rfl⟩
  rw [← HPI.out]
  go_wp2_with fail
  obtain ⟨wb, HWB⟩ : ∃ u, Hid (u = w6.alloc (.cells #[.slice (some ⟨gl, 0, none⟩) D.nb D.nb, .pointer pi] 45)) := ⟨_, rfl⟩
  rw [← HWB.out]
  have hsb : w6.heap.size < wb.heap.size := by rw [HWB.out]; simp
  have HBW : Hid (Below w6.heap.size w6 wb ∧ wb.heap[w6.heap.size]? = some (.cells #[.slice (some ⟨gl, 0, none⟩) D.nb D.nb, .pointer pi] 45)) := by
    rw [HWB.out]
    exact ⟨(Below.refl _ _).alloc (Nat.le_refl _) _, heap_alloc_new w6 _⟩
  clear HWB
  refine (newHeld_any D.t D.pk D.pm wb).mono ?_
  rintro e w7 ⟨rfl, hw7⟩
  have hb7 : Below wb.heap.size wb w7 := by rw [hw7]; exact (((Below.refl _ _).alloc (Nat.le_refl _) _).alloc (by simp) _).alloc (by simp <;> omega) _
  have HH : Hid (Held w7 (wb.heap.size + 1 + 1) (wb.heap.size + 1) D.t D.pk D.pm) := by
    have e1 := heap_alloc_new ((wb.alloc (.cells #[.string D.pk, .string D.pm] 51)).alloc (.cells (qCells D.t D.pk D.pm) 97)) (.cells (hCells (wb.heap.size + 1)) 95)
    have e2 := heap_alloc_new (wb.alloc (.cells #[.string D.pk, .string D.pm] 51)) (.cells (qCells D.t D.pk D.pm) 97)
    simp only [World.size_alloc] at e1 e2
    rw [hw7]
    exact ⟨e1, (Below.heap_alloc _ _ _ (by simp)).trans e2⟩
  have HB67 : Hid (Below w6.heap.size w6 w7) := HBW.out.1.trans (hb7.mono (Nat.le_of_lt hsb))
  have hbox : w7.heap[w6.heap.size]? = some (.cells #[.slice (some ⟨gl, 0, none⟩) D.nb D.nb, .pointer pi] 45) := (hb7.block _ hsb).trans HBW.out.2
  have d0 : w7.cell? ⟨w6.heap.size, 0, none⟩ = some (.slice (some ⟨gl, 0, none⟩) D.nb D.nb) := by simp [World.cell?, hbox]
  have d1 : w7.cell? ⟨w6.heap.size, 1, none⟩ = some (.pointer pi) := by simp [World.cell?, hbox]
  clear hw7 hb7 hbox HBW
  have H21 := zzLook_any D ⟨gp, gl, gi, gk, gr, ra, pn', px', a7', c7', b7', o7', a9', c9', b9', o9'⟩ HOK.out w7 (HE.out.below HB67.out) (wb.heap.size + 1 + 1) (wb.heap.size + 1) HH.out pi HPI.out
  go_wp2_with fail
  refine H21.mono ?_
  rintro e w8 ⟨⟨ag, ng, cg, gg, rfl, hG⟩, hb8⟩
  have HB68 : Hid (Below w6.heap.size w6 w8) := HB67.out.trans (hb8.mono HB67.out.size)
  have HB8 : Hid (Below w.heap.size w w8) := HB6.out.trans (HB68.out.mono HB6.out.size)
  have H22 := model_any D ⟨gp, gl, gi, gk, gr, ra, pn', px', a7', c7', b7', o7', a9', c9', b9', o9'⟩ HOK.out w8 (HE.out.below HB68.out) a3 c3 b3 o3 a4' c4' b4' o4' a6 c6 b6 o6 a8 c8 b8 o8 ⟨H3.out.below HB8.out, HBB6.out.below HB68.out, H6.out.below HB8.out, H8.out.below HB8.out⟩ ag ng cg gg hG (fun q w' hq => by
    obtain ⟨g, rfl, rfl, rfl⟩ := HF4.out (by omega)
    exact index32 .i32 _ 0 _ _ q hq w')
  clear H21 hG hb8 d0 d1
  go_wp2_with fail
  refine H22.mono ?_
  rintro e w9 ⟨rfl, hb9⟩
  have HB9 : Hid (Below w.heap.size w w9) := HB8.out.trans (hb9.mono HB8.out.size)
  clear H22 hb9
  go_wp2_with fail
  go_ret
  exact ⟨rfl, HB9.out⟩

end Go.Proofs.Qxb6618997a.Lk
