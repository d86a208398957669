/-
  ZZlookUp's closure (33) and offerGiven (38), walked: the role of a binding that gives is appended to what was collected.
-/
import Derived.Test.Qxb6618997aLkGive
import Derived.Test.Qxb6618997aLkRun
namespace Go.Proofs.Qxb6618997a.Lk
open Go.RowKit Go.WideMaps Go.Maps

theorem end0 {fn : Func} {R : Ending → World → Prop} {a : Act} {w : World} (hr : fn.results = #[]) (hd : a.defers = []) (hR : R (.returned (.tuple #[])) w) : bodyPost Try.prog fn R .normal a w :=
  bodyPost_end (v := .tuple #[]) (by simp [results, hr, go_sem]) hd hR

def rptrs (l : List Nat) : List Value := l.map fun r => Value.pointer (some ⟨r, 0, none⟩)

theorem own_form {w : World} {base : Nat} {e : TypeId} {size : Nat} {v : Value} {n : Nat} {xs : List Value} (h : w.ownsRow base e size v n xs) : ∃ ao cap g, v = .slice ao n cap ∧ (0 < n → ao = some ⟨g, 0, none⟩ ∧ base ≤ g ∧ g < w.heap.size) := by
  by_cases h0 : n = 0
  · rcases h.2 with ⟨rfl, _⟩ | ⟨g, cap, cur, rfl, _⟩
    · exact ⟨none, 0, 0, by rw [h0], fun hn => absurd hn (by omega)⟩
    · exact ⟨_, cap, g, rfl, fun hn => absurd hn (by omega)⟩
  · obtain ⟨g, cap, rfl, hb, hlt⟩ := h.form (by omega)
    exact ⟨_, cap, g, rfl, fun _ => ⟨rfl, hb, hlt⟩⟩
theorem own_ge {w : World} {base : Nat} {e : TypeId} {size : Nat} {v : Value} {n : Nat} {xs : List Value} (h : w.ownsRow base e size v n xs) {k : Nat} (hk : k < base) : some k ≠ v.ownBlock := fun e => by
  have := h.lt k e.symm
  omega
theorem ownsRow_setCell_far {w : World} {base : Nat} {e : TypeId} {size : Nat} {v : Value} {n : Nat} {xs : List Value} (h : w.ownsRow base e size v n xs) {a : Addr} (ha : a.block < base) (u : Value) : (w.setCell a u).ownsRow base e size v n xs := by
  refine ⟨h.1, ?_⟩
  rcases h.2 with h0 | ⟨g, cap, cur, hv, hb, hg, r⟩
  · exact .inl h0
  · exact .inr ⟨g, cap, cur, hv, hb, (Below.heap_setCell _ _ _ _ (by omega)).trans hg, r⟩
theorem own_below {w w' : World} {base : Nat} {e : TypeId} {size : Nat} {v : Value} {n : Nat} {xs : List Value} (h : w.ownsRow base e size v n xs) (hw : Below w.heap.size w w') : w'.ownsRow base e size v n xs := by
  refine ⟨h.1, ?_⟩
  rcases h.2 with h0 | ⟨g, cap, cur, hv, hb, hg, r⟩
  · exact .inl h0
  · exact .inr ⟨g, cap, cur, hv, hb, (hw.block g (Array.getElem?_eq_some_iff.mp hg).1).trans hg, r⟩

/-- What was collected: the variable in block c, its row at base or behind it. -/
def LI (c base : Nat) (l : List Nat) (w : World) : Prop := ∃ ve, w.heap[c]? = some (.cells #[ve] 41 (0, 0)) ∧ w.ownsRow base 55 1 ve l.length (rptrs l)
theorem LI.below {c base : Nat} {l : List Nat} {w w' : World} (h : LI c base l w) (hw : Below w.heap.size w w') : LI c base l w' := by
  obtain ⟨ve, h1, h2⟩ := h
  exact ⟨ve, (hw.block c (Array.getElem?_eq_some_iff.mp h1).1).trans h1, own_below h2 hw⟩

/-- Below base all but block c is as it was. -/
def Far (c base : Nat) (w w' : World) : Prop := w.heap.size ≤ w'.heap.size ∧ ∀ k, k < base → k ≠ c → w'.heap[k]? = w.heap[k]?
theorem Far.refl (c base : Nat) (w : World) : Far c base w w := ⟨Nat.le_refl _, fun _ _ _ => rfl⟩
theorem Far.trans {c base : Nat} {u v w : World} (h : Far c base u v) (k : Far c base v w) : Far c base u w := ⟨Nat.le_trans h.1 k.1, fun i h1 h2 => (k.2 i h1 h2).trans (h.2 i h1 h2)⟩
theorem far_of {c base : Nat} {w w' : World} (h : Below w.heap.size w w') (hb : base ≤ w.heap.size) : Far c base w w' := ⟨h.size, fun k hk _ => h.block k (by omega)⟩

theorem info55 : (Try.prog.info? 55).map (fun i => (i.zero, i.size, i.bytes)) = some (some (.pointer none), 1, 8) := by kernel_rfl

theorem li_push {c base g2 cap2 : Nat} {l : List Nat} {r : Nat} {ve : Value} {o : Obj} {w w3 : World} (hc : c < base) (h1 : c < w.heap.size) (hs : w.heap[c]? = some (.cells #[ve] 41 (0, 0)))
    (own : w.ownsRow base 55 1 ve l.length (rptrs l)) (own3 : w3.ownsRow base 55 1 (.slice (some ⟨g2, 0, none⟩) (l.length + 1) cap2) (l.length + 1) (rptrs l ++ [.pointer (some ⟨r, 0, none⟩)])) (hg : (w.alloc o).grownBy w3 ve.ownBlock) :
    LI c base (l ++ [r]) (w3.setCell ⟨c, 0, none⟩ (.slice (some ⟨g2, 0, none⟩) (l.length + 1) cap2)) := by
  have hb : w3.heap[c]? = some (.cells #[ve] 41 (0, 0)) := (hg.block c (by simp <;> omega) (own_ge own hc)).trans ((Below.heap_alloc _ _ _ h1).trans hs)
  refine ⟨.slice (some ⟨g2, 0, none⟩) (l.length + 1) cap2, ?_, ?_⟩
  · simp [World.setCell, Array.getElem?_modify, hb]
  · rw [rptrs, List.map_append, List.length_append]
    exact ownsRow_setCell_far own3 hc _

set_option maxHeartbeats 1000000 in
set_option maxRecDepth 100000 in
theorem collect_any (c base r : Nat) (l : List Nat) (w : World) (h : LI c base l w) (hc : c < base) (hb : base ≤ w.heap.size) (hl : l.length ≤ 4000000) :
    Calls Try.prog 33 #[.pointer (some ⟨r, 0, none⟩), .pointer (some ⟨c, 0, none⟩)] w fun e w' => e = .returned (.tuple #[]) ∧ LI c base (l ++ [r]) w' ∧ Below c w w' ∧ Far c base w w' := by
  obtain ⟨ve, hcell, own⟩ := h
  obtain ⟨ao, cap, g, rfl, hao⟩ := own_form own
  have HOW : Hid (w.heap[c]? = some (.cells #[.slice ao l.length cap] 41 (0, 0)) ∧ w.ownsRow base 55 1 (.slice ao l.length cap) l.length (rptrs l)) := ⟨hcell, own⟩
  have c0 : w.cell? ⟨c, 0, none⟩ = some (.slice ao l.length cap) := by simp [World.cell?, hcell]
  obtain ⟨i0, hi0, hz0, hz1, hz2⟩ := info_parts info55
  have hcl : c < w.heap.size := by omega
  clear hcell own hao
  go_enter Try.func33, Try.ntmps33
  go_wp2_with (at_builtin; refine wpList_append_lies _ rfl (.tmp 3) (.tmp 5) 41 rfl base 55 i0 _ 1 8 Try.underlying41 hi0 hz0 hz1 hz2 rfl (by decide) (.slice ao l.length cap) l.length (rptrs l) rfl (HOW.out.2.alloc _) ⟨w.heap.size, 0, none⟩ 1 1 [.pointer (some ⟨r, 0, none⟩)] rfl rfl (World.news_of_block (heap_alloc_new _ _)) (by simp [Value.oneCell']) (by decide) (by unfold maxLen <;> omega) (by omega) (by simp <;> omega) _ rfl ?_; intro g2 cap2 w3 own3 hgrow hat hlt3; have HG3 : Hid (w3.ownsRow base 55 1 (.slice (some ⟨g2, 0, none⟩) (l.length + 1) cap2) (l.length + 1) (rptrs l ++ [.pointer (some ⟨r, 0, none⟩)]) ∧ (w.alloc (.cells #[.pointer (some ⟨r, 0, none⟩)] 55)).grownBy w3 (Value.slice ao l.length cap).ownBlock) := ⟨own3, hgrow⟩; have hblk : w3.heap[c]? = some (.cells #[.slice ao l.length cap] 41 (0, 0)) := (hgrow.block c (by simp <;> omega) (own_ge HOW.out.2 hc)).trans ((Below.heap_alloc _ _ _ hcl).trans HOW.out.1); have y1 : w3.cell? ⟨c, 0, none⟩ = some (.slice ao l.length cap) := (by simp [World.cell?, hblk]); have y2 : w3.frozen? ⟨c, 0, none⟩ = false := (by simp [World.frozen?, hblk]); clear own3 hgrow hat hblk)
  refine end0 Try.results33 rfl ?_
  exact ⟨rfl, li_push hc hcl HOW.out.1 HOW.out.2 HG3.out.1 HG3.out.2, ((((Below.refl c w).alloc (Nat.le_of_lt hcl) _).grown HG3.out.2 (by simp <;> omega) (fun k hk => by have := HOW.out.2.lt k hk; omega)).setCell (Nat.le_refl _) _), by
    have := HG3.out.2.size
    simp at this ⊢
    omega, fun k h1 h2 => (Below.heap_setCell _ _ _ _ h2).trans ((HG3.out.2.block k (by simp <;> omega) (own_ge HOW.out.2 h1)).trans (Below.heap_alloc _ _ _ (by omega)))⟩

set_option maxHeartbeats 1000000 in
set_option maxRecDepth 100000 in
theorem offer_any (gh gq c base r : Nat) (t pl : Int) (pk pm ik inn : ByteArray) (pn px : Option Addr) (nb ex : Option Int) (l : List Nat) (w : World) (hH : Held w gh gq t pk pm) (h1 : w.cell? ⟨r, 4, none⟩ = some (.string ik)) (h2 : w.cell? ⟨r, 5, none⟩ = some (.string inn)) (hr : r < w.heap.size) (hs1 : Says w pn nb) (hs2 : Says w px ex)
    (h : LI c base l w) (hc : c < base) (hb : base ≤ w.heap.size) (hl : l.length ≤ 4000000) :
    Calls Try.prog 38 #[.pointer (some ⟨gh, 0, none⟩), bval r pl pn px, .func (.func 33) #[] #[.pointer (some ⟨c, 0, none⟩)]] w fun e w' => e = .returned (.tuple #[]) ∧ LI c base (l ++ if giv t pk pm ik inn nb ex then [r] else []) w' ∧ Below c w w' ∧ Far c base w w' := by
  have HL : Hid (LI c base l w) := h
  have HG : Hid (∀ u, Below w.heap.size w u → Calls Try.prog 44 #[.pointer (some ⟨gh, 0, none⟩), .agg #[.pointer (some ⟨r, 0, none⟩), .int .i32 pl, .int .i32 0, .pointer pn, .pointer px]] u fun e w' => e = .returned (.bool (giv t pk pm ik inn nb ex)) ∧ Below u.heap.size u w') := fun u hu => gives_any gh gq r t pl pk pm ik inn pn px nb ex u (hH.below hu hH.lt1 hH.lt2) ((hu.cell (p := ⟨r, 4, none⟩) hr).trans h1) ((hu.cell (p := ⟨r, 5, none⟩) hr).trans h2) (Nat.lt_of_lt_of_le hr hu.size) (hs1.below hu) (hs2.below hu)
  unfold bval
  clear h hH h1 h2 hs1 hs2 hr
  generalize giv t pk pm ik inn nb ex = G at HG
  go_enter Try.func38, Try.ntmps38
  go_wp2_with fail
  generalize hw1 : w.alloc (Obj.cells #[.pointer (some ⟨r, 0, none⟩), .int .i32 pl, .int .i32 0, .pointer pn, .pointer px] 71) = w1
  have HB1 : Hid (Below w.heap.size w w1) := by rw [← hw1]; exact (Below.refl _ _).alloc (Nat.le_refl _) _
  have HX : Hid (w.heap.size < w1.heap.size ∧ w1.cell? ⟨w.heap.size, 0, none⟩ = some (.pointer (some ⟨r, 0, none⟩))) := ⟨by rw [← hw1]; simp, by rw [← hw1, World.cell?, heap_alloc_new]; rfl⟩
  clear hw1
  cases G
  · go_wp2_with (go_at_call 44; refine (HG.out _ HB1.out).mono ?_; rintro e w2 ⟨rfl, hb2⟩; have HB2 : Hid (Below w1.heap.size w1 w2) := hb2; clear hb2)
    refine end0 Try.results38 rfl ?_
    have hbb : Below w.heap.size w w2 := HB1.out.trans (HB2.out.mono HB1.out.size)
    refine ⟨rfl, ?_, hbb.mono (by omega), far_of hbb hb⟩
    simpa using HL.out.below hbb
  · go_wp2_with (go_at_call 44; refine (HG.out _ HB1.out).mono ?_; rintro e w2 ⟨rfl, hb2⟩; have HB2 : Hid (Below w1.heap.size w1 w2) := hb2; have y0 := (hb2.cell (p := ⟨w.heap.size, 0, none⟩) HX.out.1).trans HX.out.2; clear hb2)
    have HBB : Hid (Below w.heap.size w w2) := HB1.out.trans (HB2.out.mono HB1.out.size)
    refine (collect_any c base r l w2 (HL.out.below HBB.out) hc (Nat.le_trans hb HBB.out.size) hl).mono ?_
    rintro e w3 ⟨rfl, hli, hb3, hf3⟩
    have HLI : Hid (LI c base (l ++ [r]) w3 ∧ Below c w2 w3 ∧ Far c base w2 w3) := ⟨hli, hb3, hf3⟩
    clear hli hb3 hf3
    go_wp2_with fail
    refine end0 Try.results38 rfl ?_
    exact ⟨rfl, HLI.out.1, (HBB.out.mono (by omega)).trans HLI.out.2.1, (far_of HBB.out hb).trans HLI.out.2.2⟩

end Go.Proofs.Qxb6618997a.Lk
