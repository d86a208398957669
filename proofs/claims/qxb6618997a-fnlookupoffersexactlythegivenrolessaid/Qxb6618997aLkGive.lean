/-
  window.active (48), role.appliesTo (49), heldRoles.gives (44), b1Gives (24), walked: one plain test.
-/
import Derived.Test.Qxb6618997aLkSmall
import Derived.Test.Qxb6618997aScEv
namespace Go.Proofs.Qxb6618997a.Lk
open Go.RowKit Go.WideMaps Go.Maps

/-- The window is open. -/
def lo1 (t : Int) : Option Int → Bool
  | none => true
  | some z => decide (z ≤ t)
def up1 (t : Int) : Option Int → Bool
  | none => true
  | some z => decide (t < z)
def act (t : Int) (nb ex : Option Int) : Bool := lo1 t nb && up1 t ex
theorem emp : (ByteArray.mk #[]).toList = [] := by
  unfold ByteArray.toList
  unfold ByteArray.toList.loop
  rfl
/-- The role is defined everywhere or in the parent. -/
def apl (pk pm ik inn : ByteArray) : Bool := (ik.toList == [] && inn.toList == []) || (pk.toList == ik.toList && pm.toList == inn.toList)

set_option maxHeartbeats 1000000 in
theorem active_any (t : Int) (pn px : Option Addr) (nb ex : Option Int) (w : World) (h1 : Says w pn nb) (h2 : Says w px ex) : Calls Try.prog 48 #[.agg #[.pointer pn, .pointer px], .int .i64 t] w fun e w' => e = .returned (.bool (act t nb ex)) ∧ w' = w.alloc (.cells #[.pointer pn, .pointer px] 69) := by
  have hA : act t nb ex = (lo1 t nb && up1 t ex) := rfl
  generalize act t nb ex = A at hA
  rcases h1 with ⟨rfl, rfl⟩ | ⟨x, o, z, rfl, rfl, hc, hl⟩
  · rcases h2 with ⟨rfl, rfl⟩ | ⟨x', o', z', rfl, rfl, hc', hl'⟩
    · go_enter Try.func48, Try.ntmps48
      go_wp2
      go_ret
      exact ⟨by rw [hA]; rfl, rfl⟩
    · simp only [lo1, up1, Bool.true_and] at hA
      go_enter Try.func48, Try.ntmps48
      go_wp2
      go_ret
      exact ⟨by rw [hA]; rfl, rfl⟩
  · rcases h2 with ⟨rfl, rfl⟩ | ⟨x', o', z', rfl, rfl, hc', hl'⟩
    · by_cases hz : z ≤ t
      · simp only [lo1, up1, hz, decide_true, Bool.and_self] at hA
        subst hA
        go_enter Try.func48, Try.ntmps48
        go_wp2
        go_ret
        exact ⟨rfl, rfl⟩
      · simp only [lo1, up1, hz, decide_false, Bool.false_and] at hA
        subst hA
        go_enter Try.func48, Try.ntmps48
        go_wp2
        go_ret
        exact ⟨rfl, rfl⟩
    · by_cases hz : z ≤ t
      · simp only [lo1, up1, hz, decide_true, Bool.true_and] at hA
        go_enter Try.func48, Try.ntmps48
        go_wp2
        go_ret
        exact ⟨by rw [hA]; rfl, rfl⟩
      · simp only [lo1, up1, hz, decide_false, Bool.false_and] at hA
        subst hA
        go_enter Try.func48, Try.ntmps48
        go_wp2
        go_ret
        exact ⟨rfl, rfl⟩

/-- The resource's cells. -/
def resCells (pk pm : ByteArray) : Array Value := #[.string ⟨#[]⟩, .string ⟨#[]⟩, .string ⟨#[]⟩, .map none, .map none, .string ⟨#[]⟩, .string pk, .string pm]

set_option maxHeartbeats 1000000 in
theorem applies_any (g : Nat) (pk pm ik inn : ByteArray) (w : World) (h1 : w.cell? ⟨g, 4, none⟩ = some (.string ik)) (h2 : w.cell? ⟨g, 5, none⟩ = some (.string inn)) (hg : g < w.heap.size) : Calls Try.prog 49 #[.pointer (some ⟨g, 0, none⟩), .agg (resCells pk pm)] w fun e w' => e = .returned (.bool (apl pk pm ik inn)) ∧ Below w.heap.size w w' := by
  have hA : apl pk pm ik inn = ((ik.toList == [] && inn.toList == []) || (pk.toList == ik.toList && pm.toList == inn.toList)) := rfl
  generalize apl pk pm ik inn = A at hA
  have q1 := fun w => Sc.eql51 ik inn ⟨#[]⟩ ⟨#[]⟩ w
  have q2 := fun w => Sc.eql51 pk pm ik inn w
  simp only [emp] at q1
  unfold resCells
  cases hd : (ik.toList == [] && inn.toList == [])
  · rw [hd] at q1 hA
    rw [Bool.false_or] at hA
    clear hd
    go_enter Try.func49, Try.ntmps49
    go_wp2
    go_quiet (fail)
    go_wp2
    go_ret
    exact ⟨by rw [hA]; rfl, Below.drewN ((Below.refl _ _).alloc (Nat.le_refl _) _) _⟩
  · rw [hd] at q1 hA
    rw [Bool.true_or] at hA
    subst hA
    clear hd q2
    go_enter Try.func49, Try.ntmps49
    go_wp2
    go_quiet (fail)
    go_wp2
    go_ret
    exact ⟨rfl, Below.drewN ((Below.refl _ _).alloc (Nat.le_refl _) _) _⟩

/-- What gives reads of h: its question's time and its resource's parent. -/
structure Held (w : World) (gh gq : Nat) (t : Int) (pk pm : ByteArray) : Prop where
  h : w.heap[gh]? = some (.cells (hCells gq) 95)
  q : w.heap[gq]? = some (.cells (qCells t pk pm) 97)
theorem Held.lt1 {w : World} {gh gq : Nat} {t : Int} {pk pm : ByteArray} (h : Held w gh gq t pk pm) : gh < w.heap.size := (Array.getElem?_eq_some_iff.mp h.h).1
theorem Held.lt2 {w : World} {gh gq : Nat} {t : Int} {pk pm : ByteArray} (h : Held w gh gq t pk pm) : gq < w.heap.size := (Array.getElem?_eq_some_iff.mp h.q).1
theorem Held.below {w w' : World} {gh gq : Nat} {t : Int} {pk pm : ByteArray} (h : Held w gh gq t pk pm) {g : Nat} (hw : Below g w w') (h1 : gh < g) (h2 : gq < g) : Held w' gh gq t pk pm := ⟨(hw.block _ h1).trans h.h, (hw.block _ h2).trans h.q⟩

/-- The binding gives its role. -/
def giv (t : Int) (pk pm ik inn : ByteArray) (nb ex : Option Int) : Bool := act t nb ex && apl pk pm ik inn

theorem held_cells {w : World} {gh gq : Nat} {t : Int} {pk pm : ByteArray} (h : Held w gh gq t pk pm) : w.cell? ⟨gh, 0, none⟩ = some (.pointer (some ⟨gq, 0, none⟩)) ∧ w.cell? ⟨gq, 18, none⟩ = some (.int .i64 t) ∧ w.cell? ⟨gq, 3, none⟩ = some (.string ⟨#[]⟩) ∧ w.cell? ⟨gq, 4, none⟩ = some (.string ⟨#[]⟩) ∧ w.cell? ⟨gq, 5, none⟩ = some (.string ⟨#[]⟩) ∧ w.cell? ⟨gq, 6, none⟩ = some (.map none) ∧ w.cell? ⟨gq, 7, none⟩ = some (.map none) ∧ w.cell? ⟨gq, 8, none⟩ = some (.string ⟨#[]⟩) ∧ w.cell? ⟨gq, 9, none⟩ = some (.string pk) ∧ w.cell? ⟨gq, 10, none⟩ = some (.string pm) := by
  have h1 := h.h
  have h2 := h.q
  refine ⟨?_, ?_, ?_, ?_, ?_, ?_, ?_, ?_, ?_, ?_⟩ <;> simp [World.cell?, h1, h2, hCells, qCells]

/-- What is held through gives' region. -/
def GK (w1 : World) (s gh gq g : Nat) (t pl : Int) (pk pm : ByteArray) (pn px : Option Addr) (u : World) : Prop :=
  Below w1.heap.size w1 u ∧ u.cell? ⟨s, 0, none⟩ = some (.pointer (some ⟨g, 0, none⟩)) ∧ u.cell? ⟨s, 1, none⟩ = some (.int .i32 pl) ∧ u.cell? ⟨s, 2, none⟩ = some (.int .i32 0) ∧ u.cell? ⟨s, 3, none⟩ = some (.pointer pn) ∧ u.cell? ⟨s, 4, none⟩ = some (.pointer px) ∧ u.cell? ⟨gh, 0, none⟩ = some (.pointer (some ⟨gq, 0, none⟩)) ∧ u.cell? ⟨gq, 18, none⟩ = some (.int .i64 t) ∧ u.cell? ⟨gq, 3, none⟩ = some (.string ⟨#[]⟩) ∧ u.cell? ⟨gq, 4, none⟩ = some (.string ⟨#[]⟩) ∧ u.cell? ⟨gq, 5, none⟩ = some (.string ⟨#[]⟩) ∧ u.cell? ⟨gq, 6, none⟩ = some (.map none) ∧ u.cell? ⟨gq, 7, none⟩ = some (.map none) ∧ u.cell? ⟨gq, 8, none⟩ = some (.string ⟨#[]⟩) ∧ u.cell? ⟨gq, 9, none⟩ = some (.string pk) ∧ u.cell? ⟨gq, 10, none⟩ = some (.string pm)

theorem gk_of {w w1 u : World} {gh gq g : Nat} {t pl : Int} {pk pm : ByteArray} {pn px : Option Addr} (hH : Held w gh gq t pk pm) (hw1 : w1 = w.alloc (.cells #[.pointer (some ⟨g, 0, none⟩), .int .i32 pl, .int .i32 0, .pointer pn, .pointer px] 71)) (hu : Below w1.heap.size w1 u) : GK w1 w.heap.size gh gq g t pl pk pm pn px u := by
  have hb : Below w.heap.size w w1 := by rw [hw1]; exact (Below.refl _ _).alloc (Nat.le_refl _) _
  have hsz : w.heap.size < w1.heap.size := by rw [hw1]; simp
  have hblk : u.heap[w.heap.size]? = some (.cells #[.pointer (some ⟨g, 0, none⟩), .int .i32 pl, .int .i32 0, .pointer pn, .pointer px] 71) := (hu.block _ hsz).trans (by rw [hw1]; exact heap_alloc_new w _)
  have hH' : Held u gh gq t pk pm := (hH.below hb hH.lt1 hH.lt2).below hu (Nat.lt_trans hH.lt1 hsz) (Nat.lt_trans hH.lt2 hsz)
  refine ⟨hu, ?_, ?_, ?_, ?_, ?_, held_cells hH'⟩ <;> simp [World.cell?, hblk]

set_option linter.unusedSimpArgs false in
set_option maxHeartbeats 4000000 in
set_option maxRecDepth 100000 in
theorem gives_any (gh gq g : Nat) (t pl : Int) (pk pm ik inn : ByteArray) (pn px : Option Addr) (nb ex : Option Int) (w : World) (hH : Held w gh gq t pk pm) (h1 : w.cell? ⟨g, 4, none⟩ = some (.string ik)) (h2 : w.cell? ⟨g, 5, none⟩ = some (.string inn)) (hg : g < w.heap.size) (hs1 : Says w pn nb) (hs2 : Says w px ex) :
    Calls Try.prog 44 #[.pointer (some ⟨gh, 0, none⟩), bval g pl pn px] w fun e w' => e = .returned (.bool (giv t pk pm ik inn nb ex)) ∧ Below w.heap.size w w' := by
  have HA : Hid (giv t pk pm ik inn nb ex = (act t nb ex && apl pk pm ik inn)) := (rfl : giv t pk pm ik inn nb ex = (act t nb ex && apl pk pm ik inn))
  generalize giv t pk pm ik inn nb ex = A at HA
  unfold bval
  have HGK : Hid (∀ w1 u, w1 = w.alloc (.cells #[.pointer (some ⟨g, 0, none⟩), .int .i32 pl, .int .i32 0, .pointer pn, .pointer px] 71) → Below w1.heap.size w1 u → GK w1 w.heap.size gh gq g t pl pk pm pn px u) := fun w1 u hw1 hu => gk_of hH hw1 hu
  have H48 : Hid (∀ u, Below w.heap.size w u → Calls Try.prog 48 #[.agg #[.pointer pn, .pointer px], .int .i64 t] u fun e w' => e = .returned (.bool (act t nb ex)) ∧ Below u.heap.size u w') := fun u hu => (active_any t pn px nb ex u (hs1.below hu) (hs2.below hu)).mono fun e w' ⟨he, hw⟩ => ⟨he, by rw [hw]; exact (Below.refl _ _).alloc (Nat.le_refl _) _⟩
  have H49 : Hid (∀ u, Below w.heap.size w u → Calls Try.prog 49 #[.pointer (some ⟨g, 0, none⟩), .agg #[.string ⟨#[]⟩, .string ⟨#[]⟩, .string ⟨#[]⟩, .map none, .map none, .string ⟨#[]⟩, .string pk, .string pm]] u fun e w' => e = .returned (.bool (apl pk pm ik inn)) ∧ Below u.heap.size u w') := fun u hu => applies_any g pk pm ik inn u ((hu.cell (p := ⟨g, 4, none⟩) hg).trans h1) ((hu.cell (p := ⟨g, 5, none⟩) hg).trans h2) (Nat.lt_of_lt_of_le hg hu.size)
  clear hH h1 h2 hs1 hs2
  go_enter Try.func44, Try.ntmps44
  go_wp2
  generalize hw1 : w.alloc (Obj.cells #[.pointer (some ⟨g, 0, none⟩), .int .i32 pl, .int .i32 0, .pointer pn, .pointer px] 71) = w1
  have HB1 : Hid (Below w.heap.size w w1) := by rw [← hw1]; exact (Below.refl _ _).alloc (Nat.le_refl _) _
  have HC : Hid (∀ u, Below w1.heap.size w1 u → GK w1 w.heap.size gh gq g t pl pk pm pn px u) := fun u hu => HGK.out w1 u hw1.symm hu
  unfold GK at HC
  clear hw1 HGK
  have HBD : Hid (Below w1.heap.size w1 w1.drew) := (Below.refl _ w1).drew
  cases hact : act t nb ex
  · rw [hact] at HA H48
    have hA := HA.out
    rw [Bool.false_and] at hA
    subst hA
    clear hact HA
    refine wp_region_held_drew (S := (fun u => Below w1.heap.size w1 u ∧ u.cell? ⟨w.heap.size, 0, none⟩ = some (.pointer (some ⟨g, 0, none⟩)) ∧ u.cell? ⟨w.heap.size, 1, none⟩ = some (.int .i32 pl) ∧ u.cell? ⟨w.heap.size, 2, none⟩ = some (.int .i32 0) ∧ u.cell? ⟨w.heap.size, 3, none⟩ = some (.pointer pn) ∧ u.cell? ⟨w.heap.size, 4, none⟩ = some (.pointer px) ∧ u.cell? ⟨gh, 0, none⟩ = some (.pointer (some ⟨gq, 0, none⟩)) ∧ u.cell? ⟨gq, 18, none⟩ = some (.int .i64 t) ∧ u.cell? ⟨gq, 3, none⟩ = some (.string ⟨#[]⟩) ∧ u.cell? ⟨gq, 4, none⟩ = some (.string ⟨#[]⟩) ∧ u.cell? ⟨gq, 5, none⟩ = some (.string ⟨#[]⟩) ∧ u.cell? ⟨gq, 6, none⟩ = some (.map none) ∧ u.cell? ⟨gq, 7, none⟩ = some (.map none) ∧ u.cell? ⟨gq, 8, none⟩ = some (.string ⟨#[]⟩) ∧ u.cell? ⟨gq, 9, none⟩ = some (.string pk) ∧ u.cell? ⟨gq, 10, none⟩ = some (.string pm))) (by kernel_rfl) (HC.out _ HBD.out) (fun hHeld => ?_)
    (refine wpAnyH_take (i := 0) (v := ?_) rfl (by kernel_rfl) (by kernel_rfl) (by kernel_rfl) (fun _ _ _ h => h) (Or.inl ⟨by rfl, ?_⟩) (by assumption) ?_; rotate_left; (intro w hSw; (try dsimp only at hSw); go_simp; try with_reducible rfl); (try simp only [Act.put, List.setIfInBounds_toArray, List.set_cons_zero, List.set_cons_succ, List.getElem_toArray, List.getElem_cons_zero, List.getElem_cons_succ]))
    (refine wpAnyH_take (i := 1) (v := ?_) rfl (by kernel_rfl) (by kernel_rfl) (by kernel_rfl) (fun _ _ _ h => h) (Or.inl ⟨by rfl, ?_⟩) (by assumption) ?_; rotate_left; (intro w hSw; (try dsimp only at hSw); go_simp; try with_reducible rfl); (try simp only [Act.put, List.setIfInBounds_toArray, List.set_cons_zero, List.set_cons_succ, List.getElem_toArray, List.getElem_cons_zero, List.getElem_cons_succ]))
    (refine wpAnyH_take (i := 2) (v := ?_) rfl (by kernel_rfl) (by kernel_rfl) (by kernel_rfl) (fun _ _ _ h => h) (Or.inl ⟨by rfl, ?_⟩) (by assumption) ?_; rotate_left; (intro w hSw; (try dsimp only at hSw); go_simp; try with_reducible rfl); (try simp only [Act.put, List.setIfInBounds_toArray, List.set_cons_zero, List.set_cons_succ, List.getElem_toArray, List.getElem_cons_zero, List.getElem_cons_succ]))
    (refine wpAnyH_take (i := 3) (v := ?_) rfl (by kernel_rfl) (by kernel_rfl) (by kernel_rfl) (fun _ _ _ h => h) (Or.inl ⟨by rfl, ?_⟩) (by assumption) ?_; rotate_left; (intro w hSw; (try dsimp only at hSw); go_simp; try with_reducible rfl); (try simp only [Act.put, List.setIfInBounds_toArray, List.set_cons_zero, List.set_cons_succ, List.getElem_toArray, List.getElem_cons_zero, List.getElem_cons_succ]))
    (refine wpAnyH_take (i := 4) (v := ?_) rfl (by kernel_rfl) (by kernel_rfl) (by kernel_rfl) (fun _ _ _ h => h) (Or.inl ⟨by rfl, ?_⟩) (by assumption) ?_; rotate_left; (intro w hSw; (try dsimp only at hSw); go_simp; try with_reducible rfl); (try simp only [Act.put, List.setIfInBounds_toArray, List.set_cons_zero, List.set_cons_succ, List.getElem_toArray, List.getElem_cons_zero, List.getElem_cons_succ]))
    (refine wpAnyH_take (i := 5) (v := ?_) rfl (by kernel_rfl) (by kernel_rfl) (by kernel_rfl) (fun _ _ _ h => h) (Or.inl ⟨by rfl, ?_⟩) (by assumption) ?_; rotate_left; (intro w hSw; (try dsimp only at hSw); go_simp; try with_reducible rfl); (try simp only [Act.put, List.setIfInBounds_toArray, List.set_cons_zero, List.set_cons_succ, List.getElem_toArray, List.getElem_cons_zero, List.getElem_cons_succ]))
    (refine wpAnyH_take (i := 6) (v := ?_) rfl (by kernel_rfl) (by kernel_rfl) (by kernel_rfl) (fun _ _ _ h => h) (Or.inl ⟨by rfl, ?_⟩) (by assumption) ?_; rotate_left; (intro w hSw; (try dsimp only at hSw); go_simp; try with_reducible rfl); (try simp only [Act.put, List.setIfInBounds_toArray, List.set_cons_zero, List.set_cons_succ, List.getElem_toArray, List.getElem_cons_zero, List.getElem_cons_succ]))
    (refine wpAnyH_take (i := 7) (v := ?_) rfl (by kernel_rfl) (by kernel_rfl) (by kernel_rfl) (fun _ _ _ h => h) (Or.inl ⟨by rfl, ?_⟩) (by assumption) ?_; rotate_left; (intro w hSw; (try dsimp only at hSw); go_simp; try with_reducible rfl); (try simp only [Act.put, List.setIfInBounds_toArray, List.set_cons_zero, List.set_cons_succ, List.getElem_toArray, List.getElem_cons_zero, List.getElem_cons_succ]))
    (refine wpAnyH_take (i := 8) (v := ?_) rfl (by kernel_rfl) (by kernel_rfl) (by kernel_rfl) (fun _ _ _ h => h) (Or.inl ⟨by rfl, ?_⟩) (by assumption) ?_; rotate_left; (intro w hSw; (try dsimp only at hSw); go_simp; try with_reducible rfl); (try simp only [Act.put, List.setIfInBounds_toArray, List.set_cons_zero, List.set_cons_succ, List.getElem_toArray, List.getElem_cons_zero, List.getElem_cons_succ]))
    refine wpAnyH_ready (rs := [9]) (by kernel_rfl) (by simp) ?_
    refine AllReadyH.cons rfl (fun K hK => ?_) AllReadyH.nil
    go_simp
    go_at_call 48
    refine (H48.out _ (HB1.out.trans (HBD.out.mono HB1.out.size))).mono ?_
    rintro e wa ⟨rfl, hba⟩
    have HBA : Hid (Below w1.heap.size w1 wa) := HBD.out.trans (hba.mono HBD.out.size)
    clear hba hHeld
    go_simp
    refine hK.out _ _ (HC.out _ HBA.out) (fun hHeld => ?_)
    clear hK K
    try simp only [Act.put, List.setIfInBounds_toArray, List.set_cons_zero, List.set_cons_succ]
    (refine wpAnyH_take (i := 10) (v := ?_) rfl (by kernel_rfl) (by kernel_rfl) (by kernel_rfl) (fun _ _ _ h => h) (Or.inl ⟨by rfl, ?_⟩) (by assumption) ?_; rotate_left; (intro w hSw; (try dsimp only at hSw); go_simp; try with_reducible rfl); (try simp only [Act.put, List.setIfInBounds_toArray, List.set_cons_zero, List.set_cons_succ, List.getElem_toArray, List.getElem_cons_zero, List.getElem_cons_succ]))
    (refine wpAnyH_take (i := 11) (v := undef) rfl (by kernel_rfl) (by kernel_rfl) (by kernel_rfl) (fun _ _ _ h => h) (Or.inr ⟨by kernel_rfl, rfl⟩) (by assumption) ?_; (try simp only [Act.put, List.setIfInBounds_toArray, List.set_cons_zero, List.set_cons_succ, List.getElem_toArray, List.getElem_cons_zero, List.getElem_cons_succ]))
    (refine wpAnyH_take (i := 12) (v := undef) rfl (by kernel_rfl) (by kernel_rfl) (by kernel_rfl) (fun _ _ _ h => h) (Or.inr ⟨by kernel_rfl, rfl⟩) (by assumption) ?_; (try simp only [Act.put, List.setIfInBounds_toArray, List.set_cons_zero, List.set_cons_succ, List.getElem_toArray, List.getElem_cons_zero, List.getElem_cons_succ]))
    (refine wpAnyH_take (i := 13) (v := undef) rfl (by kernel_rfl) (by kernel_rfl) (by kernel_rfl) (fun _ _ _ h => h) (Or.inr ⟨by kernel_rfl, rfl⟩) (by assumption) ?_; (try simp only [Act.put, List.setIfInBounds_toArray, List.set_cons_zero, List.set_cons_succ, List.getElem_toArray, List.getElem_cons_zero, List.getElem_cons_succ]))
    (refine wpAnyH_take (i := 14) (v := undef) rfl (by kernel_rfl) (by kernel_rfl) (by kernel_rfl) (fun _ _ _ h => h) (Or.inr ⟨by kernel_rfl, rfl⟩) (by assumption) ?_; (try simp only [Act.put, List.setIfInBounds_toArray, List.set_cons_zero, List.set_cons_succ, List.getElem_toArray, List.getElem_cons_zero, List.getElem_cons_succ]))
    (refine wpAnyH_take (i := 15) (v := undef) rfl (by kernel_rfl) (by kernel_rfl) (by kernel_rfl) (fun _ _ _ h => h) (Or.inr ⟨by kernel_rfl, rfl⟩) (by assumption) ?_; (try simp only [Act.put, List.setIfInBounds_toArray, List.set_cons_zero, List.set_cons_succ, List.getElem_toArray, List.getElem_cons_zero, List.getElem_cons_succ]))
    (refine wpAnyH_take (i := 16) (v := undef) rfl (by kernel_rfl) (by kernel_rfl) (by kernel_rfl) (fun _ _ _ h => h) (Or.inr ⟨by kernel_rfl, rfl⟩) (by assumption) ?_; (try simp only [Act.put, List.setIfInBounds_toArray, List.set_cons_zero, List.set_cons_succ, List.getElem_toArray, List.getElem_cons_zero, List.getElem_cons_succ]))
    (refine wpAnyH_take (i := 17) (v := undef) rfl (by kernel_rfl) (by kernel_rfl) (by kernel_rfl) (fun _ _ _ h => h) (Or.inr ⟨by kernel_rfl, rfl⟩) (by assumption) ?_; (try simp only [Act.put, List.setIfInBounds_toArray, List.set_cons_zero, List.set_cons_succ, List.getElem_toArray, List.getElem_cons_zero, List.getElem_cons_succ]))
    (refine wpAnyH_take (i := 18) (v := undef) rfl (by kernel_rfl) (by kernel_rfl) (by kernel_rfl) (fun _ _ _ h => h) (Or.inr ⟨by kernel_rfl, rfl⟩) (by assumption) ?_; (try simp only [Act.put, List.setIfInBounds_toArray, List.set_cons_zero, List.set_cons_succ, List.getElem_toArray, List.getElem_cons_zero, List.getElem_cons_succ]))
    (refine wpAnyH_take (i := 19) (v := undef) rfl (by kernel_rfl) (by kernel_rfl) (by kernel_rfl) (fun _ _ _ h => h) (Or.inr ⟨by kernel_rfl, rfl⟩) (by assumption) ?_; (try simp only [Act.put, List.setIfInBounds_toArray, List.set_cons_zero, List.set_cons_succ, List.getElem_toArray, List.getElem_cons_zero, List.getElem_cons_succ]))
    (refine wpAnyH_take (i := 20) (v := undef) rfl (by kernel_rfl) (by kernel_rfl) (by kernel_rfl) (fun _ _ _ h => h) (Or.inr ⟨by kernel_rfl, rfl⟩) (by assumption) ?_; (try simp only [Act.put, List.setIfInBounds_toArray, List.set_cons_zero, List.set_cons_succ, List.getElem_toArray, List.getElem_cons_zero, List.getElem_cons_succ]))
    (refine wpAnyH_take (i := 21) (v := undef) rfl (by kernel_rfl) (by kernel_rfl) (by kernel_rfl) (fun _ _ _ h => h) (Or.inr ⟨by kernel_rfl, rfl⟩) (by assumption) ?_; (try simp only [Act.put, List.setIfInBounds_toArray, List.set_cons_zero, List.set_cons_succ, List.getElem_toArray, List.getElem_cons_zero, List.getElem_cons_succ]))
    (refine wpAnyH_take (i := 22) (v := ?_) rfl (by kernel_rfl) (by kernel_rfl) (by kernel_rfl) (fun _ _ _ h => h) (Or.inl ⟨by rfl, ?_⟩) (by assumption) ?_; rotate_left; (intro w hSw; (try dsimp only at hSw); go_simp; try with_reducible rfl); (try simp only [Act.put, List.setIfInBounds_toArray, List.set_cons_zero, List.set_cons_succ, List.getElem_toArray, List.getElem_cons_zero, List.getElem_cons_succ]))
    (refine wpAnyH_take (i := 23) (v := ?_) rfl (by kernel_rfl) (by kernel_rfl) (by kernel_rfl) (fun _ _ _ h => h) (Or.inl ⟨by rfl, ?_⟩) (by assumption) ?_; rotate_left; (intro w hSw; (try dsimp only at hSw); go_simp; try with_reducible rfl); (try simp only [Act.put, List.setIfInBounds_toArray, List.set_cons_zero, List.set_cons_succ, List.getElem_toArray, List.getElem_cons_zero, List.getElem_cons_succ]))
    refine wpAnyH_done (by kernel_rfl) ?_ _
    go_wp2_with fail
    go_ret
    exact ⟨rfl, HB1.out.trans (HBA.out.mono HB1.out.size)⟩
  · rw [hact] at HA H48
    have hA := HA.out
    rw [Bool.true_and] at hA
    subst hA
    clear hact HA
    go_region_held3 (fun u => Below w1.heap.size w1 u ∧ u.cell? ⟨w.heap.size, 0, none⟩ = some (.pointer (some ⟨g, 0, none⟩)) ∧ u.cell? ⟨w.heap.size, 1, none⟩ = some (.int .i32 pl) ∧ u.cell? ⟨w.heap.size, 2, none⟩ = some (.int .i32 0) ∧ u.cell? ⟨w.heap.size, 3, none⟩ = some (.pointer pn) ∧ u.cell? ⟨w.heap.size, 4, none⟩ = some (.pointer px) ∧ u.cell? ⟨gh, 0, none⟩ = some (.pointer (some ⟨gq, 0, none⟩)) ∧ u.cell? ⟨gq, 18, none⟩ = some (.int .i64 t) ∧ u.cell? ⟨gq, 3, none⟩ = some (.string ⟨#[]⟩) ∧ u.cell? ⟨gq, 4, none⟩ = some (.string ⟨#[]⟩) ∧ u.cell? ⟨gq, 5, none⟩ = some (.string ⟨#[]⟩) ∧ u.cell? ⟨gq, 6, none⟩ = some (.map none) ∧ u.cell? ⟨gq, 7, none⟩ = some (.map none) ∧ u.cell? ⟨gq, 8, none⟩ = some (.string ⟨#[]⟩) ∧ u.cell? ⟨gq, 9, none⟩ = some (.string pk) ∧ u.cell? ⟨gq, 10, none⟩ = some (.string pm))
      (first | exact HC.out _ HBD.out | exact HC.out _ HBA.out | exact HC.out _ HBE.out)
      (first | (go_at_call 48; refine (H48.out _ (HB1.out.trans (HBD.out.mono HB1.out.size))).mono ?_; rintro e wa ⟨rfl, hba⟩; have HBA : Hid (Below w1.heap.size w1 wa) := HBD.out.trans (hba.mono HBD.out.size); clear hba) | (go_at_call 49; refine (H49.out _ (HB1.out.trans (HBA.out.mono HB1.out.size))).mono ?_; rintro e wb ⟨rfl, hbb⟩; have HBE : Hid (Below w1.heap.size w1 wb) := HBA.out.trans (hbb.mono HBA.out.size); clear hbb))
    all_goals
      go_wp2_with fail
      go_ret
      exact ⟨rfl, HB1.out.trans (HBE.out.mono HB1.out.size)⟩

end Go.Proofs.Qxb6618997a.Lk
