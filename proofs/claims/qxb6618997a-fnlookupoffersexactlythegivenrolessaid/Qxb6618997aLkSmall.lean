/-
  The makers ZZnewRole (27), ZZnewBinding (28), ZZnewKeyPlace (29), ZZnewListIndex (30), ZZnewHeldList (31), ZZnewHeldRoles (20); bindingPlace (37), keyOf (40), cmp.Compare (43), the two comparers (42, 46), walked.
-/
import Derived.Test.Qxb6618997aLkCopy
namespace Go.Proofs.Qxb6618997a.Lk
open Go.RowKit Go.WideMaps Go.Maps

/-- A role's cells. -/
def roleCells (pl : Int) (ik inn : ByteArray) : Array Value := #[.string ⟨#[]⟩, .bool false, .int .i64 pl, .int .i32 0, .string ik, .string inn, .int .i64 0, .map none, .bool false, .map none, .map none, .map none, .map none]
/-- A question's cells. -/
def qCells (t : Int) (pk pm : ByteArray) : Array Value := #[.string ⟨#[]⟩, .slice none 0 0, .string ⟨#[]⟩, .string ⟨#[]⟩, .string ⟨#[]⟩, .string ⟨#[]⟩, .map none, .map none, .string ⟨#[]⟩, .string pk, .string pm, .pointer none, .pointer none, .int .i64 0, .pointer none, .pointer none, .map none, .slice none 0 0, .int .i64 t, .pointer none, .slice none 0 0, .slice none 0 0, .slice none 0 0, .pointer none, .slice none 0 0, .pointer none, .pointer none, .slice none 0 0, .slice none 0 0, .slice none 0 0, .pointer none, .slice none 0 0, .pointer none]
def hCells (q : Nat) : Array Value := #[.pointer (some ⟨q, 0, none⟩), .slice none 0 0, .slice none 0 0, .slice none 0 0, .pointer none, .slice none 0 0, .pointer none]
/-- A binding's value. -/
def bval (r : Nat) (pl : Int) (pn px : Option Addr) : Value := .agg #[.pointer (some ⟨r, 0, none⟩), .int .i32 pl, .int .i32 0, .pointer pn, .pointer px]

set_option maxRecDepth 100000 in
theorem newHeld_any (t : Int) (pk pm : ByteArray) (w : World) : Calls Try.prog 20 #[.int .i64 t, .agg #[.string pk, .string pm]] w fun e w' => e = .returned (.pointer (some ⟨w.heap.size + 1 + 1, 0, none⟩)) ∧ w' = ((w.alloc (.cells #[.string pk, .string pm] 51)).alloc (.cells (qCells t pk pm) 97)).alloc (.cells (hCells (w.heap.size + 1)) 95) := by
  go_enter Try.func20, Try.ntmps20
  go_wp2
  go_ret
  exact ⟨rfl, rfl⟩
theorem newRole_any (pl : Int) (ik inn : ByteArray) (w : World) : Calls Try.prog 27 #[.int .i64 pl, .agg #[.string ik, .string inn]] w fun e w' => e = .returned (.pointer (some ⟨w.heap.size + 1, 0, none⟩)) ∧ w' = (w.alloc (.cells #[.string ik, .string inn] 51)).alloc (.cells (roleCells pl ik inn) 110) := by
  go_enter Try.func27, Try.ntmps27
  go_wp2
  go_ret
  exact ⟨rfl, rfl⟩
theorem newBinding_any (g : Nat) (pl : Int) (pn px : Option Addr) (w : World) (h : w.cell? ⟨g, 2, none⟩ = some (.int .i64 pl)) (hl : g < w.heap.size) (hpl : -2147483648 ≤ pl ∧ pl ≤ 2147483647) : Calls Try.prog 28 #[.pointer (some ⟨g, 0, none⟩), .pointer pn, .pointer px] w fun e w' => e = .returned (bval g pl pn px) ∧ Below w.heap.size w w' := by
  have hcv : IntKind.i32.wrap pl = pl := by rw [IntKind.wrap_i32]; omega
  go_enter Try.func28, Try.ntmps28
  go_wp2
  refine bodyPost_ret (results_cell_row (d := _) rfl _ _ w.heap.size 71 #[.pointer (some ⟨g, 0, none⟩), .int .i32 pl, .int .i32 0, .pointer pn, .pointer px] (0, 0) rfl ?_ Try.underlying71 rfl (by kernel_rfl)) rfl ?_
  · exact heap_alloc_new w _
  · exact ⟨rfl, (Below.refl _ _).alloc (Nat.le_refl _) _⟩
theorem newKeyPlace_any (x y : Int) (w : World) : Calls Try.prog 29 #[.int .i32 x, .int .i32 y] w fun e w' => e = .returned (.agg #[.int .i32 x, .int .i32 y]) ∧ Below w.heap.size w w' := by
  go_enter Try.func29, Try.ntmps29
  go_wp2
  refine bodyPost_ret (results_cell_row (d := _) rfl _ _ w.heap.size 75 #[.int .i32 x, .int .i32 y] (0, 0) rfl ?_ Try.underlying75 rfl (by kernel_rfl)) rfl ?_
  · exact heap_alloc_new w _
  · exact ⟨rfl, (Below.refl _ _).alloc (Nat.le_refl _) _⟩
theorem newIndex_any (a : Option Addr) (n c : Nat) (a' : Option Addr) (n' c' : Nat) (w : World) : Calls Try.prog 30 #[.slice a n c, .slice a' n' c'] w fun e w' => e = .returned (.pointer (some ⟨w.heap.size, 0, none⟩)) ∧ w' = w.alloc (.cells #[.slice a n c, .slice a' n' c'] 112) := by
  go_enter Try.func30, Try.ntmps30
  go_wp2
  go_ret
  exact ⟨rfl, rfl⟩
theorem newList_any (a : Option Addr) (n c : Nat) (p : Option Addr) (w : World) : Calls Try.prog 31 #[.slice a n c, .pointer p] w fun e w' => e = .returned (.agg #[.slice a n c, .pointer p]) ∧ w' = w.alloc (.cells #[.slice a n c, .pointer p] 45) := by
  go_enter Try.func31, Try.ntmps31
  go_wp2
  refine bodyPost_ret (results_cell_row (d := _) rfl _ _ w.heap.size 45 #[.slice a n c, .pointer p] (0, 0) rfl ?_ Try.underlying45 rfl (by kernel_rfl)) rfl ?_
  · exact heap_alloc_new w _
  · exact ⟨rfl, rfl⟩

theorem place_any (r : Nat) (pl : Int) (pn px : Option Addr) (w : World) : Calls Try.prog 37 #[bval r pl pn px] w fun e w' => e = .returned (.int .i32 pl) ∧ Below w.heap.size w w' := by
  unfold bval
  go_enter Try.func37, Try.ntmps37
  go_wp2
  go_ret
  exact ⟨rfl, (Below.refl _ _).alloc (Nat.le_refl _) _⟩
theorem key_any (x y : Int) (w : World) : Calls Try.prog 40 #[.agg #[.int .i32 x, .int .i32 y]] w fun e w' => e = .returned (.int .i32 x) ∧ Below w.heap.size w w' := by
  go_enter Try.func40, Try.ntmps40
  go_wp2
  go_ret
  exact ⟨rfl, (Below.refl _ _).alloc (Nat.le_refl _) _⟩

/-- What cmp.Compare gives. -/
def cmpI (x y : Int) : Int := if x < y then -1 else if y < x then 1 else 0
theorem isNaN_any (x : Int) (w : World) : Calls Try.prog 47 #[.int .i32 x] w fun e w' => e = .returned (.bool false) ∧ w' = w := by
  go_enter Try.func47, Try.ntmps47
  go_wp2
  go_ret
  exact ⟨rfl, rfl⟩
theorem cmp_any (x y : Int) (w : World) : Calls Try.prog 43 #[.int .i32 x, .int .i32 y] w fun e w' => e = .returned (.int .i64 (cmpI x y)) ∧ w' = w := by
  have h : cmpI x y = if x < y then -1 else if y < x then 1 else 0 := rfl
  generalize cmpI x y = c at h
  by_cases h1 : x < y
  · rw [if_pos h1] at h
    subst h
    go_enter Try.func43, Try.ntmps43
    go_wp2_with (go_at_call 47; refine (isNaN_any _ _).mono ?_; rintro e w' ⟨rfl, rfl⟩)
    go_ret
    exact ⟨rfl, rfl⟩
  · rw [if_neg h1] at h
    by_cases h2 : y < x
    · rw [if_pos h2] at h
      subst h
      go_enter Try.func43, Try.ntmps43
      go_wp2_with (go_at_call 47; refine (isNaN_any _ _).mono ?_; rintro e w' ⟨rfl, rfl⟩)
      go_ret
      exact ⟨rfl, rfl⟩
    · rw [if_neg h2] at h
      subst h
      go_enter Try.func43, Try.ntmps43
      go_wp2_with (go_at_call 47; refine (isNaN_any _ _).mono ?_; rintro e w' ⟨rfl, rfl⟩)
      go_ret
      exact ⟨rfl, rfl⟩

theorem cmpB_any (r : Nat) (pl k : Int) (pn px : Option Addr) (g : Nat) (w : World) (h : w.cell? ⟨g, 0, none⟩ = some (.func (.func 37) #[] #[])) (hg : g < w.heap.size) : Calls Try.prog 42 #[bval r pl pn px, .int .i32 k, .pointer (some ⟨g, 0, none⟩)] w fun e w' => e = .returned (.int .i64 (cmpI pl k)) ∧ Below w.heap.size w w' := by
  have hp := fun u : World => place_any r pl pn px u
  unfold bval at hp ⊢
  go_enter Try.func42, Try.ntmps42
  go_wp2_with (first | (go_at_call 37; refine (hp _).mono ?_; rintro e w' ⟨rfl, hb⟩) | (go_at_call 43; refine (cmp_any _ _ _).mono ?_; rintro e w' ⟨rfl, rfl⟩))
  go_ret
  exact ⟨rfl, ((Below.refl _ _).alloc (Nat.le_refl _) _).trans (hb.mono (by simp))⟩
theorem cmpK_any (x y k : Int) (g : Nat) (w : World) (h : w.cell? ⟨g, 0, none⟩ = some (.func (.func 40) #[] #[])) (hg : g < w.heap.size) : Calls Try.prog 46 #[.agg #[.int .i32 x, .int .i32 y], .int .i32 k, .pointer (some ⟨g, 0, none⟩)] w fun e w' => e = .returned (.int .i64 (cmpI x k)) ∧ Below w.heap.size w w' := by
  go_enter Try.func46, Try.ntmps46
  go_wp2_with (first | (go_at_call 40; refine (key_any _ _ _).mono ?_; rintro e w' ⟨rfl, hb⟩) | (go_at_call 43; refine (cmp_any _ _ _).mono ?_; rintro e w' ⟨rfl, rfl⟩))
  go_ret
  exact ⟨rfl, ((Below.refl _ _).alloc (Nat.le_refl _) _).trans (hb.mono (by simp))⟩

end Go.Proofs.Qxb6618997a.Lk
