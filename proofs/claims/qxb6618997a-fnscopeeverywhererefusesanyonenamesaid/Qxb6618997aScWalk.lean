/-
  FnScopeEverywhereRefusesAnyOneName (5), walked, the rest.
-/
import Derived.Test.Qxb6618997aScMain
namespace Go.Proofs.Qxb6618997a.Sc
open Go.RowKit

set_option maxHeartbeats 2000000 in
theorem walk_in3 (a0 a1 a2 a3 a4 a5 a7 : ByteArray) (w : World) :
    Calls Try.prog 5 #[.string a0, .string a1, .string a2, .string a3, .string a4, .string a5, .int .i64 3, .string a7] w fun e w' => e = .returned (.bool true) ∧ Grown w w' := by
  go_enter Try.func5, Try.ntmps5
  go_wp2_with (go_at_call 13; refine (bytes_any _ _ _ _ _ _ _ _ _).mono ?_; rintro e w' ⟨⟨r, rfl⟩, hw⟩; rw [hw]; clear hw)
  all_goals try (go_ret; exact ⟨rfl, Grown.refl _⟩)
  have hx : a7.toList.isEmpty = false := by assumption
  rename_i K hK
  have hK' : ∀ (a : Act) (w' : World), a.tmps[16]? = some (.bool true) → a.defers = [] → Grown w w' → K a w' := fun a w' h1 h2 h3 => by
    refine hK a w' (wp_ret (bodyPost_ret (results_tmp rfl _ _ _) h2 ⟨?_, h3⟩))
    have : a.tmps.getD 16 undef = .bool true := by simp [Array.getD_eq_getD_getElem?, h1]
    exact congrArg Ending.returned this
  clear hK
  go_region_with (go_at_call 12; refine (b1Ev_any _ _ _ _ _ _ _).mono ?_; rintro e w' ⟨rfl, rfl⟩; simp only [long3 _ _ _ _ _ _ _ hx, lone3, w12, w26, w35])
  all_goals refine hK' _ _ rfl rfl ?_
  all_goals repeat (with_reducible (first | exact Grown.refl _ | apply Grown.drew | apply Grown.alloc))

set_option maxHeartbeats 2000000 in
theorem walk_in4 (a0 a1 a2 a3 a4 a5 a7 : ByteArray) (w : World) :
    Calls Try.prog 5 #[.string a0, .string a1, .string a2, .string a3, .string a4, .string a5, .int .i64 4, .string a7] w fun e w' => e = .returned (.bool true) ∧ Grown w w' := by
  go_enter Try.func5, Try.ntmps5
  go_wp2_with (go_at_call 13; refine (bytes_any _ _ _ _ _ _ _ _ _).mono ?_; rintro e w' ⟨⟨r, rfl⟩, hw⟩; rw [hw]; clear hw)
  all_goals try (go_ret; exact ⟨rfl, Grown.refl _⟩)
  have hx : a7.toList.isEmpty = false := by assumption
  rename_i K hK
  have hK' : ∀ (a : Act) (w' : World), a.tmps[16]? = some (.bool true) → a.defers = [] → Grown w w' → K a w' := fun a w' h1 h2 h3 => by
    refine hK a w' (wp_ret (bodyPost_ret (results_tmp rfl _ _ _) h2 ⟨?_, h3⟩))
    have : a.tmps.getD 16 undef = .bool true := by simp [Array.getD_eq_getD_getElem?, h1]
    exact congrArg Ending.returned this
  clear hK
  go_region_with (go_at_call 12; refine (b1Ev_any _ _ _ _ _ _ _).mono ?_; rintro e w' ⟨rfl, rfl⟩; simp only [long4 _ _ _ _ _ _ _ hx, lone4, w12, w26, w35])
  all_goals refine hK' _ _ rfl rfl ?_
  all_goals repeat (with_reducible (first | exact Grown.refl _ | apply Grown.drew | apply Grown.alloc))

set_option maxHeartbeats 2000000 in
theorem walk_in5 (a0 a1 a2 a3 a4 a5 a7 : ByteArray) (w : World) :
    Calls Try.prog 5 #[.string a0, .string a1, .string a2, .string a3, .string a4, .string a5, .int .i64 5, .string a7] w fun e w' => e = .returned (.bool true) ∧ Grown w w' := by
  go_enter Try.func5, Try.ntmps5
  go_wp2_with (go_at_call 13; refine (bytes_any _ _ _ _ _ _ _ _ _).mono ?_; rintro e w' ⟨⟨r, rfl⟩, hw⟩; rw [hw]; clear hw)
  all_goals try (go_ret; exact ⟨rfl, Grown.refl _⟩)
  have hx : a7.toList.isEmpty = false := by assumption
  rename_i K hK
  have hK' : ∀ (a : Act) (w' : World), a.tmps[16]? = some (.bool true) → a.defers = [] → Grown w w' → K a w' := fun a w' h1 h2 h3 => by
    refine hK a w' (wp_ret (bodyPost_ret (results_tmp rfl _ _ _) h2 ⟨?_, h3⟩))
    have : a.tmps.getD 16 undef = .bool true := by simp [Array.getD_eq_getD_getElem?, h1]
    exact congrArg Ending.returned this
  clear hK
  go_region_with (go_at_call 12; refine (b1Ev_any _ _ _ _ _ _ _).mono ?_; rintro e w' ⟨rfl, rfl⟩; simp only [long5 _ _ _ _ _ _ _ hx, lone5, w12, w26, w35])
  all_goals refine hK' _ _ rfl rfl ?_
  all_goals repeat (with_reducible (first | exact Grown.refl _ | apply Grown.drew | apply Grown.alloc))

set_option maxHeartbeats 2000000 in
theorem walk_out (a0 a1 a2 a3 a4 a5 : ByteArray) (a6 : Int) (a7 : ByteArray) (w : World) (h : ¬ (0 ≤ a6 ∧ a6 ≤ 5)) :
    Calls Try.prog 5 #[.string a0, .string a1, .string a2, .string a3, .string a4, .string a5, .int .i64 a6, .string a7] w fun e w' => e = .returned (.bool true) ∧ Grown w w' := by
  go_enter Try.func5, Try.ntmps5
  go_wp2_with (go_at_call 13; refine (bytes_any _ _ _ _ _ _ _ _ _).mono ?_; rintro e w' ⟨⟨r, rfl⟩, hw⟩; rw [hw]; clear hw)
  all_goals first | (go_ret; exact ⟨rfl, Grown.refl _⟩) | omega

theorem walk (a0 a1 a2 a3 a4 a5 : ByteArray) (a6 : Int) (a7 : ByteArray) (w : World) :
    Calls Try.prog 5 #[.string a0, .string a1, .string a2, .string a3, .string a4, .string a5, .int .i64 a6, .string a7] w fun e w' => e = .returned (.bool true) ∧ Grown w w' := by
  by_cases h : 0 ≤ a6 ∧ a6 ≤ 5
  · have h6 : a6 = 0 ∨ a6 = 1 ∨ a6 = 2 ∨ a6 = 3 ∨ a6 = 4 ∨ a6 = 5 := by omega
    rcases h6 with rfl | rfl | rfl | rfl | rfl | rfl
    · exact walk_in0 a0 a1 a2 a3 a4 a5 a7 w
    · exact walk_in1 a0 a1 a2 a3 a4 a5 a7 w
    · exact walk_in2 a0 a1 a2 a3 a4 a5 a7 w
    · exact walk_in3 a0 a1 a2 a3 a4 a5 a7 w
    · exact walk_in4 a0 a1 a2 a3 a4 a5 a7 w
    · exact walk_in5 a0 a1 a2 a3 a4 a5 a7 w
  · exact walk_out a0 a1 a2 a3 a4 a5 a6 a7 w h
end Go.Proofs.Qxb6618997a.Sc
