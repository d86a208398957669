/-
  FnScopeEverywhereRefusesAnyOneName (5) and its length guard (13), walked.
-/
import Derived.Test.Qxb6618997aScEv
import Derived.Deep.DeepCutAuto
import Derived.Deep.CutBlock
import Derived.Deep.RegionHeld3
namespace Go.Proofs.Qxb6618997a.Sc
open Go.RowKit

/-- How a length guard ends: a bool. -/
def Guarded (e : Ending) : Prop := ∃ r : Bool, e = .returned (.bool r)
theorem guarded (r : Bool) : Guarded (.returned (.bool r)) := ⟨r, rfl⟩

set_option maxHeartbeats 1000000 in
theorem bytes_any (a0 a1 a2 a3 a4 a5 : ByteArray) (a6 : Int) (a7 : ByteArray) (w : World) :
    Calls Try.prog 13 #[.string a0, .string a1, .string a2, .string a3, .string a4, .string a5, .int .i64 a6, .string a7] w fun e w' => Guarded e ∧ w' = w := by
  go_enter Try.func13, Try.ntmps13
  go_wp2 <;> (go_ret; exact ⟨guarded _, rfl⟩)

theorem append_ne (a x : ByteArray) (hx : x.toList.isEmpty = false) : (a ++ x).toList.isEmpty = false := by
  rw [ByteArray.toList_eq] at *
  simp_all

theorem long0 (a b c d e f x : ByteArray) (hx : x.toList.isEmpty = false) : none6 (a ++ x) b c d e f = false := by simp [none6, -List.isEmpty_iff, append_ne a x hx]
theorem lone0 (a : ByteArray) : none6 a ⟨#[]⟩ ⟨#[]⟩ ⟨#[]⟩ ⟨#[]⟩ ⟨#[]⟩ = a.toList.isEmpty := by simp [none6, show (⟨#[]⟩ : ByteArray).toList = [] from by rw [ByteArray.toList_eq]]
theorem long1 (a b c d e f x : ByteArray) (hx : x.toList.isEmpty = false) : none6 a (b ++ x) c d e f = false := by simp [none6, -List.isEmpty_iff, append_ne b x hx]
theorem lone1 (a : ByteArray) : none6 ⟨#[]⟩ a ⟨#[]⟩ ⟨#[]⟩ ⟨#[]⟩ ⟨#[]⟩ = a.toList.isEmpty := by simp [none6, show (⟨#[]⟩ : ByteArray).toList = [] from by rw [ByteArray.toList_eq]]
theorem long2 (a b c d e f x : ByteArray) (hx : x.toList.isEmpty = false) : none6 a b (c ++ x) d e f = false := by simp [none6, -List.isEmpty_iff, append_ne c x hx]
theorem lone2 (a : ByteArray) : none6 ⟨#[]⟩ ⟨#[]⟩ a ⟨#[]⟩ ⟨#[]⟩ ⟨#[]⟩ = a.toList.isEmpty := by simp [none6, show (⟨#[]⟩ : ByteArray).toList = [] from by rw [ByteArray.toList_eq]]
theorem long3 (a b c d e f x : ByteArray) (hx : x.toList.isEmpty = false) : none6 a b c (d ++ x) e f = false := by simp [none6, -List.isEmpty_iff, append_ne d x hx]
theorem lone3 (a : ByteArray) : none6 ⟨#[]⟩ ⟨#[]⟩ ⟨#[]⟩ a ⟨#[]⟩ ⟨#[]⟩ = a.toList.isEmpty := by simp [none6, show (⟨#[]⟩ : ByteArray).toList = [] from by rw [ByteArray.toList_eq]]
theorem long4 (a b c d e f x : ByteArray) (hx : x.toList.isEmpty = false) : none6 a b c d (e ++ x) f = false := by simp [none6, -List.isEmpty_iff, append_ne e x hx]
theorem lone4 (a : ByteArray) : none6 ⟨#[]⟩ ⟨#[]⟩ ⟨#[]⟩ ⟨#[]⟩ a ⟨#[]⟩ = a.toList.isEmpty := by simp [none6, show (⟨#[]⟩ : ByteArray).toList = [] from by rw [ByteArray.toList_eq]]
theorem long5 (a b c d e f x : ByteArray) (hx : x.toList.isEmpty = false) : none6 a b c d e (f ++ x) = false := by simp [none6, -List.isEmpty_iff, append_ne f x hx]
theorem lone5 (a : ByteArray) : none6 ⟨#[]⟩ ⟨#[]⟩ ⟨#[]⟩ ⟨#[]⟩ ⟨#[]⟩ a = a.toList.isEmpty := by simp [none6, show (⟨#[]⟩ : ByteArray).toList = [] from by rw [ByteArray.toList_eq]]

set_option maxHeartbeats 2000000 in
theorem walk_in0 (a0 a1 a2 a3 a4 a5 a7 : ByteArray) (w : World) :
    Calls Try.prog 5 #[.string a0, .string a1, .string a2, .string a3, .string a4, .string a5, .int .i64 0, .string a7] w fun e w' => e = .returned (.bool true) ∧ Grown w w' := by
  go_enter Try.func5, Try.ntmps5
  go_wp2_with (go_at_call 13; refine (bytes_any _ _ _ _ _ _ _ _ _).mono ?_; rintro e w' ⟨⟨r, rfl⟩, hw⟩; rw [hw]; clear hw)
  all_goals try (go_ret; exact ⟨rfl, Grown.refl _⟩)
  have hx : a7.toList.isEmpty = false := by assumption
  rename_i K hK
  have hK' : ∀ (a : Act) (w' : World), a.tmps[16]? = some (.bool true) → a.defers = [] → Grown w w' → K a w' := fun a w' h1 h2 h3 => by
    refine hK a w' (wp_ret (bodyPost_ret (results_tmp rfl _ _ _) h2 ⟨?_, h3⟩))
    have : a.tmps.getD 16 undef = .bool true := by simp [Array.getD_eq_getD_getElem?, h1]
    exact congrArg Ending.returned this
  clear hK
  go_region_with (go_at_call 12; refine (b1Ev_any _ _ _ _ _ _ _).mono ?_; rintro e w' ⟨rfl, rfl⟩; simp only [long0 _ _ _ _ _ _ _ hx, lone0, w12, w26, w35])
  all_goals refine hK' _ _ rfl rfl ?_
  all_goals repeat (with_reducible (first | exact Grown.refl _ | apply Grown.drew | apply Grown.alloc))

set_option maxHeartbeats 2000000 in
theorem walk_in1 (a0 a1 a2 a3 a4 a5 a7 : ByteArray) (w : World) :
    Calls Try.prog 5 #[.string a0, .string a1, .string a2, .string a3, .string a4, .string a5, .int .i64 1, .string a7] w fun e w' => e = .returned (.bool true) ∧ Grown w w' := by
  go_enter Try.func5, Try.ntmps5
  go_wp2_with (go_at_call 13; refine (bytes_any _ _ _ _ _ _ _ _ _).mono ?_; rintro e w' ⟨⟨r, rfl⟩, hw⟩; rw [hw]; clear hw)
  all_goals try (go_ret; exact ⟨rfl, Grown.refl _⟩)
  have hx : a7.toList.isEmpty = false := by assumption
  rename_i K hK
  have hK' : ∀ (a : Act) (w' : World), a.tmps[16]? = some (.bool true) → a.defers = [] → Grown w w' → K a w' := fun a w' h1 h2 h3 => by
    refine hK a w' (wp_ret (bodyPost_ret (results_tmp rfl _ _ _) h2 ⟨?_, h3⟩))
    have : a.tmps.getD 16 undef = .bool true := by simp [Array.getD_eq_getD_getElem?, h1]
    exact congrArg Ending.returned this
  clear hK
  go_region_with (go_at_call 12; refine (b1Ev_any _ _ _ _ _ _ _).mono ?_; rintro e w' ⟨rfl, rfl⟩; simp only [long1 _ _ _ _ _ _ _ hx, lone1, w12, w26, w35])
  all_goals refine hK' _ _ rfl rfl ?_
  all_goals repeat (with_reducible (first | exact Grown.refl _ | apply Grown.drew | apply Grown.alloc))

set_option maxHeartbeats 2000000 in
theorem walk_in2 (a0 a1 a2 a3 a4 a5 a7 : ByteArray) (w : World) :
    Calls Try.prog 5 #[.string a0, .string a1, .string a2, .string a3, .string a4, .string a5, .int .i64 2, .string a7] w fun e w' => e = .returned (.bool true) ∧ Grown w w' := by
  go_enter Try.func5, Try.ntmps5
  go_wp2_with (go_at_call 13; refine (bytes_any _ _ _ _ _ _ _ _ _).mono ?_; rintro e w' ⟨⟨r, rfl⟩, hw⟩; rw [hw]; clear hw)
  all_goals try (go_ret; exact ⟨rfl, Grown.refl _⟩)
  have hx : a7.toList.isEmpty = false := by assumption
  rename_i K hK
  have hK' : ∀ (a : Act) (w' : World), a.tmps[16]? = some (.bool true) → a.defers = [] → Grown w w' → K a w' := fun a w' h1 h2 h3 => by
    refine hK a w' (wp_ret (bodyPost_ret (results_tmp rfl _ _ _) h2 ⟨?_, h3⟩))
    have : a.tmps.getD 16 undef = .bool true := by simp [Array.getD_eq_getD_getElem?, h1]
    exact congrArg Ending.returned this
  clear hK
  go_region_with (go_at_call 12; refine (b1Ev_any _ _ _ _ _ _ _).mono ?_; rintro e w' ⟨rfl, rfl⟩; simp only [long2 _ _ _ _ _ _ _ hx, lone2, w12, w26, w35])
  all_goals refine hK' _ _ rfl rfl ?_
  all_goals repeat (with_reducible (first | exact Grown.refl _ | apply Grown.drew | apply Grown.alloc))
end Go.Proofs.Qxb6618997a.Sc
