/-
  sort.Search (22) at the closure of mask (23), walked.
-/
import Derived.Test.Qxb6618784aSpBase
namespace Go.Proofs.Qxb6618784a.Sp
open Go.RowKit Go.WideMaps Go.Maps

/-- How Search ends: the first place that says yes. -/
def Found (n : Nat) (p : Nat → Bool) (e : Ending) : Prop := ∃ i : Nat, e = .returned (.int .i64 i) ∧ i ≤ n ∧ (∀ j, j < i → p j = false) ∧ (∀ j, i ≤ j → j < n → p j = true)

set_option maxHeartbeats 1000000 in
set_option maxRecDepth 100000 in
theorem search_any (n : Nat) (c1 c2 : Value) (p : Nat → Bool) (w : World) (hn : n ≤ 4096)
    (hf : ∀ d i, i < n → Calls Try.prog 23 #[.int .i64 (i : Nat), c1, c2] (w.drewN d) fun e w' => e = .returned (.bool (p i)) ∧ ∃ q, w' = w.drewN q)
    (hmono : ∀ a b, a ≤ b → b < n → p a = true → p b = true) :
    Calls Try.prog 22 #[.int .i64 n, .func (.func 23) #[] #[c1, c2]] w fun e w' => Found n p e ∧ ∃ q, w' = w.drewN q := by
  have HF : Hid (∀ d i, i < n → Calls Try.prog 23 #[.int .i64 (i : Nat), c1, c2] (w.drewN d) fun e w' => e = .returned (.bool (p i)) ∧ ∃ q, w' = w.drewN q) := hf
  have HM : Hid (∀ a b, a ≤ b → b < n → p a = true → p b = true) := hmono
  clear hf hmono
  go_enter Try.func22, Try.ntmps22
  go_wp2
  go_loopw [5, 6] (fun a b wr => ∃ lo hi d : Nat, lo ≤ hi ∧ hi ≤ n ∧ a = .int .i64 lo ∧ b = .int .i64 hi ∧ Hid ((∀ j, j < lo → p j = false) ∧ (∀ j, hi ≤ j → j < n → p j = true)) ∧ wr = w.drewN d) (fun a b _ => (intOf b).toNat - (intOf a).toNat)
  case atStart => exact ⟨0, n, 0, Nat.zero_le _, Nat.le_refl _, rfl, rfl, (⟨fun j hj => absurd hj (by omega), fun j h1 h2 => absurd h2 (by omega)⟩ : (∀ j, j < 0 → p j = false) ∧ (∀ j, n ≤ j → j < n → p j = true)), rfl⟩
  case round =>
    obtain ⟨lo, hi, d, h1, h2, rfl, rfl, hI, rfl⟩ := hrel
    by_cases hlt : lo < hi
    · have hc := HF.out d ((lo + hi) / 2) (by omega)
      rw [show (((lo + hi) / 2 : Nat) : Int) = ((lo : Int) + (hi : Int)) / 2 by omega] at hc
      cases hp : p ((lo + hi) / 2) <;> rw [hp] at hc
      · have HN : Hid ((∀ j, j < (lo + hi) / 2 + 1 → p j = false) ∧ (∀ j, hi ≤ j → j < n → p j = true)) := by
          refine ⟨fun j hj => ?_, hI.out.2⟩
          cases hpj : p j
          · rfl
          · rw [HM.out j ((lo + hi) / 2) (by omega) (by omega) hpj] at hp
            cases hp
        clear hp
        go_wp2_with (go_at_call 23; refine hc.mono ?_; rintro e w' ⟨rfl, q, rfl⟩)
        go_roundw
        case rel => exact ⟨(lo + hi) / 2 + 1, hi, _, by omega, h2, by go_num, rfl, HN, rfl⟩
        case measure => simp [intOf]; omega
      · have HN : Hid ((∀ j, j < lo → p j = false) ∧ (∀ j, (lo + hi) / 2 ≤ j → j < n → p j = true)) := ⟨hI.out.1, fun j hj hjn => HM.out ((lo + hi) / 2) j hj hjn hp⟩
        clear hp
        go_wp2_with (go_at_call 23; refine hc.mono ?_; rintro e w' ⟨rfl, q, rfl⟩)
        go_roundw
        case rel => exact ⟨lo, (lo + hi) / 2, _, by omega, by omega, rfl, by go_num, HN, rfl⟩
        case measure => simp [intOf]; omega
    · obtain rfl : lo = hi := by omega
      go_wp2
      go_ret
      exact ⟨⟨lo, rfl, h2, hI.out.1, hI.out.2⟩, d, rfl⟩

end Go.Proofs.Qxb6618784a.Sp
