/-
  zzNextWord (15), walked: the least word above prev.
-/
import Derived.Test.Qxb6618784aSpWords
import Derived.Test.Qxb6618784aSpBase
namespace Go.Proofs.Qxb6618784a.Sp
open Go.RowKit Go.WideMaps Go.Maps

theorem next_zero (r : Nat → Rule) (prev : Int) : NextIs r 0 prev 0 false := ⟨fun _ i hi => absurd hi (by omega), fun h => absurd h (by decide), fun h => absurd h (by decide), fun h => absurd h (by decide)⟩
theorem next_pass {r : Nat → Rule} {i v : Nat} {prev : Int} {f : Bool} (h : NextIs r i prev v f) (hs : (r i).every = true → ((wordOf (r i) : Nat) : Int) ≤ prev ∨ (f = true ∧ v ≤ wordOf (r i))) : NextIs r (i + 1) prev v f := by
  refine ⟨fun hf j hj he => ?_, h.gt, fun hf => ?_, fun hf j hj he hp => ?_⟩
  · by_cases e : j = i
    · subst e
      rcases hs he with h1 | ⟨h1, _⟩
      · exact h1
      · rw [hf] at h1; cases h1
    · exact h.no hf j (by omega) he
  · obtain ⟨j, hj, hx⟩ := h.is hf
    exact ⟨j, by omega, hx⟩
  · by_cases e : j = i
    · subst e
      rcases hs he with h1 | ⟨_, h1⟩
      · omega
      · exact h1
    · exact h.min hf j (by omega) he hp
theorem next_take {r : Nat → Rule} {i v : Nat} {prev : Int} {f : Bool} (h : NextIs r i prev v f) (he : (r i).every = true) (hg : prev < ((wordOf (r i) : Nat) : Int)) (hf : f = false ∨ wordOf (r i) < v) : NextIs r (i + 1) prev (wordOf (r i)) true := by
  refine ⟨fun hf => absurd hf (by decide), fun _ => hg, fun _ => ⟨i, by omega, he, rfl⟩, fun _ j hj hej hp => ?_⟩
  by_cases e : j = i
  · subst e; exact Nat.le_refl _
  · cases hff : f
    · have := h.no hff j (by omega) hej
      omega
    · have h1 := h.min hff j (by omega) hej hp
      rcases hf with h2 | h2
      · rw [h2] at hff; cases hff
      · omega

/-- How zzNextWord ends. -/
def NextE (r : Nat → Rule) (n : Nat) (prev : Int) (e : Ending) : Prop := ∃ (v : Nat) (f : Bool), e = .returned (.tuple #[.int .i64 v, .bool f]) ∧ NextIs r n prev v f

set_option maxHeartbeats 1000000 in
theorem next_any (a : Option Addr) (n c b o : Nat) (prev : Int) (r : Nat → Rule) (w : World) (hn : n ≤ 4096) (h : Rules w a n c b o r) (hrk : ∀ k, k < n → 0 ≤ (r k).rank) :
    Calls Try.prog 15 #[.slice a n c, .int .i64 prev] w fun e w' => NextE r n prev e ∧ w' = w := by
  have ix := h.idx
  have c2 := h.c2
  have c5 := h.c5
  have HK : Hid (∀ k, k < n → 0 ≤ (r k).rank ∧ (r k).rank ≤ 2147483647) := fun k hk => ⟨hrk k hk, h.rk k hk⟩
  clear h hrk
  go_enter Try.func15, Try.ntmps15
  go_wp2
  go_loop [6, 7, 8] (fun vv vf vi => ∃ (i v : Nat) (f : Bool), i ≤ n ∧ vv = .int .i64 v ∧ vf = .bool f ∧ vi = .int .i64 i ∧ NextIs r i prev v f) (fun _ _ vi => n - (intOf vi).toNat)
  case atStart => exact ⟨0, 0, false, Nat.zero_le _, rfl, rfl, rfl, next_zero r prev⟩
  case round =>
    obtain ⟨i, v, f, hi, rfl, rfl, rfl, hx⟩ := hrel
    have HX : Hid (NextIs r i prev v f) := hx
    clear hx
    by_cases hlt : i < n
    · have hix := fun w' => ix i w' hlt
      have x2 := c2 i hlt
      have x5 := c5 i hlt
      have hk := HK.out i hlt
      obtain ⟨rv, hrv⟩ : ∃ x : Nat, (r i).rank = (x : Int) := ⟨(r i).rank.toNat, by omega⟩
      rw [hrv] at x5 hk
      obtain ⟨q, HQ⟩ : ∃ q, Hid (q = wordOf (r i)) := ⟨_, rfl⟩
      have hqv : q = rv / 64 := by rw [HQ.out, wordOf, hrv]; rfl
      have hq1 : IntKind.i32.wrap ((rv : Int) / 64) = (q : Int) := by rw [IntKind.wrap_i32]; omega
      have hq2 : IntKind.i64.wrap (q : Int) = (q : Int) := by rw [IntKind.wrap_i64]; omega
      clear hqv ix c2 c5 hrv
      cases hev : (r i).every
      · rw [hev] at x2
        have HE : Hid ((r i).every = false) := hev
        clear hev
        go_wp2
        go_round
        case rel => exact ⟨i + 1, v, f, by omega, rfl, rfl, by go_num, next_pass HX.out (fun h => by rw [HE.out] at h; cases h)⟩
        case measure => simp [intOf]; omega
      · rw [hev] at x2
        have HE : Hid ((r i).every = true) := hev
        clear hev
        by_cases h1 : prev < (q : Int)
        · cases f
          · go_wp2
            go_round
            case rel => exact ⟨i + 1, q, true, by omega, rfl, rfl, by go_num, by rw [HQ.out]; exact next_take HX.out HE.out (by rw [← HQ.out]; exact h1) (.inl rfl)⟩
            case measure => simp [intOf]; omega
          · by_cases h2 : q < v
            · go_wp2
              go_round
              case rel => exact ⟨i + 1, q, true, by omega, rfl, rfl, by go_num, by rw [HQ.out]; exact next_take HX.out HE.out (by rw [← HQ.out]; exact h1) (.inr (by rw [← HQ.out]; exact h2))⟩
              case measure => simp [intOf]; omega
            · go_wp2
              go_round
              case rel => exact ⟨i + 1, v, true, by omega, rfl, rfl, by go_num, next_pass HX.out (fun _ => .inr ⟨rfl, by rw [← HQ.out]; omega⟩)⟩
              case measure => simp [intOf]; omega
        · have h1' : (q : Int) ≤ prev := by omega
          go_wp2
          go_round
          case rel => exact ⟨i + 1, v, f, by omega, rfl, rfl, by go_num, next_pass HX.out (fun _ => .inl (by rw [← HQ.out]; omega))⟩
          case measure => simp [intOf]; omega
    · obtain rfl : n = i := by omega
      go_wp2
      go_ret2
      exact ⟨⟨v, f, rfl, HX.out⟩, rfl⟩

end Go.Proofs.Qxb6618784a.Sp
