/-
  THE LENGTH GUARDS of the two laws over (Query).Take ('zzBytes_..': functions 12 and 16): a bool comes back, nothing is written; where it says yes every text is short.
-/
import Derived.Test.Qxb6618127aRows
import Derived.Test.Qxb6618127aTkPlain
import Derived.WalkKit
import Derived.WalkSpells
import Derived.WalkLawsBesides
import Derived.Handy
import Derived.Deep.QuietTactic
import Derived.BigQuiet
namespace Go.Proofs.Qxb6618127a
open Go.RowKit Go.WideMaps Go.Maps

/-- What the walk is told of a slice of strings that came in: nil, empty or not: where an element lies, and what it holds. -/
structure Strs (w : World) (a : Option Addr) (len cap b off : Nat) (ss : List ByteArray) : Prop where
  idx : ∀ (k : Nat) (w' : World), k < len → (Instr.indexAt 33 (.slice a len cap) (.int .i64 (k : Int))).run Try.prog w' = .ok (.pointer (some ⟨b, off + k, none⟩)) w'
  cell : ∀ j, j < len → w.cell? ⟨b, off + j, none⟩ = some (.string (ss.getD j ByteArray.empty))

/-- The first k of them are short. -/
def Short (ss : List ByteArray) (k : Nat) : Prop := ∀ j, j < k → (ss.getD j ByteArray.empty).size ≤ 1048576
theorem short_zero (ss : List ByteArray) : Short ss 0 := fun _ h => absurd h (by omega)
theorem short_succ {ss : List ByteArray} {k : Nat} {s : ByteArray} (h : Short ss k) (hs : Hid (s = ss.getD k ByteArray.empty)) (hz : (s.size : Int) ≤ 1048576) : Short ss (k + 1) := fun j hj => by
  by_cases e : j = k
  · subst e; rw [← hs.out]; omega
  · exact h j (by omega)

def AllShort (ks vs : List ByteArray) (n1 n2 : Nat) (key : ByteArray) : Prop := Short ks n1 ∧ Short vs n2 ∧ key.size ≤ 1048576
/-- How a length guard ends: a bool; where it says yes, all is short. -/
def Guards (p : Prop) (e : Ending) : Prop := ∃ r : Bool, e = .returned (.bool r) ∧ (r = true → p)
theorem guards_no {p : Prop} : Guards p (.returned (.bool false)) := ⟨false, rfl, fun h => by cases h⟩
theorem guards_yes {p : Prop} (h : p) : Guards p (.returned (.bool true)) := ⟨true, rfl, fun _ => h⟩

set_option maxHeartbeats 400000 in
theorem bytes_any (a1 a2 : Option Addr) (n1 c1 b1 o1 n2 c2 b2 o2 : Nat) (ks vs : List ByteArray) (key : ByteArray) (w : World) (hk : Strs w a1 n1 c1 b1 o1 ks) (hv : Strs w a2 n2 c2 b2 o2 vs) :
    Calls Try.prog 12 #[.slice a1 n1 c1, .slice a2 n2 c2, .string key] w fun e w' => Guards (AllShort ks vs n1 n2 key) e ∧ w' = w := by
  obtain ⟨ix1, hc1⟩ := hk
  obtain ⟨ix2, hc2⟩ := hv
  go_enter Try.func12, Try.ntmps12
  go_wp2
  · go_ret
    exact ⟨guards_no, rfl⟩
  · go_loop [7, 8] (fun t i => ∃ (k : Nat) (z : Int), k ≤ n1 ∧ i = .int .i64 k ∧ t = .int .i64 z ∧ 0 ≤ z ∧ z ≤ 1048576 ∧ Short ks k) (fun _ i => n1 - (intOf i).toNat)
    case atStart => exact ⟨0, _, Nat.zero_le _, rfl, rfl, by omega, by omega, short_zero _⟩
    case round =>
      obtain ⟨k, z, h1, rfl, rfl, hz0, hz1, hall⟩ := hrel
      by_cases hlt : k < n1
      · have hcx := hc1 k hlt
        have hix := fun w' => ix1 k w' hlt
        obtain ⟨s, hs⟩ : ∃ s, s = ks.getD k ByteArray.empty := ⟨_, rfl⟩
        rw [← hs] at hcx
        have HS : Hid (s = ks.getD k ByteArray.empty) := hs
        clear hs hc1 ix1 ix2 hc2
        go_wp2
        · go_ret
          exact ⟨guards_no, rfl⟩
        · go_ret
          exact ⟨guards_no, rfl⟩
        · go_round
          case rel => exact ⟨k + 1, _, by omega, by go_num, rfl, by omega, by omega, short_succ hall HS (by omega)⟩
          case measure => simp [intOf]; omega
      · obtain rfl : k = n1 := by omega
        go_wp2
        · go_ret
          exact ⟨guards_no, rfl⟩
        · go_ret
          exact ⟨guards_no, rfl⟩
        · go_loop [7, 9] (fun t i => ∃ (k : Nat) (z : Int), k ≤ n2 ∧ i = .int .i64 k ∧ t = .int .i64 z ∧ 0 ≤ z ∧ z ≤ 1048576 ∧ Short vs k) (fun _ i => n2 - (intOf i).toNat)
          case atStart => exact ⟨0, _, Nat.zero_le _, rfl, rfl, by omega, by omega, short_zero _⟩
          case round =>
            obtain ⟨m, z2, g1, rfl, rfl, gz0, gz1, gall⟩ := hrel
            by_cases hlt2 : m < n2
            · have hcx := hc2 m hlt2
              have hix := fun w' => ix2 m w' hlt2
              obtain ⟨s, hs⟩ : ∃ s, s = vs.getD m ByteArray.empty := ⟨_, rfl⟩
              rw [← hs] at hcx
              have HS : Hid (s = vs.getD m ByteArray.empty) := hs
              clear hs hc1 ix1 ix2 hc2
              go_wp2
              · go_ret
                exact ⟨guards_no, rfl⟩
              · go_ret
                exact ⟨guards_no, rfl⟩
              · go_round
                case rel => exact ⟨m + 1, _, by omega, by go_num, rfl, by omega, by omega, short_succ gall HS (by omega)⟩
                case measure => simp [intOf]; omega
            · obtain rfl : m = n2 := by omega
              go_wp2
              · go_ret
                exact ⟨guards_no, rfl⟩
              · go_ret
                exact ⟨guards_no, rfl⟩
              · go_ret
                exact ⟨guards_yes ⟨hall, gall, by omega⟩, rfl⟩
set_option maxHeartbeats 400000 in
theorem bytes16_any (a1 a2 : Option Addr) (n1 c1 b1 o1 n2 c2 b2 o2 : Nat) (ks vs : List ByteArray) (w : World) (hk : Strs w a1 n1 c1 b1 o1 ks) (hv : Strs w a2 n2 c2 b2 o2 vs) :
    Calls Try.prog 16 #[.slice a1 n1 c1, .slice a2 n2 c2] w fun e w' => Guards (AllShort ks vs n1 n2 ByteArray.empty) e ∧ w' = w := by
  obtain ⟨ix1, hc1⟩ := hk
  obtain ⟨ix2, hc2⟩ := hv
  go_enter Try.func16, Try.ntmps16
  go_wp2
  · go_ret
    exact ⟨guards_no, rfl⟩
  · go_loop [5, 6] (fun t i => ∃ (k : Nat) (z : Int), k ≤ n1 ∧ i = .int .i64 k ∧ t = .int .i64 z ∧ 0 ≤ z ∧ z ≤ 1048576 ∧ Short ks k) (fun _ i => n1 - (intOf i).toNat)
    case atStart => exact ⟨0, _, Nat.zero_le _, rfl, rfl, by omega, by omega, short_zero _⟩
    case round =>
      obtain ⟨k, z, h1, rfl, rfl, hz0, hz1, hall⟩ := hrel
      by_cases hlt : k < n1
      · have hcx := hc1 k hlt
        have hix := fun w' => ix1 k w' hlt
        obtain ⟨s, hs⟩ : ∃ s, s = ks.getD k ByteArray.empty := ⟨_, rfl⟩
        rw [← hs] at hcx
        have HS : Hid (s = ks.getD k ByteArray.empty) := hs
        clear hs hc1 ix1 ix2 hc2
        go_wp2
        · go_ret
          exact ⟨guards_no, rfl⟩
        · go_ret
          exact ⟨guards_no, rfl⟩
        · go_round
          case rel => exact ⟨k + 1, _, by omega, by go_num, rfl, by omega, by omega, short_succ hall HS (by omega)⟩
          case measure => simp [intOf]; omega
      · obtain rfl : k = n1 := by omega
        go_wp2
        · go_ret
          exact ⟨guards_no, rfl⟩
        · go_ret
          exact ⟨guards_no, rfl⟩
        · go_loop [5, 7] (fun t i => ∃ (k : Nat) (z : Int), k ≤ n2 ∧ i = .int .i64 k ∧ t = .int .i64 z ∧ 0 ≤ z ∧ z ≤ 1048576 ∧ Short vs k) (fun _ i => n2 - (intOf i).toNat)
          case atStart => exact ⟨0, _, Nat.zero_le _, rfl, rfl, by omega, by omega, short_zero _⟩
          case round =>
            obtain ⟨m, z2, g1, rfl, rfl, gz0, gz1, gall⟩ := hrel
            by_cases hlt2 : m < n2
            · have hcx := hc2 m hlt2
              have hix := fun w' => ix2 m w' hlt2
              obtain ⟨s, hs⟩ : ∃ s, s = vs.getD m ByteArray.empty := ⟨_, rfl⟩
              rw [← hs] at hcx
              have HS : Hid (s = vs.getD m ByteArray.empty) := hs
              clear hs hc1 ix1 ix2 hc2
              go_wp2
              · go_ret
                exact ⟨guards_no, rfl⟩
              · go_ret
                exact ⟨guards_no, rfl⟩
              · go_round
                case rel => exact ⟨m + 1, _, by omega, by go_num, rfl, by omega, by omega, short_succ gall HS (by omega)⟩
                case measure => simp [intOf]; omega
            · obtain rfl : m = n2 := by omega
              go_wp2
              go_ret
              exact ⟨guards_yes ⟨hall, gall, by simp⟩, rfl⟩
end Go.Proofs.Qxb6618127a
