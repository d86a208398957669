/-
  What the walks of the two laws over splitRules are told of the rules that came in; the length guards (5, 17, 6, 19, 7), walked.
-/
import Derived.Test.Qxb6618784aRows
import Derived.WalkKit
import Derived.WalkSpells
import Derived.WalkLawsBesides
import Derived.Handy
import Derived.Deep.QuietTactic
import Derived.BigQuiet
import Derived.Deep.AppendLies
import Derived.Deep.OwnRows
import Derived.Deep.DeepCutAuto
import Derived.Deep.CutBlock
import Derived.Deep.RegionHeld3
namespace Go.Proofs.Qxb6618784a.Sp
open Go.RowKit Go.WideMaps Go.Maps

/-- One rule, as the law's argument holds it. -/
structure Rule where
  id : ByteArray
  deny : Bool
  every : Bool
  reads : Int
  order : Int
  rank : Int

/-- A slice of rules that came in: nil, empty or not: where an element lies, and what it holds. -/
structure Rules (w : World) (a : Option Addr) (n c b o : Nat) (r : Nat → Rule) : Prop where
  idx : ∀ (k : Nat) (w' : World), k < n → (Instr.indexAt 22 (.slice a n c) (.int .i64 (k : Int))).run Try.prog w' = .ok (.pointer (some ⟨b, o + k * 6, none⟩)) w'
  c0 : ∀ k, k < n → w.cell? ⟨b, o + k * 6, none⟩ = some (.string (r k).id)
  c1 : ∀ k, k < n → w.cell? ⟨b, o + k * 6 + 1, none⟩ = some (.bool (r k).deny)
  c2 : ∀ k, k < n → w.cell? ⟨b, o + k * 6 + 2, none⟩ = some (.bool (r k).every)
  c3 : ∀ k, k < n → w.cell? ⟨b, o + k * 6 + 3, none⟩ = some (.int .u8 (r k).reads)
  c4 : ∀ k, k < n → w.cell? ⟨b, o + k * 6 + 4, none⟩ = some (.int .i32 (r k).order)
  c5 : ∀ k, k < n → w.cell? ⟨b, o + k * 6 + 5, none⟩ = some (.int .i32 (r k).rank)
  lt : 0 < n → b < w.heap.size
  rd : ∀ k, k < n → 0 ≤ (r k).reads ∧ (r k).reads ≤ 255
  rk : ∀ k, k < n → (r k).rank ≤ 2147483647

theorem Rules.below {w w' : World} {a : Option Addr} {n c b o : Nat} {r : Nat → Rule} (h : Rules w a n c b o r) (hw : Below w.heap.size w w') : Rules w' a n c b o r := by
  have k : ∀ i j v, i < n → w.cell? ⟨b, j, none⟩ = some v → w'.cell? ⟨b, j, none⟩ = some v := fun i j v hi hv => (hw.cell (p := ⟨b, j, none⟩) (h.lt (by omega))).trans hv
  exact ⟨h.idx, fun i hi => k i _ _ hi (h.c0 i hi), fun i hi => k i _ _ hi (h.c1 i hi), fun i hi => k i _ _ hi (h.c2 i hi), fun i hi => k i _ _ hi (h.c3 i hi), fun i hi => k i _ _ hi (h.c4 i hi), fun i hi => k i _ _ hi (h.c5 i hi),
    fun hn => Nat.lt_of_lt_of_le (h.lt hn) hw.size, h.rd, h.rk⟩
theorem Rules.drewN {w : World} {a : Option Addr} {n c b o : Nat} {r : Nat → Rule} (h : Rules w a n c b o r) (d : Nat) : Rules (w.drewN d) a n c b o r := ⟨h.idx, h.c0, h.c1, h.c2, h.c3, h.c4, h.c5, h.lt, h.rd, h.rk⟩

/-- How a length guard ends: a bool. -/
def Guarded (e : Ending) : Prop := ∃ r : Bool, e = .returned (.bool r)
theorem guarded (r : Bool) : Guarded (.returned (.bool r)) := ⟨r, rfl⟩

set_option maxHeartbeats 400000 in
theorem bytes5_any (a : Option Addr) (n c b o : Nat) (r : Nat → Rule) (w : World) (h : Rules w a n c b o r) :
    Calls Try.prog 5 #[.slice a n c] w fun e w' => Guarded e ∧ w' = w := by
  have ix := h.idx
  have c0 := h.c0
  clear h
  go_enter Try.func5, Try.ntmps5
  go_wp2
  · go_ret
    exact ⟨guarded _, rfl⟩
  · go_loop [3, 4] (fun t i => ∃ (k : Nat) (z : Int), k ≤ n ∧ i = .int .i64 k ∧ t = .int .i64 z ∧ 0 ≤ z ∧ z ≤ 1048576) (fun _ i => n - (intOf i).toNat)
    case atStart => exact ⟨0, _, Nat.zero_le _, rfl, rfl, by omega, by omega⟩
    case round =>
      obtain ⟨k, z, h1, rfl, rfl, hz0, hz1⟩ := hrel
      by_cases hlt : k < n
      · have hcx := c0 k hlt
        have hix := fun w' => ix k w' hlt
        generalize (r k).id = s at hcx
        clear c0 ix
        go_wp2
        · go_ret
          exact ⟨guarded _, rfl⟩
        · go_ret
          exact ⟨guarded _, rfl⟩
        · go_round
          case rel => exact ⟨k + 1, _, by omega, by go_num, rfl, by omega, by omega⟩
          case measure => simp [intOf]; omega
      · go_wp2
        go_ret
        exact ⟨guarded _, rfl⟩

set_option maxHeartbeats 400000 in
theorem bytes17_any (a : Option Addr) (n c b o : Nat) (kk : Int) (r : Nat → Rule) (w : World) (h : Rules w a n c b o r) :
    Calls Try.prog 17 #[.slice a n c, .int .i64 kk] w fun e w' => Guarded e ∧ w' = w := by
  have ix := h.idx
  have c0 := h.c0
  clear h
  go_enter Try.func17, Try.ntmps17
  go_wp2
  · go_ret
    exact ⟨guarded _, rfl⟩
  · go_loop [5, 6] (fun t i => ∃ (k : Nat) (z : Int), k ≤ n ∧ i = .int .i64 k ∧ t = .int .i64 z ∧ 0 ≤ z ∧ z ≤ 1048576) (fun _ i => n - (intOf i).toNat)
    case atStart => exact ⟨0, _, Nat.zero_le _, rfl, rfl, by omega, by omega⟩
    case round =>
      obtain ⟨k, z, h1, rfl, rfl, hz0, hz1⟩ := hrel
      by_cases hlt : k < n
      · have hcx := c0 k hlt
        have hix := fun w' => ix k w' hlt
        generalize (r k).id = s at hcx
        clear c0 ix
        go_wp2
        · go_ret
          exact ⟨guarded _, rfl⟩
        · go_ret
          exact ⟨guarded _, rfl⟩
        · go_round
          case rel => exact ⟨k + 1, _, by omega, by go_num, rfl, by omega, by omega⟩
          case measure => simp [intOf]; omega
      · go_wp2
        go_ret
        exact ⟨guarded _, rfl⟩

/-- How zzRulesBytes ends: within the bound there are at most 4096 rules. -/
def Counted (n : Nat) (e : Ending) : Prop := ∃ t : Int, e = .returned (.int .i64 t) ∧ (t ≤ 1048576 → n ≤ 4096)
theorem counted {n : Nat} {t : Int} (h : t ≤ 1048576 → n ≤ 4096) : Counted n (.returned (.int .i64 t)) := ⟨t, rfl, h⟩

set_option maxHeartbeats 400000 in
theorem count_any (a : Option Addr) (n c b o : Nat) (r : Nat → Rule) (w : World) (h : Rules w a n c b o r) :
    Calls Try.prog 6 #[.slice a n c] w fun e w' => Counted n e ∧ w' = w := by
  have ix := h.idx
  have c0 := h.c0
  clear h
  go_enter Try.func6, Try.ntmps6
  go_wp2
  · go_ret
    exact ⟨counted (fun h => absurd h (by decide)), rfl⟩
  · have hn : (n : Int) ≤ 4096 := by assumption
    go_loop [3, 4] (fun t i => ∃ (k : Nat) (z : Int), k ≤ n ∧ i = .int .i64 k ∧ t = .int .i64 z ∧ 0 ≤ z ∧ z ≤ 1048576) (fun _ i => n - (intOf i).toNat)
    case atStart => exact ⟨0, _, Nat.zero_le _, rfl, rfl, by omega, by omega⟩
    case round =>
      obtain ⟨k, z, h1, rfl, rfl, hz0, hz1⟩ := hrel
      by_cases hlt : k < n
      · have hcx := c0 k hlt
        have hix := fun w' => ix k w' hlt
        generalize (r k).id = s at hcx
        clear c0 ix
        by_cases hs : (1048576 : Int) < (s.size : Int)
        · go_wp2
          go_ret
          exact ⟨counted (fun _ => by omega), rfl⟩
        · go_wp2
          · go_ret
            exact ⟨counted (fun _ => by omega), rfl⟩
          · go_round
            case rel => exact ⟨k + 1, _, by omega, by go_num, rfl, by omega, by omega⟩
            case measure => simp [intOf]; omega
      · go_wp2
        go_ret
        exact ⟨counted (fun _ => by omega), rfl⟩

/-- No rank is negative. -/
def Ranked (n : Nat) (r : Nat → Rule) (e : Ending) : Prop := ∃ t : Bool, e = .returned (.bool t) ∧ (t = true → ∀ k, k < n → 0 ≤ (r k).rank)
theorem ranked_no {n : Nat} {r : Nat → Rule} : Ranked n r (.returned (.bool false)) := ⟨false, rfl, fun h => by cases h⟩
theorem ranked_yes {n : Nat} {r : Nat → Rule} (h : ∀ k, k < n → 0 ≤ (r k).rank) : Ranked n r (.returned (.bool true)) := ⟨true, rfl, fun _ => h⟩

set_option maxHeartbeats 400000 in
theorem ranks_any (a : Option Addr) (n c b o : Nat) (r : Nat → Rule) (w : World) (hn : n ≤ 4096) (h : Rules w a n c b o r) :
    Calls Try.prog 7 #[.slice a n c] w fun e w' => Ranked n r e ∧ w' = w := by
  have ix := h.idx
  have c5 := h.c5
  clear h
  go_enter Try.func7, Try.ntmps7
  go_wp2
  go_loop [3] (fun i => ∃ k : Nat, k ≤ n ∧ i = .int .i64 k ∧ Hid (∀ j, j < k → 0 ≤ (r j).rank)) (fun i => n - (intOf i).toNat)
  case atStart => exact ⟨0, Nat.zero_le _, rfl, (fun j hj => absurd hj (by omega) : ∀ j, j < 0 → 0 ≤ (r j).rank)⟩
  case round =>
    obtain ⟨k, h1, rfl, hall⟩ := hrel
    by_cases hlt : k < n
    · have hcx := c5 k hlt
      have hix := fun w' => ix k w' hlt
      clear c5 ix
      by_cases hs : (r k).rank < 0
      · go_wp2
        go_ret
        exact ⟨ranked_no, rfl⟩
      · have HN : Hid (∀ j, j < k + 1 → 0 ≤ (r j).rank) := fun j hj => by
          by_cases e : j = k
          · subst e; omega
          · exact hall.out j (by omega)
        go_wp2
        go_round
        case rel => exact ⟨k + 1, by omega, by go_num, HN⟩
        case measure => simp [intOf]; omega
    · obtain rfl : k = n := by omega
      go_wp2
      go_ret
      exact ⟨ranked_yes hall.out, rfl⟩

end Go.Proofs.Qxb6618784a.Sp
