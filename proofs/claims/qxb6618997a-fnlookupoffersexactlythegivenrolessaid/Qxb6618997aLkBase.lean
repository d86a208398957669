/-
  What the walks of FnLookUpOffersExactlyTheGivenRoles are told of the slices that came in; the length guards (14, 15), walked.
-/
import Derived.Test.Qxb6618997aRows
import Derived.Test.Qxb6618997aLkPlain
import Derived.WalkKit
import Derived.WalkSpells
import Derived.WalkLawsBesides
import Derived.Handy
import Derived.Deep.QuietTactic
import Derived.BigQuiet
import Derived.Deep.AppendLies
import Derived.Deep.OwnRows
import Derived.Deep.DeepCutAuto
import Derived.Deep.CutBlock
import Derived.Deep.RegionHeld3
namespace Go.Proofs.Qxb6618997a.Lk
open Go.RowKit Go.WideMaps Go.Maps

/-- A role of the pool; a binding; a filed place. -/
structure Rl where
  place : Int
  ik : ByteArray
  inn : ByteArray
structure Bd where
  role : Int
  nb : Option Int
  ex : Option Int
structure Kp where
  key : Int
  place : Int

/-- A slice of pool roles that came in. -/
structure Pool (w : World) (a : Option Addr) (n c b o : Nat) (P : Nat → Rl) : Prop where
  idx : ∀ (k : Nat) (w' : World), k < n → (Instr.indexAt 31 (.slice a n c) (.int .i64 (k : Int))).run Try.prog w' = .ok (.pointer (some ⟨b, o + k * 3, none⟩)) w'
  c0 : ∀ k, k < n → w.cell? ⟨b, o + k * 3, none⟩ = some (.int .i32 (P k).place)
  c1 : ∀ k, k < n → w.cell? ⟨b, o + k * 3 + 1, none⟩ = some (.string (P k).ik)
  c2 : ∀ k, k < n → w.cell? ⟨b, o + k * 3 + 2, none⟩ = some (.string (P k).inn)
  lt : 0 < n → b < w.heap.size
  rg : ∀ k, k < n → -2147483648 ≤ (P k).place ∧ (P k).place ≤ 2147483647

/-- What a pointer to an integer holds. -/
def Says (w : World) (p : Option Addr) (v : Option Int) : Prop := (p = none ∧ v = none) ∨ ∃ x o z, p = some ⟨x, o, none⟩ ∧ v = some z ∧ w.cell? ⟨x, o, none⟩ = some (.int .i64 z) ∧ x < w.heap.size

/-- A slice of bindings that came in. -/
structure Bnds (w : World) (a : Option Addr) (n c b o : Nat) (B : Nat → Bd) (pn px : Nat → Option Addr) : Prop where
  idx : ∀ (k : Nat) (w' : World), k < n → (Instr.indexAt 32 (.slice a n c) (.int .i64 (k : Int))).run Try.prog w' = .ok (.pointer (some ⟨b, o + k * 3, none⟩)) w'
  c0 : ∀ k, k < n → w.cell? ⟨b, o + k * 3, none⟩ = some (.int .i64 (B k).role)
  c1 : ∀ k, k < n → w.cell? ⟨b, o + k * 3 + 1, none⟩ = some (.pointer (pn k))
  c2 : ∀ k, k < n → w.cell? ⟨b, o + k * 3 + 2, none⟩ = some (.pointer (px k))
  v1 : ∀ k, k < n → Says w (pn k) (B k).nb
  v2 : ∀ k, k < n → Says w (px k) (B k).ex
  lt : 0 < n → b < w.heap.size
  nil : a = none → n = 0

/-- A slice of filed places that came in. -/
structure Kps (w : World) (a : Option Addr) (n c b o : Nat) (K : Nat → Kp) : Prop where
  idx : ∀ (k : Nat) (w' : World), k < n → (Instr.indexAt 33 (.slice a n c) (.int .i64 (k : Int))).run Try.prog w' = .ok (.pointer (some ⟨b, o + k * 2, none⟩)) w'
  c0 : ∀ k, k < n → w.cell? ⟨b, o + k * 2, none⟩ = some (.int .i32 (K k).key)
  c1 : ∀ k, k < n → w.cell? ⟨b, o + k * 2 + 1, none⟩ = some (.int .i32 (K k).place)
  lt : 0 < n → b < w.heap.size
  rg : ∀ k, k < n → (-2147483648 ≤ (K k).key ∧ (K k).key ≤ 2147483647) ∧ -2147483648 ≤ (K k).place ∧ (K k).place ≤ 2147483647

/-- A slice of integers that came in. -/
structure Ints (t : TypeId) (kind : IntKind) (w : World) (a : Option Addr) (n c b o : Nat) (Z : Nat → Int) : Prop where
  idx : ∀ (k : Nat) (w' : World), k < n → (Instr.indexAt t (.slice a n c) (.int .i64 (k : Int))).run Try.prog w' = .ok (.pointer (some ⟨b, o + k, none⟩)) w'
  c0 : ∀ k, k < n → w.cell? ⟨b, o + k, none⟩ = some (.int kind (Z k))
  lt : 0 < n → b < w.heap.size
  nil : a = none → n = 0
  rg : ∀ k, k < n → -9223372036854775808 ≤ Z k ∧ Z k ≤ 9223372036854775807

theorem Pool.below {w w' : World} {a : Option Addr} {n c b o : Nat} {P : Nat → Rl} (h : Pool w a n c b o P) (hw : Below w.heap.size w w') : Pool w' a n c b o P := by
  have k : ∀ i j v, i < n → w.cell? ⟨b, j, none⟩ = some v → w'.cell? ⟨b, j, none⟩ = some v := fun i j v hi hv => (hw.cell (p := ⟨b, j, none⟩) (h.lt (by omega))).trans hv
  exact ⟨h.idx, fun i hi => k i _ _ hi (h.c0 i hi), fun i hi => k i _ _ hi (h.c1 i hi), fun i hi => k i _ _ hi (h.c2 i hi), fun hn => Nat.lt_of_lt_of_le (h.lt hn) hw.size, h.rg⟩
theorem Says.below {w w' : World} {p : Option Addr} {v : Option Int} (h : Says w p v) (hw : Below w.heap.size w w') : Says w' p v := by
  rcases h with h | ⟨x, o, z, h1, h2, h3, h4⟩
  · exact .inl h
  · exact .inr ⟨x, o, z, h1, h2, (hw.cell (p := ⟨x, o, none⟩) h4).trans h3, Nat.lt_of_lt_of_le h4 hw.size⟩
theorem Says.set {w : World} {p : Option Addr} {v : Option Int} (h : Says w p v) {a : Addr} (ha : ∀ x, p = some x → x.block ≠ a.block) (u : Value) : Says (w.setCell a u) p v := by
  rcases h with h | ⟨x, o, z, h1, h2, h3, h4⟩
  · exact .inl h
  · refine .inr ⟨x, o, z, h1, h2, ?_, by simpa using h4⟩
    rw [World.cell?_of_block (Below.heap_setCell _ _ _ _ (ha _ h1))]
    exact h3
theorem Bnds.below {w w' : World} {a : Option Addr} {n c b o : Nat} {B : Nat → Bd} {pn px : Nat → Option Addr} (h : Bnds w a n c b o B pn px) (hw : Below w.heap.size w w') : Bnds w' a n c b o B pn px := by
  have k : ∀ i j v, i < n → w.cell? ⟨b, j, none⟩ = some v → w'.cell? ⟨b, j, none⟩ = some v := fun i j v hi hv => (hw.cell (p := ⟨b, j, none⟩) (h.lt (by omega))).trans hv
  exact ⟨h.idx, fun i hi => k i _ _ hi (h.c0 i hi), fun i hi => k i _ _ hi (h.c1 i hi), fun i hi => k i _ _ hi (h.c2 i hi), fun i hi => (h.v1 i hi).below hw, fun i hi => (h.v2 i hi).below hw, fun hn => Nat.lt_of_lt_of_le (h.lt hn) hw.size, h.nil⟩
theorem Kps.below {w w' : World} {a : Option Addr} {n c b o : Nat} {K : Nat → Kp} (h : Kps w a n c b o K) (hw : Below w.heap.size w w') : Kps w' a n c b o K := by
  have k : ∀ i j v, i < n → w.cell? ⟨b, j, none⟩ = some v → w'.cell? ⟨b, j, none⟩ = some v := fun i j v hi hv => (hw.cell (p := ⟨b, j, none⟩) (h.lt (by omega))).trans hv
  exact ⟨h.idx, fun i hi => k i _ _ hi (h.c0 i hi), fun i hi => k i _ _ hi (h.c1 i hi), fun hn => Nat.lt_of_lt_of_le (h.lt hn) hw.size, h.rg⟩
theorem Ints.below {t : TypeId} {kind : IntKind} {w w' : World} {a : Option Addr} {n c b o : Nat} {Z : Nat → Int} (h : Ints t kind w a n c b o Z) (hw : Below w.heap.size w w') : Ints t kind w' a n c b o Z := by
  have k : ∀ i j v, i < n → w.cell? ⟨b, j, none⟩ = some v → w'.cell? ⟨b, j, none⟩ = some v := fun i j v hi hv => (hw.cell (p := ⟨b, j, none⟩) (h.lt (by omega))).trans hv
  exact ⟨h.idx, fun i hi => k i _ _ hi (h.c0 i hi), fun hn => Nat.lt_of_lt_of_le (h.lt hn) hw.size, h.nil, h.rg⟩
theorem Below.drewN {w w' : World} {g : Nat} (h : Below g w w') (q : Nat) : Below g w (w'.drewN q) := by
  induction q with
  | zero => exact h
  | succ q ih => exact ih.drew

theorem upto_succ {p : Nat → Prop} {k : Nat} (h : ∀ j, j < k → p j) (hk : p k) : ∀ j, j < k + 1 → p j := fun j hj => by
  by_cases e : j = k
  · subst e; exact hk
  · exact h j (by omega)

/-- How a length guard ends: a bool. -/
def Guarded (e : Ending) : Prop := ∃ r : Bool, e = .returned (.bool r)
theorem guarded (r : Bool) : Guarded (.returned (.bool r)) := ⟨r, rfl⟩

set_option maxHeartbeats 2000000 in
theorem bytes_any (at_ : Int) (pk pm : ByteArray) (a3 : Option Addr) (n3 c3 b3 o3 : Nat) (P : Nat → Rl) (a4 a6 a7 a8 a9 : Option Addr) (n4 c4 n6 c6 n7 c7 n8 c8 n9 c9 : Nat) (ix : Bool) (w : World) (h : Pool w a3 n3 c3 b3 o3 P) :
    Calls Try.prog 14 #[.int .i64 at_, .string pk, .string pm, .slice a3 n3 c3, .slice a4 n4 c4, .bool ix, .slice a6 n6 c6, .slice a7 n7 c7, .slice a8 n8 c8, .slice a9 n9 c9] w fun e w' => Guarded e ∧ w' = w := by
  have hx := h.idx
  have x1 := h.c1
  have x2 := h.c2
  clear h
  go_enter Try.func14, Try.ntmps14
  go_wp2
  all_goals try (go_ret; exact ⟨guarded _, rfl⟩)
  go_loop [21, 22] (fun t i => ∃ (k : Nat) (z : Int), k ≤ n3 ∧ i = .int .i64 k ∧ t = .int .i64 z ∧ 0 ≤ z ∧ z ≤ 1048576) (fun _ i => n3 - (intOf i).toNat)
  case atStart => exact ⟨0, _, Nat.zero_le _, rfl, rfl, by omega, by omega⟩
  case round =>
    obtain ⟨k, z, h1, rfl, rfl, hz0, hz1⟩ := hrel
    by_cases hlt : k < n3
    · have hix := fun w' => hx k w' hlt
      have y1 := x1 k hlt
      have y2 := x2 k hlt
      generalize (P k).ik = s1 at y1
      generalize (P k).inn = s2 at y2
      clear hx x1 x2
      go_wp2
      all_goals try (go_ret; exact ⟨guarded _, rfl⟩)
      go_round
      case rel => exact ⟨k + 1, _, by omega, by go_num, rfl, by omega, by omega⟩
      case measure => simp [intOf]; omega
    · clear hx x1 x2
      go_wp2
      all_goals (go_ret; exact ⟨guarded _, rfl⟩)

end Go.Proofs.Qxb6618997a.Lk
