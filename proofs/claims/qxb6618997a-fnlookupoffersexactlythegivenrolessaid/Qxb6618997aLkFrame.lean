/-
  What the walks are told of the slices that came in, out of their readings.
-/
import Derived.Test.Qxb6618997aLkCopy
import Derived.ProofKit
import Derived.OpenShut
import Derived.ShutString
import Derived.ChangeOld
import Derived.Below
import Derived.Deep.Slices
namespace Go.Proofs.Qxb6618997a.Lk
open Go.ChangeShapes Go.WideShapes Go.ChangeAt Go.RowKit

theorem own : ownKnob Try.prog.godebug = none := by kernel_rfl
theorem laidOut : laidOutB Try.prog = true := by kernel_rfl
theorem cells61 : Try.prog.cellsOf 61 = 3 := by kernel_rfl
theorem cells58 : Try.prog.cellsOf 58 = 3 := by kernel_rfl
theorem cells66 : Try.prog.cellsOf 66 = 2 := by kernel_rfl
theorem cells56 : Try.prog.cellsOf 56 = 1 := by kernel_rfl
theorem cells9 : Try.prog.cellsOf 9 = 1 := by kernel_rfl
theorem cells21 : Try.prog.cellsOf 21 = 1 := by kernel_rfl
theorem cells2 : Try.prog.cellsOf 2 = 1 := by kernel_rfl
theorem cells3 : Try.prog.cellsOf 3 = 1 := by kernel_rfl

theorem index31 (b o n c k : Nat) (h : k < n) (w : World) : (Instr.indexAt 31 (.slice (some ⟨b, o, none⟩) n c) (.int .i64 (k : Int))).run Try.prog w = .ok (.pointer (some ⟨b, o + k * 3, none⟩)) w := by
  by_cases h0 : k = 0
  · subst h0
    simp [Instr.indexAt, run_underlying Try.underlying31, asIntOf, h, Addr.add, Result.andThen]
  · have h6 : ¬ k * 3 = 0 := by omega
    simp [Instr.indexAt, run_underlying Try.underlying31, asIntOf, h, h6, Addr.add, Result.andThen]
theorem index33 (b o n c k : Nat) (h : k < n) (w : World) : (Instr.indexAt 33 (.slice (some ⟨b, o, none⟩) n c) (.int .i64 (k : Int))).run Try.prog w = .ok (.pointer (some ⟨b, o + k * 2, none⟩)) w := by
  by_cases h0 : k = 0
  · subst h0
    simp [Instr.indexAt, run_underlying Try.underlying33, asIntOf, h, Addr.add, Result.andThen]
  · have h6 : ¬ k * 2 = 0 := by omega
    simp [Instr.indexAt, run_underlying Try.underlying33, asIntOf, h, h6, Addr.add, Result.andThen]
theorem index35 (b o n c k : Nat) (h : k < n) (w : World) : (Instr.indexAt 35 (.slice (some ⟨b, o, none⟩) n c) (.int .i64 (k : Int))).run Try.prog w = .ok (.pointer (some ⟨b, o + k, none⟩)) w := by
  by_cases h0 : k = 0
  · subst h0
    simp [Instr.indexAt, run_underlying Try.underlying35, asIntOf, h, Addr.add, Result.andThen]
  · simp [Instr.indexAt, run_underlying Try.underlying35, asIntOf, h, h0, Addr.add, Result.andThen]

section
variable {H : Type} {enc : TypeId × Value → H} {W : World} {sp : Nat → Bool} {held : Bool}

theorem list3 {α : Type} : ∀ (l : List α), l.length = 3 → ∃ a b c, l = [a, b, c]
  | [a, b, c], _ => ⟨a, b, c, rfl⟩
theorem list2 {α : Type} : ∀ (l : List α), l.length = 2 → ∃ a b, l = [a, b]
  | [a, b], _ => ⟨a, b, rfl⟩

theorem says_of {base fuel : Nat} {cs : List Value} {x : DataW H × List MemPlace} (h : DataW.trod enc Try.prog W base sp held fuel 56 cs = some x) : ∃ p v, cs = [.pointer p] ∧ Says W p v := by
  rcases DataW.trod_pointer Try.underlying56 h with ⟨rfl, _⟩ | ⟨a, cs', y, n, _, rfl, _, h1, h2⟩
  · exact ⟨none, none, rfl, .inl ⟨rfl, rfl⟩⟩
  · rw [cells2] at h1
    obtain ⟨_, _, hc⟩ := World.cells?_some h1
    obtain ⟨z, rfl, _, _⟩ := DataW.trod_int Try.underlying2 h2
    obtain ⟨b, o, spot⟩ := a
    have c0 := hc 0 (by omega)
    have hspot : spot = none := by simpa [Addr.add] using World.cell?_spot c0
    subst hspot
    rw [add_plain] at c0
    have c1 : W.cell? ⟨b, o, none⟩ = some (.int .i64 z) := by simpa using c0
    exact ⟨_, some z, rfl, .inr ⟨b, o, z, rfl, rfl, c1, World.block_lt_of_cell? W ⟨b, o, none⟩ c1⟩⟩

def rlCells (R : Rl) : List Value := [.int .i32 R.place, .string R.ik, .string R.inn]
theorem rl_of {base fuel : Nat} {cs : List Value} {x : DataW H × List MemPlace} (h : DataW.trod enc Try.prog W base sp held fuel 61 cs = some x) : ∃ R : Rl, cs = rlCells R ∧ -2147483648 ≤ R.place ∧ R.place ≤ 2147483647 := by
  obtain ⟨xs, n, _, _, hl, hlen, hf⟩ := DataW.trod_struct Try.underlying61 h
  rw [cells61] at hl
  obtain ⟨v0, v1, v2, rfl⟩ := list3 cs hl
  obtain ⟨y0, y1, y2, rfl⟩ := list3 xs hlen
  have f0 := hf 0 _ rfl
  have f1 := hf 1 _ rfl
  have f2 := hf 2 _ rfl
  simp [cells9, cells21] at f0 f1 f2
  obtain ⟨pl, e0, _, w0⟩ := DataW.trod_int Try.underlying21 f0
  obtain ⟨ik, e1, _⟩ := DataW.trod_string Try.underlying9 f1
  obtain ⟨inn, e2, _⟩ := DataW.trod_string Try.underlying9 f2
  simp at e0 e1 e2
  subst e0 e1 e2
  exact ⟨⟨pl, ik, inn⟩, rfl, bounds_i32 w0⟩

def bdCells (R : Bd × Option Addr × Option Addr) : List Value := [.int .i64 R.1.role, .pointer R.2.1, .pointer R.2.2]
theorem bd_of {base fuel : Nat} {cs : List Value} {x : DataW H × List MemPlace} (h : DataW.trod enc Try.prog W base sp held fuel 58 cs = some x) : ∃ R : Bd × Option Addr × Option Addr, cs = bdCells R ∧ Says W R.2.1 R.1.nb ∧ Says W R.2.2 R.1.ex := by
  obtain ⟨xs, n, _, _, hl, hlen, hf⟩ := DataW.trod_struct Try.underlying58 h
  rw [cells58] at hl
  obtain ⟨v0, v1, v2, rfl⟩ := list3 cs hl
  obtain ⟨y0, y1, y2, rfl⟩ := list3 xs hlen
  have f0 := hf 0 _ rfl
  have f1 := hf 1 _ rfl
  have f2 := hf 2 _ rfl
  simp [cells3, cells56] at f0 f1 f2
  obtain ⟨r, e0, _, _⟩ := DataW.trod_int Try.underlying3 f0
  obtain ⟨p1, n1, e1, s1⟩ := says_of f1
  obtain ⟨p2, n2, e2, s2⟩ := says_of f2
  simp at e0 e1 e2
  subst e0 e1 e2
  exact ⟨⟨⟨r, n1, n2⟩, p1, p2⟩, rfl, s1, s2⟩

def kpCells (R : Kp) : List Value := [.int .i32 R.key, .int .i32 R.place]
theorem kp_of {base fuel : Nat} {cs : List Value} {x : DataW H × List MemPlace} (h : DataW.trod enc Try.prog W base sp held fuel 66 cs = some x) : ∃ R : Kp, cs = kpCells R ∧ (-2147483648 ≤ R.key ∧ R.key ≤ 2147483647) ∧ -2147483648 ≤ R.place ∧ R.place ≤ 2147483647 := by
  obtain ⟨xs, n, _, _, hl, hlen, hf⟩ := DataW.trod_struct Try.underlying66 h
  rw [cells66] at hl
  obtain ⟨v0, v1, rfl⟩ := list2 cs hl
  obtain ⟨y0, y1, rfl⟩ := list2 xs hlen
  have f0 := hf 0 _ rfl
  have f1 := hf 1 _ rfl
  simp [cells21] at f0 f1
  obtain ⟨ky, e0, _, w0⟩ := DataW.trod_int Try.underlying21 f0
  obtain ⟨pl, e1, _, w1⟩ := DataW.trod_int Try.underlying21 f1
  simp at e0 e1
  subst e0 e1
  exact ⟨⟨ky, pl⟩, rfl, bounds_i32 w0, bounds_i32 w1⟩

instance : Inhabited Rl := ⟨⟨0, ByteArray.empty, ByteArray.empty⟩⟩
instance : Inhabited Bd := ⟨⟨0, none, none⟩⟩
instance : Inhabited Kp := ⟨⟨0, 0⟩⟩

/-- A slice of structs that came in, element by element. -/
theorem rows_of {α : Type} [Inhabited α] {t e : TypeId} {z : Nat} (hz : 0 < z) (ht : Try.prog.underlying t = some (.slice e)) (hcs : Try.prog.cellsOf e = z) (C : α → List Value) (ok : α → Prop) (hC : ∀ R, (C R).length = z)
    (el : ∀ {base fuel : Nat} {cs : List Value} {x : DataW H × List MemPlace}, DataW.trod enc Try.prog W base sp held fuel e cs = some x → ∃ R, cs = C R ∧ ok R) {fuel : Nat} {a : Option Addr} {n c : Nat} {y : DataW H × List MemPlace} (hf : DataW.trod enc Try.prog W 0 sp held fuel t (Value.slice a n c).cells.toList = some y) :
    ∃ (b o : Nat) (r : Nat → α), (0 < n → a = some ⟨b, o, none⟩ ∧ b < W.heap.size) ∧ (a = none → n = 0) ∧ (∀ i j, i < n → j < z → W.cell? ⟨b, o + i * z + j, none⟩ = (C (r i))[j]?) ∧ ∀ i, i < n → ok (r i) := by
  rcases Go.Deep.open_slice ht hf with ⟨hcs', _⟩ | ⟨x, l, c', m, n', D, Pl, hcs', _, hl, hm, hmm, hx, hcell⟩
  · simp [Value.cells] at hcs'
    obtain ⟨rfl, rfl, rfl⟩ := hcs'
    exact ⟨0, 0, fun _ => default, fun h => absurd h (by omega), fun _ => rfl, fun i j h => absurd h (by omega), fun i h => absurd h (by omega)⟩
  · simp [Value.cells] at hcs'
    obtain ⟨rfl, rfl, rfl⟩ := hcs'
    by_cases h0 : n = 0
    · subst h0
      exact ⟨0, 0, fun _ => default, fun h => absurd h (by omega), fun _ => rfl, fun i j h => absurd h (by omega), fun i h => absurd h (by omega)⟩
    · have hnm : n ≤ m := by rw [hmm]; split <;> omega
      rw [hcs] at hcell
      obtain ⟨r, hr⟩ := Go.Deep.choose_lt (α := α) (n := n) (p := fun i R => (∀ j, j < z → W.cell? ((x.add (i * z)).add j) = (C R)[j]?) ∧ ok R) (fun i hi => by
        obtain ⟨cs', h1, h2⟩ := hcell i (by omega)
        obtain ⟨R, rfl, hR⟩ := el h2
        obtain ⟨_, _, h3⟩ := World.cells?_some h1
        exact ⟨R, h3, hR⟩)
      obtain ⟨b, o, spot⟩ := x
      have hspot : spot = none := by
        have h := (hr 0 (by omega)).1 0 hz
        rw [List.getElem?_eq_getElem (by rw [hC]; exact hz)] at h
        simpa [Addr.add] using World.cell?_spot h
      subst hspot
      have hc : ∀ i j, i < n → j < z → W.cell? ⟨b, o + i * z + j, none⟩ = (C (r i))[j]? := fun i j hi hj => by
        have := (hr i hi).1 j hj
        rwa [add_plain, add_plain] at this
      have hb : b < W.heap.size := by
        have h := hc 0 0 (by omega) hz
        rw [List.getElem?_eq_getElem (by rw [hC]; exact hz)] at h
        exact World.block_lt_of_cell? W _ h
      exact ⟨b, o, r, fun _ => ⟨rfl, hb⟩, (fun h => by cases h), hc, fun i hi => (hr i hi).2⟩

theorem pool_of {fuel : Nat} {a : Option Addr} {n c : Nat} {y : DataW H × List MemPlace} (hf : DataW.trod enc Try.prog W 0 sp held fuel 31 (Value.slice a n c).cells.toList = some y) : ∃ b o P, Pool W a n c b o P := by
  obtain ⟨b, o, r, ha, _, hc, hok⟩ := rows_of (z := 3) (by omega) Try.underlying31 cells61 rlCells (fun R => -2147483648 ≤ R.place ∧ R.place ≤ 2147483647) (fun _ => rfl) (fun h => rl_of h) hf
  refine ⟨b, o, r, ⟨fun k w' hk => ?_, fun k hk => hc k 0 hk (by omega), fun k hk => hc k 1 hk (by omega), fun k hk => hc k 2 hk (by omega), fun h => (ha h).2, hok⟩⟩
  obtain ⟨rfl, -⟩ := ha (by omega)
  exact index31 b o n c k hk w'
theorem bnds_of {fuel : Nat} {a : Option Addr} {n c : Nat} {y : DataW H × List MemPlace} (hf : DataW.trod enc Try.prog W 0 sp held fuel 32 (Value.slice a n c).cells.toList = some y) : ∃ b o B pn px, Bnds W a n c b o B pn px := by
  obtain ⟨b, o, r, ha, hn, hc, hok⟩ := rows_of (z := 3) (by omega) Try.underlying32 cells58 bdCells (fun R => Says W R.2.1 R.1.nb ∧ Says W R.2.2 R.1.ex) (fun _ => rfl) (fun h => bd_of h) hf
  refine ⟨b, o, fun k => (r k).1, fun k => (r k).2.1, fun k => (r k).2.2, ⟨fun k w' hk => ?_, fun k hk => hc k 0 hk (by omega), fun k hk => hc k 1 hk (by omega), fun k hk => hc k 2 hk (by omega), fun k hk => (hok k hk).1, fun k hk => (hok k hk).2, fun h => (ha h).2, hn⟩⟩
  obtain ⟨rfl, -⟩ := ha (by omega)
  exact index32 .i64 b o n c k hk w'
theorem kps_of {fuel : Nat} {a : Option Addr} {n c : Nat} {y : DataW H × List MemPlace} (hf : DataW.trod enc Try.prog W 0 sp held fuel 33 (Value.slice a n c).cells.toList = some y) : ∃ b o K, Kps W a n c b o K := by
  obtain ⟨b, o, r, ha, _, hc, hok⟩ := rows_of (z := 2) (by omega) Try.underlying33 cells66 kpCells (fun R => (-2147483648 ≤ R.key ∧ R.key ≤ 2147483647) ∧ -2147483648 ≤ R.place ∧ R.place ≤ 2147483647) (fun _ => rfl) (fun h => kp_of h) hf
  refine ⟨b, o, r, ⟨fun k w' hk => ?_, fun k hk => hc k 0 hk (by omega), fun k hk => hc k 1 hk (by omega), fun h => (ha h).2, hok⟩⟩
  obtain ⟨rfl, -⟩ := ha (by omega)
  exact index33 b o n c k hk w'
theorem ints34_of {fuel : Nat} {a : Option Addr} {n c : Nat} {y : DataW H × List MemPlace} (hf : DataW.trod enc Try.prog W 0 sp held fuel 34 (Value.slice a n c).cells.toList = some y) : ∃ b o Z, Ints 34 .i32 W a n c b o Z := by
  obtain ⟨b, o, r, ha, hn, hc, hok⟩ := rows_of (z := 1) (by omega) Try.underlying34 cells21 (fun R : Int => [.int .i32 R]) (fun R => -9223372036854775808 ≤ R ∧ R ≤ 9223372036854775807) (fun _ => rfl) (fun h => by
    obtain ⟨z, e, _, hw⟩ := DataW.trod_int Try.underlying21 h
    have := bounds_i32 hw
    exact ⟨z, e, by omega, by omega⟩) hf
  refine ⟨b, o, r, ⟨fun k w' hk => ?_, fun k hk => ?_, fun h => (ha h).2, hn, hok⟩⟩
  · obtain ⟨rfl, -⟩ := ha (by omega)
    exact index34 .i64 b o n c k hk w'
  · have := hc k 0 hk (by omega)
    rwa [Nat.mul_one, Nat.add_zero] at this
theorem ints35_of {fuel : Nat} {a : Option Addr} {n c : Nat} {y : DataW H × List MemPlace} (hf : DataW.trod enc Try.prog W 0 sp held fuel 35 (Value.slice a n c).cells.toList = some y) : ∃ b o Z, Ints 35 .i64 W a n c b o Z := by
  obtain ⟨b, o, r, ha, hn, hc, hok⟩ := rows_of (z := 1) (by omega) Try.underlying35 cells3 (fun R : Int => [.int .i64 R]) (fun R => -9223372036854775808 ≤ R ∧ R ≤ 9223372036854775807) (fun _ => rfl) (fun h => by
    obtain ⟨z, e, _, hw⟩ := DataW.trod_int Try.underlying3 h
    exact ⟨z, e, bounds_i64 hw⟩) hf
  refine ⟨b, o, r, ⟨fun k w' hk => ?_, fun k hk => ?_, fun h => (ha h).2, hn, hok⟩⟩
  · obtain ⟨rfl, -⟩ := ha (by omega)
    exact index35 b o n c k hk w'
  · have := hc k 0 hk (by omega)
    rwa [Nat.mul_one, Nat.add_zero] at this
end

end Go.Proofs.Qxb6618997a.Lk
