/-
  What was built and what the walks of lookUp and of the model are told of it.
-/
import Derived.Test.Qxb6618997aLkOffer
import Derived.Test.Qxb6618997aLkGuard
import Derived.LaidEqlPtr
namespace Go.Proofs.Qxb6618997a.Lk
open Go.RowKit Go.WideMaps Go.Maps

/-- What came in. -/
structure Data where
  np : Nat
  nb : Nat
  nf : Nat
  nw : Nat
  nr : Nat
  ns : Nat
  ix : Bool
  P : Nat → Rl
  B : Nat → Bd
  K : Nat → Kp
  W : Nat → Int
  R : Nat → Int
  S : Nat → Int
  t : Int
  pk : ByteArray
  pm : ByteArray
/-- Where it lies. -/
structure Adr where
  gp : Nat
  gl : Nat
  gi : Nat
  gk : Nat
  gr : Nat
  ra : Nat → Nat
  pn : Nat → Option Addr
  px : Nat → Option Addr
  a7 : Option Addr
  c7 : Nat
  b7 : Nat
  o7 : Nat
  a9 : Option Addr
  c9 : Nat
  b9 : Nat
  o9 : Nat
def Data.role (D : Data) (j : Nat) : Nat := (D.B j).role.toNat
/-- Binding j gives. -/
def Data.g (D : Data) (j : Nat) : Bool := giv D.t D.pk D.pm (D.P (D.role j)).ik (D.P (D.role j)).inn (D.B j).nb (D.B j).ex
def Data.ask (D : Data) : Ask := ⟨D.nb, D.nf, D.nw, D.nr, D.ns, D.ix, fun j => (D.B j).role, fun m => (D.K m).key, fun m => (D.K m).place.toNat, fun m => (D.W m).toNat, D.R, D.S, D.g⟩
def offs (D : Data) (X : Adr) (l : List Nat) : List Nat := l.map fun j => X.ra (D.role j)
theorem offs_length (D : Data) (X : Adr) (l : List Nat) : (offs D X l).length = l.length := List.length_map _
theorem offs_append (D : Data) (X : Adr) (l m : List Nat) : offs D X (l ++ m) = offs D X l ++ offs D X m := List.map_append

structure Ok (D : Data) : Prop where
  np : D.np ≤ 1024
  nb : D.nb ≤ 1024
  nf : D.nf ≤ 1024
  nw : D.nw ≤ 1024
  nr : D.nr ≤ 1024
  ns : D.ns ≤ 1024
  prg : ∀ i, i < D.np → -2147483648 ≤ (D.P i).place ∧ (D.P i).place ≤ 2147483647
  pre : Prem D.np D.nb D.nf D.nw D.nr D.ix D.P D.B D.K D.W D.R

structure Env (D : Data) (X : Adr) (w : World) : Prop where
  rb : ∀ i, i < D.np → w.heap[X.ra i]? = some (.cells (roleCells (D.P i).place (D.P i).ik (D.P i).inn) 110)
  inj : ∀ i j, i < D.np → j < D.np → X.ra i = X.ra j → i = j
  bl : BL w X.gl D.nb (fun j => X.ra (D.role j)) (fun j => (D.P (D.role j)).place) X.pn X.px
  s1 : ∀ j, j < D.nb → Says w (X.pn j) (D.B j).nb
  s2 : ∀ j, j < D.nb → Says w (X.px j) (D.B j).ex
  rp : ∀ i, i < D.nr → w.cell? ⟨X.gr, i, none⟩ = some (.pointer (some ⟨X.ra (D.R i).toNat, 0, none⟩))
  rlt : X.gr < w.heap.size
  kl : D.ix = true → KL w X.gk D.nf (fun m => (D.K m).key) (fun m => (D.K m).place)
  il : D.ix = true → w.heap[X.gi]? = some (.cells #[.slice (some ⟨X.gk, 0, none⟩) D.nf D.nf, .slice X.a7 D.nw X.c7] 112)
  wi : Ints 34 .i32 w X.a7 D.nw X.c7 X.b7 X.o7 D.W
  sh : Ints 34 .i32 w X.a9 D.ns X.c9 X.b9 X.o9 D.S
  pt : ∀ i, i < D.np → w.cell? ⟨X.gp, i, none⟩ = some (.pointer (some ⟨X.ra i, 0, none⟩))
  plt : X.gp < w.heap.size

theorem lt_of_heap {w : World} {k : Nat} {o : Obj} (h : w.heap[k]? = some o) : k < w.heap.size := (Array.getElem?_eq_some_iff.mp h).1

theorem Env.below {D : Data} {X : Adr} {w w' : World} (h : Env D X w) (hw : Below w.heap.size w w') : Env D X w' :=
  ⟨fun i hi => (hw.block _ (lt_of_heap (h.rb i hi))).trans (h.rb i hi), h.inj, h.bl.below hw, fun j hj => (h.s1 j hj).below hw, fun j hj => (h.s2 j hj).below hw, fun i hi => (hw.cell (p := ⟨X.gr, i, none⟩) h.rlt).trans (h.rp i hi), Nat.lt_of_lt_of_le h.rlt hw.size, fun e => (h.kl e).below hw, fun e => (hw.block _ (lt_of_heap (h.il e))).trans (h.il e), h.wi.below hw, h.sh.below hw, fun i hi => (hw.cell (p := ⟨X.gp, i, none⟩) h.plt).trans (h.pt i hi), Nat.lt_of_lt_of_le h.plt hw.size⟩

theorem Ok.role {D : Data} (h : Ok D) {j : Nat} (hj : j < D.nb) : D.role j < D.np ∧ (D.B j).role = (D.role j : Nat) := by
  have := h.pre.br j hj
  unfold Data.role
  omega
theorem Ok.rr {D : Data} (h : Ok D) {i : Nat} (hi : i < D.nr) : (D.R i).toNat < D.np ∧ D.R i = ((D.R i).toNat : Nat) := by
  have := h.pre.rr i hi
  omega

theorem role_cells {w : World} {r : Nat} {pl : Int} {ik inn : ByteArray} (h : w.heap[r]? = some (.cells (roleCells pl ik inn) 110)) : w.cell? ⟨r, 2, none⟩ = some (.int .i64 pl) ∧ w.cell? ⟨r, 4, none⟩ = some (.string ik) ∧ w.cell? ⟨r, 5, none⟩ = some (.string inn) := by
  simp [World.cell?, h, roleCells]

theorem info110 : ∃ j, Try.prog.info? 110 = some j ∧ j.size ≠ 0 := by
  have h : (Try.prog.info? 110).map (·.size) = some 13 := by kernel_rfl
  cases e : Try.prog.info? 110 with
  | none => simp [e] at h
  | some i => exact ⟨i, rfl, by simp [e] at h; omega⟩

/-- '==' on two roles' pointers. -/
theorem Env.eql {D : Data} {X : Adr} {w : World} (h : Env D X w) {i j : Nat} (hi : i < D.np) (hj : j < D.np) : (binOp .eql 55 (.pointer (some ⟨X.ra i, 0, none⟩)) (.pointer (some ⟨X.ra j, 0, none⟩))).run Try.prog w = .ok (.bool (decide (i = j))) w := by
  obtain ⟨q, hq, hz⟩ := info110
  by_cases e : i = j
  · subst e
    rw [decide_eq_true rfl]
    exact run_eql_ptr_same w _ Try.underlying55 hq
  · rw [decide_eq_false e]
    exact run_eql_ptr_other w Try.underlying55 hq hz (fun he => e (h.inj i j hi hj (by injection he))) (h.rb i hi) (h.rb j hj)

end Go.Proofs.Qxb6618997a.Lk
