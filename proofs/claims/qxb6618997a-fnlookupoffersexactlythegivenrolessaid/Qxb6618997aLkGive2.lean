/-
  b1Gives (24), walked.
-/
import Derived.Test.Qxb6618997aLkGive
namespace Go.Proofs.Qxb6618997a.Lk
open Go.RowKit Go.WideMaps Go.Maps

/-- b1Gives' last two tests. -/
theorem apl_cases (pk pm ik inn : ByteArray) : apl pk pm ik inn = (if (ik.toList == [] && inn.toList == []) = true then true else (ik.toList == pk.toList && inn.toList == pm.toList)) := by
  have e1 : (pk.toList == ik.toList) = (ik.toList == pk.toList) := Bool.beq_comm
  have e2 : (pm.toList == inn.toList) = (inn.toList == pm.toList) := Bool.beq_comm
  unfold apl
  rw [e1, e2]
  cases (ik.toList == [] && inn.toList == []) <;> simp

set_option linter.unusedSimpArgs false in
set_option maxHeartbeats 2000000 in
theorem b1Gives_any (t : Int) (pk pm : ByteArray) (place role : Int) (ik inn : ByteArray) (pn px : Option Addr) (nb ex : Option Int) (w : World) (h1 : Says w pn nb) (h2 : Says w px ex) : Calls Try.prog 24 #[.int .i64 t, .string pk, .string pm, .agg #[.int .i32 place, .string ik, .string inn], .agg #[.int .i64 role, .pointer pn, .pointer px]] w fun e w' => e = .returned (.bool (giv t pk pm ik inn nb ex)) ∧ Below w.heap.size w w' := by
  have hA : giv t pk pm ik inn nb ex = ((lo1 t nb && up1 t ex) && apl pk pm ik inn) := rfl
  rw [apl_cases] at hA
  generalize giv t pk pm ik inn nb ex = A at hA
  rcases h1 with ⟨rfl, rfl⟩ | ⟨x, o, z, rfl, rfl, hc, hl⟩
  · rcases h2 with ⟨rfl, rfl⟩ | ⟨x', o', z', rfl, rfl, hc', hl'⟩
    · simp only [lo1, up1, decide_true, decide_false, Bool.and_true, Bool.true_and, Bool.false_and, Bool.and_false, Bool.and_self] at hA
      have HA : Hid (A = _) := hA
      clear hA
      go_enter Try.func24, Try.ntmps24
      go_wp2
      all_goals (go_ret; refine ⟨congrArg (fun b => Ending.returned (Value.bool b)) ?_, ((Below.refl _ _).alloc (Nat.le_refl _) _).alloc (by simp) _⟩; rw [HA.out]; try simp_all)
    · by_cases hz : t < z'
      · simp only [lo1, up1, hz, decide_true, decide_false, Bool.and_true, Bool.true_and, Bool.false_and, Bool.and_false, Bool.and_self] at hA
        have HA : Hid (A = _) := hA
        clear hA
        go_enter Try.func24, Try.ntmps24
        go_wp2
        all_goals (go_ret; refine ⟨congrArg (fun b => Ending.returned (Value.bool b)) ?_, ((Below.refl _ _).alloc (Nat.le_refl _) _).alloc (by simp) _⟩; rw [HA.out]; try simp_all)
      · simp only [lo1, up1, hz, decide_true, decide_false, Bool.and_true, Bool.true_and, Bool.false_and, Bool.and_false, Bool.and_self] at hA
        have HA : Hid (A = _) := hA
        clear hA
        go_enter Try.func24, Try.ntmps24
        go_wp2
        all_goals (go_ret; refine ⟨congrArg (fun b => Ending.returned (Value.bool b)) ?_, ((Below.refl _ _).alloc (Nat.le_refl _) _).alloc (by simp) _⟩; rw [HA.out]; try simp_all)
  · by_cases hy : z ≤ t
    · rcases h2 with ⟨rfl, rfl⟩ | ⟨x', o', z', rfl, rfl, hc', hl'⟩
      · simp only [lo1, up1, hy, decide_true, decide_false, Bool.and_true, Bool.true_and, Bool.false_and, Bool.and_false, Bool.and_self] at hA
        have HA : Hid (A = _) := hA
        clear hA
        go_enter Try.func24, Try.ntmps24
        go_wp2
        all_goals (go_ret; refine ⟨congrArg (fun b => Ending.returned (Value.bool b)) ?_, ((Below.refl _ _).alloc (Nat.le_refl _) _).alloc (by simp) _⟩; rw [HA.out]; try simp_all)
      · by_cases hz : t < z'
        · simp only [lo1, up1, hy, hz, decide_true, decide_false, Bool.and_true, Bool.true_and, Bool.false_and, Bool.and_false, Bool.and_self] at hA
          have HA : Hid (A = _) := hA
          clear hA
          go_enter Try.func24, Try.ntmps24
          go_wp2
          all_goals (go_ret; refine ⟨congrArg (fun b => Ending.returned (Value.bool b)) ?_, ((Below.refl _ _).alloc (Nat.le_refl _) _).alloc (by simp) _⟩; rw [HA.out]; try simp_all)
        · simp only [lo1, up1, hy, hz, decide_true, decide_false, Bool.and_true, Bool.true_and, Bool.false_and, Bool.and_false, Bool.and_self] at hA
          have HA : Hid (A = _) := hA
          clear hA
          go_enter Try.func24, Try.ntmps24
          go_wp2
          all_goals (go_ret; refine ⟨congrArg (fun b => Ending.returned (Value.bool b)) ?_, ((Below.refl _ _).alloc (Nat.le_refl _) _).alloc (by simp) _⟩; rw [HA.out]; try simp_all)
    · simp only [lo1, up1, hy, decide_true, decide_false, Bool.and_true, Bool.true_and, Bool.false_and, Bool.and_false, Bool.and_self] at hA
      have HA : Hid (A = _) := hA
      clear hA
      go_enter Try.func24, Try.ntmps24
      go_wp2
      all_goals (go_ret; refine ⟨congrArg (fun b => Ending.returned (Value.bool b)) ?_, ((Below.refl _ _).alloc (Nat.le_refl _) _).alloc (by simp) _⟩; rw [HA.out]; try simp_all)

end Go.Proofs.Qxb6618997a.Lk
