/-
  (scope).everywhere (35), ZZscopeEverywhere (26), b1Ev (12), walked: true just where all six names are empty.
-/
import Derived.Test.Qxb6618997aRows
import Derived.WalkKit
import Derived.WalkSpells
import Derived.WalkLawsBesides
import Derived.Handy
import Derived.Laws.StructEq
import Derived.ChangeKeysEq
import Derived.Deep.QuietTactic
import Derived.BigQuiet
namespace Go.Proofs.Qxb6618997a.Sc
open Go.RowKit

theorem eql51 (a b c d : ByteArray) (w : World) : (binOp .eql 51 (.agg #[.string a, .string b]) (.agg #[.string c, .string d])).run Try.prog w = .ok (.bool (a.toList == c.toList && b.toList == d.toList)) w := by
  have h9 := Try.underlying9
  have h51 := Try.underlying51
  have h1 : Try.prog.fieldsOf 51 = #[{ name := "Kind", type := 9, offset := 0, embedded := false, tag := "", pkgPath := "", byteOffset := 0 }, { name := "Name", type := 9, offset := 1, embedded := false, tag := "", pkgPath := "", byteOffset := 16 }] := by unfold Program.fieldsOf; rw [Try.underlying51]
  have p : ∀ (xs : Array Value) (off : Nat) (v : Value) (w : World), xs[off]? = some v → (part 9 xs off).run Try.prog w = .ok v w := fun xs off v w h => run_part_plain w (by kernel_rfl) h
  have e9 := fun x y => run_equalIn_string (P := Try.prog) w 9998 9 x y h9
  rw [run_eql_struct, run_equalIn_struct w _ _ _ _ (by rw [h1]; exact h51) (by kernel_rfl), h1]
  simp only [Op.eqFields]
  rw [if_pos (by decide), Sem.run_bind, p _ 0 (.string a) _ rfl, Result.andThen_ok, Sem.run_bind, p _ 0 (.string c) _ rfl, Result.andThen_ok, Sem.run_bind, e9, Result.andThen_ok]
  cases hac : (a.toList == c.toList)
  · simp
  · simp only [Bool.not_true, Bool.false_eq_true, if_false]
    rw [if_pos (by decide), Sem.run_bind, p _ 1 (.string b) _ rfl, Result.andThen_ok, Sem.run_bind, p _ 1 (.string d) _ rfl, Result.andThen_ok, Sem.run_bind, e9, Result.andThen_ok]
    cases hbd : (b.toList == d.toList) <;> simp

/-- All six are empty. -/
def none6 (a b c d e f : ByteArray) : Bool := a.toList.isEmpty && b.toList.isEmpty && (c.toList.isEmpty && d.toList.isEmpty) && (e.toList.isEmpty && f.toList.isEmpty)
def w35 (a b c d e f : ByteArray) (w : World) : World := w.alloc (Obj.cells #[.string a, .string b, .string c, .string d, .string e, .string f] 102)
def w26 (a b c d e f : ByteArray) (w : World) : World := w35 a b c d e f (((w.alloc (Obj.cells #[.string a, .string b] 51)).alloc (Obj.cells #[.string c, .string d] 51)).alloc (Obj.cells #[.string e, .string f] 51))
def w12 (a b c d e f : ByteArray) (w : World) : World := w26 a b c d e f (w.alloc (Obj.cells #[.string a, .string b, .string c, .string d, .string e, .string f] 28))

theorem everywhere_any (a b c d e f : ByteArray) (w : World) :
    Calls Try.prog 35 #[.agg #[.string a, .string b, .string c, .string d, .string e, .string f]] w fun r w' => r = .returned (.bool (none6 a b c d e f)) ∧ w' = w35 a b c d e f w := by
  have q := eql51
  have hn : none6 a b c d e f = (a.toList.isEmpty && b.toList.isEmpty && (c.toList.isEmpty && d.toList.isEmpty) && (e.toList.isEmpty && f.toList.isEmpty)) := rfl
  generalize none6 a b c d e f = R at hn
  go_enter Try.func35, Try.ntmps35
  go_wp2
  · go_ret
    exact ⟨by rw [hn]; simp [*], rfl⟩
  · go_ret
    exact ⟨by rw [hn]; simp_all, rfl⟩
  · go_ret
    exact ⟨by rw [hn]; simp_all, rfl⟩

theorem scope_any (a b c d e f : ByteArray) (w : World) :
    Calls Try.prog 26 #[.agg #[.string a, .string b], .agg #[.string c, .string d], .agg #[.string e, .string f]] w fun r w' => r = .returned (.bool (none6 a b c d e f)) ∧ w' = w26 a b c d e f w := by
  go_enter Try.func26, Try.ntmps26
  go_wp2_with (go_at_call 35; refine (everywhere_any _ _ _ _ _ _ _).mono ?_; rintro r w' ⟨rfl, rfl⟩)
  go_ret
  exact ⟨rfl, rfl⟩

theorem b1Ev_any (a b c d e f : ByteArray) (w : World) :
    Calls Try.prog 12 #[.agg #[.string a, .string b, .string c, .string d, .string e, .string f]] w fun r w' => r = .returned (.bool (none6 a b c d e f)) ∧ w' = w12 a b c d e f w := by
  go_enter Try.func12, Try.ntmps12
  go_wp2_with (go_at_call 26; refine (scope_any _ _ _ _ _ _ _).mono ?_; rintro r w' ⟨rfl, rfl⟩)
  go_ret
  exact ⟨rfl, rfl⟩
end Go.Proofs.Qxb6618997a.Sc
