/-
  THE PLAIN LAW beneath the two laws over (Query).Take: a map filled from the pairs (keys[i], vals[i]), as read; no Go text in sight.
-/
import Derived.Maps.OwnSet
import Derived.Maps.StringElems
namespace Go.Proofs.Qxb6618127a
open Go.Maps

/-- The bytes of the k-th text. -/
def bs (ss : List ByteArray) (k : Nat) : List UInt8 := (ss.getD k ByteArray.empty).data.toList

/-- The map behind the first k pairs. -/
def D (ks vs : List ByteArray) : Nat → DataW Unit
  | 0 => .map []
  | k + 1 => (D ks vs k).put (.string (bs ks k)) (.lit (.string (bs vs k)))

/-- Is x among the first k keys? -/
def found (ks : List ByteArray) (x : List UInt8) : Nat → Bool
  | 0 => false
  | k + 1 => (bs ks k == x) || found ks x k

/-- The last value of x among the first k pairs. -/
def lastV (ks vs : List ByteArray) (x : List UInt8) : Nat → List UInt8
  | 0 => []
  | k + 1 => if bs ks k = x then bs vs k else lastV ks vs x k

/-- No j with i < j < m bears the key of i. -/
def lastTo (ks : List ByteArray) (i m : Nat) : Bool := (List.range m).all fun j => !(decide (i < j) && bs ks j == bs ks i)

theorem lastTo_succ (ks : List ByteArray) (i m : Nat) : lastTo ks i (m + 1) = (lastTo ks i m && !(decide (i < m) && bs ks m == bs ks i)) := by
  simp [lastTo, List.range_succ]

theorem lastTo_start (ks : List ByteArray) (i : Nat) : lastTo ks i (i + 1) = true := by
  simp only [lastTo, List.all_eq_true, List.mem_range]
  intro j hj
  simp
  omega

theorem lastTo_false {ks : List ByteArray} {i j m : Nat} (h1 : i < j) (h2 : j < m) (h : bs ks j = bs ks i) : lastTo ks i m = false := by
  rw [lastTo, List.all_eq_false]
  exact ⟨j, by simpa using h2, by simp [h1, h]⟩

theorem isKey (x : List UInt8) : WideAt.IsKeyLit (.string x) := by simp [WideAt.IsKeyLit]

theorem tidy_D (ks vs : List ByteArray) : ∀ k, Tidy (D ks vs k)
  | 0 => tidy_empty
  | k + 1 => (tidy_D ks vs k).put (isKey _) _

theorem lit_ne {x y : List UInt8} (h : x ≠ y) : Lit.string x ≠ Lit.string y := fun e => h (by injection e)

theorem has_D (ks vs : List ByteArray) (x : List UInt8) : ∀ k, has (D ks vs k) (.string x) = found ks x k
  | 0 => rfl
  | k + 1 => by
    rw [D, found]
    by_cases e : bs ks k = x
    · subst e
      rw [has_put_same (tidy_D ks vs k).isMap (isKey _)]
      simp
    · rw [has_put_other (lit_ne (Ne.symm e)), has_D ks vs x k]
      simp [e]

theorem at_D (ks vs : List ByteArray) (x : List UInt8) : ∀ k, (D ks vs k).atKey (.string x) (.lit (.string [])) = .lit (.string (lastV ks vs x k))
  | 0 => rfl
  | k + 1 => by
    rw [D, lastV]
    by_cases e : bs ks k = x
    · subst e
      rw [atKey_put_same (tidy_D ks vs k).isMap (isKey _)]
      simp
    · rw [atKey_put_other (lit_ne (Ne.symm e)), at_D ks vs x k]
      simp [e]

theorem found_iff (ks : List ByteArray) (x : List UInt8) : ∀ k, found ks x k = true ↔ ∃ i, i < k ∧ bs ks i = x
  | 0 => by simp [found]
  | k + 1 => by
    rw [found, Bool.or_eq_true, found_iff ks x k]
    constructor
    · rintro (h | ⟨i, h1, h2⟩)
      · exact ⟨k, by omega, by simpa using h⟩
      · exact ⟨i, by omega, h2⟩
    · rintro ⟨i, h1, h2⟩
      by_cases e : i = k
      · subst e; left; simpa using h2
      · right; exact ⟨i, by omega, h2⟩

theorem lastTo_iff (ks : List ByteArray) (i m : Nat) : lastTo ks i m = true ↔ ∀ j, i < j → j < m → bs ks j ≠ bs ks i := by
  constructor
  · intro h j h1 h2 e
    rw [lastTo_false h1 h2 e] at h
    cases h
  · intro h
    simp only [lastTo, List.all_eq_true, List.mem_range]
    intro j hj
    by_cases h1 : i < j
    · simp [h1, h j h1 hj]
    · simp [h1]

/-- The value of a key's last pair. -/
theorem lastV_of_last (ks vs : List ByteArray) (i : Nat) : ∀ n, i < n → lastTo ks i n = true → lastV ks vs (bs ks i) n = bs vs i
  | 0, h, _ => absurd h (by omega)
  | n + 1, h, hl => by
    rw [lastTo_succ, Bool.and_eq_true] at hl
    by_cases e : i = n
    · subst e; simp [lastV]
    · have hlt : i < n := by omega
      have hne : bs ks n ≠ bs ks i := by simpa [hlt] using hl.2
      rw [lastV, if_neg hne]
      exact lastV_of_last ks vs i n hlt hl.1

theorem lastV_not_found (ks vs : List ByteArray) (x : List UInt8) : ∀ n, found ks x n = false → lastV ks vs x n = []
  | 0, _ => rfl
  | n + 1, h => by
    rw [found, Bool.or_eq_false_iff] at h
    rw [lastV, if_neg (by simpa using h.1)]
    exact lastV_not_found ks vs x n h.2

/-- How many of the first m keys are the last of their kind among n. -/
def live (ks : List ByteArray) (n m : Nat) : Nat := (List.range m).countP (fun i => lastTo ks i n)

theorem live_succ (ks : List ByteArray) (n m : Nat) : live ks n (m + 1) = live ks n m + if lastTo ks m n then 1 else 0 := by
  simp [live, List.range_succ, List.countP_append, List.countP_cons]

theorem live_le (ks : List ByteArray) (n m : Nat) : live ks n m ≤ m := by
  have := List.countP_le_length (p := fun i => lastTo ks i n) (l := List.range m)
  simpa [live] using this

theorem cnt_one (ks : List ByteArray) (x : List UInt8) : ∀ n, (List.range n).countP (fun i => lastTo ks i n && bs ks i == x) = if found ks x n then 1 else 0
  | 0 => by simp [found]
  | n + 1 => by
    have ih := cnt_one ks x n
    have hself : lastTo ks n (n + 1) = true := lastTo_start ks n
    rw [List.range_succ, List.countP_append]
    simp only [List.countP_cons, List.countP_nil, hself, Bool.true_and, Nat.zero_add]
    by_cases e : bs ks n = x
    · have h0 : (List.range n).countP (fun i => lastTo ks i (n + 1) && bs ks i == x) = 0 := by
        rw [List.countP_eq_zero]
        intro i hi
        have hlt : i < n := by simpa using hi
        by_cases hx : bs ks i = x
        · rw [lastTo_false hlt (by omega) (by rw [e, hx])]; simp
        · simp [hx]
      rw [h0]
      simp [found, e]
    · have h0 : (List.range n).countP (fun i => lastTo ks i (n + 1) && bs ks i == x) = (List.range n).countP (fun i => lastTo ks i n && bs ks i == x) := by
        apply List.countP_congr
        intro i hi
        have hlt : i < n := by simpa using hi
        rw [lastTo_succ]
        by_cases hx : bs ks i = x
        · have hne : bs ks n ≠ bs ks i := by rw [hx]; exact e
          simp [hne]
        · simp [hx]
      rw [h0, ih]
      simp [found, e]

theorem live_step (ks : List ByteArray) (n : Nat) : live ks (n + 1) (n + 1) + (if found ks (bs ks n) n then 1 else 0) = live ks n n + 1 := by
  rw [live_succ, lastTo_start, if_pos rfl, ← cnt_one ks (bs ks n) n]
  have key : live ks (n + 1) n + (List.range n).countP (fun i => lastTo ks i n && bs ks i == bs ks n) = live ks n n := by
    unfold live
    have h1 : (List.range n).countP (fun i => lastTo ks i (n + 1)) = (List.range n).countP (fun i => lastTo ks i n && !(bs ks i == bs ks n)) := by
      apply List.countP_congr
      intro i hi
      have hlt : i < n := by simpa using hi
      have e1 : (bs ks n == bs ks i) = (bs ks i == bs ks n) := by rw [Bool.eq_iff_iff]; simp only [beq_iff_eq]; exact ⟨Eq.symm, Eq.symm⟩
      rw [lastTo_succ, e1]
      simp [hlt]
    rw [h1]
    generalize List.range n = l
    induction l with
    | nil => rfl
    | cons a l ih =>
      simp only [List.countP_cons]
      cases lastTo ks a n <;> cases (bs ks a == bs ks n) <;> simp <;> omega
  omega

theorem size_D (ks vs : List ByteArray) : ∀ n, size (D ks vs n) = live ks n n
  | 0 => rfl
  | n + 1 => by
    have ih := size_D ks vs n
    have hs := live_step ks n
    rw [D, size_put (tidy_D ks vs n), has_D, ih]
    cases h : found ks (bs ks n) n <;> simp [h] at hs ⊢ <;> omega

/-! ### behind Take: 'del' -/
theorem size_taken (ks vs : List ByteArray) (n : Nat) (x : List UInt8) : size (((D ks vs n).del (.string x)).del (.string x)) + (if found ks x n then 1 else 0) = live ks n n := by
  rw [del_of_not_has (has_del_same), ← size_D ks vs n, ← size_del (k := .string x) (tidy_D ks vs n), has_D]

theorem has_taken (ks vs : List ByteArray) (n : Nat) (x y : List UInt8) (hne : y ≠ x) : has (((D ks vs n).del (.string x)).del (.string x)) (.string y) = found ks y n := by
  rw [del_of_not_has (has_del_same), has_del_other (lit_ne hne), has_D]

theorem at_taken (ks vs : List ByteArray) (n : Nat) (x y : List UInt8) (hne : y ≠ x) : (((D ks vs n).del (.string x)).del (.string x)).atKey (.string y) (.lit (.string [])) = .lit (.string (lastV ks vs y n)) := by
  rw [del_of_not_has (has_del_same), atKey_del_other (lit_ne hne), at_D]

/-! ### the keys taken in turn -/
/-- The map of n pairs behind the taking of the first k keys. -/
def E (ks vs : List ByteArray) (n : Nat) : Nat → DataW Unit
  | 0 => D ks vs n
  | k + 1 => (E ks vs n k).del (.string (bs ks k))

theorem tidy_E (ks vs : List ByteArray) (n : Nat) : ∀ k, Tidy (E ks vs n k)
  | 0 => tidy_D ks vs n
  | k + 1 => (tidy_E ks vs n k).del _

theorem has_E (ks vs : List ByteArray) (n : Nat) (x : List UInt8) : ∀ k, has (E ks vs n k) (.string x) = (found ks x n && !found ks x k)
  | 0 => by simp [E, has_D, found]
  | k + 1 => by
    rw [E, found]
    by_cases e : bs ks k = x
    · subst e
      rw [has_del_same]; simp
    · have e1 : (bs ks k == x) = false := by simpa using e
      rw [has_del_other (lit_ne (Ne.symm e)), has_E ks vs n x k, e1]
      simp

theorem at_E (ks vs : List ByteArray) (n : Nat) (x : List UInt8) : ∀ k, found ks x k = false → (E ks vs n k).atKey (.string x) (.lit (.string [])) = .lit (.string (lastV ks vs x n))
  | 0, _ => at_D ks vs x n
  | k + 1, h => by
    rw [found, Bool.or_eq_false_iff] at h
    have hne : bs ks k ≠ x := by simpa using h.1
    rw [E, atKey_del_other (lit_ne (Ne.symm hne))]
    exact at_E ks vs n x k h.2

theorem at_E_gone (ks vs : List ByteArray) (n k : Nat) (x : List UInt8) (h : found ks x k = true) : (E ks vs n k).atKey (.string x) (.lit (.string [])) = .lit (.string []) :=
  atKey_of_not_has (by rw [has_E, h]; simp) _

/-- Every entry of the map behind n pairs bears a text for a key. -/
theorem keys_D (ks vs : List ByteArray) : ∀ n, ∃ es, D ks vs n = .map es ∧ ∀ p ∈ es, ∃ x, p.1 = .string x
  | 0 => ⟨[], rfl, by simp⟩
  | n + 1 => by
    obtain ⟨es, he, hall⟩ := keys_D ks vs n
    refine ⟨DataW.insert (.string (bs ks n), .lit (.string (bs vs n))) (es.filter fun p => !p.1.sameKey (.string (bs ks n))), by rw [D, he]; rfl, fun p hp => ?_⟩
    rcases List.mem_cons.1 ((WideShapes.insert_perm _ _).mem_iff.1 hp) with rfl | hp
    · exact ⟨_, rfl⟩
    · exact hall p (List.mem_filter.1 hp).1

theorem keys_E (ks vs : List ByteArray) (n : Nat) : ∀ k, ∃ es, E ks vs n k = .map es ∧ ∀ p ∈ es, ∃ x, p.1 = .string x
  | 0 => keys_D ks vs n
  | k + 1 => by
    obtain ⟨es, he, hall⟩ := keys_E ks vs n k
    exact ⟨es.filter fun p => !p.1.sameKey (.string (bs ks k)), by rw [E, he]; rfl, fun p hp => hall p (List.mem_filter.1 hp).1⟩

/-- Behind the taking of every key nothing is left. -/
theorem size_E (ks vs : List ByteArray) (n : Nat) : size (E ks vs n n) = 0 := by
  obtain ⟨es, he, hall⟩ := keys_E ks vs n n
  cases es with
  | nil => rw [he]; rfl
  | cons p es =>
    exfalso
    obtain ⟨x, hx⟩ := hall p (by simp)
    have h1 : has (E ks vs n n) (.string x) = true := by
      rw [he, has_eq]
      simp [hx, WideAt.sameKey_self (isKey x)]
    rw [has_E] at h1
    cases hf : found ks x n <;> simp [hf] at h1

end Go.Proofs.Qxb6618127a
