/-
  THE PLAIN LAW of the join: the masks of the whole are the masks of the two parts, merged word by word; no Go text in sight.
-/
import Derived.Test.Qxb6618784aSpSplit
namespace Go.Proofs.Qxb6618784a.Sp

/-- Two masks of one word, joined. -/
def both (x y : Mk) : Mk := (x.1, x.2.1 ||| y.2.1, x.2.2 ||| y.2.2)

/-- Two lists of masks, merged by word. -/
def mergeM : List Mk → List Mk → List Mk
  | [], b => b
  | x :: a, [] => x :: a
  | x :: a, y :: b => if x.1 < y.1 then x :: mergeM a (y :: b) else if y.1 < x.1 then y :: mergeM (x :: a) b else both x y :: mergeM a b
termination_by a b => a.length + b.length

theorem mergeM_nil (a : List Mk) : mergeM a [] = a := by cases a <;> simp [mergeM]
theorem nil_mergeM (a : List Mk) : mergeM [] a = a := by simp [mergeM]
theorem mergeM_lt {x y : Mk} {a b : List Mk} (h : x.1 < y.1) : mergeM (x :: a) (y :: b) = x :: mergeM a (y :: b) := by rw [mergeM, if_pos h]
theorem mergeM_gt {x y : Mk} {a b : List Mk} (h : y.1 < x.1) : mergeM (x :: a) (y :: b) = y :: mergeM (x :: a) b := by rw [mergeM, if_neg (by omega), if_pos h]
theorem mergeM_eq {x y : Mk} {a b : List Mk} (h : x.1 = y.1) : mergeM (x :: a) (y :: b) = both x y :: mergeM a b := by rw [mergeM, if_neg (by omega), if_neg (by omega)]

theorem orIn_lt {w bit : Nat} {d : Bool} {m : Mk} {r : List Mk} (h : m.1 < w) : orIn w bit d (m :: r) = m :: orIn w bit d r := by rw [orIn, if_pos h]
theorem orIn_eq {w bit : Nat} {d : Bool} {m : Mk} {r : List Mk} (h : m.1 = w) : orIn w bit d (m :: r) = upd m bit d :: r := by rw [orIn, if_neg (by omega), if_pos h]
theorem orIn_gt {w bit : Nat} {d : Bool} {m : Mk} {r : List Mk} (h : w < m.1) : orIn w bit d (m :: r) = upd (w, 0, 0) bit d :: m :: r := by rw [orIn, if_neg (by omega), if_neg (by omega)]

theorem both_upd (x y : Mk) (bit : Nat) (d : Bool) : both x (upd y bit d) = upd (both x y) bit d := by
  cases d <;> simp [both, upd, Nat.or_assoc]
theorem both_new (x : Mk) (w bit : Nat) (d : Bool) : both x (upd (w, 0, 0) bit d) = upd x bit d := by
  cases d <;> simp [both, upd]

theorem merge_orIn (w bit : Nat) (d : Bool) : ∀ (n : Nat) (A B : List Mk), A.length + B.length ≤ n → mergeM A (orIn w bit d B) = orIn w bit d (mergeM A B)
  | _, [], B, _ => by rw [nil_mergeM, nil_mergeM]
  | 0, x :: a, B, h => absurd h (by simp)
  | n + 1, x :: a, [], h => by
    have ih := merge_orIn w bit d n a [] (by simpa using h)
    rw [mergeM_nil] at ih ⊢
    rw [orIn] at ih ⊢
    rcases Nat.lt_trichotomy x.1 w with h1 | h1 | h1
    · rw [mergeM_lt (by rw [upd_word]; exact h1), orIn_lt h1, ih]
    · rw [mergeM_eq (by rw [upd_word]; exact h1), orIn_eq h1, both_new x w bit d, mergeM_nil]
    · rw [mergeM_gt (by rw [upd_word]; exact h1), orIn_gt h1, mergeM_nil]
  | n + 1, x :: a, y :: b, h => by
    simp only [List.length_cons] at h
    have i1 := merge_orIn w bit d n a (y :: b) (by simp only [List.length_cons]; omega)
    have i2 := merge_orIn w bit d n (x :: a) b (by simp only [List.length_cons]; omega)
    have i3 := merge_orIn w bit d n a b (by omega)
    rcases Nat.lt_trichotomy y.1 w with h1 | h1 | h1
    · rw [orIn_lt h1] at i1 ⊢
      rcases Nat.lt_trichotomy x.1 y.1 with h2 | h2 | h2
      · rw [mergeM_lt h2, mergeM_lt h2, orIn_lt (by omega), i1]
      · rw [mergeM_eq h2, mergeM_eq h2, orIn_lt (by show x.1 < w; omega), i3]
      · rw [mergeM_gt h2, mergeM_gt h2, orIn_lt (by omega), i2]
    · rw [orIn_eq h1] at i1 ⊢
      rcases Nat.lt_trichotomy x.1 y.1 with h2 | h2 | h2
      · rw [mergeM_lt (by rw [upd_word]; exact h2), mergeM_lt h2, orIn_lt (by omega), i1]
      · rw [mergeM_eq (by rw [upd_word]; exact h2), mergeM_eq h2, orIn_eq (by show x.1 = w; omega), both_upd]
      · rw [mergeM_gt (by rw [upd_word]; exact h2), mergeM_gt h2, orIn_eq h1]
    · rw [orIn_gt h1] at i1 ⊢
      rcases Nat.lt_trichotomy x.1 w with h2 | h2 | h2
      · rw [mergeM_lt (by rw [upd_word]; exact h2), mergeM_lt (by omega), orIn_lt h2, i1]
      · rw [mergeM_eq (by rw [upd_word]; exact h2), mergeM_lt (by omega), orIn_eq h2, both_new x w bit d]
      · rw [mergeM_gt (by rw [upd_word]; exact h2)]
        rcases Nat.lt_trichotomy x.1 y.1 with h3 | h3 | h3
        · rw [mergeM_lt h3, orIn_gt h2]
        · rw [mergeM_eq h3, orIn_gt (by show w < x.1; omega)]
        · rw [mergeM_gt h3, orIn_gt h1]

/-- The whole is the two parts, joined. -/
theorem msT_join (r : Nat → Rule) (k : Nat) : ∀ n, msT r (k + n) = mergeM (msT r k) (msT (fun j => r (k + j)) n)
  | 0 => by rw [msT, mergeM_nil]; rfl
  | n + 1 => by
    show msT r ((k + n) + 1) = _
    rw [msT, msT]
    split
    · rw [msT_join r k n]
      exact (merge_orIn _ _ _ _ _ _ (Nat.le_refl _)).symm
    · exact msT_join r k n
theorem rdT_join (r : Nat → Rule) (k : Nat) : ∀ n, rdT r (k + n) = rdT r k ||| rdT (fun j => r (k + j)) n
  | 0 => by simp [rdT]
  | n + 1 => by
    show rdT r ((k + n) + 1) = _
    rw [rdT, rdT]
    split
    · exact rdT_join r k n
    · rw [rdT_join r k n, Nat.or_assoc]
theorem adr_join (G : Nat) (r : Nat → Rule) (k : Nat) : ∀ n, adr G 0 (askT r (k + n)) = adr G 0 (askT r k) ++ adr G k (askT (fun j => r (k + j)) n)
  | 0 => by simp [askT, adr]
  | n + 1 => by
    show adr G 0 (askT r ((k + n) + 1)) = _
    rw [askT, askT]
    split
    · exact adr_join G r k n
    · have := adr_join G r k n
      simp only [adr, List.map_append] at this ⊢
      rw [this]
      simp
theorem orIn_ne (w bit : Nat) (d : Bool) : ∀ ms, orIn w bit d ms ≠ []
  | [] => by simp [orIn]
  | m :: r => by rw [orIn]; split <;> (try split) <;> simp
/-- There are masks just where some rule picks every value. -/
theorem msT_some (r : Nat → Rule) (n : Nat) : (0 < (msT r (n + 1)).length) = ((r n).every = true ∨ 0 < (msT r n).length) := by
  rw [msT]
  split
  · rename_i h
    have := orIn_ne (wordOf (r n)) (bitOf (r n)) (r n).deny (msT r n)
    simp [h, List.length_pos_iff, this]
  · rename_i h
    simp [h]

/-- One step of the merge, by places. -/
theorem drop_cons {ms : List Mk} {i : Nat} (h : i < ms.length) : ms.drop i = N ms i :: ms.drop (i + 1) := by
  rw [List.drop_eq_getElem_cons h]
  simp [N, List.getD, List.getElem?_eq_getElem h]
theorem drop_head {W t : List Mk} {m : Nat} {x : Mk} (h : W.drop m = x :: t) : m < W.length ∧ N W m = x ∧ W.drop (m + 1) = t := by
  have hl : m < W.length := by
    by_cases hm : m < W.length
    · exact hm
    · rw [List.drop_of_length_le (by omega)] at h
      simp at h
  rw [drop_cons hl] at h
  simp at h
  exact ⟨hl, h.1, h.2⟩

theorem step_lt {L Q W : List Mk} {i j m : Nat} (h : mergeM (L.drop i) (Q.drop j) = W.drop m) (hi : i < L.length) (hj : j < Q.length) (hx : (N L i).1 < (N Q j).1) : m < W.length ∧ N W m = N L i ∧ mergeM (L.drop (i + 1)) (Q.drop j) = W.drop (m + 1) := by
  rw [drop_cons hi, drop_cons hj, mergeM_lt hx, ← drop_cons hj] at h
  obtain ⟨a, b, c⟩ := drop_head h.symm
  exact ⟨a, b, c.symm⟩
theorem step_gt {L Q W : List Mk} {i j m : Nat} (h : mergeM (L.drop i) (Q.drop j) = W.drop m) (hi : i < L.length) (hj : j < Q.length) (hx : (N Q j).1 < (N L i).1) : m < W.length ∧ N W m = N Q j ∧ mergeM (L.drop i) (Q.drop (j + 1)) = W.drop (m + 1) := by
  rw [drop_cons hi, drop_cons hj, mergeM_gt hx, ← drop_cons hi] at h
  obtain ⟨a, b, c⟩ := drop_head h.symm
  exact ⟨a, b, c.symm⟩
theorem step_eq {L Q W : List Mk} {i j m : Nat} (h : mergeM (L.drop i) (Q.drop j) = W.drop m) (hi : i < L.length) (hj : j < Q.length) (hx : (N L i).1 = (N Q j).1) : m < W.length ∧ N W m = both (N L i) (N Q j) ∧ mergeM (L.drop (i + 1)) (Q.drop (j + 1)) = W.drop (m + 1) := by
  rw [drop_cons hi, drop_cons hj, mergeM_eq hx] at h
  obtain ⟨a, b, c⟩ := drop_head h.symm
  exact ⟨a, b, c.symm⟩
theorem step_l {L Q W : List Mk} {i j m : Nat} (h : mergeM (L.drop i) (Q.drop j) = W.drop m) (hi : i < L.length) (hj : Q.length ≤ j) : m < W.length ∧ N W m = N L i ∧ mergeM (L.drop (i + 1)) (Q.drop j) = W.drop (m + 1) := by
  rw [List.drop_of_length_le hj, mergeM_nil] at h ⊢
  rw [drop_cons hi] at h
  obtain ⟨a, b, c⟩ := drop_head h.symm
  exact ⟨a, b, c.symm⟩
theorem step_r {L Q W : List Mk} {i j m : Nat} (h : mergeM (L.drop i) (Q.drop j) = W.drop m) (hi : L.length ≤ i) (hj : j < Q.length) : m < W.length ∧ N W m = N Q j ∧ mergeM (L.drop i) (Q.drop (j + 1)) = W.drop (m + 1) := by
  rw [List.drop_of_length_le hi, nil_mergeM] at h ⊢
  rw [drop_cons hj] at h
  obtain ⟨a, b, c⟩ := drop_head h.symm
  exact ⟨a, b, c.symm⟩
theorem step_end {L Q W : List Mk} {i j m : Nat} (h : mergeM (L.drop i) (Q.drop j) = W.drop m) (hi : L.length ≤ i) (hj : Q.length ≤ j) : W.length ≤ m := by
  rw [List.drop_of_length_le hi, List.drop_of_length_le hj, mergeM_nil] at h
  have := congrArg List.length h
  simp at this
  omega

end Go.Proofs.Qxb6618784a.Sp
