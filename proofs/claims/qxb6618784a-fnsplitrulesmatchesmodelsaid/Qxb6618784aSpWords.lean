/-
  THE PLAIN LAW beneath FnSplitRulesMatchesModel: which words have masks, and what each mask holds; no Go text in sight.
-/
import Derived.Test.Qxb6618784aSpPlain
namespace Go.Proofs.Qxb6618784a.Sp

/-- What the rules of a word permit, and what they deny, behind the first k. -/
def pT (r : Nat → Rule) (w : Nat) : Nat → Nat
  | 0 => 0
  | k + 1 => if (r k).every = true ∧ wordOf (r k) = w ∧ (r k).deny = false then pT r w k ||| bitOf (r k) else pT r w k
def dT (r : Nat → Rule) (w : Nat) : Nat → Nat
  | 0 => 0
  | k + 1 => if (r k).every = true ∧ wordOf (r k) = w ∧ (r k).deny = true then dT r w k ||| bitOf (r k) else dT r w k

theorem pT_lt (r : Nat → Rule) (w : Nat) : ∀ k, pT r w k < 18446744073709551616
  | 0 => by simp [pT]
  | k + 1 => by
    rw [pT]
    split
    · exact or_fits (pT_lt r w k) (bitOf_lt _)
    · exact pT_lt r w k
theorem dT_lt (r : Nat → Rule) (w : Nat) : ∀ k, dT r w k < 18446744073709551616
  | 0 => by simp [dT]
  | k + 1 => by
    rw [dT]
    split
    · exact or_fits (dT_lt r w k) (bitOf_lt _)
    · exact dT_lt r w k

/-- The mask of a word, or none. -/
def look (w : Nat) : List Mk → Nat × Nat
  | [] => (0, 0)
  | m :: r => if m.1 = w then m.2 else look w r

theorem look_none (w : Nat) : ∀ (ms : List Mk), (∀ m ∈ ms, m.1 ≠ w) → look w ms = (0, 0)
  | [], _ => rfl
  | m :: r, h => by rw [look, if_neg (h m (by simp)), look_none w r (fun x hx => h x (by simp [hx]))]

theorem look_orIn (w bit : Nat) (d : Bool) (v : Nat) : ∀ (ms : List Mk), Asc ms → look v (orIn w bit d ms) = if v = w then (upd (w, look w ms) bit d).2 else look v ms
  | [], _ => by
    show (if (upd (w, 0, 0) bit d).1 = v then (upd (w, 0, 0) bit d).2 else (0, 0)) = if v = w then (upd (w, (0, 0)) bit d).2 else (0, 0)
    rw [upd_word]
    by_cases h : v = w
    · rw [if_pos h.symm, if_pos h]
    · rw [if_neg (fun e => h e.symm), if_neg h]
  | m :: r, hA => by
    obtain ⟨h1, h2⟩ := List.pairwise_cons.1 hA
    rcases Nat.lt_trichotomy m.1 w with hw | hw | hw
    · rw [orIn, if_pos hw, look, look_orIn w bit d v r h2, look, look, if_neg (show ¬ m.1 = w by omega)]
      by_cases h : m.1 = v
      · rw [if_pos h, if_neg (by omega), if_pos h]
      · rw [if_neg h, if_neg h]
    · rw [orIn, if_neg (by omega), if_pos hw, look, upd_word, look, look, if_pos hw]
      by_cases h : v = w
      · rw [if_pos (by omega), if_pos h, ← hw]
      · rw [if_neg (by omega), if_neg h, if_neg (by omega)]
    · have hn : look w (m :: r) = (0, 0) := look_none w _ (fun x hx => by
        rcases List.mem_cons.1 hx with rfl | hx
        · omega
        · have := h1 x hx; omega)
      rw [orIn, if_neg (by omega), if_neg (by omega), hn, look, upd_word]
      by_cases h : v = w
      · rw [if_pos h.symm, if_pos h]
      · rw [if_neg (fun e => h e.symm), if_neg h]

theorem look_msT (r : Nat → Rule) (v : Nat) : ∀ k, look v (msT r k) = (pT r v k, dT r v k)
  | 0 => rfl
  | k + 1 => by
    have ih := look_msT r v k
    rw [msT, pT, dT]
    by_cases he : (r k).every = true
    · rw [if_pos he, look_orIn _ _ _ _ _ (msT_asc r k)]
      by_cases hv : v = wordOf (r k)
      · rw [if_pos hv, ← hv, ih]
        cases hd : (r k).deny <;> simp [upd, he]
      · rw [if_neg hv, ih, if_neg (fun h => hv h.2.1.symm), if_neg (fun h => hv h.2.1.symm)]
    · rw [if_neg he, ih, if_neg (fun h => he h.1), if_neg (fun h => he h.1)]

theorem look_at : ∀ (ms : List Mk) (i : Nat), Asc ms → i < ms.length → look (N ms i).1 ms = (N ms i).2
  | [], i, _, h => absurd h (by simp)
  | m :: r, 0, _, _ => by rw [N_zero, look, if_pos rfl]
  | m :: r, i + 1, hA, h => by
    obtain ⟨h1, h2⟩ := List.pairwise_cons.1 hA
    have hi : i < r.length := by simpa using h
    have hm : N r i ∈ r := by simp [N, List.getD, List.getElem?_eq_getElem hi]
    have := h1 _ hm
    rw [N_succ, look, if_neg (by omega), look_at r i h2 hi]

/-- What the mask at place i holds. -/
theorem mask_at (r : Nat → Rule) (n i : Nat) (h : i < (msT r n).length) : N (msT r n) i = ((N (msT r n) i).1, pT r (N (msT r n) i).1 n, dT r (N (msT r n) i).1 n) := by
  have h1 := look_at _ i (msT_asc r n) h
  rw [look_msT] at h1
  rw [h1]

/-! ### the words -/
theorem orIn_has (w bit : Nat) (d : Bool) (v : Nat) : ∀ (ms : List Mk), (∃ m ∈ orIn w bit d ms, m.1 = v) ↔ (v = w ∨ ∃ m ∈ ms, m.1 = v)
  | [] => by simp [orIn, upd_word, eq_comm]
  | m :: r => by
    have ih := orIn_has w bit d v r
    rw [orIn]
    split
    · simp only [List.mem_cons, exists_eq_or_imp, ih]
      constructor
      · rintro (h | h | h)
        · exact .inr (.inl h)
        · exact .inl h
        · exact .inr (.inr h)
      · rintro (h | h | h)
        · exact .inr (.inl h)
        · exact .inl h
        · exact .inr (.inr h)
    · split
      · rename_i hw
        simp only [List.mem_cons, exists_eq_or_imp, upd_word]
        constructor
        · rintro (h | h)
          · exact .inr (.inl h)
          · exact .inr (.inr h)
        · rintro (h | h | h)
          · exact .inl (by omega)
          · exact .inl h
          · exact .inr h
      · simp only [List.mem_cons, exists_eq_or_imp, upd_word]
        constructor
        · rintro (h | h)
          · exact .inl h.symm
          · exact .inr h
        · rintro (h | h)
          · exact .inl h.symm
          · exact .inr h

theorem msT_has (r : Nat → Rule) (v : Nat) : ∀ k, (∃ m ∈ msT r k, m.1 = v) ↔ ∃ i, i < k ∧ (r i).every = true ∧ wordOf (r i) = v
  | 0 => by simp [msT]
  | k + 1 => by
    have ih := msT_has r v k
    rw [msT]
    split
    · rename_i he
      rw [orIn_has, ih]
      constructor
      · rintro (h | ⟨i, h1, h2⟩)
        · exact ⟨k, by omega, he, h.symm⟩
        · exact ⟨i, by omega, h2⟩
      · rintro ⟨i, h1, h2, h3⟩
        by_cases e : i = k
        · subst e; exact .inl h3.symm
        · exact .inr ⟨i, by omega, h2, h3⟩
    · rename_i he
      rw [ih]
      constructor
      · rintro ⟨i, h1, h2⟩
        exact ⟨i, by omega, h2⟩
      · rintro ⟨i, h1, h2, h3⟩
        by_cases e : i = k
        · subst e; exact absurd h2 he
        · exact ⟨i, by omega, h2, h3⟩

/-- How zzNextWord ends: the least word above prev, if there is one. -/
structure NextIs (r : Nat → Rule) (n : Nat) (prev : Int) (v : Nat) (found : Bool) : Prop where
  no : found = false → ∀ i, i < n → (r i).every = true → ((wordOf (r i) : Nat) : Int) ≤ prev
  gt : found = true → prev < (v : Int)
  is : found = true → ∃ i, i < n ∧ (r i).every = true ∧ wordOf (r i) = v
  min : found = true → ∀ i, i < n → (r i).every = true → prev < ((wordOf (r i) : Nat) : Int) → v ≤ wordOf (r i)

/-- Where the masks' words stand to prev. -/
def prevOf (ms : List Mk) (m : Nat) : Int := if m = 0 then -1 else ((N ms (m - 1)).1 : Int)

theorem prev_lo {ms : List Mk} (hA : Asc ms) {m j : Nat} (hj : j < m) (hm : m ≤ ms.length) : ((N ms j).1 : Int) ≤ prevOf ms m := by
  unfold prevOf
  rw [if_neg (by omega)]
  by_cases e : j = m - 1
  · rw [e]; exact Int.le_refl _
  · have := asc_get hA (show j < m - 1 by omega) (by omega)
    omega
theorem prev_hi {ms : List Mk} (hA : Asc ms) {m j : Nat} (hj : m ≤ j) (hl : j < ms.length) : prevOf ms m < ((N ms j).1 : Int) := by
  unfold prevOf
  split
  · omega
  · have := asc_get hA (show m - 1 < j by omega) hl
    omega

theorem N_mem {ms : List Mk} {i : Nat} (h : i < ms.length) : N ms i ∈ ms := by simp [N, List.getD, List.getElem?_eq_getElem h]
theorem mem_N {ms : List Mk} {x : Mk} (h : x ∈ ms) : ∃ j, j < ms.length ∧ N ms j = x := by
  obtain ⟨j, hj, e⟩ := List.getElem_of_mem h
  exact ⟨j, hj, by simp [N, List.getD, List.getElem?_eq_getElem hj, e]⟩

theorem next_some {r : Nat → Rule} {n m v : Nat} (hm : m ≤ (msT r n).length) (h : NextIs r n (prevOf (msT r n) m) v true) : m < (msT r n).length ∧ v = (N (msT r n) m).1 := by
  obtain ⟨x, hx, hxv⟩ := (msT_has r v n).2 (h.is rfl)
  obtain ⟨j, hj, rfl⟩ := mem_N hx
  have hgt := h.gt rfl
  have hjm : m ≤ j := by
    by_cases hlt : j < m
    · have := prev_lo (msT_asc r n) hlt hm
      omega
    · omega
  have hml : m < (msT r n).length := by omega
  obtain ⟨i, hi, he, hw⟩ := (msT_has r (N (msT r n) m).1 n).1 ⟨_, N_mem hml, rfl⟩
  have h1 := prev_hi (msT_asc r n) (Nat.le_refl m) hml
  have h2 := h.min rfl i hi he (by rw [hw]; exact h1)
  rw [hw] at h2
  refine ⟨hml, ?_⟩
  by_cases e : j = m
  · rw [e] at hxv; exact hxv.symm
  · have := asc_get (msT_asc r n) (show m < j by omega) hj
    omega
theorem next_none {r : Nat → Rule} {n m v : Nat} (hm : m ≤ (msT r n).length) (h : NextIs r n (prevOf (msT r n) m) v false) : m = (msT r n).length := by
  by_cases hlt : m < (msT r n).length
  · obtain ⟨i, hi, he, hw⟩ := (msT_has r (N (msT r n) m).1 n).1 ⟨_, N_mem hlt, rfl⟩
    have h1 := prev_hi (msT_asc r n) (Nat.le_refl m) hlt
    have h2 := h.no rfl i hi he
    rw [hw] at h2
    omega
  · omega

end Go.Proofs.Qxb6618784a.Sp
