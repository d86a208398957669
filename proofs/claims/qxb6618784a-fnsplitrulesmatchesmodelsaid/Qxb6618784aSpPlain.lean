/-
  THE PLAIN LAW beneath the two laws over splitRules: the masks of the rules that pick every value, word by word; no Go text in sight.
-/
import Derived.Test.Qxb6618784aSpMask
namespace Go.Proofs.Qxb6618784a.Sp

/-- A rule's bit put into a mask. -/
def upd (m : Mk) (bit : Nat) (deny : Bool) : Mk := if deny then (m.1, m.2.1, m.2.2 ||| bit) else (m.1, m.2.1 ||| bit, m.2.2)
theorem upd_word (m : Mk) (bit : Nat) (deny : Bool) : (upd m bit deny).1 = m.1 := by unfold upd; split <;> rfl

/-- A rule's bit put into the masks, at its word's place. -/
def orIn (word bit : Nat) (deny : Bool) : List Mk → List Mk
  | [] => [upd (word, 0, 0) bit deny]
  | m :: r => if m.1 < word then m :: orIn word bit deny r else if m.1 = word then upd m bit deny :: r else upd (word, 0, 0) bit deny :: m :: r

theorem N_zero (m : Mk) (r : List Mk) : N (m :: r) 0 = m := rfl
theorem N_succ (m : Mk) (r : List Mk) (i : Nat) : N (m :: r) (i + 1) = N r i := by simp [N]
theorem place_tail {m : Mk} {r : List Mk} {word i : Nat} (h : Place (m :: r) word (i + 1)) : Place r word i := by
  refine ⟨by have := h.le; simp at this; omega, fun j hj => ?_, fun j h1 h2 => ?_⟩
  · have := h.lo (j + 1) (by omega); rwa [N_succ] at this
  · have := h.hi (j + 1) (by omega) (by simp; omega); rwa [N_succ] at this

theorem orIn_found (word bit : Nat) (deny : Bool) : ∀ (ms : List Mk) (i : Nat), Place ms word i → i < ms.length → (N ms i).1 = word → orIn word bit deny ms = ms.set i (upd (N ms i) bit deny)
  | [], i, _, h, _ => absurd h (by simp)
  | m :: r, 0, _, _, hw => by
    rw [N_zero] at hw
    rw [orIn, if_neg (by omega), if_pos hw, N_zero]
    rfl
  | m :: r, i + 1, hp, hl, hw => by
    have h0 := hp.lo 0 (by omega)
    rw [N_zero] at h0
    rw [N_succ] at hw
    rw [orIn, if_pos h0, List.set_cons_succ, N_succ, orIn_found word bit deny r i (place_tail hp) (by simpa using hl) hw]

theorem orIn_new (word bit : Nat) (deny : Bool) : ∀ (ms : List Mk) (i : Nat), Place ms word i → (∀ j, j < ms.length → (N ms j).1 ≠ word) → orIn word bit deny ms = (putIn ms word i).set i (upd (N (putIn ms word i) i) bit deny)
  | [], i, hp, _ => by
    have : i = 0 := by have := hp.le; simpa using this
    subst this
    simp [orIn, putIn, N]
  | m :: r, 0, hp, hn => by
    have h0 := hp.hi 0 (by omega) (by simp)
    have h1 := hn 0 (by simp)
    rw [N_zero] at h0 h1
    rw [orIn, if_neg (by omega), if_neg h1]
    simp [putIn, N]
  | m :: r, i + 1, hp, hn => by
    have h0 := hp.lo 0 (by omega)
    rw [N_zero] at h0
    have e : putIn (m :: r) word (i + 1) = m :: putIn r word i := rfl
    rw [orIn, if_pos h0, e, List.set_cons_succ, N_succ, orIn_new word bit deny r i (place_tail hp) (fun j hj => by
      have := hn (j + 1) (by simp; omega); rwa [N_succ] at this)]

theorem orIn_words (word bit : Nat) (deny : Bool) : ∀ (ms : List Mk) (m : Mk), m ∈ orIn word bit deny ms → m.1 = word ∨ ∃ m' ∈ ms, m'.1 = m.1
  | [], m, h => by
    rw [orIn, List.mem_singleton] at h
    left; rw [h, upd_word]
  | a :: r, m, h => by
    rw [orIn] at h
    split at h
    · rcases List.mem_cons.1 h with rfl | h
      · exact .inr ⟨m, by simp, rfl⟩
      · rcases orIn_words word bit deny r m h with e | ⟨m', h1, h2⟩
        · exact .inl e
        · exact .inr ⟨m', by simp [h1], h2⟩
    · split at h
      · rename_i hw
        rcases List.mem_cons.1 h with rfl | h
        · left; rw [upd_word]; exact hw
        · exact .inr ⟨m, by simp [h], rfl⟩
      · rcases List.mem_cons.1 h with rfl | h
        · left; rw [upd_word]
        · exact .inr ⟨m, h, rfl⟩

theorem orIn_asc (word bit : Nat) (deny : Bool) : ∀ (ms : List Mk), Asc ms → Asc (orIn word bit deny ms)
  | [], _ => by rw [orIn]; exact List.pairwise_singleton _ _
  | a :: r, h => by
    obtain ⟨h1, h2⟩ := List.pairwise_cons.1 h
    rw [orIn]
    split
    · rename_i hlt
      refine List.pairwise_cons.2 ⟨fun m hm => ?_, orIn_asc word bit deny r h2⟩
      rcases orIn_words word bit deny r m hm with e | ⟨m', hm', e⟩
      · omega
      · have := h1 m' hm'; omega
    · split
      · exact List.pairwise_cons.2 ⟨fun m hm => by rw [upd_word]; exact h1 m hm, h2⟩
      · refine List.pairwise_cons.2 ⟨fun m hm => ?_, h⟩
        rw [upd_word]
        show word < m.1
        rcases List.mem_cons.1 hm with rfl | hm
        · omega
        · have := h1 m hm; omega

theorem orIn_length (word bit : Nat) (deny : Bool) : ∀ (ms : List Mk), (orIn word bit deny ms).length ≤ ms.length + 1
  | [] => by simp [orIn]
  | a :: r => by
    rw [orIn]
    split
    · have := orIn_length word bit deny r; simp; omega
    · split <;> simp

/-- Every mask fits its kind. -/
def Fits (ms : List Mk) : Prop := ∀ m ∈ ms, m.2.1 < 18446744073709551616 ∧ m.2.2 < 18446744073709551616
theorem or_fits {a b : Nat} (ha : a < 18446744073709551616) (hb : b < 18446744073709551616) : a ||| b < 18446744073709551616 := Nat.or_lt_two_pow (n := 64) ha hb
theorem upd_fits {m : Mk} {bit : Nat} {deny : Bool} (h : m.2.1 < 18446744073709551616 ∧ m.2.2 < 18446744073709551616) (hb : bit < 18446744073709551616) : (upd m bit deny).2.1 < 18446744073709551616 ∧ (upd m bit deny).2.2 < 18446744073709551616 := by
  unfold upd
  split
  · exact ⟨h.1, or_fits h.2 hb⟩
  · exact ⟨or_fits h.1 hb, h.2⟩
theorem orIn_fits (word bit : Nat) (deny : Bool) (hb : bit < 18446744073709551616) : ∀ (ms : List Mk), Fits ms → Fits (orIn word bit deny ms)
  | [], _ => fun m hm => by
    rw [orIn, List.mem_singleton] at hm
    rw [hm]
    exact upd_fits (by simp) hb
  | a :: r, h => fun m hm => by
    have ha := h a (by simp)
    have hr : Fits r := fun x hx => h x (by simp [hx])
    rw [orIn] at hm
    split at hm
    · rcases List.mem_cons.1 hm with rfl | hm
      · exact ha
      · exact orIn_fits word bit deny hb r hr m hm
    · split at hm
      · rcases List.mem_cons.1 hm with rfl | hm
        · exact upd_fits ha hb
        · exact hr m hm
      · rcases List.mem_cons.1 hm with rfl | hm
        · exact upd_fits (by simp) hb
        · exact h m hm

/-! ### the rules, one by one -/
def wordOf (R : Rule) : Nat := R.rank.toNat / 64
def bitOf (R : Rule) : Nat := 2 ^ (R.rank.toNat % 64)
theorem bitOf_lt (R : Rule) : bitOf R < 18446744073709551616 := Nat.pow_lt_pow_right (a := 2) (by omega) (show R.rank.toNat % 64 < 64 by omega)

/-- The masks behind the first k rules. -/
def msT (r : Nat → Rule) : Nat → List Mk
  | 0 => []
  | k + 1 => if (r k).every then orIn (wordOf (r k)) (bitOf (r k)) (r k).deny (msT r k) else msT r k
/-- The places of the rules that are asked. -/
def askT (r : Nat → Rule) : Nat → List Nat
  | 0 => []
  | k + 1 => if (r k).every then askT r k else askT r k ++ [k]
/-- What they read. -/
def rdT (r : Nat → Rule) : Nat → Nat
  | 0 => 0
  | k + 1 => if (r k).every then rdT r k else rdT r k ||| (r k).reads.toNat

theorem msT_asc (r : Nat → Rule) : ∀ k, Asc (msT r k)
  | 0 => List.Pairwise.nil
  | k + 1 => by
    rw [msT]
    split
    · exact orIn_asc _ _ _ _ (msT_asc r k)
    · exact msT_asc r k
theorem msT_fits (r : Nat → Rule) : ∀ k, Fits (msT r k)
  | 0 => fun m hm => by simp [msT] at hm
  | k + 1 => by
    rw [msT]
    split
    · exact orIn_fits _ _ _ (bitOf_lt _) _ (msT_fits r k)
    · exact msT_fits r k
theorem msT_length (r : Nat → Rule) : ∀ k, (msT r k).length ≤ k
  | 0 => Nat.le_refl _
  | k + 1 => by
    have := msT_length r k
    rw [msT]
    split
    · have := orIn_length (wordOf (r k)) (bitOf (r k)) (r k).deny (msT r k); omega
    · omega
theorem askT_length (r : Nat → Rule) : ∀ k, (askT r k).length ≤ k
  | 0 => Nat.le_refl _
  | k + 1 => by
    have := askT_length r k
    rw [askT]
    split
    · omega
    · simp; omega
theorem rdT_lt (r : Nat → Rule) (n : Nat) (h : ∀ k, k < n → 0 ≤ (r k).reads ∧ (r k).reads ≤ 255) : ∀ k, k ≤ n → rdT r k < 256
  | 0, _ => by show 0 < 256; omega
  | k + 1, hk => by
    have ih := rdT_lt r n h k (by omega)
    rw [rdT]
    split
    · exact ih
    · have := h k (by omega)
      exact Nat.or_lt_two_pow (n := 8) ih (by omega)

end Go.Proofs.Qxb6618784a.Sp
