/-
  The plain law of FnLookUpOffersExactlyTheGivenRoles: what is offered, as a list of places in the list of bindings; a sorted run; no Go in sight.
-/
namespace Go.Proofs.Qxb6618997a.Lk

/-- The run of a key in an ascending list: [lo, hi). -/
structure Run (n : Nat) (key : Nat → Int) (k : Int) (lo hi : Nat) : Prop where
  le : lo ≤ hi
  hn : hi ≤ n
  out1 : ∀ j, j < lo → key j ≠ k
  ins : ∀ j, lo ≤ j → j < hi → key j = k
  out2 : ∀ j, hi ≤ j → j < n → key j ≠ k

theorem range_split (n lo hi : Nat) (h1 : lo ≤ hi) (h2 : hi ≤ n) : List.range n = List.range' 0 lo ++ List.range' lo (hi - lo) ++ List.range' hi (n - hi) := by
  rw [List.range_eq_range']
  have e1 : List.range' 0 lo ++ List.range' lo (hi - lo) = List.range' 0 hi := by
    have := @List.range'_append_1 0 lo (hi - lo)
    rw [Nat.zero_add] at this
    rw [this]; congr 1; omega
  have e2 := @List.range'_append_1 0 hi (n - hi)
  rw [Nat.zero_add] at e2
  rw [e1, e2]; congr 1; omega

theorem filter_run {n lo hi : Nat} {key : Nat → Int} {k : Int} (h : Run n key k lo hi) (p : Nat → Bool) (hp : ∀ j, j < n → p j = true → key j = k) : (List.range n).filter p = (List.range' lo (hi - lo)).filter p := by
  rw [range_split n lo hi h.le h.hn, List.filter_append, List.filter_append]
  have z1 : (List.range' 0 lo).filter p = [] := by
    rw [List.filter_eq_nil_iff]
    intro j hj hpj
    have := List.mem_range'_1.mp hj
    exact h.out1 j (by omega) (hp j (by have := h.le; have := h.hn; omega) hpj)
  have z2 : (List.range' hi (n - hi)).filter p = [] := by
    rw [List.filter_eq_nil_iff]
    intro j hj hpj
    have := List.mem_range'_1.mp hj
    exact h.out2 j (by omega) (by omega) (hp j (by omega) hpj)
  rw [z1, z2, List.nil_append, List.append_nil]

/-- One more of a filtered stretch. -/
theorem stretch_succ (p : Nat → Bool) (lo t : Nat) : (List.range' lo (t + 1)).filter p = (List.range' lo t).filter p ++ if p (lo + t) then [lo + t] else [] := by
  rw [List.range'_1_concat, List.filter_append]
  cases h : p (lo + t) <;> simp [h]

theorem flat_succ (f : Nat → List Nat) (k : Nat) : (List.range (k + 1)).flatMap f = (List.range k).flatMap f ++ f k := by
  rw [List.range_succ, List.flatMap_append]; simp

theorem flat_prefix (f : Nat → List Nat) {k n : Nat} (h : k ≤ n) : (List.range k).flatMap f <+: (List.range n).flatMap f := by
  induction n with
  | zero => obtain rfl : k = 0 := by omega
            exact List.prefix_refl _
  | succ n ih =>
    by_cases e : k = n + 1
    · subst e; exact List.prefix_refl _
    · rw [flat_succ]
      exact (ih (by omega)).trans (List.prefix_append _ _)
theorem filt_prefix (p : Nat → Bool) {k n : Nat} (h : k ≤ n) : (List.range k).filter p <+: (List.range n).filter p := by
  induction n with
  | zero => obtain rfl : k = 0 := by omega
            exact List.prefix_refl _
  | succ n ih =>
    by_cases e : k = n + 1
    · subst e; exact List.prefix_refl _
    · rw [List.range_succ, List.filter_append]
      exact (ih (by omega)).trans (List.prefix_append _ _)

theorem len_flat (f : Nat → List Nat) (b : Nat) (h : ∀ i, (f i).length ≤ b) : ∀ k, ((List.range k).flatMap f).length ≤ k * b
  | 0 => by simp
  | k + 1 => by
    have := len_flat f b h k
    have := h k
    rw [flat_succ, List.length_append, Nat.succ_mul]
    omega

/-- All that is offered. -/
structure Ask where
  nb : Nat
  nf : Nat
  nw : Nat
  nr : Nat
  ns : Nat
  ix : Bool
  role : Nat → Int
  key : Nat → Int
  pl : Nat → Nat
  wl : Nat → Nat
  R : Nat → Int
  S : Nat → Int
  g : Nat → Bool
namespace Ask
variable (A : Ask)
def p1 (i : Nat) : Nat → Bool := fun j => decide (A.role j = A.R i) && A.g j
def p2 (s : Nat) : Nat → Bool := fun m => decide (A.key m = A.S s) && A.g (A.pl m)
def p3 : Nat → Bool := fun m => A.g (A.wl m)
def f1 (i : Nat) : List Nat := (List.range A.nb).filter (A.p1 i)
def f2 (s : Nat) : List Nat := ((List.range A.nf).filter (A.p2 s)).map A.pl
def a1 (i : Nat) : List Nat := (List.range i).flatMap A.f1
def a2 (s : Nat) : List Nat := A.a1 A.nr ++ (List.range s).flatMap A.f2
def a3 (m : Nat) : List Nat := A.a2 A.ns ++ ((List.range m).filter A.p3).map A.wl
def all : List Nat := if A.ix && decide (A.ns ≠ 0) then A.a3 A.nw else A.a1 A.nr
/-- Within a part. -/
def d1 (i j : Nat) : List Nat := A.a1 i ++ (List.range j).filter (A.p1 i)
def d2 (s m : Nat) : List Nat := A.a2 s ++ ((List.range m).filter (A.p2 s)).map A.pl

theorem a1_succ (i : Nat) : A.a1 (i + 1) = A.a1 i ++ A.f1 i := flat_succ _ _
theorem a2_succ (s : Nat) : A.a2 (s + 1) = A.a2 s ++ A.f2 s := by rw [a2, a2, flat_succ, List.append_assoc]
theorem a3_succ (m : Nat) : A.a3 (m + 1) = A.a3 m ++ if A.p3 m then [A.wl m] else [] := by
  rw [a3, a3, List.range_succ, List.filter_append, List.map_append, ← List.append_assoc]
  cases h : A.p3 m <;> simp [h]
theorem d1_zero (i : Nat) : A.d1 i 0 = A.a1 i := by simp [d1]
theorem d1_full (i : Nat) : A.d1 i A.nb = A.a1 (i + 1) := by rw [a1_succ]; rfl
theorem d1_succ (i j : Nat) : A.d1 i (j + 1) = A.d1 i j ++ if A.p1 i j then [j] else [] := by
  rw [d1, d1, List.range_succ, List.filter_append, ← List.append_assoc]
  cases h : A.p1 i j <;> simp [h]
theorem d2_zero (s : Nat) : A.d2 s 0 = A.a2 s := by simp [d2]
theorem d2_full (s : Nat) : A.d2 s A.nf = A.a2 (s + 1) := by rw [a2_succ]; rfl
theorem d2_succ (s m : Nat) : A.d2 s (m + 1) = A.d2 s m ++ if A.p2 s m then [A.pl m] else [] := by
  rw [d2, d2, List.range_succ, List.filter_append, List.map_append, ← List.append_assoc]
  cases h : A.p2 s m <;> simp [h]
theorem a2_zero : A.a2 0 = A.a1 A.nr := by simp [a2]
theorem a3_zero : A.a3 0 = A.a2 A.ns := by simp [a3]
theorem a1_zero : A.a1 0 = [] := rfl

theorem a1_pre {i n : Nat} (h : i ≤ n) : A.a1 i <+: A.a1 n := flat_prefix _ h
theorem a2_pre {i n : Nat} (h : i ≤ n) : A.a2 i <+: A.a2 n := (List.prefix_append_right_inj _).mpr (flat_prefix _ h)
theorem a3_pre {i n : Nat} (h : i ≤ n) : A.a3 i <+: A.a3 n := (List.prefix_append_right_inj _).mpr ((filt_prefix _ h).map _)
theorem d1_pre {i j n : Nat} (h : j ≤ n) : A.d1 i j <+: A.d1 i n := (List.prefix_append_right_inj _).mpr (filt_prefix _ h)
theorem d2_pre {i j n : Nat} (h : j ≤ n) : A.d2 i j <+: A.d2 i n := (List.prefix_append_right_inj _).mpr ((filt_prefix _ h).map _)
theorem a12 : A.a1 A.nr <+: A.a2 A.ns := List.prefix_append _ _
theorem a23 : A.a2 A.ns <+: A.a3 A.nw := List.prefix_append _ _
theorem a1_all : A.a1 A.nr <+: A.all := by
  unfold all
  split
  · exact A.a12.trans A.a23
  · exact List.prefix_refl _
theorem d1_all {i j : Nat} (hi : i < A.nr) (hj : j ≤ A.nb) : A.d1 i j <+: A.all := by
  refine (A.d1_pre hj).trans ?_
  rw [d1_full]
  exact (A.a1_pre hi).trans A.a1_all
theorem all_yes (h : A.ix = true) (hs : A.ns ≠ 0) : A.all = A.a3 A.nw := by simp [all, h, hs]
theorem all_no (h : A.ix = false ∨ A.ns = 0) : A.all = A.a1 A.nr := by
  unfold all
  rcases h with h | h <;> simp [h]
theorem d2_all {s m : Nat} (h : A.ix = true) (hs : A.ns ≠ 0) (hi : s < A.ns) (hj : m ≤ A.nf) : A.d2 s m <+: A.all := by
  refine (A.d2_pre hj).trans ?_
  rw [d2_full, A.all_yes h hs]
  exact (A.a2_pre hi).trans A.a23
theorem a3_all {m : Nat} (h : A.ix = true) (hs : A.ns ≠ 0) (hj : m ≤ A.nw) : A.a3 m <+: A.all := by
  rw [A.all_yes h hs]
  exact A.a3_pre hj

theorem len_all (h1 : A.nb ≤ 1024) (h2 : A.nf ≤ 1024) (h3 : A.nw ≤ 1024) (h4 : A.nr ≤ 1024) (h5 : A.ns ≤ 1024) : A.all.length ≤ 2098176 := by
  have e1 : (A.a1 A.nr).length ≤ A.nr * 1024 := len_flat _ 1024 (fun i => Nat.le_trans (by
    have := List.length_filter_le (A.p1 i) (List.range A.nb)
    rw [List.length_range] at this
    exact this) h1) _
  have e2 : ((List.range A.ns).flatMap A.f2).length ≤ A.ns * 1024 := len_flat _ 1024 (fun i => Nat.le_trans (by
    have := List.length_filter_le (A.p2 i) (List.range A.nf)
    rw [List.length_range] at this
    rw [f2, List.length_map]
    exact this) h2) _
  have e3 : (((List.range A.nw).filter A.p3).map A.wl).length ≤ A.nw := by
    have := List.length_filter_le A.p3 (List.range A.nw)
    rw [List.length_range] at this
    rw [List.length_map]
    exact this
  unfold all
  split
  · rw [a3, a2, List.length_append, List.length_append]
    omega
  · omega
end Ask

theorem next {l G : List Nat} {x : Nat} (h : l ++ [x] <+: G) : l.length < G.length ∧ G[l.length]? = some x := by
  obtain ⟨t, rfl⟩ := h
  simp

/-- The search of an ascending list. -/
theorem run_of {n lo hi : Nat} {key : Nat → Int} {k : Int} (asc : ∀ j, j + 1 < n → key j ≤ key (j + 1)) (h1 : lo ≤ hi) (h2 : hi ≤ n) (hlo : ∀ j, j < lo → key j < k) (hin : ∀ j, lo ≤ j → j < hi → key j = k) (hout : ∀ j, lo ≤ j → j < n → k ≤ key j) (hend : hi < n → key hi ≠ k) : Run n key k lo hi := by
  have mono : ∀ d j, j + d < n → key j ≤ key (j + d) := by
    intro d
    induction d with
    | zero => intro j _; exact Int.le_refl _
    | succ d ih => intro j hj; have := ih j (by omega); have := asc (j + d) (by omega); rw [Nat.add_assoc] at this; omega
  refine ⟨h1, h2, fun j hj => by have := hlo j hj; omega, hin, fun j hj hjn e => ?_⟩
  have := mono (j - hi) hi (by omega)
  rw [show hi + (j - hi) = j by omega] at this
  have h3 := hend (by omega)
  have h4 := hout hi h1 (by omega)
  omega
theorem asc_le {n : Nat} {key : Nat → Int} (asc : ∀ j, j + 1 < n → key j ≤ key (j + 1)) : ∀ a b, a ≤ b → b < n → key a ≤ key b := by
  have mono : ∀ d j, j + d < n → key j ≤ key (j + d) := by
    intro d
    induction d with
    | zero => intro j _; exact Int.le_refl _
    | succ d ih => intro j hj; have := ih j (by omega); have := asc (j + d) (by omega); rw [Nat.add_assoc] at this; omega
  intro a b hab hb
  have := mono (b - a) a (by omega)
  rwa [show a + (b - a) = b by omega] at this

namespace Ask
variable (A : Ask)
/-- The same by the run of a search. -/
def r1 (i lo t : Nat) : List Nat := A.a1 i ++ (List.range' lo t).filter (A.p1 i)
def r2 (s lo t : Nat) : List Nat := A.a2 s ++ ((List.range' lo t).filter (A.p2 s)).map A.pl
theorem r1_zero (i lo : Nat) : A.r1 i lo 0 = A.a1 i := by simp [r1]
theorem r2_zero (i lo : Nat) : A.r2 i lo 0 = A.a2 i := by simp [r2]
theorem r1_succ (i lo t : Nat) : A.r1 i lo (t + 1) = A.r1 i lo t ++ if A.p1 i (lo + t) then [lo + t] else [] := by
  rw [r1, r1, stretch_succ, List.append_assoc]
theorem r2_succ (i lo t : Nat) : A.r2 i lo (t + 1) = A.r2 i lo t ++ if A.p2 i (lo + t) then [A.pl (lo + t)] else [] := by
  rw [r2, r2, stretch_succ, List.append_assoc, List.map_append]
  cases h : A.p2 i (lo + t) <;> simp
theorem r1_full {i lo hi : Nat} {key : Nat → Int} {k : Int} (h : Run A.nb key k lo hi) (hk : ∀ j, j < A.nb → A.role j = A.R i → key j = k) : A.r1 i lo (hi - lo) = A.a1 (i + 1) := by
  rw [a1_succ, r1, f1, filter_run h]
  intro j hj hp
  have : A.role j = A.R i := by simp [p1] at hp; exact hp.1
  exact hk j hj this
theorem r2_full {s lo hi : Nat} (h : Run A.nf A.key (A.S s) lo hi) : A.r2 s lo (hi - lo) = A.a2 (s + 1) := by
  rw [a2_succ, r2, f2, filter_run h]
  intro j _ hp
  simp [p2] at hp
  exact hp.1
theorem a1_len (h1 : A.nb ≤ 1024) {i : Nat} (h : i ≤ 1024) : (A.a1 i).length ≤ 1048576 := by
  have := len_flat A.f1 1024 (fun i => Nat.le_trans (by
    have := List.length_filter_le (A.p1 i) (List.range A.nb)
    rw [List.length_range] at this
    exact this) h1) i
  rw [a1]
  omega
theorem a2_len (h1 : A.nb ≤ 1024) (h2 : A.nf ≤ 1024) (h3 : A.nr ≤ 1024) {s : Nat} (h : s ≤ 1024) : (A.a2 s).length ≤ 2097152 := by
  have e1 := A.a1_len h1 h3
  have e2 := len_flat A.f2 1024 (fun i => Nat.le_trans (by
    have := List.length_filter_le (A.p2 i) (List.range A.nf)
    rw [List.length_range] at this
    rw [f2, List.length_map]
    exact this) h2) s
  rw [a2, List.length_append]
  omega
theorem r1_len (h1 : A.nb ≤ 1024) {i lo t : Nat} (h : i ≤ 1024) (ht : t ≤ 1024) : (A.r1 i lo t).length ≤ 1049600 := by
  have e1 := A.a1_len h1 h
  have := List.length_filter_le (A.p1 i) (List.range' lo t)
  rw [List.length_range'] at this
  rw [r1, List.length_append]
  omega
theorem r2_len (h1 : A.nb ≤ 1024) (h2 : A.nf ≤ 1024) (h3 : A.nr ≤ 1024) {i lo t : Nat} (h : i ≤ 1024) (ht : t ≤ 1024) : (A.r2 i lo t).length ≤ 2098176 := by
  have e1 := A.a2_len h1 h2 h3 h
  have := List.length_filter_le (A.p2 i) (List.range' lo t)
  rw [List.length_range'] at this
  rw [r2, List.length_append, List.length_map]
  omega
theorem a3_len (h1 : A.nb ≤ 1024) (h2 : A.nf ≤ 1024) (h3 : A.nr ≤ 1024) (h4 : A.ns ≤ 1024) {m : Nat} (h : m ≤ 1024) : (A.a3 m).length ≤ 2098176 := by
  have e1 := A.a2_len h1 h2 h3 h4
  have := List.length_filter_le A.p3 (List.range m)
  rw [List.length_range] at this
  rw [a3, List.length_append, List.length_map]
  omega
end Ask

end Go.Proofs.Qxb6618997a.Lk
