/-
  slices.BinarySearchFunc (41, 45) and runOf (36, 39), walked: the run of a key in an ascending list.
-/
import Derived.Test.Qxb6618997aLkSmall
namespace Go.Proofs.Qxb6618997a.Lk
open Go.RowKit Go.WideMaps Go.Maps

/-- The list of bindings, built: in one block. -/
structure BL (w : World) (g n : Nat) (ra : Nat → Nat) (pl : Nat → Int) (pn px : Nat → Option Addr) : Prop where
  c0 : ∀ j, j < n → w.cell? ⟨g, j * 5, none⟩ = some (.pointer (some ⟨ra j, 0, none⟩))
  c1 : ∀ j, j < n → w.cell? ⟨g, j * 5 + 1, none⟩ = some (.int .i32 (pl j))
  c2 : ∀ j, j < n → w.cell? ⟨g, j * 5 + 2, none⟩ = some (.int .i32 0)
  c3 : ∀ j, j < n → w.cell? ⟨g, j * 5 + 3, none⟩ = some (.pointer (pn j))
  c4 : ∀ j, j < n → w.cell? ⟨g, j * 5 + 4, none⟩ = some (.pointer (px j))
  lt : g < w.heap.size
/-- The list of filed places, built. -/
structure KL (w : World) (g n : Nat) (key pl : Nat → Int) : Prop where
  c0 : ∀ j, j < n → w.cell? ⟨g, j * 2, none⟩ = some (.int .i32 (key j))
  c1 : ∀ j, j < n → w.cell? ⟨g, j * 2 + 1, none⟩ = some (.int .i32 (pl j))
  lt : g < w.heap.size
theorem BL.below {w w' : World} {g n : Nat} {ra : Nat → Nat} {pl : Nat → Int} {pn px : Nat → Option Addr} (h : BL w g n ra pl pn px) (hw : Below w.heap.size w w') : BL w' g n ra pl pn px := by
  have k : ∀ j v, w.cell? ⟨g, j, none⟩ = some v → w'.cell? ⟨g, j, none⟩ = some v := fun j v hv => (hw.cell (p := ⟨g, j, none⟩) h.lt).trans hv
  exact ⟨fun j hj => k _ _ (h.c0 j hj), fun j hj => k _ _ (h.c1 j hj), fun j hj => k _ _ (h.c2 j hj), fun j hj => k _ _ (h.c3 j hj), fun j hj => k _ _ (h.c4 j hj), Nat.lt_of_lt_of_le h.lt hw.size⟩
theorem KL.below {w w' : World} {g n : Nat} {key pl : Nat → Int} (h : KL w g n key pl) (hw : Below w.heap.size w w') : KL w' g n key pl := by
  have k : ∀ j v, w.cell? ⟨g, j, none⟩ = some v → w'.cell? ⟨g, j, none⟩ = some v := fun j v hv => (hw.cell (p := ⟨g, j, none⟩) h.lt).trans hv
  exact ⟨fun j hj => k _ _ (h.c0 j hj), fun j hj => k _ _ (h.c1 j hj), Nat.lt_of_lt_of_le h.lt hw.size⟩

/-- How BinarySearchFunc ends. -/
def Srch (n : Nat) (key : Nat → Int) (k : Int) (e : Ending) : Prop := ∃ (i : Nat) (b : Bool), e = .returned (.tuple #[.int .i64 i, .bool b]) ∧ i ≤ n ∧ (∀ j, j < i → key j < k) ∧ (∀ j, i ≤ j → j < n → k ≤ key j)

theorem cmpI_neg {x y : Int} (h : x < y) : cmpI x y = -1 := if_pos h
theorem cmpI_pos {x y : Int} (h : ¬ x < y) : 0 ≤ cmpI x y := by
  unfold cmpI
  rw [if_neg h]
  split <;> omega

set_option maxHeartbeats 2000000 in
set_option maxRecDepth 100000 in
theorem searchB_any (g n : Nat) (ra : Nat → Nat) (pl : Nat → Int) (pn px : Nat → Option Addr) (k : Int) (f : Nat) (w : World) (hn : n ≤ 1024) (h : BL w g n ra pl pn px) (asc : ∀ a b, a ≤ b → b < n → pl a ≤ pl b) (hf : w.cell? ⟨f, 0, none⟩ = some (.func (.func 37) #[] #[])) (hfl : f < w.heap.size) :
    Calls Try.prog 41 #[.slice (some ⟨g, 0, none⟩) n n, .int .i32 k, .func (.func 42) #[] #[.pointer (some ⟨f, 0, none⟩)]] w fun e w' => Srch n pl k e ∧ Below w.heap.size w w' := by
  have HB : Hid (BL w g n ra pl pn px) := h
  have HM : Hid (∀ a b, a ≤ b → b < n → pl a ≤ pl b) := asc
  have HF : Hid (w.cell? ⟨f, 0, none⟩ = some (.func (.func 37) #[] #[])) := hf
  clear h asc hf
  go_enter Try.func41, Try.ntmps41
  go_wp2
  go_loopw [9, 10] (fun a b wr => ∃ lo hi : Nat, lo ≤ hi ∧ hi ≤ n ∧ a = .int .i64 lo ∧ b = .int .i64 hi ∧ Hid ((∀ j, j < lo → pl j < k) ∧ (∀ j, hi ≤ j → j < n → k ≤ pl j)) ∧ Below w.heap.size w wr) (fun a b _ => (intOf b).toNat - (intOf a).toNat)
  case atStart => exact ⟨0, n, Nat.zero_le _, Nat.le_refl _, rfl, rfl, (⟨fun j hj => absurd hj (by omega), fun j h1 h2 => absurd h2 (by omega)⟩ : (∀ j, j < 0 → pl j < k) ∧ (∀ j, n ≤ j → j < n → k ≤ pl j)), Below.refl _ _⟩
  case round =>
    obtain ⟨lo, hi, h1, h2, rfl, rfl, hI, hbel⟩ := hrel
    have HBL : Hid (Below w.heap.size w wr) := hbel
    clear hbel
    by_cases hlt : lo < hi
    · obtain ⟨m, HMID⟩ : ∃ m : Nat, Hid (m = (lo + hi) / 2) := ⟨_, rfl⟩
      have hm1 : lo ≤ m := by have := HMID.out; omega
      have hm2 : m < hi := by have := HMID.out; omega
      have e1 : IntKind.i64.wrap ((lo : Int) + hi) = ((lo + hi : Nat) : Int) := by rw [IntKind.wrap_i64]; omega
      have hmid : (((lo : Int) + (hi : Int)) / 2) = (m : Int) := by have := HMID.out; omega
      have hB := HB.out.below HBL.out
      have x0 := hB.c0 m (by omega)
      have x1 := hB.c1 m (by omega)
      have x2 := hB.c2 m (by omega)
      have x3 := hB.c3 m (by omega)
      have x4 := hB.c4 m (by omega)
      have hf' := (HBL.out.cell (p := ⟨f, 0, none⟩) hfl).trans HF.out
      have hfl' : f < wr.heap.size := Nat.lt_of_lt_of_le hfl HBL.out.size
      have hc := cmpB_any (ra m) (pl m) k (pn m) (px m) f wr hf' hfl'
      unfold bval at hc
      clear hB hf' hfl' e1
      by_cases hp : pl m < k
      · rw [cmpI_neg hp] at hc
        have HN : Hid ((∀ j, j < m + 1 → pl j < k) ∧ (∀ j, hi ≤ j → j < n → k ≤ pl j)) := ⟨fun j hj => Int.lt_of_le_of_lt (HM.out j m (by omega) (by omega)) hp, hI.out.2⟩
        clear hp
        go_wp2_with (go_at_call 42; refine hc.mono ?_; rintro e w' ⟨rfl, hb⟩)
        go_roundw
        case rel => exact ⟨m + 1, hi, by omega, h2, by go_num, rfl, HN, HBL.out.trans (hb.mono HBL.out.size)⟩
        case measure => simp [intOf]; omega
      · have hc0 := cmpI_pos hp
        have HN : Hid ((∀ j, j < lo → pl j < k) ∧ (∀ j, m ≤ j → j < n → k ≤ pl j)) := ⟨hI.out.1, fun j hj hjn => by have := HM.out m j hj hjn; omega⟩
        clear hp
        generalize cmpI (pl m) k = cv at hc hc0
        go_wp2_with (go_at_call 42; refine hc.mono ?_; rintro e w' ⟨rfl, hb⟩)
        go_roundw
        case rel => exact ⟨lo, m, by omega, by omega, rfl, by go_num, HN, HBL.out.trans (hb.mono HBL.out.size)⟩
        case measure => simp [intOf]; omega
    · obtain rfl : lo = hi := by omega
      by_cases hl : lo < n
      · have hB := HB.out.below HBL.out
        have x0 := hB.c0 lo hl
        have x1 := hB.c1 lo hl
        have x2 := hB.c2 lo hl
        have x3 := hB.c3 lo hl
        have x4 := hB.c4 lo hl
        have hf' := (HBL.out.cell (p := ⟨f, 0, none⟩) hfl).trans HF.out
        have hfl' : f < wr.heap.size := Nat.lt_of_lt_of_le hfl HBL.out.size
        have hc := cmpB_any (ra lo) (pl lo) k (pn lo) (px lo) f wr hf' hfl'
        unfold bval at hc
        clear hB hf' hfl'
        generalize cmpI (pl lo) k = cv at hc
        go_wp2_with (go_at_call 42; refine hc.mono ?_; rintro e w' ⟨rfl, hb⟩)
        go_ret2
        exact ⟨⟨lo, _, rfl, h2, hI.out.1, hI.out.2⟩, HBL.out.trans (hb.mono HBL.out.size)⟩
      · go_wp2
        go_ret2
        exact ⟨⟨lo, _, rfl, h2, hI.out.1, hI.out.2⟩, HBL.out⟩

set_option maxHeartbeats 2000000 in
set_option maxRecDepth 100000 in
theorem searchK_any (g n : Nat) (pl qv : Nat → Int) (k : Int) (f : Nat) (w : World) (hn : n ≤ 1024) (h : KL w g n pl qv) (asc : ∀ a b, a ≤ b → b < n → pl a ≤ pl b) (hf : w.cell? ⟨f, 0, none⟩ = some (.func (.func 40) #[] #[])) (hfl : f < w.heap.size) :
    Calls Try.prog 45 #[.slice (some ⟨g, 0, none⟩) n n, .int .i32 k, .func (.func 46) #[] #[.pointer (some ⟨f, 0, none⟩)]] w fun e w' => Srch n pl k e ∧ Below w.heap.size w w' := by
  have HB : Hid (KL w g n pl qv) := h
  have HM : Hid (∀ a b, a ≤ b → b < n → pl a ≤ pl b) := asc
  have HF : Hid (w.cell? ⟨f, 0, none⟩ = some (.func (.func 40) #[] #[])) := hf
  clear h asc hf
  go_enter Try.func45, Try.ntmps45
  go_wp2
  go_loopw [9, 10] (fun a b wr => ∃ lo hi : Nat, lo ≤ hi ∧ hi ≤ n ∧ a = .int .i64 lo ∧ b = .int .i64 hi ∧ Hid ((∀ j, j < lo → pl j < k) ∧ (∀ j, hi ≤ j → j < n → k ≤ pl j)) ∧ Below w.heap.size w wr) (fun a b _ => (intOf b).toNat - (intOf a).toNat)
  case atStart => exact ⟨0, n, Nat.zero_le _, Nat.le_refl _, rfl, rfl, (⟨fun j hj => absurd hj (by omega), fun j h1 h2 => absurd h2 (by omega)⟩ : (∀ j, j < 0 → pl j < k) ∧ (∀ j, n ≤ j → j < n → k ≤ pl j)), Below.refl _ _⟩
  case round =>
    obtain ⟨lo, hi, h1, h2, rfl, rfl, hI, hbel⟩ := hrel
    have HBL : Hid (Below w.heap.size w wr) := hbel
    clear hbel
    by_cases hlt : lo < hi
    · obtain ⟨m, HMID⟩ : ∃ m : Nat, Hid (m = (lo + hi) / 2) := ⟨_, rfl⟩
      have hm1 : lo ≤ m := by have := HMID.out; omega
      have hm2 : m < hi := by have := HMID.out; omega
      have e1 : IntKind.i64.wrap ((lo : Int) + hi) = ((lo + hi : Nat) : Int) := by rw [IntKind.wrap_i64]; omega
      have hmid : (((lo : Int) + (hi : Int)) / 2) = (m : Int) := by have := HMID.out; omega
      have hB := HB.out.below HBL.out
      have x0 := hB.c0 m (by omega)
      have x1 := hB.c1 m (by omega)
      have hf' := (HBL.out.cell (p := ⟨f, 0, none⟩) hfl).trans HF.out
      have hfl' : f < wr.heap.size := Nat.lt_of_lt_of_le hfl HBL.out.size
      have hc := cmpK_any (pl m) (qv m) k f wr hf' hfl'
      clear hB hf' hfl' e1
      by_cases hp : pl m < k
      · rw [cmpI_neg hp] at hc
        have HN : Hid ((∀ j, j < m + 1 → pl j < k) ∧ (∀ j, hi ≤ j → j < n → k ≤ pl j)) := ⟨fun j hj => Int.lt_of_le_of_lt (HM.out j m (by omega) (by omega)) hp, hI.out.2⟩
        clear hp
        go_wp2_with (go_at_call 46; refine hc.mono ?_; rintro e w' ⟨rfl, hb⟩)
        go_roundw
        case rel => exact ⟨m + 1, hi, by omega, h2, by go_num, rfl, HN, HBL.out.trans (hb.mono HBL.out.size)⟩
        case measure => simp [intOf]; omega
      · have hc0 := cmpI_pos hp
        have HN : Hid ((∀ j, j < lo → pl j < k) ∧ (∀ j, m ≤ j → j < n → k ≤ pl j)) := ⟨hI.out.1, fun j hj hjn => by have := HM.out m j hj hjn; omega⟩
        clear hp
        generalize cmpI (pl m) k = cv at hc hc0
        go_wp2_with (go_at_call 46; refine hc.mono ?_; rintro e w' ⟨rfl, hb⟩)
        go_roundw
        case rel => exact ⟨lo, m, by omega, by omega, rfl, by go_num, HN, HBL.out.trans (hb.mono HBL.out.size)⟩
        case measure => simp [intOf]; omega
    · obtain rfl : lo = hi := by omega
      by_cases hl : lo < n
      · have hB := HB.out.below HBL.out
        have x0 := hB.c0 lo hl
        have x1 := hB.c1 lo hl
        have hf' := (HBL.out.cell (p := ⟨f, 0, none⟩) hfl).trans HF.out
        have hfl' : f < wr.heap.size := Nat.lt_of_lt_of_le hfl HBL.out.size
        have hc := cmpK_any (pl lo) (qv lo) k f wr hf' hfl'
        clear hB hf' hfl'
        generalize cmpI (pl lo) k = cv at hc
        go_wp2_with (go_at_call 46; refine hc.mono ?_; rintro e w' ⟨rfl, hb⟩)
        go_ret2
        exact ⟨⟨lo, _, rfl, h2, hI.out.1, hI.out.2⟩, HBL.out.trans (hb.mono HBL.out.size)⟩
      · go_wp2
        go_ret2
        exact ⟨⟨lo, _, rfl, h2, hI.out.1, hI.out.2⟩, HBL.out⟩

/-- How runOf ends: a stretch of the list. -/
def RunIs (g z n : Nat) (key : Nat → Int) (k : Int) (e : Ending) : Prop := ∃ (lo hi c : Nat) (a : Option Addr), e = .returned (.slice a (hi - lo) c) ∧ (lo < hi → a = some ⟨g, lo * z, none⟩) ∧ Run n key k lo hi

set_option maxHeartbeats 4000000 in
set_option maxRecDepth 100000 in
theorem runB_any (g n : Nat) (ra : Nat → Nat) (pl : Nat → Int) (pn px : Nat → Option Addr) (k : Int) (w : World) (hn : n ≤ 1024) (h : BL w g n ra pl pn px) (asc : ∀ j, j + 1 < n → pl j ≤ pl (j + 1)) :
    Calls Try.prog 36 #[.slice (some ⟨g, 0, none⟩) n n, .int .i32 k, .func (.func 37) #[] #[]] w fun e w' => RunIs g 5 n pl k e ∧ Below w.heap.size w w' := by
  have HASC : Hid (∀ j, j + 1 < n → pl j ≤ pl (j + 1)) := asc
  have hgl := h.lt
  have hbx : Below w.heap.size w (w.alloc (.cells #[.func (.func 37) #[] #[]] 114)) := (Below.refl _ _).alloc (Nat.le_refl _) _
  have HS : Hid (∀ w1, w1 = w.alloc (.cells #[.func (.func 37) #[] #[]] 114) → Calls Try.prog 41 #[.slice (some ⟨g, 0, none⟩) n n, .int .i32 k, .func (.func 42) #[] #[.pointer (some ⟨w.heap.size, 0, none⟩)]] w1 fun e w' => Srch n pl k e ∧ Below w1.heap.size w1 w') := fun w1 hw1 => searchB_any g n ra pl pn px k w.heap.size w1 hn (by rw [hw1]; exact h.below hbx) (asc_le asc) (by rw [hw1, World.cell?, heap_alloc_new]; rfl) (by rw [hw1]; simp)
  have HB : Hid (BL w g n ra pl pn px) := h
  have HBX : Hid (∀ w1, w1 = w.alloc (.cells #[.func (.func 37) #[] #[]] 114) → Below w.heap.size w w1 ∧ w.heap.size < w1.heap.size ∧ w1.cell? ⟨w.heap.size, 0, none⟩ = some (.func (.func 37) #[] #[])) := fun w1 hw1 => ⟨by rw [hw1]; exact hbx, by rw [hw1]; simp, by rw [hw1, World.cell?, heap_alloc_new]; rfl⟩
  clear asc h hbx
  go_enter Try.func36, Try.ntmps36
  go_wp2_with fail
  generalize hw1 : w.alloc (Obj.cells #[.func (.func 37) #[] #[]] 114) = w1
  have H1 : Hid (Below w.heap.size w w1 ∧ w.heap.size < w1.heap.size ∧ w1.cell? ⟨w.heap.size, 0, none⟩ = some (.func (.func 37) #[] #[])) := HBX.out w1 hw1.symm
  have H41 := HS.out w1 hw1.symm
  clear HS HBX hw1
  go_wp2_with (go_at_call 41; refine H41.mono ?_; rintro e w2 ⟨⟨lo, fb, rfl, hlo, hl1, hl2⟩, hb2⟩; have HL : Hid ((∀ j, j < lo → pl j < k) ∧ (∀ j, lo ≤ j → j < n → k ≤ pl j)) := ⟨hl1, hl2⟩; have H2 : Hid (Below w1.heap.size w1 w2) := hb2; clear hl1 hl2 hb2 H41)
  go_loopw [9] (fun i wr => ∃ hi : Nat, lo ≤ hi ∧ hi ≤ n ∧ i = .int .i64 hi ∧ Hid (∀ j, lo ≤ j → j < hi → pl j = k) ∧ Below w1.heap.size w1 wr) (fun i _ => n - (intOf i).toNat)
  case atStart => exact ⟨lo, Nat.le_refl _, hlo, rfl, (fun j h1 h2 => absurd h2 (by omega) : ∀ j, lo ≤ j → j < lo → pl j = k), H2.out⟩
  case round =>
    obtain ⟨hi, h1, h2, rfl, HI, hbel⟩ := hrel
    have H3 : Hid (Below w1.heap.size w1 wr) := hbel
    clear hbel H2
    by_cases hlt : hi < n
    · have hd : decide ((hi : Int) < (n : Int)) = true := by simpa using hlt
      have hC : ∀ u, Below w1.heap.size w1 u → Below w1.heap.size w1 u ∧ u.cell? ⟨g, hi * 5, none⟩ = some (.pointer (some ⟨ra hi, 0, none⟩)) ∧ u.cell? ⟨g, hi * 5 + 1, none⟩ = some (.int .i32 (pl hi)) ∧ u.cell? ⟨g, hi * 5 + 2, none⟩ = some (.int .i32 0) ∧ u.cell? ⟨g, hi * 5 + 3, none⟩ = some (.pointer (pn hi)) ∧ u.cell? ⟨g, hi * 5 + 4, none⟩ = some (.pointer (px hi)) ∧ u.cell? ⟨w.heap.size, 0, none⟩ = some (.func (.func 37) #[] #[]) := fun u hu => by
        have hB := (HB.out.below H1.out.1).below hu
        exact ⟨hu, hB.c0 hi hlt, hB.c1 hi hlt, hB.c2 hi hlt, hB.c3 hi hlt, hB.c4 hi hlt, (hu.cell (p := ⟨w.heap.size, 0, none⟩) H1.out.2.1).trans H1.out.2.2⟩
      have HC : Hid (∀ u, Below w1.heap.size w1 u → Below w1.heap.size w1 u ∧ u.cell? ⟨g, hi * 5, none⟩ = some (.pointer (some ⟨ra hi, 0, none⟩)) ∧ u.cell? ⟨g, hi * 5 + 1, none⟩ = some (.int .i32 (pl hi)) ∧ u.cell? ⟨g, hi * 5 + 2, none⟩ = some (.int .i32 0) ∧ u.cell? ⟨g, hi * 5 + 3, none⟩ = some (.pointer (pn hi)) ∧ u.cell? ⟨g, hi * 5 + 4, none⟩ = some (.pointer (px hi)) ∧ u.cell? ⟨w.heap.size, 0, none⟩ = some (.func (.func 37) #[] #[])) := hC
      have H37 : Hid (∀ u, Calls Try.prog 37 #[.agg #[.pointer (some ⟨ra hi, 0, none⟩), .int .i32 (pl hi), .int .i32 0, .pointer (pn hi), .pointer (px hi)]] u fun e w' => e = .returned (.int .i32 (pl hi)) ∧ Below u.heap.size u w') := fun u => place_any (ra hi) (pl hi) (pn hi) (px hi) u
      clear hC
      have HBD : Hid (Below w1.heap.size w1 wr.drew) := H3.out.drew
      go_wp2_with fail
      go_cut [31] (fun v wd => v = .bool (decide (pl hi = k)) ∧ Below w1.heap.size w1 wd)
      case first =>
        go_region_held3 (fun u => Below w1.heap.size w1 u ∧ u.cell? ⟨g, hi * 5, none⟩ = some (.pointer (some ⟨ra hi, 0, none⟩)) ∧ u.cell? ⟨g, hi * 5 + 1, none⟩ = some (.int .i32 (pl hi)) ∧ u.cell? ⟨g, hi * 5 + 2, none⟩ = some (.int .i32 0) ∧ u.cell? ⟨g, hi * 5 + 3, none⟩ = some (.pointer (pn hi)) ∧ u.cell? ⟨g, hi * 5 + 4, none⟩ = some (.pointer (px hi)) ∧ u.cell? ⟨w.heap.size, 0, none⟩ = some (.func (.func 37) #[] #[]))
          (first | exact HC.out _ HBD.out | exact HC.out _ HBA.out)
          (first | (go_at_call 37; refine (H37.out _).mono ?_; rintro e wa ⟨rfl, hba⟩; have HBA : Hid (Below w1.heap.size w1 wa) := HBD.out.trans (hba.mono HBD.out.size); clear hba))
        all_goals
          go_wp2_with fail
          go_meet
          exact ⟨rfl, HBA.out⟩
      case rest =>
        obtain ⟨wC, rfl⟩ : ∃ u, u = wc := ⟨wc, rfl⟩
        obtain ⟨rfl, hbc⟩ := hcut
        have H4 : Hid (Below w1.heap.size w1 wC) := hbc
        clear hbc HC H37 HBD
        by_cases he : pl hi = k
        · go_wp2_with fail
          go_roundw
          case rel => exact ⟨hi + 1, by omega, by omega, by go_num, (fun j a b => by
              by_cases e : j = hi
              · subst e; exact he
              · exact HI.out j a (by omega) : ∀ j, lo ≤ j → j < hi + 1 → pl j = k), H4.out⟩
          case measure => simp [intOf]; omega
        · have HR : Hid (Run n pl k lo hi) := run_of HASC.out h1 h2 HL.out.1 HI.out HL.out.2 (fun _ => he)
          go_wp2_with fail
          go_ret
          exact ⟨⟨lo, hi, _, _, rfl, fun _ => rfl, HR.out⟩, H1.out.1.trans (H4.out.mono (Nat.le_of_lt H1.out.2.1))⟩
    · have hd : decide ((hi : Int) < (n : Int)) = false := by simp; omega
      have HR : Hid (Run n pl k lo hi) := run_of HASC.out h1 h2 HL.out.1 HI.out HL.out.2 (fun h => absurd h hlt)
      by_cases e : lo = n
      · subst e
        go_wp2_with fail
        go_quiet (fail)
        go_wp2_with fail
        go_ret
        exact ⟨⟨lo, hi, 0, some ⟨g, 0, none⟩, by rw [show hi - lo = 0 by omega]; rfl, fun h => absurd h (by omega), HR.out⟩, H1.out.1.trans ((Below.drewN H3.out _).mono (Nat.le_of_lt H1.out.2.1))⟩
      · go_wp2_with fail
        go_quiet (fail)
        go_wp2_with fail
        go_ret
        exact ⟨⟨lo, hi, _, _, rfl, fun _ => rfl, HR.out⟩, H1.out.1.trans ((Below.drewN H3.out _).mono (Nat.le_of_lt H1.out.2.1))⟩

set_option maxHeartbeats 4000000 in
set_option maxRecDepth 100000 in
theorem runK_any (g n : Nat) (pl qv : Nat → Int) (k : Int) (w : World) (hn : n ≤ 1024) (h : KL w g n pl qv) (asc : ∀ j, j + 1 < n → pl j ≤ pl (j + 1)) :
    Calls Try.prog 39 #[.slice (some ⟨g, 0, none⟩) n n, .int .i32 k, .func (.func 40) #[] #[]] w fun e w' => RunIs g 2 n pl k e ∧ Below w.heap.size w w' := by
  have HASC : Hid (∀ j, j + 1 < n → pl j ≤ pl (j + 1)) := asc
  have hgl := h.lt
  have hbx : Below w.heap.size w (w.alloc (.cells #[.func (.func 40) #[] #[]] 117)) := (Below.refl _ _).alloc (Nat.le_refl _) _
  have HS : Hid (∀ w1, w1 = w.alloc (.cells #[.func (.func 40) #[] #[]] 117) → Calls Try.prog 45 #[.slice (some ⟨g, 0, none⟩) n n, .int .i32 k, .func (.func 46) #[] #[.pointer (some ⟨w.heap.size, 0, none⟩)]] w1 fun e w' => Srch n pl k e ∧ Below w1.heap.size w1 w') := fun w1 hw1 => searchK_any g n pl qv k w.heap.size w1 hn (by rw [hw1]; exact h.below hbx) (asc_le asc) (by rw [hw1, World.cell?, heap_alloc_new]; rfl) (by rw [hw1]; simp)
  have HB : Hid (KL w g n pl qv) := h
  have HBX : Hid (∀ w1, w1 = w.alloc (.cells #[.func (.func 40) #[] #[]] 117) → Below w.heap.size w w1 ∧ w.heap.size < w1.heap.size ∧ w1.cell? ⟨w.heap.size, 0, none⟩ = some (.func (.func 40) #[] #[])) := fun w1 hw1 => ⟨by rw [hw1]; exact hbx, by rw [hw1]; simp, by rw [hw1, World.cell?, heap_alloc_new]; rfl⟩
  clear asc h hbx
  go_enter Try.func39, Try.ntmps39
  go_wp2_with fail
  generalize hw1 : w.alloc (Obj.cells #[.func (.func 40) #[] #[]] 117) = w1
  have H1 : Hid (Below w.heap.size w w1 ∧ w.heap.size < w1.heap.size ∧ w1.cell? ⟨w.heap.size, 0, none⟩ = some (.func (.func 40) #[] #[])) := HBX.out w1 hw1.symm
  have H45 := HS.out w1 hw1.symm
  clear HS HBX hw1
  go_wp2_with (go_at_call 45; refine H45.mono ?_; rintro e w2 ⟨⟨lo, fb, rfl, hlo, hl1, hl2⟩, hb2⟩; have HL : Hid ((∀ j, j < lo → pl j < k) ∧ (∀ j, lo ≤ j → j < n → k ≤ pl j)) := ⟨hl1, hl2⟩; have H2 : Hid (Below w1.heap.size w1 w2) := hb2; clear hl1 hl2 hb2 H45)
  go_loopw [9] (fun i wr => ∃ hi : Nat, lo ≤ hi ∧ hi ≤ n ∧ i = .int .i64 hi ∧ Hid (∀ j, lo ≤ j → j < hi → pl j = k) ∧ Below w1.heap.size w1 wr) (fun i _ => n - (intOf i).toNat)
  case atStart => exact ⟨lo, Nat.le_refl _, hlo, rfl, (fun j h1 h2 => absurd h2 (by omega) : ∀ j, lo ≤ j → j < lo → pl j = k), H2.out⟩
  case round =>
    obtain ⟨hi, h1, h2, rfl, HI, hbel⟩ := hrel
    have H3 : Hid (Below w1.heap.size w1 wr) := hbel
    clear hbel H2
    by_cases hlt : hi < n
    · have hd : decide ((hi : Int) < (n : Int)) = true := by simpa using hlt
      have hC : ∀ u, Below w1.heap.size w1 u → Below w1.heap.size w1 u ∧ u.cell? ⟨g, hi * 2, none⟩ = some (.int .i32 (pl hi)) ∧ u.cell? ⟨g, hi * 2 + 1, none⟩ = some (.int .i32 (qv hi)) ∧ u.cell? ⟨w.heap.size, 0, none⟩ = some (.func (.func 40) #[] #[]) := fun u hu => by
        have hB := (HB.out.below H1.out.1).below hu
        exact ⟨hu, hB.c0 hi hlt, hB.c1 hi hlt, (hu.cell (p := ⟨w.heap.size, 0, none⟩) H1.out.2.1).trans H1.out.2.2⟩
      have HC : Hid (∀ u, Below w1.heap.size w1 u → Below w1.heap.size w1 u ∧ u.cell? ⟨g, hi * 2, none⟩ = some (.int .i32 (pl hi)) ∧ u.cell? ⟨g, hi * 2 + 1, none⟩ = some (.int .i32 (qv hi)) ∧ u.cell? ⟨w.heap.size, 0, none⟩ = some (.func (.func 40) #[] #[])) := hC
      have H37 : Hid (∀ u, Calls Try.prog 40 #[.agg #[.int .i32 (pl hi), .int .i32 (qv hi)]] u fun e w' => e = .returned (.int .i32 (pl hi)) ∧ Below u.heap.size u w') := fun u => key_any (pl hi) (qv hi) u
      clear hC
      have HBD : Hid (Below w1.heap.size w1 wr.drew) := H3.out.drew
      go_wp2_with fail
      go_cut [31] (fun v wd => v = .bool (decide (pl hi = k)) ∧ Below w1.heap.size w1 wd)
      case first =>
        go_region_held3 (fun u => Below w1.heap.size w1 u ∧ u.cell? ⟨g, hi * 2, none⟩ = some (.int .i32 (pl hi)) ∧ u.cell? ⟨g, hi * 2 + 1, none⟩ = some (.int .i32 (qv hi)) ∧ u.cell? ⟨w.heap.size, 0, none⟩ = some (.func (.func 40) #[] #[]))
          (first | exact HC.out _ HBD.out | exact HC.out _ HBA.out)
          (first | (go_at_call 40; refine (H37.out _).mono ?_; rintro e wa ⟨rfl, hba⟩; have HBA : Hid (Below w1.heap.size w1 wa) := HBD.out.trans (hba.mono HBD.out.size); clear hba))
        all_goals
          go_wp2_with fail
          go_meet
          exact ⟨rfl, HBA.out⟩
      case rest =>
        obtain ⟨wC, rfl⟩ : ∃ u, u = wc := ⟨wc, rfl⟩
        obtain ⟨rfl, hbc⟩ := hcut
        have H4 : Hid (Below w1.heap.size w1 wC) := hbc
        clear hbc HC H37 HBD
        by_cases he : pl hi = k
        · go_wp2_with fail
          go_roundw
          case rel => exact ⟨hi + 1, by omega, by omega, by go_num, (fun j a b => by
              by_cases e : j = hi
              · subst e; exact he
              · exact HI.out j a (by omega) : ∀ j, lo ≤ j → j < hi + 1 → pl j = k), H4.out⟩
          case measure => simp [intOf]; omega
        · have HR : Hid (Run n pl k lo hi) := run_of HASC.out h1 h2 HL.out.1 HI.out HL.out.2 (fun _ => he)
          go_wp2_with fail
          go_ret
          exact ⟨⟨lo, hi, _, _, rfl, fun _ => rfl, HR.out⟩, H1.out.1.trans (H4.out.mono (Nat.le_of_lt H1.out.2.1))⟩
    · have hd : decide ((hi : Int) < (n : Int)) = false := by simp; omega
      have HR : Hid (Run n pl k lo hi) := run_of HASC.out h1 h2 HL.out.1 HI.out HL.out.2 (fun h => absurd h hlt)
      by_cases e : lo = n
      · subst e
        go_wp2_with fail
        go_quiet (fail)
        go_wp2_with fail
        go_ret
        exact ⟨⟨lo, hi, 0, some ⟨g, 0, none⟩, by rw [show hi - lo = 0 by omega]; rfl, fun h => absurd h (by omega), HR.out⟩, H1.out.1.trans ((Below.drewN H3.out _).mono (Nat.le_of_lt H1.out.2.1))⟩
      · go_wp2_with fail
        go_quiet (fail)
        go_wp2_with fail
        go_ret
        exact ⟨⟨lo, hi, _, _, rfl, fun _ => rfl, HR.out⟩, H1.out.1.trans ((Below.drewN H3.out _).mono (Nat.le_of_lt H1.out.2.1))⟩

end Go.Proofs.Qxb6618997a.Lk
