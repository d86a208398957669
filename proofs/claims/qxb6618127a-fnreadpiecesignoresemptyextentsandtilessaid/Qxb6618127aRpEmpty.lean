/-
  THE LAW FnReadPiecesIgnoresEmptyExtentsAndTiles (function 4), walked.
-/
import Derived.Test.Qxb6618127aRpCopy
namespace Go.Proofs.Qxb6618127a.Rp
open Go.RowKit Go.WideMaps Go.Maps

/-- A number put in at place p. -/
def ins (Z : Nat → Int) (p : Nat) (x : Int) (i : Nat) : Int := if i < p then Z i else if i = p then x else Z (i - 1)

theorem exts_ins (L F : Nat → Int) (m p : Nat) (el ef : Int) (h : p ≤ m) : exts (ins L p el) (ins F p ef) (m + 1) = (exts L F m).take p ++ (el, zb ef) :: (exts L F m).drop p := by
  apply List.ext_getElem?
  intro i
  have hlen : ((exts L F m).take p).length = p := by simp [exts]; omega
  by_cases h1 : i < p
  · rw [List.getElem?_append_left (by omega), List.getElem?_take_of_lt h1]
    simp [exts, List.getElem?_range (show i < m + 1 by omega), List.getElem?_range (show i < m by omega), ins, h1]
  · rw [List.getElem?_append_right (by omega), hlen]
    by_cases h2 : i = p
    · subst h2
      simp [exts, List.getElem?_range (show i < m + 1 by omega), ins]
    · obtain ⟨j, rfl⟩ : ∃ j, i = p + 1 + j := ⟨i - (p + 1), by omega⟩
      have e1 : p + 1 + j - p = j + 1 := by omega
      rw [e1, List.getElem?_cons_succ, List.getElem?_drop]
      by_cases h3 : p + j < m
      · have e2 : p + 1 + j - 1 = p + j := by omega
        simp [exts, List.getElem?_range (show p + 1 + j < m + 1 by omega), List.getElem?_range h3, ins, show ¬ p + 1 + j < p by omega, show ¬ p + 1 + j = p by omega, e2]
      · rw [List.getElem?_eq_none (by simp [exts]; omega), List.getElem?_eq_none (by simp [exts]; omega)]

theorem pieces_ins (L F : Nat → Int) (m p : Nat) (el ef fin off : Int) (h : p ≤ m) (he : ¬ 0 < el) : pieces fin (exts (ins L p el) (ins F p ef) (m + 1)) off = pieces fin (exts L F m) off := by
  rw [exts_ins L F m p el ef h, pieces_skip fin _ el (zb ef) he, List.take_append_drop]

/-- The cells of the first k numbers. -/
def cells (kind : IntKind) (Z : Nat → Int) (k : Nat) : List Value := (List.range k).map fun i => .int kind (Z i)
theorem cells_succ (kind : IntKind) (Z : Nat → Int) (k : Nat) : cells kind Z (k + 1) = cells kind Z k ++ [.int kind (Z k)] := by simp [cells, List.range_succ]

theorem make_room {t e : TypeId} {z : Value} {bytes : Nat} (ht : Try.prog.underlying t = some (.slice e)) (hinfo : (Try.prog.info? e).map (fun i => (i.zero, i.size, i.bytes)) = some (some z, 1, bytes)) (m : Nat) (hb : bytes * (m + 1) ≤ 281474976710656) (h63 : m + 1 ≤ 9223372036854775807) (w : World) :
    (Instr.makeSlice t (.int .i64 0) (.int .i64 ((m : Int) + 1))).run Try.prog w = .ok (.slice (some ⟨w.heap.size, 0, none⟩) 0 (m + 1)) (w.alloc (.cells (madeCells z.cells (m + 1)) e)) := by
  obtain ⟨i, hi, h0, h1, h2⟩ := info_parts hinfo
  have hb' : (i.bytes : Int) * ((m : Int) + 1) ≤ 281474976710656 := by
    have h : ((bytes * (m + 1) : Nat) : Int) ≤ 281474976710656 := by omega
    rwa [Int.natCast_mul, ← h2] at h
  have hr := run_make (P := Try.prog) w t e i z ht hi h0 .i64 .i64 0 ((m : Int) + 1) (by omega) (by omega) hb' (by omega)
  have e1 : ((m : Int) + 1).toNat = m + 1 := by omega
  rw [h1, e1, Nat.mul_one] at hr
  exact hr

theorem room_owns (w : World) (base : Nat) (z : Array Value) (m : Nat) (e : TypeId) (hb : base ≤ w.heap.size) (hm : m + 1 ≤ maxLen) : (w.alloc (.cells (madeCells z (m + 1)) e)).ownsRow base e 1 (.slice (some ⟨w.heap.size, 0, none⟩) 0 (m + 1)) 0 [] := by
  refine ⟨rfl, .inr ⟨w.heap.size, m + 1, madeCells z (m + 1), rfl, hb, heap_alloc_new w _, Nat.zero_le _, hm, by rw [size_madeCells]; omega, by simp⟩⟩

theorem Out.below {w w' : World} {lo g : Nat} {ps : List Pc} (h : Out w lo g ps) (hw : Below w.heap.size w w') : Out w' lo g ps := by
  have hi := h.hi
  exact ⟨fun k hk => (hw.cell (p := ⟨g, k, none⟩) (by show g < _; omega)).trans (h.c0 k hk), fun k hk => (hw.cell (p := ⟨g + 1, k, none⟩) (by show g + 1 < _; omega)).trans (h.c1 k hk), fun k hk => (hw.cell (p := ⟨g + 1 + 1, k, none⟩) (by show g + 1 + 1 < _; omega)).trans (h.c2 k hk), h.lo, Nat.lt_of_lt_of_le hi hw.size⟩
theorem Out.drewN {w : World} {lo g : Nat} {ps : List Pc} (h : Out w lo g ps) (d : Nat) : Out (w.drewN d) lo g ps := ⟨h.c0, h.c1, h.c2, h.lo, h.hi⟩

theorem ins_lt {Z Z' : Nat → Int} {p k : Nat} {x : Int} (h : Z' = ins Z p x) (hk : k < p) : Z' k = Z k := by rw [h]; simp [ins, hk]
theorem ins_eq {Z Z' : Nat → Int} {p : Nat} {x : Int} (h : Z' = ins Z p x) : Z' p = x := by rw [h]; simp [ins]
theorem ins_gt {Z Z' : Nat → Int} {p k : Nat} {x : Int} (h : Z' = ins Z p x) (hk : p ≤ k) : Z' (k + 1) = Z k := by rw [h]; simp [ins, show ¬ k + 1 < p by omega, show ¬ k + 1 = p by omega]

theorem push_one {B m k k' : Nat} {w2 wr w3 : World} {o : Obj} {xs : List Value} (hB : w2.heap.size = B) (own : wr.ownsRow B 30 1 (.slice (some ⟨B + 1, 0, none⟩) k (m + 1)) k' xs) (hnx : Below B w2 wr) (hg : (wr.alloc o).grownBy w3 (some B)) :
    w3.ownsRow B 30 1 (.slice (some ⟨B + 1, 0, none⟩) k (m + 1)) k' xs ∧ Below B w2 w3 := by
  have := hnx.size
  exact ⟨(own.alloc o).kept hg (.inr (by simp [Value.ownBlock])), (hnx.alloc (by omega) o).grown hg (by simp; omega) (fun j hj => by cases hj; exact Nat.le_refl _)⟩
theorem push_two {B m k k' : Nat} {w2 wr w3 : World} {o : Obj} {xs : List Value} (hB : w2.heap.size = B) (own : wr.ownsRow B 2 1 (.slice (some ⟨B, 0, none⟩) k (m + 1)) k' xs) (hnx : Below B w2 wr) (hg : (wr.alloc o).grownBy w3 (some (B + 1))) :
    w3.ownsRow B 2 1 (.slice (some ⟨B, 0, none⟩) k (m + 1)) k' xs ∧ Below B w2 w3 := by
  have := hnx.size
  exact ⟨(own.alloc o).kept hg (.inr (by simp [Value.ownBlock])), (hnx.alloc (by omega) o).grown hg (by simp; omega) (fun j hj => by cases hj; omega)⟩

set_option maxHeartbeats 2000000 in
set_option maxRecDepth 100000 in
theorem empties_in (off n el ef : Int) (p : Nat) (a1 a2 : Option Addr) (m c1 b1 o1 c2 b2 o2 : Nat) (L F : Nat → Int) (w : World)
    (hL : Ints 22 .i64 w a1 m c1 b1 o1 L) (hF : Ints 23 .u32 w a2 m c2 b2 o2 F) (hLw : ∀ i, i < m → -9223372036854775808 ≤ L i ∧ L i ≤ 9223372036854775807) (hel : -9223372036854775808 ≤ el) (hp : p ≤ m) :
    Calls Try.prog 4 #[.int .i64 off, .int .i64 n, .slice a1 m c1, .slice a2 m c2, .int .i64 p, .int .i64 el, .int .u32 ef] w fun e w' => e = .returned (.bool true) ∧ Below w.heap.size w w' := by
  have q1 := fun w' => run_neq_slice_nil_any (P := Try.prog) w' 22 2 a1 m c1 0 0 Try.underlying22
  have q2 := fun w' => run_neq_slice_nil_any (P := Try.prog) w' 23 30 a2 m c2 0 0 Try.underlying23
  have HL : Hid (Ints 22 .i64 w a1 m c1 b1 o1 L) := hL
  have HF : Hid (Ints 23 .u32 w a2 m c2 b2 o2 F) := hF
  have HW : Hid (∀ i, i < m → -9223372036854775808 ≤ L i ∧ L i ≤ 9223372036854775807) := hLw
  clear hL hF hLw
  go_enter Try.func4, Try.ntmps4
  go_wp2_with fail
  refine (bytes10_any off n p el ef a1 a2 m c1 m c2 w).mono ?_
  rintro e w' ⟨⟨r, rfl⟩, hw⟩
  rw [hw]
  clear hw w'
  cases r
  · go_wp2_with fail
    go_ret
    exact ⟨rfl, Below.refl _ _⟩
  · go_upto_if 73 with fail
    all_goals try (go_ret; exact ⟨rfl, Below.refl _ _⟩)
    have hm : (m : Int) ≤ 65536 := by assumption
    go_cut [2, 15] (fun v _ wc => ∃ a c b o, v = .slice a m c ∧ Hid (Ints 22 .i64 wc a m c b o L) ∧ Below w.heap.size w wc)
    case first =>
      have mk1 := make_row Try.underlying22 info2 m (by omega) (by omega)
      obtain ⟨w2, hcp, hI, hB⟩ := copy_ints Try.underlying22 size2 (by kernel_rfl) #[.int .i64 0] w a1 m c1 b1 o1 L HL.out
      cases a1 with
      | none =>
        go_wp2_with fail
        go_meet
        exact ⟨_, _, _, _, rfl, HL, Below.refl _ _⟩
      | some x =>
        go_wp2_with fail
        go_meet
        exact ⟨_, _, _, _, rfl, hI, hB⟩
    case rest =>
      obtain ⟨w1, rfl⟩ : ∃ w1, w1 = wc := ⟨wc, rfl⟩
      obtain ⟨a1', c1', b1', o1', rfl, HL1, hB1⟩ := hcut
      have HB1 : Hid (Below w.heap.size w w1) := hB1
      have hs1 := hB1.size
      clear hB1 q1
      go_upto_if 82 with fail
      go_cut [3, 16] (fun v _ wd => ∃ a c b o, v = .slice a m c ∧ Hid (Ints 23 .u32 wd a m c b o F) ∧ Below w1.heap.size w1 wd)
      case first =>
        have mk2 := make_row Try.underlying23 info30 m (by omega) (by omega)
        obtain ⟨w2, hcp, hI, hB⟩ := copy_ints Try.underlying23 size30 (by kernel_rfl) #[.int .u32 0] w1 a2 m c2 b2 o2 F (HF.out.below HB1.out)
        cases a2 with
        | none =>
          go_wp2_with fail
          go_meet
          exact ⟨_, _, _, _, rfl, HF.out.below HB1.out, Below.refl _ _⟩
        | some x =>
          go_wp2_with fail
          go_meet
          exact ⟨_, _, _, _, rfl, hI, hB⟩
      case rest =>
        obtain ⟨w2, rfl⟩ : ∃ w2, w2 = wc := ⟨wc, rfl⟩
        obtain ⟨a2', c2', b2', o2', rfl, HF1, hB2⟩ := hcut
        have HL2 : Hid (Ints 22 .i64 w2 a1' m c1' b1' o1' L) := HL1.out.below hB2
        have HB2 : Hid (Below w.heap.size w w2) := HB1.out.trans (hB2.mono hs1)
        clear HL1 HB1 hs1 hB2 q2 HL HF
        have hs2 := HB2.out.size
        have mr1 := make_room Try.underlying22 info2 m (by omega) (by omega)
        have mr2 := make_room Try.underlying23 info30 m (by omega) (by omega)
        obtain ⟨i2, hi2, hy0, hy1, hy2⟩ := info_parts info2
        obtain ⟨i30, hi30, hx0, hx1, hx2⟩ := info_parts info30
        go_wp2_with fail
        obtain ⟨L2, hL2⟩ : ∃ L2, L2 = ins L p el := ⟨_, rfl⟩
        obtain ⟨F2, hF2⟩ : ∃ F2, F2 = ins F p ef := ⟨_, rfl⟩
        have HL3 : Hid (L2 = ins L p el) := hL2
        have HF3 : Hid (F2 = ins F p ef) := hF2
        clear hL2 hF2
        obtain ⟨B, hBe⟩ : ∃ B, w2.heap.size = B := ⟨_, rfl⟩
        have hs2 : w.heap.size ≤ B := by rw [← hBe]; exact HB2.out.size
        have HBE : Hid (w2.heap.size = B) := hBe
        rw [hBe]
        go_loopw [17, 18, 19] (fun v u i wr => ∃ k : Nat, k ≤ p ∧ i = .int .i64 k ∧ v = .slice (some ⟨B, 0, none⟩) k (m + 1) ∧ u = .slice (some ⟨B + 1, 0, none⟩) k (m + 1) ∧ wr.ownsRow B 2 1 (.slice (some ⟨B, 0, none⟩) k (m + 1)) k (cells .i64 L2 k) ∧ wr.ownsRow B 30 1 (.slice (some ⟨B + 1, 0, none⟩) k (m + 1)) k (cells .u32 F2 k) ∧ Below B w2 wr) (fun _ _ i _ => p - (intOf i).toNat)
        case atStart =>
          rw [← hBe]
          refine ⟨0, Nat.zero_le _, rfl, rfl, rfl, (room_owns _ _ _ _ _ (Nat.le_refl _) (by unfold maxLen; omega)).alloc _, ?_, (((Below.refl _ _).alloc (Nat.le_refl _) _).alloc (by simp) _)⟩
          have := room_owns (w2.alloc (Obj.cells (madeCells #[Value.int IntKind.i64 0] (m + 1)) 2)) w2.heap.size #[.int .u32 0] m 30 (by simp) (by unfold maxLen; omega)
          simpa [cells] using this
        case round =>
          clear hBe mr1 mr2
          obtain ⟨k, hk, rfl, rfl, rfl, own1, own2, hnx⟩ := hrel
          by_cases hlt : k < p
          · have bL : b1' < B := by rw [← HBE.out]; exact HL2.out.lt (by omega)
            have bF : b2' < B := by rw [← HBE.out]; exact HF1.out.lt (by omega)
            have cL := (hnx.cell (p := ⟨b1', o1' + k, none⟩) bL).trans (HL2.out.cell k (by omega))
            have ixL := fun w' => HL2.out.idx k w' (by omega)
            have ixF := fun w' => HF1.out.idx k w' (by omega)
            have HE1 : Hid (L2 k = L k) := ins_lt HL3.out hlt
            have HE2 : Hid (F2 k = F k) := ins_lt HF3.out hlt
            go_wp2_with (first | (at_builtin; refine wpList_append_fits _ rfl (.tmp 103) (.tmp 108) 22 rfl B 2 i2 1 Try.underlying22 hi2 hy1 B k (m + 1) _ rfl (own1.alloc _) ⟨wr.heap.size, 0, none⟩ 1 1 [.int .i64 (L k)] rfl rfl (cell_one_new _ _ _) (ints_oneCell .i64 [L k]) (by omega) ?_; intro w3 own3 hg3; obtain ⟨own4, hnx3⟩ := push_one HBE.out own2 hnx hg3; have cF := (hnx3.cell (p := ⟨b2', o2' + k, none⟩) bF).trans (HF1.out.cell k (by omega))) | (at_builtin; refine wpList_append_fits _ rfl (.tmp 110) (.tmp 115) 23 rfl B 30 i30 1 Try.underlying23 hi30 hx1 (B + 1) k (m + 1) _ rfl (own4.alloc _) ⟨w3.heap.size, 0, none⟩ 1 1 [.int .u32 (F k)] rfl rfl (cell_one_new _ _ _) (ints_oneCell .u32 [F k]) (by omega) ?_; intro w4 own5 hg4; obtain ⟨own6, hnx4⟩ := push_two HBE.out own3 hnx3 hg4))
            go_roundw
            case rel => exact ⟨k + 1, by omega, by go_num, rfl, rfl, by rw [cells_succ, HE1.out]; exact own6, by rw [cells_succ, HE2.out]; exact own5, hnx4⟩
            case measure => simp [intOf]; omega
          · obtain rfl : k = p := by omega
            clear hlt hk
            have HE1 : Hid (L2 k = el) := ins_eq HL3.out
            have HE2 : Hid (F2 k = ef) := ins_eq HF3.out
            go_wp2_with (first | (at_builtin; refine wpList_append_fits _ rfl (.tmp 117) (.tmp 119) 22 rfl B 2 i2 1 Try.underlying22 hi2 hy1 B k (m + 1) _ rfl (own1.alloc _) ⟨wr.heap.size, 0, none⟩ 1 1 [.int .i64 el] rfl rfl (cell_one_new _ _ _) (ints_oneCell .i64 [el]) (by omega) ?_; intro w3 own3 hg3; obtain ⟨own4, hnx3⟩ := push_one HBE.out own2 hnx hg3) | (at_builtin; refine wpList_append_fits _ rfl (.tmp 121) (.tmp 123) 23 rfl B 30 i30 1 Try.underlying23 hi30 hx1 (B + 1) k (m + 1) _ rfl (own4.alloc _) ⟨w3.heap.size, 0, none⟩ 1 1 [.int .u32 ef] rfl rfl (cell_one_new _ _ _) (ints_oneCell .u32 [ef]) (by omega) ?_; intro w4 own5 hg4; obtain ⟨own6, hnx4⟩ := push_two HBE.out own3 hnx3 hg4))
            go_loopw [17, 18, 20] (fun v u i wr => ∃ q : Nat, k ≤ q ∧ q ≤ m ∧ i = .int .i64 q ∧ v = .slice (some ⟨B, 0, none⟩) (q + 1) (m + 1) ∧ u = .slice (some ⟨B + 1, 0, none⟩) (q + 1) (m + 1) ∧ wr.ownsRow B 2 1 (.slice (some ⟨B, 0, none⟩) (q + 1) (m + 1)) (q + 1) (cells .i64 L2 (q + 1)) ∧ wr.ownsRow B 30 1 (.slice (some ⟨B + 1, 0, none⟩) (q + 1) (m + 1)) (q + 1) (cells .u32 F2 (q + 1)) ∧ Below B w2 wr) (fun _ _ i _ => m - (intOf i).toNat)
            case atStart => exact ⟨k, Nat.le_refl _, hp, rfl, rfl, rfl, by rw [cells_succ, HE1.out]; exact own6, by rw [cells_succ, HE2.out]; exact own5, hnx4⟩
            case round =>
              clear own1 own2 hnx own3 hg3 own4 hnx3 own5 hg4 own6 hnx4 HE1 HE2
              obtain ⟨q, hkq, hq, rfl, rfl, rfl, own1, own2, hnx⟩ := hrel
              by_cases hlt : q < m
              · have bL : b1' < B := by rw [← HBE.out]; exact HL2.out.lt (by omega)
                have bF : b2' < B := by rw [← HBE.out]; exact HF1.out.lt (by omega)
                have cL := (hnx.cell (p := ⟨b1', o1' + q, none⟩) bL).trans (HL2.out.cell q (by omega))
                have ixL := fun w' => HL2.out.idx q w' (by omega)
                have ixF := fun w' => HF1.out.idx q w' (by omega)
                have HE1 : Hid (L2 (q + 1) = L q) := ins_gt HL3.out hkq
                have HE2 : Hid (F2 (q + 1) = F q) := ins_gt HF3.out hkq
                go_wp2_with (first | (at_builtin; refine wpList_append_fits _ rfl (.tmp 132) (.tmp 137) 22 rfl B 2 i2 1 Try.underlying22 hi2 hy1 B (q + 1) (m + 1) _ rfl (own1.alloc _) ⟨wr.heap.size, 0, none⟩ 1 1 [.int .i64 (L q)] rfl rfl (cell_one_new _ _ _) (ints_oneCell .i64 [L q]) (by omega) ?_; intro w3 own3 hg3; obtain ⟨own4, hnx3⟩ := push_one HBE.out own2 hnx hg3; have cF := (hnx3.cell (p := ⟨b2', o2' + q, none⟩) bF).trans (HF1.out.cell q (by omega))) | (at_builtin; refine wpList_append_fits _ rfl (.tmp 139) (.tmp 144) 23 rfl B 30 i30 1 Try.underlying23 hi30 hx1 (B + 1) (q + 1) (m + 1) _ rfl (own4.alloc _) ⟨w3.heap.size, 0, none⟩ 1 1 [.int .u32 (F q)] rfl rfl (cell_one_new _ _ _) (ints_oneCell .u32 [F q]) (by omega) ?_; intro w4 own5 hg4; obtain ⟨own6, hnx4⟩ := push_two HBE.out own3 hnx3 hg4))
                go_roundw
                case rel => exact ⟨q + 1, by omega, by omega, by go_num, rfl, rfl, by rw [cells_succ _ _ (q + 1), HE1.out]; exact own6, by rw [cells_succ _ _ (q + 1), HE2.out]; exact own5, hnx4⟩
                case measure => simp [intOf]; omega
              · obtain rfl : q = m := by omega
                clear hlt hq hi2 hy0 hy1 hy2 hi30 hx0 hx1 hx2
                have ho1 : -4611686018427387904 ≤ off := by assumption
                have ho2 : off ≤ 4611686018427387904 := by omega
                have hn1 : -4611686018427387904 ≤ n := by assumption
                have hn2 : n ≤ 2147483647 := by omega
                have hel0 : el ≤ 0 := by assumption
                have hnx' : Below w2.heap.size w2 wr := by rw [HBE.out]; exact hnx
                have IA := HL2.out.below hnx'
                have IB := HF1.out.below hnx'
                have hBr : B + 1 < wr.heap.size := (own2.lt (B + 1) rfl).2
                have IC : Ints 22 .i64 wr (some ⟨B, 0, none⟩) (q + 1) (q + 1) B 0 L2 := ints_of_row Try.underlying22 size2 (by omega) (fun i hi => by rw [own1.cellAt i (by omega)]; simp [cells, hi])
                have ID : Ints 23 .u32 wr (some ⟨B + 1, 0, none⟩) (q + 1) (q + 1) (B + 1) 0 F2 := ints_of_row Try.underlying23 size30 hBr (fun i hi => by rw [own2.cellAt i (by omega)]; simp [cells, hi])
                have t1 := zz_any off n a1' a2' q c1' b1' o1' c2' b2' o2' L F wr ho1 ho2 hn1 hn2 (by omega) IA IB HW.out
                have hW2 : ∀ i, i < q + 1 → -9223372036854775808 ≤ L2 i ∧ L2 i ≤ 9223372036854775807 := fun i hi => by
                  rw [HL3.out]
                  unfold ins
                  split
                  · exact HW.out i (by omega)
                  · split
                    · omega
                    · exact HW.out (i - 1) (by omega)
                have t2 := fun (w5 : World) (hb : Below wr.heap.size wr w5) => zz_any off n (some ⟨B, 0, none⟩) (some ⟨B + 1, 0, none⟩) (q + 1) (q + 1) B 0 (q + 1) (B + 1) 0 L2 F2 w5 ho1 ho2 hn1 hn2 (by omega) (IC.below hb) (ID.below hb) hW2
                have hsame : pieces (off + n) (exts L2 F2 (q + 1)) off = pieces (off + n) (exts L F q) off := by
                  rw [HL3.out, HF3.out]; exact pieces_ins L F q k el ef (off + n) off hp (by omega)
                rw [hsame] at t2
                have HT1 : Hid (0 < n → Tiles (off + n) off (pieces (off + n) (exts L F q) off) (off + n)) := fun h => tiles_pieces (off + n) _ off (by omega)
                have HT2 : Hid (¬ 0 < n → (pieces (off + n) (exts L F q) off).length = 0) := fun h => by rw [pieces_none (off + n) _ off (by omega)]; rfl
                generalize pieces (off + n) (exts L F q) off = ps at t1 t2 HT1 HT2
                have HB5 : Hid (Below w.heap.size w wr) := HB2.out.trans (hnx'.mono HB2.out.size)
                have hsr := HB5.out.size
                clear IA IB IC ID hsame hW2 own1 own2 hnx hnx'
                go_wp2_with fail
                refine t1.mono ?_
                clear t1
                rintro e w5 ⟨⟨g1, rfl, out1, hps⟩, hb5⟩
                have t3 := t2 w5 hb5
                clear t2
                go_wp2_with fail
                refine t3.mono ?_
                clear t3
                rintro e w6 ⟨⟨g2, rfl, out2, _⟩, hb6⟩
                have OA : Hid (Out w6 wr.heap.size g1 ps) := out1.below hb6
                have OB : Hid (Out w6 w5.heap.size g2 ps) := out2
                have HB6 : Hid (Below w.heap.size w w6) := (HB5.out.trans (hb5.mono hsr)).trans (hb6.mono (by have := hb5.size; omega))
                clear out1 out2 hb5 hb6
                go_wp2_with fail
                go_loopw [27] (fun i wx => ∃ (q : Nat) (d : Nat), q ≤ ps.length ∧ i = .int .i64 q ∧ wx = w6.drewN d) (fun i _ => ps.length - (intOf i).toNat)
                case atStart => exact ⟨0, 0, Nat.zero_le _, rfl, rfl⟩
                case round =>
                  obtain ⟨q, d, hq, rfl, rfl⟩ := hrel
                  by_cases hlt : q < ps.length
                  · have x1 := OA.out.c0 q hlt
                    have x2 := OB.out.c0 q hlt
                    generalize (P ps q).1 = v at x1 x2
                    go_wp2_with fail
                    go_quiet (fail)
                    go_wp2_with fail
                    go_roundw
                    case rel => exact ⟨q + 1, _, by omega, by go_num, rfl⟩
                    case measure => simp [intOf]; omega
                  · go_wp2_with fail
                    clear hlt hq
                    go_loopw [28] (fun i wx => ∃ (q : Nat) (d : Nat), q ≤ ps.length ∧ i = .int .i64 q ∧ wx = w6.drewN d) (fun i _ => ps.length - (intOf i).toNat)
                    case atStart => exact ⟨0, d, Nat.zero_le _, rfl, rfl⟩
                    case round =>
                      obtain ⟨q, d, hq, rfl, rfl⟩ := hrel
                      by_cases hlt : q < ps.length
                      · have x1 := OA.out.c1 q hlt
                        have x2 := OB.out.c1 q hlt
                        generalize (P ps q).2.1 = v at x1 x2
                        go_wp2_with fail
                        go_quiet (fail)
                        go_wp2_with fail
                        go_roundw
                        case rel => exact ⟨q + 1, _, by omega, by go_num, rfl⟩
                        case measure => simp [intOf]; omega
                      · go_wp2_with fail
                        clear hlt hq
                        go_loopw [29] (fun i wx => ∃ (q : Nat) (d : Nat), q ≤ ps.length ∧ i = .int .i64 q ∧ wx = w6.drewN d) (fun i _ => ps.length - (intOf i).toNat)
                        case atStart => exact ⟨0, d, Nat.zero_le _, rfl, rfl⟩
                        case round =>
                          obtain ⟨q, d, hq, rfl, rfl⟩ := hrel
                          by_cases hlt : q < ps.length
                          · have x1 := OA.out.c2 q hlt
                            have x2 := OB.out.c2 q hlt
                            generalize (P ps q).2.2 = v at x1 x2
                            go_wp2_with fail
                            go_quiet (fail)
                            go_wp2_with fail
                            go_roundw
                            case rel => exact ⟨q + 1, _, by omega, by go_num, rfl⟩
                            case measure => simp [intOf]; omega
                          · have tl := tile_any off n g1 ps (w6.drewN d) wr.heap.size (OA.out.drewN d) ho1 ho2 hn1 hn2 hps HT1.out (fun h => HT2.out (by omega))
                            go_wp2_with fail
                            refine tl.mono ?_
                            clear tl
                            rintro e w7 ⟨rfl, hw7⟩
                            rw [hw7]
                            clear hw7 w7
                            go_wp2_with fail
                            go_ret
                            exact ⟨rfl, below_drewN HB6.out d⟩

set_option maxHeartbeats 2000000 in
set_option maxRecDepth 100000 in
/-- Two lists of different lengths, or a place beyond them: true at once. -/
theorem empties_out (off n atx el ef : Int) (a1 a2 : Option Addr) (n1 c1 n2 c2 : Nat) (w : World) (h : ((n1 : Int) != (n2 : Int)) = true ∨ (((n1 : Int) != (n2 : Int)) = false ∧ (atx < 0 ∨ (n1 : Int) < atx))) :
    Calls Try.prog 4 #[.int .i64 off, .int .i64 n, .slice a1 n1 c1, .slice a2 n2 c2, .int .i64 atx, .int .i64 el, .int .u32 ef] w fun e w' => e = .returned (.bool true) ∧ Below w.heap.size w w' := by
  go_enter Try.func4, Try.ntmps4
  go_wp2_with fail
  refine (bytes10_any off n atx el ef a1 a2 n1 c1 n2 c2 w).mono ?_
  rintro e w' ⟨⟨r, rfl⟩, hw⟩
  rw [hw]
  clear hw w'
  cases r
  · go_wp2_with fail
    go_ret
    exact ⟨rfl, Below.refl _ _⟩
  · rcases h with h | ⟨h, h' | h'⟩
    · go_wp2_with fail
      all_goals (go_ret; exact ⟨rfl, Below.refl _ _⟩)
    · go_wp2_with fail
      all_goals (go_ret; exact ⟨rfl, Below.refl _ _⟩)
    · go_wp2_with fail
      all_goals (go_ret; exact ⟨rfl, Below.refl _ _⟩)

theorem empties_any (off n atx el ef : Int) (a1 a2 : Option Addr) (n1 c1 b1 o1 n2 c2 b2 o2 : Nat) (L F : Nat → Int) (w : World)
    (hL : Ints 22 .i64 w a1 n1 c1 b1 o1 L) (hF : Ints 23 .u32 w a2 n2 c2 b2 o2 F) (hLw : ∀ i, i < n1 → -9223372036854775808 ≤ L i ∧ L i ≤ 9223372036854775807) (hel : -9223372036854775808 ≤ el) :
    Calls Try.prog 4 #[.int .i64 off, .int .i64 n, .slice a1 n1 c1, .slice a2 n2 c2, .int .i64 atx, .int .i64 el, .int .u32 ef] w fun e w' => e = .returned (.bool true) ∧ Below w.heap.size w w' := by
  by_cases heq : n1 = n2
  · subst heq
    by_cases hat : 0 ≤ atx ∧ atx ≤ (n1 : Int)
    · obtain ⟨p, rfl⟩ := Int.eq_ofNat_of_zero_le hat.1
      exact empties_in off n el ef p a1 a2 n1 c1 b1 o1 c2 b2 o2 L F w hL hF hLw hel (by omega)
    · exact empties_out off n atx el ef a1 a2 n1 c1 n1 c2 w (.inr ⟨by simp, by omega⟩)
  · exact empties_out off n atx el ef a1 a2 n1 c1 n2 c2 w (.inl (by simp; omega))

end Go.Proofs.Qxb6618127a.Rp
