/-
  THE LAW FnReadPiecesMatchesChunkModel (function 3), walked.
-/
import Derived.Test.Qxb6618127aRpMatch
namespace Go.Proofs.Qxb6618127a.Rp
open Go.RowKit Go.WideMaps Go.Maps

set_option maxHeartbeats 2000000 in
set_option maxRecDepth 100000 in
theorem chunk_in (off n : Int) (a1 a2 : Option Addr) (m c1 b1 o1 c2 b2 o2 : Nat) (L F : Nat → Int) (w : World)
    (hL : Ints 22 .i64 w a1 m c1 b1 o1 L) (hF : Ints 23 .u32 w a2 m c2 b2 o2 F) (hLw : ∀ i, i < m → -9223372036854775808 ≤ L i ∧ L i ≤ 9223372036854775807) :
    Calls Try.prog 3 #[.int .i64 off, .int .i64 n, .slice a1 m c1, .slice a2 m c2] w fun e w' => e = .returned (.bool true) ∧ Below w.heap.size w w' := by
  have q1 := fun w' => run_neq_slice_nil_any (P := Try.prog) w' 22 2 a1 m c1 0 0 Try.underlying22
  have q2 := fun w' => run_neq_slice_nil_any (P := Try.prog) w' 23 30 a2 m c2 0 0 Try.underlying23
  have HL : Hid (Ints 22 .i64 w a1 m c1 b1 o1 L) := hL
  have HF : Hid (Ints 23 .u32 w a2 m c2 b2 o2 F) := hF
  have HW : Hid (∀ i, i < m → -9223372036854775808 ≤ L i ∧ L i ≤ 9223372036854775807) := hLw
  clear hL hF hLw
  go_enter Try.func3, Try.ntmps3
  go_wp2_with fail
  refine (bytes7_any off n a1 a2 m c1 m c2 w).mono ?_
  rintro e w' ⟨⟨r, rfl⟩, hw⟩
  rw [hw]
  clear hw w'
  cases r
  · go_wp2_with fail
    go_ret
    exact ⟨rfl, Below.refl _ _⟩
  · go_upto_if 44 with fail
    all_goals try (go_ret; exact ⟨rfl, Below.refl _ _⟩)
    have hm : (m : Int) ≤ 65536 := by assumption
    go_cut [2, 9] (fun v _ wc => ∃ a c b o, v = .slice a m c ∧ Hid (Ints 22 .i64 wc a m c b o L) ∧ Below w.heap.size w wc)
    case first =>
      have mk1 := make_row Try.underlying22 info2 m (by omega) (by omega)
      obtain ⟨w2, hcp, hI, hB⟩ := copy_ints Try.underlying22 size2 (by kernel_rfl) #[.int .i64 0] w a1 m c1 b1 o1 L HL.out
      cases a1 with
      | none =>
        go_wp2_with fail
        go_meet
        exact ⟨_, _, _, _, rfl, HL, Below.refl _ _⟩
      | some x =>
        go_wp2_with fail
        go_meet
        exact ⟨_, _, _, _, rfl, hI, hB⟩
    case rest =>
      obtain ⟨w1, rfl⟩ : ∃ w1, w1 = wc := ⟨wc, rfl⟩
      obtain ⟨a1', c1', b1', o1', rfl, HL1, hB1⟩ := hcut
      have HB1 : Hid (Below w.heap.size w w1) := hB1
      have hs1 := hB1.size
      clear hB1 q1
      go_upto_if 53 with fail
      go_cut [3, 10] (fun v _ wd => ∃ a c b o, v = .slice a m c ∧ Hid (Ints 23 .u32 wd a m c b o F) ∧ Below w1.heap.size w1 wd)
      case first =>
        have mk2 := make_row Try.underlying23 info30 m (by omega) (by omega)
        obtain ⟨w2, hcp, hI, hB⟩ := copy_ints Try.underlying23 size30 (by kernel_rfl) #[.int .u32 0] w1 a2 m c2 b2 o2 F (HF.out.below HB1.out)
        cases a2 with
        | none =>
          go_wp2_with fail
          go_meet
          exact ⟨_, _, _, _, rfl, HF.out.below HB1.out, Below.refl _ _⟩
        | some x =>
          go_wp2_with fail
          go_meet
          exact ⟨_, _, _, _, rfl, hI, hB⟩
      case rest =>
        obtain ⟨w2, rfl⟩ : ∃ w2, w2 = wc := ⟨wc, rfl⟩
        obtain ⟨a2', c2', b2', o2', rfl, HF1, hB2⟩ := hcut
        have HL2 : Hid (Ints 22 .i64 w2 a1' m c1' b1' o1' L) := HL1.out.below hB2
        have HB2 : Hid (Below w.heap.size w w2) := HB1.out.trans (hB2.mono hs1)
        clear HL1 HB1 hs1 hB2 q2 HL HF
        have ho1 : -4611686018427387904 ≤ off := by assumption
        have ho2 : off ≤ 4611686018427387904 := by omega
        have hn1 : -4611686018427387904 ≤ n := by assumption
        have hn2 : n ≤ 2147483647 := by omega
        have t1 := zz_any off n a1' a2' m c1' b1' o1' c2' b2' o2' L F w2 ho1 ho2 hn1 hn2 (by omega) HL2.out HF1.out HW.out
        obtain ⟨ps, hps⟩ : ∃ ps, pieces (off + n) (exts L F m) off = ps := ⟨_, rfl⟩
        rw [hps] at t1
        have HPS : Hid (pieces (off + n) (exts L F m) off = ps) := hps
        clear hps
        go_wp2_with fail
        refine t1.mono ?_
        clear t1
        rintro e w5 ⟨⟨g1, rfl, out1, hN⟩, hb5⟩
        have t2 := model_any off n a1' a2' m c1' b1' o1' c2' b2' o2' g1 w2.heap.size L F ps w5 (HL2.out.below hb5) (HF1.out.below hb5) out1 hN ho1 ho2 hn1 hn2 (by omega) HPS.out HW.out
        have HB5 : Hid (Below w.heap.size w w5) := HB2.out.trans (hb5.mono HB2.out.size)
        clear out1 hb5
        go_wp2_with fail
        refine t2.mono ?_
        clear t2
        rintro e w6 ⟨rfl, hw6⟩
        rw [hw6]
        clear hw6 w6
        go_wp2_with fail
        go_ret
        exact ⟨rfl, HB5.out⟩

set_option maxHeartbeats 2000000 in
set_option maxRecDepth 100000 in
/-- Two lists of different lengths: true at once. -/
theorem chunk_out (off n : Int) (a1 a2 : Option Addr) (n1 c1 n2 c2 : Nat) (w : World) (h : ((n1 : Int) != (n2 : Int)) = true) :
    Calls Try.prog 3 #[.int .i64 off, .int .i64 n, .slice a1 n1 c1, .slice a2 n2 c2] w fun e w' => e = .returned (.bool true) ∧ Below w.heap.size w w' := by
  go_enter Try.func3, Try.ntmps3
  go_wp2_with fail
  refine (bytes7_any off n a1 a2 n1 c1 n2 c2 w).mono ?_
  rintro e w' ⟨⟨r, rfl⟩, hw⟩
  rw [hw]
  clear hw w'
  cases r
  · go_wp2_with fail
    go_ret
    exact ⟨rfl, Below.refl _ _⟩
  · go_wp2_with fail
    all_goals (go_ret; exact ⟨rfl, Below.refl _ _⟩)

theorem chunk_any (off n : Int) (a1 a2 : Option Addr) (n1 c1 b1 o1 n2 c2 b2 o2 : Nat) (L F : Nat → Int) (w : World)
    (hL : Ints 22 .i64 w a1 n1 c1 b1 o1 L) (hF : Ints 23 .u32 w a2 n2 c2 b2 o2 F) (hLw : ∀ i, i < n1 → -9223372036854775808 ≤ L i ∧ L i ≤ 9223372036854775807) :
    Calls Try.prog 3 #[.int .i64 off, .int .i64 n, .slice a1 n1 c1, .slice a2 n2 c2] w fun e w' => e = .returned (.bool true) ∧ Below w.heap.size w w' := by
  by_cases heq : n1 = n2
  · subst heq
    exact chunk_in off n a1 a2 n1 c1 b1 o1 c2 b2 o2 L F w hL hF hLw
  · exact chunk_out off n a1 a2 n1 c1 n2 c2 w (by simp; omega)

end Go.Proofs.Qxb6618127a.Rp
