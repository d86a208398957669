/-
  zzPiecesTile (function 11) and the length guards (7, 10), walked.
-/
import Derived.Test.Qxb6618127aRpZz
namespace Go.Proofs.Qxb6618127a.Rp
open Go.RowKit Go.WideMaps Go.Maps

/-- How a length guard ends: a bool. -/
def Guarded (e : Ending) : Prop := ∃ r : Bool, e = .returned (.bool r)
theorem guarded (r : Bool) : Guarded (.returned (.bool r)) := ⟨r, rfl⟩

set_option maxHeartbeats 400000 in
theorem bytes7_any (off n : Int) (a1 a2 : Option Addr) (n1 c1 n2 c2 : Nat) (w : World) :
    Calls Try.prog 7 #[.int .i64 off, .int .i64 n, .slice a1 n1 c1, .slice a2 n2 c2] w fun e w' => Guarded e ∧ w' = w := by
  go_enter Try.func7, Try.ntmps7
  go_wp2
  all_goals
    go_ret
    exact ⟨guarded _, rfl⟩

set_option maxHeartbeats 400000 in
theorem bytes10_any (off n atx el ef : Int) (a1 a2 : Option Addr) (n1 c1 n2 c2 : Nat) (w : World) :
    Calls Try.prog 10 #[.int .i64 off, .int .i64 n, .slice a1 n1 c1, .slice a2 n2 c2, .int .i64 atx, .int .i64 el, .int .u32 ef] w fun e w' => Guarded e ∧ w' = w := by
  go_enter Try.func10, Try.ntmps10
  go_wp2
  all_goals
    go_ret
    exact ⟨guarded _, rfl⟩

theorem drop_P (ps : List Pc) (k : Nat) (h : k < ps.length) : ps.drop k = P ps k :: ps.drop (k + 1) := by
  rw [List.drop_eq_getElem_cons h]
  simp [P, List.getD, h]

/-- What a piece that tiles says of itself. -/
theorem tile_step {fin pos stop : Int} {ps : List Pc} {k : Nat} (h : k < ps.length) (ht : Tiles fin pos (ps.drop k) stop) :
    (P ps k).1 = pos ∧ 0 < (P ps k).2.1 ∧ ((P ps k).2.2 = false → (P ps k).2.1 ≤ 262144) ∧ (P ps k).2.1 ≤ fin - pos ∧ Tiles fin (pos + (P ps k).2.1) (ps.drop (k + 1)) stop := by
  rw [drop_P ps k h] at ht
  exact ht

set_option maxHeartbeats 1000000 in
theorem tile_any (off n : Int) (g : Nat) (ps : List Pc) (w : World) (lo : Nat) (h : Out w lo g ps) (h1 : -4611686018427387904 ≤ off) (h2 : off ≤ 4611686018427387904) (h3 : -4611686018427387904 ≤ n) (h4 : n ≤ 2147483647) (hN : ps.length ≤ 2147483647)
    (ht : 0 < n → Tiles (off + n) off ps (off + n)) (he : ¬ 0 < n → ps.length = 0) :
    Calls Try.prog 11 #[.int .i64 off, .int .i64 n, .slice (some ⟨g, 0, none⟩) ps.length ps.length, .slice (some ⟨g + 1, 0, none⟩) ps.length ps.length, .slice (some ⟨g + 1 + 1, 0, none⟩) ps.length ps.length] w fun e w' => e = .returned (.bool true) ∧ w' = w := by
  obtain ⟨c0, c1, c2, _, _⟩ := h
  by_cases hn : 0 < n
  · have ht' := ht hn
    obtain ⟨fin, hfin⟩ : ∃ fin, fin = off + n := ⟨_, rfl⟩
    rw [← hfin] at ht'
    have hf1 : off < fin := by omega
    have hf3 : fin - off ≤ 2147483647 := by omega
    have hf2 : fin ≤ 4611686018427387904 + 2147483647 := by omega
    have HF : Hid (fin = off + n) := hfin
    clear hfin ht he
    have HT : Hid (Tiles fin off ps fin) := ht'
    clear ht'
    go_enter Try.func11, Try.ntmps11
    go_wp2_with fail
    rw [← HF.out]
    go_loop [12, 13] (fun p i => ∃ (k : Nat) (pos : Int), k ≤ ps.length ∧ i = .int .i64 k ∧ p = .int .i64 pos ∧ off ≤ pos ∧ pos ≤ fin ∧ Hid (Tiles fin pos (ps.drop k) fin)) (fun _ i => ps.length - (intOf i).toNat)
    case atStart => exact ⟨0, off, Nat.zero_le _, rfl, rfl, Int.le_refl _, by omega, HT⟩
    case round =>
      obtain ⟨k, pos, hk, rfl, rfl, hp1, hp2, hti⟩ := hrel
      by_cases hlt : k < ps.length
      · obtain ⟨t1, t2, t3, t4, t5⟩ := tile_step hlt hti.out
        have z0 := c0 k hlt
        have z1 := c1 k hlt
        have z2 := c2 k hlt
        rw [t1] at z0
        clear c0 c1 c2 hti t1
        generalize (P ps k).2.1 = m at z1 t2 t3 t4 t5
        generalize (P ps k).2.2 = z at z2 t3
        have HT5 : Hid (Tiles fin (pos + m) (ps.drop (k + 1)) fin) := t5
        clear t5
        cases z
        · have t3' := t3 rfl
          clear t3
          go_wp2_with fail
          go_round
          case rel => exact ⟨k + 1, _, by omega, by go_num, rfl, by omega, by omega, HT5⟩
          case measure => simp [intOf]; omega
        · clear t3
          go_wp2_with fail
          go_round
          case rel => exact ⟨k + 1, _, by omega, by go_num, rfl, by omega, by omega, HT5⟩
          case measure => simp [intOf]; omega
      · have he : pos = fin := by
          have := hti.out
          rw [List.drop_of_length_le (by omega)] at this
          exact this
        have hb : (pos == fin) = true := by rw [he]; simp
        clear c0 c1 c2 he
        go_wp2_with fail
        go_ret
        exact ⟨rfl, rfl⟩
  · have h0 := he hn
    have hz : (ps.length == 0) = true := by rw [h0]; rfl
    have hz' : ((ps.length : Int) == 0) = true := by rw [h0]; rfl
    clear ht he c0 c1 c2
    go_enter Try.func11, Try.ntmps11
    go_wp2_with fail
    go_ret
    exact ⟨by simp, rfl⟩

end Go.Proofs.Qxb6618127a.Rp
