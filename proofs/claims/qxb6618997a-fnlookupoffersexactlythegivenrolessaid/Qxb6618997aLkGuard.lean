/-
  b1LookUpTooBig (15) and b1LookUpPremise (16), walked.
-/
import Derived.Test.Qxb6618997aLkBase
namespace Go.Proofs.Qxb6618997a.Lk
open Go.RowKit Go.WideMaps Go.Maps

/-- How b1LookUpTooBig ends: where it says no, all is short. -/
def Sized (n3 n4 n6 n7 n8 n9 : Nat) (e : Ending) : Prop := ∃ t : Bool, e = .returned (.bool t) ∧ (t = false → n3 ≤ 1024 ∧ n4 ≤ 1024 ∧ n6 ≤ 1024 ∧ n7 ≤ 1024 ∧ n8 ≤ 1024 ∧ n9 ≤ 1024)
theorem sized_big {n3 n4 n6 n7 n8 n9 : Nat} : Sized n3 n4 n6 n7 n8 n9 (.returned (.bool true)) := ⟨true, rfl, fun h => absurd h (by decide)⟩
theorem sized {n3 n4 n6 n7 n8 n9 : Nat} (h : n3 ≤ 1024 ∧ n4 ≤ 1024 ∧ n6 ≤ 1024 ∧ n7 ≤ 1024 ∧ n8 ≤ 1024 ∧ n9 ≤ 1024) : Sized n3 n4 n6 n7 n8 n9 (.returned (.bool false)) := ⟨false, rfl, fun _ => h⟩

set_option maxHeartbeats 2000000 in
theorem big_any (pk pm : ByteArray) (a3 : Option Addr) (n3 c3 b3 o3 : Nat) (P : Nat → Rl) (a4 a6 a7 a8 a9 : Option Addr) (n4 c4 n6 c6 n7 c7 n8 c8 n9 c9 : Nat) (w : World) (h : Pool w a3 n3 c3 b3 o3 P) :
    Calls Try.prog 15 #[.string pk, .string pm, .slice a3 n3 c3, .slice a4 n4 c4, .slice a6 n6 c6, .slice a7 n7 c7, .slice a8 n8 c8, .slice a9 n9 c9] w fun e w' => Sized n3 n4 n6 n7 n8 n9 e ∧ ∃ q, w' = w.drewN q := by
  have hx := h.idx
  have x1 := h.c1
  have x2 := h.c2
  clear h
  go_enter Try.func15, Try.ntmps15
  go_wp2
  all_goals try (go_ret; exact ⟨sized_big, 0, rfl⟩)
  have HS : Hid (n3 ≤ 1024 ∧ n4 ≤ 1024 ∧ n6 ≤ 1024 ∧ n7 ≤ 1024 ∧ n8 ≤ 1024 ∧ n9 ≤ 1024) := by refine ⟨?_, ?_, ?_, ?_, ?_, ?_⟩ <;> omega
  go_loopw [17, 18] (fun t i wr => ∃ (k q : Nat) (z : Int), k ≤ n3 ∧ i = .int .i64 k ∧ t = .int .i64 z ∧ wr = w.drewN q) (fun _ i _ => n3 - (intOf i).toNat)
  case atStart => exact ⟨0, 0, _, Nat.zero_le _, rfl, rfl, rfl⟩
  case round =>
    obtain ⟨k, q, z, h1, rfl, rfl, hwr⟩ := hrel
    by_cases hlt : k < n3
    · have hix := fun w' => hx k w' hlt
      have y1 : wr.cell? ⟨b3, o3 + k * 3 + 1, none⟩ = some (.string (P k).ik) := by rw [hwr]; exact x1 k hlt
      have y2 : wr.cell? ⟨b3, o3 + k * 3 + 2, none⟩ = some (.string (P k).inn) := by rw [hwr]; exact x2 k hlt
      have HWR : Hid (wr = w.drewN q) := hwr
      have hk : k ≤ 1024 := by have := HS.out.1; omega
      generalize (P k).ik = s1 at y1
      generalize (P k).inn = s2 at y2
      clear hx x1 x2 hwr
      go_wp2
      go_quiet (fail)
      go_wp2
      · go_ret
        exact ⟨sized_big, _, by rw [HWR.out]; exact World.drewN_drewN _ _ _⟩
      · go_roundw
        case rel => exact ⟨k + 1, _, _, by omega, by go_num, rfl, by rw [HWR.out]; exact World.drewN_drewN _ _ _⟩
        case measure => simp [intOf]; omega
    · have HWR : Hid (wr = w.drewN q) := hwr
      clear hx x1 x2 hwr
      go_wp2
      go_ret
      exact ⟨sized HS.out, q, HWR.out⟩

/-- What b1LookUpPremise asks. -/
structure Prem (n3 n4 n6 n7 n8 : Nat) (ix : Bool) (P : Nat → Rl) (B : Nat → Bd) (K : Nat → Kp) (W R : Nat → Int) : Prop where
  br : ∀ j, j < n4 → 0 ≤ (B j).role ∧ (B j).role < n3
  bo : ∀ j, j + 1 < n4 → (P (B j).role.toNat).place ≤ (P (B (j + 1)).role.toNat).place
  rr : ∀ i, i < n8 → 0 ≤ R i ∧ R i < n3
  kr : ix = true → ∀ m, m < n6 → 0 ≤ (K m).place ∧ (K m).place < n4
  ko : ix = true → ∀ m, m + 1 < n6 → (K m).key ≤ (K (m + 1)).key
  wr : ix = true → ∀ m, m < n7 → 0 ≤ W m ∧ W m < n4

/-- Where it says yes, p. -/
def Yes (p : Prop) (e : Ending) : Prop := ∃ t : Bool, e = .returned (.bool t) ∧ (t = true → p)
theorem yes_no {p : Prop} : Yes p (.returned (.bool false)) := ⟨false, rfl, fun h => absurd h (by decide)⟩
theorem yes {p : Prop} (h : p) : Yes p (.returned (.bool true)) := ⟨true, rfl, fun _ => h⟩

set_option maxHeartbeats 4000000 in
set_option maxRecDepth 100000 in
theorem prem_any (a3 : Option Addr) (n3 c3 b3 o3 : Nat) (P : Nat → Rl) (a4 : Option Addr) (n4 c4 b4 o4 : Nat) (B : Nat → Bd) (pn px : Nat → Option Addr) (ix : Bool) (a6 : Option Addr) (n6 c6 b6 o6 : Nat) (K : Nat → Kp) (a7 : Option Addr) (n7 c7 b7 o7 : Nat) (W : Nat → Int) (a8 : Option Addr) (n8 c8 b8 o8 : Nat) (R : Nat → Int) (w : World)
    (h3 : Pool w a3 n3 c3 b3 o3 P) (h4 : Bnds w a4 n4 c4 b4 o4 B pn px) (h6 : Kps w a6 n6 c6 b6 o6 K) (h7 : Ints 34 .i32 w a7 n7 c7 b7 o7 W) (h8 : Ints 35 .i64 w a8 n8 c8 b8 o8 R) (hs : n3 ≤ 1024 ∧ n4 ≤ 1024 ∧ n6 ≤ 1024 ∧ n7 ≤ 1024 ∧ n8 ≤ 1024) :
    Calls Try.prog 16 #[.slice a3 n3 c3, .slice a4 n4 c4, .bool ix, .slice a6 n6 c6, .slice a7 n7 c7, .slice a8 n8 c8] w fun e w' => Yes (Prem n3 n4 n6 n7 n8 ix P B K W R) e ∧ ∃ q, w' = w.drewN q := by
  obtain ⟨s3, s4, s6, s7, s8⟩ := hs
  have H3 : Hid (Pool w a3 n3 c3 b3 o3 P) := h3
  have H4 : Hid (Bnds w a4 n4 c4 b4 o4 B pn px) := h4
  have H6 : Hid (Kps w a6 n6 c6 b6 o6 K) := h6
  have H7 : Hid (Ints 34 .i32 w a7 n7 c7 b7 o7 W) := h7
  have H8 : Hid (Ints 35 .i64 w a8 n8 c8 b8 o8 R) := h8
  clear h3 h4 h6 h7 h8
  go_enter Try.func16, Try.ntmps16
  go_wp2
  go_loop [13] (fun i => ∃ k : Nat, k ≤ n4 ∧ i = .int .i64 k ∧ Hid (∀ j, j < k → 0 ≤ (B j).role ∧ (B j).role < n3)) (fun i => n4 - (intOf i).toNat)
  case atStart => exact ⟨0, Nat.zero_le _, rfl, fun j hj => absurd hj (by omega)⟩
  case round =>
    obtain ⟨k, hk, rfl, HI⟩ := hrel
    by_cases hlt : k < n4
    · have hix := fun w' => H4.out.idx k w' hlt
      have y0 := H4.out.c0 k hlt
      obtain ⟨z, HZ⟩ : ∃ z, Hid (z = (B k).role) := ⟨_, rfl⟩
      rw [← HZ.out] at y0
      by_cases hz : 0 ≤ z ∧ z < n3
      · obtain ⟨hz0, hz1⟩ := hz
        go_wp2
        go_round
        case rel => exact ⟨k + 1, by omega, by go_num, upto_succ HI.out (by rw [← HZ.out]; exact ⟨hz0, hz1⟩)⟩
        case measure => simp [intOf]; omega
      · go_wp2
        all_goals first | (go_ret; exact ⟨yes_no, 0, rfl⟩) | (exfalso; omega)
    · obtain rfl : n4 = k := by omega
      clear hk hlt
      go_wp2
      go_loopw [14] (fun i wr => ∃ k q : Nat, k ≤ n4 ∧ i = .int .i64 ((k : Int) + 1) ∧ Hid (∀ j, j < k → (P (B j).role.toNat).place ≤ (P (B (j + 1)).role.toNat).place) ∧ wr = w.drewN q) (fun i _ => n4 - (intOf i).toNat)
      case atStart => exact ⟨0, 0, Nat.zero_le _, rfl, fun j hj => absurd hj (by omega), rfl⟩
      case round =>
        obtain ⟨k, q, hk, rfl, HO, hwr⟩ := hrel
        have HWR : Hid (wr = w.drewN q) := hwr
        clear hwr
        by_cases hlt : k + 1 < n4
        · have ix0 := fun w' => H4.out.idx k w' (by omega)
          have ix1 : ∀ w', _ := fun w' => H4.out.idx (k + 1) w' (by omega)
          rw [show (((k + 1 : Nat)) : Int) = (k : Int) + 1 by omega] at ix1
          have hw1 : IntKind.i64.wrap ((k : Int) + 1 - 1) = k := by rw [IntKind.wrap_i64]; omega
          have y0 : wr.cell? ⟨b4, o4 + k * 3, none⟩ = some (.int .i64 (B k).role) := by rw [HWR.out]; exact H4.out.c0 k (by omega)
          have y1 : wr.cell? ⟨b4, o4 + (k + 1) * 3, none⟩ = some (.int .i64 (B (k + 1)).role) := by rw [HWR.out]; exact H4.out.c0 (k + 1) (by omega)
          have r0 := HI.out k (by omega)
          have r1 := HI.out (k + 1) (by omega)
          obtain ⟨u, HU⟩ : ∃ u : Nat, Hid (u = (B k).role.toNat) := ⟨_, rfl⟩
          obtain ⟨v, HV⟩ : ∃ v : Nat, Hid (v = (B (k + 1)).role.toNat) := ⟨_, rfl⟩
          have hu : (B k).role = (u : Int) := by have := HU.out; omega
          have hv : (B (k + 1)).role = (v : Int) := by have := HV.out; omega
          rw [hu] at y0 r0
          rw [hv] at y1 r1
          have hul : u < n3 := by omega
          have hvl : v < n3 := by omega
          have ix2 := fun w' => H3.out.idx u w' hul
          have ix3 := fun w' => H3.out.idx v w' hvl
          have y2 : wr.cell? ⟨b3, o3 + u * 3, none⟩ = some (.int .i32 (P u).place) := by rw [HWR.out]; exact H3.out.c0 u hul
          have y3 : wr.cell? ⟨b3, o3 + v * 3, none⟩ = some (.int .i32 (P v).place) := by rw [HWR.out]; exact H3.out.c0 v hvl
          obtain ⟨x, HX⟩ : ∃ x, Hid (x = (P u).place) := ⟨_, rfl⟩
          obtain ⟨y, HY⟩ : ∃ y, Hid (y = (P v).place) := ⟨_, rfl⟩
          rw [← HX.out] at y2
          rw [← HY.out] at y3
          clear hu hv r0 r1
          by_cases hxy : x ≤ y
          · go_wp2
            go_quiet (fail)
            go_wp2
            go_roundw
            case rel => exact ⟨k + 1, _, by omega, by go_num, upto_succ HO.out (by rw [← HU.out, ← HV.out, ← HX.out, ← HY.out]; exact hxy), by rw [HWR.out]; exact World.drewN_drewN _ _ _⟩
            case measure => simp [intOf]; omega
          · go_wp2
            go_quiet (fail)
            go_wp2
            all_goals first | (go_ret; exact ⟨yes_no, _, by rw [HWR.out]; exact World.drewN_drewN _ _ _⟩) | (exfalso; omega)
        · have HO2 : Hid (∀ j, j + 1 < n4 → (P (B j).role.toNat).place ≤ (P (B (j + 1)).role.toNat).place) := fun j hj => HO.out j (by omega)
          clear HO
          go_wp2
          obtain ⟨wA, rfl⟩ : ∃ u, u = wr := ⟨wr, rfl⟩
          go_loop [15] (fun i => ∃ k : Nat, k ≤ n8 ∧ i = .int .i64 k ∧ Hid (∀ j, j < k → 0 ≤ R j ∧ R j < n3)) (fun i => n8 - (intOf i).toNat)
          case atStart => exact ⟨0, Nat.zero_le _, rfl, fun j hj => absurd hj (by omega)⟩
          case round =>
            obtain ⟨k, hk, rfl, HR⟩ := hrel
            by_cases hlt : k < n8
            · have hix := fun w' => H8.out.idx k w' hlt
              have y0 : wA.cell? ⟨b8, o8 + k, none⟩ = some (.int .i64 (R k)) := by rw [HWR.out]; exact H8.out.c0 k hlt
              obtain ⟨z, HZ⟩ : ∃ z, Hid (z = R k) := ⟨_, rfl⟩
              rw [← HZ.out] at y0
              by_cases hz : 0 ≤ z ∧ z < n3
              · obtain ⟨hz0, hz1⟩ := hz
                go_wp2
                go_round
                case rel => exact ⟨k + 1, by omega, by go_num, upto_succ HR.out (by rw [← HZ.out]; exact ⟨hz0, hz1⟩)⟩
                case measure => simp [intOf]; omega
              · go_wp2
                all_goals first | (go_ret; exact ⟨yes_no, q, HWR.out⟩) | (exfalso; omega)
            · obtain rfl : n8 = k := by omega
              cases ix
              · go_wp2
                go_ret
                exact ⟨yes ⟨HI.out, HO2.out, HR.out, (fun h => by cases h), (fun h => by cases h), (fun h => by cases h)⟩, q, HWR.out⟩
              · go_wp2
                go_loop [16] (fun i => ∃ k : Nat, k ≤ n6 ∧ i = .int .i64 k ∧ Hid (∀ j, j < k → 0 ≤ (K j).place ∧ (K j).place < n4)) (fun i => n6 - (intOf i).toNat)
                case atStart => exact ⟨0, Nat.zero_le _, rfl, fun j hj => absurd hj (by omega)⟩
                case round =>
                  obtain ⟨k, hk, rfl, HK⟩ := hrel
                  by_cases hlt : k < n6
                  · have hix := fun w' => H6.out.idx k w' hlt
                    have y0 : wA.cell? ⟨b6, o6 + k * 2 + 1, none⟩ = some (.int .i32 (K k).place) := by rw [HWR.out]; exact H6.out.c1 k hlt
                    have hr := (H6.out.rg k hlt).2
                    obtain ⟨z, HZ⟩ : ∃ z, Hid (z = (K k).place) := ⟨_, rfl⟩
                    rw [← HZ.out] at y0 hr
                    have hcv : IntKind.i64.wrap z = z := by rw [IntKind.wrap_i64]; omega
                    by_cases hz : 0 ≤ z ∧ z < n4
                    · obtain ⟨hz0, hz1⟩ := hz
                      go_wp2
                      go_round
                      case rel => exact ⟨k + 1, by omega, by go_num, upto_succ HK.out (by rw [← HZ.out]; exact ⟨hz0, hz1⟩)⟩
                      case measure => simp [intOf]; omega
                    · go_wp2
                      all_goals first | (go_ret; exact ⟨yes_no, q, HWR.out⟩) | (exfalso; omega)
                  · obtain rfl : n6 = k := by omega
                    clear hk hlt
                    go_wp2
                    go_loopw [17] (fun i wr => ∃ k p : Nat, k ≤ n6 ∧ i = .int .i64 ((k : Int) + 1) ∧ Hid (∀ j, j < k → (K j).key ≤ (K (j + 1)).key) ∧ wr = w.drewN p) (fun i _ => n6 - (intOf i).toNat)
                    case atStart => exact ⟨0, q, Nat.zero_le _, rfl, fun j hj => absurd hj (by omega), HWR.out⟩
                    case round =>
                      clear HWR
                      obtain ⟨k, p, hk, rfl, HKO, hwr⟩ := hrel
                      have HWR : Hid (wr = w.drewN p) := hwr
                      clear hwr
                      by_cases hlt : k + 1 < n6
                      · have ix0 := fun w' => H6.out.idx k w' (by omega)
                        have ix1 : ∀ w', _ := fun w' => H6.out.idx (k + 1) w' (by omega)
                        rw [show (((k + 1 : Nat)) : Int) = (k : Int) + 1 by omega] at ix1
                        have hw1 : IntKind.i64.wrap ((k : Int) + 1 - 1) = k := by rw [IntKind.wrap_i64]; omega
                        have y0 : wr.cell? ⟨b6, o6 + k * 2, none⟩ = some (.int .i32 (K k).key) := by rw [HWR.out]; exact H6.out.c0 k (by omega)
                        have y1 : wr.cell? ⟨b6, o6 + (k + 1) * 2, none⟩ = some (.int .i32 (K (k + 1)).key) := by rw [HWR.out]; exact H6.out.c0 (k + 1) (by omega)
                        obtain ⟨x, HX⟩ : ∃ x, Hid (x = (K k).key) := ⟨_, rfl⟩
                        obtain ⟨y, HY⟩ : ∃ y, Hid (y = (K (k + 1)).key) := ⟨_, rfl⟩
                        rw [← HX.out] at y0
                        rw [← HY.out] at y1
                        by_cases hxy : x ≤ y
                        · go_wp2
                          go_quiet (fail)
                          go_wp2
                          go_roundw
                          case rel => exact ⟨k + 1, _, by omega, by go_num, upto_succ HKO.out (by rw [← HX.out, ← HY.out]; exact hxy), by rw [HWR.out]; exact World.drewN_drewN _ _ _⟩
                          case measure => simp [intOf]; omega
                        · go_wp2
                          go_quiet (fail)
                          go_wp2
                          all_goals first | (go_ret; exact ⟨yes_no, _, by rw [HWR.out]; exact World.drewN_drewN _ _ _⟩) | (exfalso; omega)
                      · have HKO2 : Hid (∀ m, m + 1 < n6 → (K m).key ≤ (K (m + 1)).key) := fun j hj => HKO.out j (by omega)
                        clear HKO
                        go_wp2
                        obtain ⟨wB, rfl⟩ : ∃ u, u = wr := ⟨wr, rfl⟩
                        go_loop [18] (fun i => ∃ k : Nat, k ≤ n7 ∧ i = .int .i64 k ∧ Hid (∀ j, j < k → 0 ≤ W j ∧ W j < n4)) (fun i => n7 - (intOf i).toNat)
                        case atStart => exact ⟨0, Nat.zero_le _, rfl, fun j hj => absurd hj (by omega)⟩
                        case round =>
                          obtain ⟨k, hk, rfl, HW⟩ := hrel
                          by_cases hlt : k < n7
                          · have hix := fun w' => H7.out.idx k w' hlt
                            have y0 : wB.cell? ⟨b7, o7 + k, none⟩ = some (.int .i32 (W k)) := by rw [HWR.out]; exact H7.out.c0 k hlt
                            have hr := H7.out.rg k hlt
                            obtain ⟨z, HZ⟩ : ∃ z, Hid (z = W k) := ⟨_, rfl⟩
                            rw [← HZ.out] at y0 hr
                            have hcv : IntKind.i64.wrap z = z := by rw [IntKind.wrap_i64]; omega
                            by_cases hz : 0 ≤ z ∧ z < n4
                            · obtain ⟨hz0, hz1⟩ := hz
                              go_wp2
                              go_round
                              case rel => exact ⟨k + 1, by omega, by go_num, upto_succ HW.out (by rw [← HZ.out]; exact ⟨hz0, hz1⟩)⟩
                              case measure => simp [intOf]; omega
                            · go_wp2
                              all_goals first | (go_ret; exact ⟨yes_no, p, HWR.out⟩) | (exfalso; omega)
                          · obtain rfl : n7 = k := by omega
                            go_wp2
                            go_ret
                            exact ⟨yes ⟨HI.out, HO2.out, HR.out, fun _ => HK.out, fun _ => HKO2.out, fun _ => HW.out⟩, p, HWR.out⟩

end Go.Proofs.Qxb6618997a.Lk
