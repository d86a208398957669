/-
  THE LAW FnTakeReturnsLastAndRemovesIt (function 5), walked: its callees by their contracts.
-/
import Derived.Test.Qxb6618127aTkWalks
namespace Go.Proofs.Qxb6618127a
open Go.RowKit Go.WideMaps Go.Maps

theorem Strs.below {w w' : World} {a : Option Addr} {n c b o : Nat} {ss : List ByteArray} (h : Strs w a n c b o ss) (hb : b < w.heap.size) (hw : Below w.heap.size w w') : Strs w' a n c b o ss :=
  ⟨h.idx, fun j hj => (hw.cell (p := ⟨b, o + j, none⟩) hb).trans (h.cell j hj)⟩
theorem Strs.drewN {w : World} {a : Option Addr} {n c b o : Nat} {ss : List ByteArray} (h : Strs w a n c b o ss) (m : Nat) : Strs (w.drewN m) a n c b o ss := ⟨h.idx, h.cell⟩

/-- The first Take, at the map of n pairs. -/
theorem take_first (B n : Nat) (ks vs : List ByteArray) (key want : ByteArray) (w : World) (hown : Holds w B n (D ks vs n)) (hz : key.size ≤ 1048576) (hw : want.data.toList = lastV ks vs key.data.toList n) :
    Calls Try.prog 15 #[.map (some B), .string key] w fun e w' => e = .returned (.tuple #[.string want, .bool (found ks key.data.toList n)]) ∧ Holds w' B n ((D ks vs n).del (.string key.data.toList)) ∧ w.mapTurned w' B := by
  refine (take_own B n _ key w hown hz).mono ?_
  rintro e w' ⟨v, rfl, hat, hown1, hturn⟩
  rw [at_D] at hat
  have hv : want = v := WideShapes.bytes_inj (by rw [hw]; injection hat with h; injection h)
  rw [has_D, hv]
  exact ⟨rfl, hown1, hturn⟩

/-- The second Take of the same key. -/
theorem take_second (B n : Nat) (M : DataW Unit) (key : ByteArray) (w : World) (hown : Holds w B n (M.del (.string key.data.toList))) (hz : key.size ≤ 1048576) :
    Calls Try.prog 15 #[.map (some B), .string key] w fun e w' => e = .returned (.tuple #[.string ByteArray.empty, .bool false]) ∧ Holds w' B n ((M.del (.string key.data.toList)).del (.string key.data.toList)) ∧ w.mapTurned w' B := by
  refine (take_own B n _ key w hown hz).mono ?_
  rintro e w' ⟨v, rfl, hat, hown1, hturn⟩
  rw [atKey_del_same] at hat
  have hv : ByteArray.empty = v := WideShapes.bytes_inj (by injection hat with h; injection h)
  rw [has_del_same, ← hv]
  exact ⟨rfl, hown1, hturn⟩

/-- 'q[keys[i]]' behind the two Takes of another key, at the last place of its kind. -/
theorem look_taken (B n i : Nat) (ks vs : List ByteArray) (key : ByteArray) (w : World) (hown : Holds w B n (((D ks vs n).del (.string key.data.toList)).del (.string key.data.toList))) (hz : (ks.getD i ByteArray.empty).size ≤ 1048576) (hi : i < n)
    (hne : bs ks i ≠ key.data.toList) (hl : lastTo ks i n = true) :
    (Instr.lookup 36 (.map (some B)) (.string (ks.getD i ByteArray.empty)) true).run Try.prog w = .ok (.tuple #[.string (vs.getD i ByteArray.empty), .bool true]) w := by
  obtain ⟨v, ps, hlk, hat⟩ := hown.look_ok keyed9 Try.underlying36 (zero9 _) (elem_of (s := ByteArray.empty) (by decide)) (key_of hz)
  obtain ⟨s, rfl, hs, _⟩ := elem_inv hat
  have e1 : (ks.getD i ByteArray.empty).data.toList = bs ks i := rfl
  rw [e1] at hlk hs
  have h0 : ByteArray.empty.data.toList = [] := rfl
  rw [h0, at_taken ks vs n _ _ hne, lastV_of_last ks vs i n hi hl] at hs
  rw [has_taken ks vs n _ _ hne, (found_iff ks (bs ks i) n).2 ⟨i, hi, rfl⟩] at hlk
  have hv : vs.getD i ByteArray.empty = s := WideShapes.bytes_inj (by injection hs with h; injection h)
  rw [hv]
  exact hlk

theorem found_hit {ks : List ByteArray} {j : Nat} {sk key : ByteArray} (h1 : Hid (sk = ks.getD j ByteArray.empty)) (h : (sk.toList == key.toList) = true) : found ks key.data.toList (j + 1) = true := by
  have := same_of h
  rw [h1.out] at this
  rw [found, bs, this]; simp
theorem found_miss {ks : List ByteArray} {j : Nat} {sk key : ByteArray} (h1 : Hid (sk = ks.getD j ByteArray.empty)) (h : (sk.toList == key.toList) = false) : found ks key.data.toList (j + 1) = found ks key.data.toList j := by
  have := apart_of h
  rw [h1.out] at this
  rw [found, bs, beq_eq_false_iff_ne.2 this]; simp
theorem last_hit {ks vs : List ByteArray} {j : Nat} {sk sv key : ByteArray} (h1 : Hid (sk = ks.getD j ByteArray.empty)) (h2 : Hid (sv = vs.getD j ByteArray.empty)) (h : (sk.toList == key.toList) = true) : Hid (sv.data.toList = lastV ks vs key.data.toList (j + 1)) := by
  have := same_of h
  rw [h1.out] at this
  change bs ks j = key.data.toList at this
  show sv.data.toList = lastV ks vs key.data.toList (j + 1)
  rw [lastV, if_pos this, h2.out, bs]
theorem last_miss {ks vs : List ByteArray} {j : Nat} {sk s key : ByteArray} (h1 : Hid (sk = ks.getD j ByteArray.empty)) (h2 : Hid (s.data.toList = lastV ks vs key.data.toList j)) (h : (sk.toList == key.toList) = false) : Hid (s.data.toList = lastV ks vs key.data.toList (j + 1)) := by
  have := apart_of h
  rw [h1.out] at this
  change bs ks j ≠ key.data.toList at this
  show s.data.toList = lastV ks vs key.data.toList (j + 1)
  rw [lastV, if_neg this, h2.out]

set_option maxHeartbeats 1000000 in
set_option maxRecDepth 100000 in
theorem returnsLast_any (a1 a2 : Option Addr) (n1 c1 b1 o1 n2 c2 b2 o2 : Nat) (ks vs : List ByteArray) (key : ByteArray) (w : World) (hk : Strs w a1 n1 c1 b1 o1 ks) (hv : Strs w a2 n2 c2 b2 o2 vs)
    (h1 : 0 < n1 → b1 < w.heap.size) (h2 : 0 < n2 → b2 < w.heap.size) :
    Calls Try.prog 5 #[.slice a1 n1 c1, .slice a2 n2 c2, .string key] w fun e w' => e = .returned (.bool true) ∧ Below w.heap.size w w' := by
  obtain ⟨ix1, hc1⟩ := id hk
  obtain ⟨ix2, hc2⟩ := id hv
  have HK : Hid (Strs w a1 n1 c1 b1 o1 ks) := hk
  have HV : Hid (Strs w a2 n2 c2 b2 o2 vs) := hv
  clear hk hv
  go_enter Try.func5, Try.ntmps5
  go_wp2_with fail
  refine (bytes_any a1 a2 n1 c1 b1 o1 n2 c2 b2 o2 ks vs key w HK.out HV.out).mono ?_
  rintro e w' ⟨⟨r, rfl, hr⟩, hw⟩
  rw [hw]
  clear hw w'
  cases r
  · go_wp2_with fail
    go_ret
    exact ⟨rfl, Below.refl _ _⟩
  · obtain ⟨hs1, hs2, hs3⟩ := hr rfl
    clear hr
    go_wp2_with fail
    · go_ret
      exact ⟨rfl, Below.refl _ _⟩
    · go_ret
      exact ⟨rfl, Below.refl _ _⟩
    · go_ret
      exact ⟨rfl, Below.refl _ _⟩
    · go_loop [7, 8] (fun t i => ∃ (k : Nat) (z : Int), k ≤ n1 ∧ i = .int .i64 k ∧ t = .int .i64 z ∧ 0 ≤ z ∧ z ≤ 1048576) (fun _ i => n1 - (intOf i).toNat)
      case atStart => exact ⟨0, _, Nat.zero_le _, rfl, rfl, by omega, by omega⟩
      case round =>
        obtain ⟨k, z, hk1, rfl, rfl, hz0, hz1⟩ := hrel
        by_cases hlt : k < n1
        · have hcx := hc1 k hlt
          have hix := fun w' => ix1 k w' hlt
          have hsx := hs1 k hlt
          generalize ks.getD k ByteArray.empty = s at hcx hsx
          clear hc1 ix1 ix2 hc2
          go_wp2_with fail
          · go_ret
            exact ⟨rfl, Below.refl _ _⟩
          · go_round
            case rel => exact ⟨k + 1, _, by omega, by go_num, rfl, by omega, by omega⟩
            case measure => simp [intOf]; omega
        · obtain rfl : k = n1 := by omega
          go_wp2_with fail
          go_loop [7, 9] (fun t i => ∃ (k : Nat) (z : Int), k ≤ n2 ∧ i = .int .i64 k ∧ t = .int .i64 z ∧ 0 ≤ z ∧ z ≤ 1048576) (fun _ i => n2 - (intOf i).toNat)
          case atStart => exact ⟨0, _, Nat.zero_le _, rfl, rfl, by omega, by omega⟩
          case round =>
            obtain ⟨m, z2, g1, rfl, rfl, gz0, gz1⟩ := hrel
            by_cases hlt2 : m < n2
            · have hcx := hc2 m hlt2
              have hix := fun w' => ix2 m w' hlt2
              have hsx := hs2 m hlt2
              generalize vs.getD m ByteArray.empty = s at hcx hsx
              clear hc1 ix1 ix2 hc2
              go_wp2_with fail
              · go_ret
                exact ⟨rfl, Below.refl _ _⟩
              · go_round
                case rel => exact ⟨m + 1, _, by omega, by go_num, rfl, by omega, by omega⟩
                case measure => simp [intOf]; omega
            · obtain rfl : m = n2 := by omega
              by_cases hne : k = m
              · subst hne
                clear hlt hlt2 g1 hk1
                by_cases h0 : k = 0
                · subst h0
                  clear hc1 ix1 ix2 hc2
                  go_wp2_with fail
                  refine (build_nil _ _ _ _ _ _).mono ?_
                  rintro e w' ⟨rfl, hw⟩
                  rw [hw]
                  clear hw w'
                  have hln := fun ty => Maps.len_nil (w := w) Try.underlying36 ty
                  go_wp2_with fail
                  refine wp_loop_rounds 1 ?_
                  rw [rounds_succ]
                  go_wp2_with fail
                  refine wp_loop_rounds 1 ?_
                  rw [rounds_succ]
                  go_wp2_with fail
                  refine (take_nil _ _ hs3).mono ?_
                  rintro e w' ⟨rfl, hw⟩
                  rw [hw]
                  clear hw w'
                  go_wp2_with fail
                  refine (take_nil _ _ hs3).mono ?_
                  rintro e w' ⟨rfl, hw⟩
                  rw [hw]
                  clear hw w'
                  go_wp2_with fail
                  refine wp_loop_rounds 1 ?_
                  rw [rounds_succ]
                  go_wp2_with fail
                  go_ret
                  exact ⟨rfl, Below.refl _ _⟩
                · have hb1 : b1 < w.heap.size := h1 (by omega)
                  have hb2 : b2 < w.heap.size := h2 (by omega)
                  go_wp2_with fail
                  refine (build_any a1 a2 k c1 b1 o1 c2 b2 o2 ks vs w (by omega) (by omega) HK.out HV.out hb1 hb2 hs1 hs2).mono ?_
                  rintro e w1 ⟨rfl, hown, hbel⟩
                  have hc1' : ∀ j, j < k → w1.cell? ⟨b1, o1 + j, none⟩ = some (.string (ks.getD j ByteArray.empty)) := fun j hj => (hbel.cell (p := ⟨b1, o1 + j, none⟩) hb1).trans (hc1 j hj)
                  have hc2' : ∀ j, j < k → w1.cell? ⟨b2, o2 + j, none⟩ = some (.string (vs.getD j ByteArray.empty)) := fun j hj => (hbel.cell (p := ⟨b2, o2 + j, none⟩) hb2).trans (hc2 j hj)
                  have HK1 : Hid (Strs w1 a1 k c1 b1 o1 ks) := HK.out.below hb1 hbel
                  have HO : Hid (Holds w1 w.heap.size k (D ks vs k)) := hown
                  have HB : Hid (Below w.heap.size w w1) := hbel
                  clear hc1 hc2 hown hbel
                  go_wp2_with fail
                  go_loop [11, 12, 13] (fun v f i => ∃ (j : Nat) (s : ByteArray), j ≤ k ∧ i = .int .i64 j ∧ v = .string s ∧ f = .bool (found ks key.data.toList j) ∧ Hid (s.data.toList = lastV ks vs key.data.toList j)) (fun _ _ i => k - (intOf i).toNat)
                  case atStart => exact ⟨0, _, Nat.zero_le _, rfl, rfl, rfl, rfl⟩
                  case round =>
                    obtain ⟨j, s, hj, rfl, rfl, rfl, HS⟩ := hrel
                    by_cases hlt : j < k
                    · have hcx := hc1' j hlt
                      have hcy := hc2' j hlt
                      have hix := fun w' => ix1 j w' hlt
                      have hiy := fun w' => ix2 j w' hlt
                      obtain ⟨sk, hsk⟩ : ∃ s, s = ks.getD j ByteArray.empty := ⟨_, rfl⟩
                      obtain ⟨sv, hsv⟩ : ∃ s, s = vs.getD j ByteArray.empty := ⟨_, rfl⟩
                      rw [← hsk] at hcx
                      rw [← hsv] at hcy
                      have HSK : Hid (sk = ks.getD j ByteArray.empty) := hsk
                      have HSV : Hid (sv = vs.getD j ByteArray.empty) := hsv
                      clear hsk hsv hc1' hc2' ix1 ix2
                      go_wp2_with fail
                      · go_round
                        case rel => exact ⟨j + 1, sv, by omega, by go_num, rfl, by rw [found_hit HSK (by assumption)], last_hit HSK HSV (by assumption)⟩
                        case measure => simp [intOf]; omega
                      · go_round
                        case rel => exact ⟨j + 1, s, by omega, by go_num, rfl, by rw [found_miss HSK (by assumption)], last_miss HSK HS (by assumption)⟩
                        case measure => simp [intOf]; omega
                    · obtain rfl : j = k := by omega
                      clear hlt hj
                      generalize hfd : found ks key.data.toList j = fd
                      have HF : Hid (found ks key.data.toList j = fd) := hfd
                      clear hfd
                      go_wp2_with fail
                      go_loopw [14, 15] (fun l i wr => ∃ i0 : Nat, i0 ≤ j ∧ i = .int .i64 i0 ∧ l = .int .i64 (live ks j i0 : Nat) ∧ ∃ m, wr = w1.drewN m) (fun _ i _ => j - (intOf i).toNat)
                      case atStart => exact ⟨0, Nat.zero_le _, rfl, rfl, 0, rfl⟩
                      case round =>
                        obtain ⟨i0, hi0, rfl, rfl, m, rfl⟩ := hrel
                        have hll := live_le ks j i0
                        by_cases hlt : i0 < j
                        · have hls := live_succ ks j i0
                          have hcon := isLast_any a1 j c1 b1 o1 i0 ks (w1.drewN m) (by omega) hlt (HK1.out.drewN m)
                          clear hc1' hc2' ix1 ix2
                          cases hl : lastTo ks i0 j
                          · rw [hl] at hls hcon
                            have HL : Hid (live ks j (i0 + 1) = live ks j i0 + if false = true then 1 else 0) := hls
                            clear hls hl
                            go_wp2_with fail
                            refine hcon.mono ?_
                            rintro e w' ⟨rfl, m2, rfl⟩
                            go_wp2_with fail
                            go_roundw
                            case rel => exact ⟨i0 + 1, by omega, by go_num, by rw [HL.out]; rfl, _, rfl⟩
                            case measure => simp [intOf]; omega
                          · rw [hl] at hls hcon
                            have HL : Hid (live ks j (i0 + 1) = live ks j i0 + if true = true then 1 else 0) := hls
                            clear hls hl
                            go_wp2_with fail
                            refine hcon.mono ?_
                            rintro e w' ⟨rfl, m2, rfl⟩
                            go_wp2_with fail
                            go_roundw
                            case rel => exact ⟨i0 + 1, by omega, by go_num, by rw [HL.out]; go_num, _, rfl⟩
                            case measure => simp [intOf]; omega
                        · obtain rfl : i0 = j := by omega
                          clear hlt hi0
                          have t1 := take_first w.heap.size i0 ks vs key s (w1.drewN m) (ownsMap_drewN HO.out m) hs3 HS.out
                          rw [HF.out] at t1
                          go_wp2_with fail
                          refine t1.mono ?_
                          clear t1
                          rintro e w2 ⟨rfl, hown2, hturn2⟩
                          have t2 := take_second w.heap.size i0 _ key w2 hown2 hs3
                          go_wp2_with fail
                          refine t2.mono ?_
                          clear t2
                          rintro e w3 ⟨rfl, hown3, hturn3⟩
                          have hln := fun ty => World.ownsMap.len hown3 Try.underlying36 ty
                          have hsz := size_taken ks vs i0 key.data.toList
                          rw [HF.out] at hsz
                          have HB3 : Hid (Below w.heap.size w w3) := ((below_drewN HB.out m).grown hturn2.grown (below_drewN HB.out m).size (fun x hx => by cases hx; exact Nat.le_refl _)).grown hturn3.grown (((below_drewN HB.out m).grown hturn2.grown (below_drewN HB.out m).size (fun x hx => by cases hx; exact Nat.le_refl _))).size (fun x hx => by cases hx; exact Nat.le_refl _)
                          have HO3 : Hid (Holds w3 w.heap.size i0 (((D ks vs i0).del (.string key.data.toList)).del (.string key.data.toList))) := hown3
                          clear hown2 hown3 hturn2 hturn3
                          generalize Maps.size (((D ks vs i0).del (.string key.data.toList)).del (.string key.data.toList)) = z3 at hln hsz
                          cases fd
                          · simp only [Bool.false_eq_true, if_false, Nat.add_zero] at hsz
                            have hz' : ((z3 : Int) != (live ks i0 i0 : Nat)) = false := by simp; omega
                            clear hsz hc1' hc2'
                            go_wp2_with fail
                            go_loopw [20] (fun i wr => ∃ q : Nat, q ≤ i0 ∧ i = .int .i64 q ∧ ∃ m, wr = w3.drewN m) (fun i _ => i0 - (intOf i).toNat)
                            case atStart => exact ⟨0, Nat.zero_le _, rfl, 0, rfl⟩
                            case round =>
                              obtain ⟨q, hq, rfl, m3, rfl⟩ := hrel
                              by_cases hlt : q < i0
                              · have hcx := (HB3.out.cell (p := ⟨b1, o1 + q, none⟩) hb1).trans (HK.out.cell q hlt)
                                have hcy := (HB3.out.cell (p := ⟨b2, o2 + q, none⟩) hb2).trans (HV.out.cell q hlt)
                                have hix := fun w' => ix1 q w' hlt
                                have hiy := fun w' => ix2 q w' hlt
                                have hcon := isLast_any a1 i0 c1 b1 o1 q ks (w3.drewN m3) (by omega) hlt ((HK.out.below hb1 HB3.out).drewN m3)
                                have hsx := hs1 q hlt
                                have hlook := fun (h1 : bs ks q ≠ key.data.toList) (h2 : lastTo ks q i0 = true) mm => look_taken w.heap.size i0 q ks vs key (w3.drewN mm) (ownsMap_drewN HO3.out mm) hsx hlt h1 h2
                                obtain ⟨sk, hsk⟩ : ∃ s, s = ks.getD q ByteArray.empty := ⟨_, rfl⟩
                                obtain ⟨sv, hsv⟩ : ∃ s, s = vs.getD q ByteArray.empty := ⟨_, rfl⟩
                                rw [← hsk] at hcx hlook
                                rw [← hsv] at hcy hlook
                                clear ix1 ix2 hln hsx
                                by_cases hkk : bs ks q = key.data.toList
                                · have ht : (sk.toList == key.toList) = true := by rw [ByteArray.toList_eq, ByteArray.toList_eq, hsk]; exact beq_iff_eq.2 hkk
                                  clear hsk hsv hlook hcon
                                  go_wp2_with fail
                                  go_roundw
                                  case rel => exact ⟨q + 1, by omega, by go_num, _, rfl⟩
                                  case measure => simp [intOf]; omega
                                · have ht : (sk.toList == key.toList) = false := by rw [ByteArray.toList_eq, ByteArray.toList_eq, hsk]; exact beq_eq_false_iff_ne.2 hkk
                                  clear hsk hsv
                                  cases hl : lastTo ks q i0
                                  · rw [hl] at hcon
                                    clear hl hlook hkk
                                    go_wp2_with fail
                                    refine hcon.mono ?_
                                    rintro e w' ⟨rfl, m4, rfl⟩
                                    go_wp2_with fail
                                    go_roundw
                                    case rel => exact ⟨q + 1, by omega, by go_num, _, rfl⟩
                                    case measure => simp [intOf]; omega
                                  · have hlk := hlook hkk hl
                                    rw [hl] at hcon
                                    clear hl hlook hkk
                                    go_wp2_with fail
                                    refine hcon.mono ?_
                                    rintro e w' ⟨rfl, m4, rfl⟩
                                    go_wp2_with fail
                                    go_roundw
                                    case rel => exact ⟨q + 1, by omega, by go_num, _, rfl⟩
                                    case measure => simp [intOf]; omega
                              · go_wp2_with fail
                                go_ret
                                exact ⟨rfl, below_drewN HB3.out m3⟩
                          · simp only [if_true] at hsz
                            have hz' : ((z3 : Int) != (live ks i0 i0 : Nat) - 1) = false := by simp; omega
                            clear hsz hc1' hc2'
                            go_wp2_with fail
                            go_loopw [20] (fun i wr => ∃ q : Nat, q ≤ i0 ∧ i = .int .i64 q ∧ ∃ m, wr = w3.drewN m) (fun i _ => i0 - (intOf i).toNat)
                            case atStart => exact ⟨0, Nat.zero_le _, rfl, 0, rfl⟩
                            case round =>
                              obtain ⟨q, hq, rfl, m3, rfl⟩ := hrel
                              by_cases hlt : q < i0
                              · have hcx := (HB3.out.cell (p := ⟨b1, o1 + q, none⟩) hb1).trans (HK.out.cell q hlt)
                                have hcy := (HB3.out.cell (p := ⟨b2, o2 + q, none⟩) hb2).trans (HV.out.cell q hlt)
                                have hix := fun w' => ix1 q w' hlt
                                have hiy := fun w' => ix2 q w' hlt
                                have hcon := isLast_any a1 i0 c1 b1 o1 q ks (w3.drewN m3) (by omega) hlt ((HK.out.below hb1 HB3.out).drewN m3)
                                have hsx := hs1 q hlt
                                have hlook := fun (h1 : bs ks q ≠ key.data.toList) (h2 : lastTo ks q i0 = true) mm => look_taken w.heap.size i0 q ks vs key (w3.drewN mm) (ownsMap_drewN HO3.out mm) hsx hlt h1 h2
                                obtain ⟨sk, hsk⟩ : ∃ s, s = ks.getD q ByteArray.empty := ⟨_, rfl⟩
                                obtain ⟨sv, hsv⟩ : ∃ s, s = vs.getD q ByteArray.empty := ⟨_, rfl⟩
                                rw [← hsk] at hcx hlook
                                rw [← hsv] at hcy hlook
                                clear ix1 ix2 hln hsx
                                by_cases hkk : bs ks q = key.data.toList
                                · have ht : (sk.toList == key.toList) = true := by rw [ByteArray.toList_eq, ByteArray.toList_eq, hsk]; exact beq_iff_eq.2 hkk
                                  clear hsk hsv hlook hcon
                                  go_wp2_with fail
                                  go_roundw
                                  case rel => exact ⟨q + 1, by omega, by go_num, _, rfl⟩
                                  case measure => simp [intOf]; omega
                                · have ht : (sk.toList == key.toList) = false := by rw [ByteArray.toList_eq, ByteArray.toList_eq, hsk]; exact beq_eq_false_iff_ne.2 hkk
                                  clear hsk hsv
                                  cases hl : lastTo ks q i0
                                  · rw [hl] at hcon
                                    clear hl hlook hkk
                                    go_wp2_with fail
                                    refine hcon.mono ?_
                                    rintro e w' ⟨rfl, m4, rfl⟩
                                    go_wp2_with fail
                                    go_roundw
                                    case rel => exact ⟨q + 1, by omega, by go_num, _, rfl⟩
                                    case measure => simp [intOf]; omega
                                  · have hlk := hlook hkk hl
                                    rw [hl] at hcon
                                    clear hl hlook hkk
                                    go_wp2_with fail
                                    refine hcon.mono ?_
                                    rintro e w' ⟨rfl, m4, rfl⟩
                                    go_wp2_with fail
                                    go_roundw
                                    case rel => exact ⟨q + 1, by omega, by go_num, _, rfl⟩
                                    case measure => simp [intOf]; omega
                              · go_wp2_with fail
                                go_ret
                                exact ⟨rfl, below_drewN HB3.out m3⟩
              · have hnb : ((k : Int) != (m : Int)) = true := by simp; omega
                go_wp2_with fail
                go_ret
                exact ⟨rfl, Below.refl _ _⟩
end Go.Proofs.Qxb6618127a
