/-
  THE LAW FnTakeDrainsEveryKeyOnce (function 6), walked; ahead of it zzIsFirst (17) and zzLastValue (18).
-/
import Derived.Test.Qxb6618127aTkTake
namespace Go.Proofs.Qxb6618127a
open Go.RowKit Go.WideMaps Go.Maps

/-! ### zzIsFirst -/
theorem isFirst_go {ks : List ByteArray} {i k : Nat} {sk si : ByteArray} (hl : Hid (found ks (bs ks i) k = false)) (h1 : Hid (sk = ks.getD k ByteArray.empty)) (h2 : Hid (si = ks.getD i ByteArray.empty)) (h : (sk.toList == si.toList) = false) : Hid (found ks (bs ks i) (k + 1) = false) := by
  have := apart_of h
  rw [h1.out, h2.out] at this
  show found ks (bs ks i) (k + 1) = false
  have e1 : (bs ks k == bs ks i) = false := beq_eq_false_iff_ne.2 this
  rw [found, hl.out, e1]
  rfl
theorem isFirst_no {ks : List ByteArray} {i k : Nat} {sk si : ByteArray} (hk : k < i) (h1 : Hid (sk = ks.getD k ByteArray.empty)) (h2 : Hid (si = ks.getD i ByteArray.empty)) (h : (sk.toList == si.toList) = true) : (!found ks (bs ks i) i) = false := by
  have := same_of h
  rw [h1.out, h2.out] at this
  rw [(found_iff ks (bs ks i) i).2 ⟨k, hk, this⟩]
  rfl
theorem isFirst_yes (ks : List ByteArray) (i k : Nat) (hk : ¬ k < i) (hk' : k ≤ i) (hl : Hid (found ks (bs ks i) k = false)) : (!found ks (bs ks i) i) = true := by
  obtain rfl : k = i := by omega
  rw [hl.out]
  rfl

set_option maxHeartbeats 400000 in
theorem isFirst_any (a : Option Addr) (n c b o i : Nat) (ks : List ByteArray) (w : World) (hn : n ≤ 4096) (hi : i < n) (hk : Strs w a n c b o ks) :
    Calls Try.prog 17 #[.slice a n c, .int .i64 i] w fun e w' => e = .returned (.bool (!found ks (bs ks i) i)) ∧ ∃ m, w' = w.drewN m := by
  obtain ⟨ix, hc⟩ := hk
  go_enter Try.func17, Try.ntmps17
  go_wp2
  go_loopw [5] (fun j wr => ∃ k : Nat, k ≤ i ∧ j = .int .i64 k ∧ Hid (found ks (bs ks i) k = false) ∧ ∃ m, wr = w.drewN m) (fun j _ => i - (intOf j).toNat)
  case atStart => exact ⟨0, by omega, by go_num, rfl, 0, rfl⟩
  case round =>
    obtain ⟨k, h2, rfl, hl, m, rfl⟩ := hrel
    by_cases hlt : k < i
    · have hck := hc k (by omega)
      have hci := hc i hi
      have ixk := fun w' => ix k w' (by omega)
      have ixi := fun w' => ix i w' hi
      obtain ⟨sk, hsk⟩ : ∃ s, s = ks.getD k ByteArray.empty := ⟨_, rfl⟩
      obtain ⟨si, hsi⟩ : ∃ s, s = ks.getD i ByteArray.empty := ⟨_, rfl⟩
      rw [← hsk] at hck
      rw [← hsi] at hci
      have HSK : Hid (sk = ks.getD k ByteArray.empty) := hsk
      have HSI : Hid (si = ks.getD i ByteArray.empty) := hsi
      clear hsk hsi hc ix
      go_wp2
      go_quiet (fail)
      go_wp2
      · go_ret
        exact ⟨by rw [isFirst_no hlt HSK HSI (by assumption)]; rfl, _, World.drewN_drewN _ _ _⟩
      · go_roundw
        case rel => exact ⟨k + 1, by omega, by go_num, isFirst_go hl HSK HSI (by assumption), _, rfl⟩
        case measure => simp [intOf]; omega
    · go_wp2
      go_ret
      exact ⟨by rw [isFirst_yes ks i k hlt h2 hl]; rfl, m, rfl⟩

/-! ### zzLastValue -/
set_option maxHeartbeats 400000 in
theorem lastValue_any (a1 a2 : Option Addr) (n c1 b1 o1 c2 b2 o2 : Nat) (ks vs : List ByteArray) (key : ByteArray) (w : World) (hn : n ≤ 4096) (hk : Strs w a1 n c1 b1 o1 ks) (hv : Strs w a2 n c2 b2 o2 vs) :
    Calls Try.prog 18 #[.slice a1 n c1, .slice a2 n c2, .string key] w fun e w' => (∃ s : ByteArray, e = .returned (.string s) ∧ s.data.toList = lastV ks vs key.data.toList n) ∧ w' = w := by
  obtain ⟨ix1, hc1⟩ := hk
  obtain ⟨ix2, hc2⟩ := hv
  go_enter Try.func18, Try.ntmps18
  go_wp2
  go_loop [7, 8] (fun v i => ∃ (j : Nat) (s : ByteArray), j ≤ n ∧ i = .int .i64 j ∧ v = .string s ∧ Hid (s.data.toList = lastV ks vs key.data.toList j)) (fun _ i => n - (intOf i).toNat)
  case atStart => exact ⟨0, _, Nat.zero_le _, rfl, rfl, rfl⟩
  case round =>
    obtain ⟨j, s, hj, rfl, rfl, HS⟩ := hrel
    by_cases hlt : j < n
    · have hcx := hc1 j hlt
      have hcy := hc2 j hlt
      have hix := fun w' => ix1 j w' hlt
      have hiy := fun w' => ix2 j w' hlt
      obtain ⟨sk, hsk⟩ : ∃ s, s = ks.getD j ByteArray.empty := ⟨_, rfl⟩
      obtain ⟨sv, hsv⟩ : ∃ s, s = vs.getD j ByteArray.empty := ⟨_, rfl⟩
      rw [← hsk] at hcx
      rw [← hsv] at hcy
      have HSK : Hid (sk = ks.getD j ByteArray.empty) := hsk
      have HSV : Hid (sv = vs.getD j ByteArray.empty) := hsv
      clear hsk hsv hc1 hc2 ix1 ix2
      go_wp2
      · go_round
        case rel => exact ⟨j + 1, sv, by omega, by go_num, rfl, last_hit HSK HSV (by assumption)⟩
        case measure => simp [intOf]; omega
      · go_round
        case rel => exact ⟨j + 1, s, by omega, by go_num, rfl, last_miss HSK HS (by assumption)⟩
        case measure => simp [intOf]; omega
    · obtain rfl : j = n := by omega
      go_wp2
      go_ret
      exact ⟨⟨s, rfl, HS.out⟩, rfl⟩

/-! ### Take, in turn -/
def strOf (l : List UInt8) : ByteArray := ⟨l.toArray⟩
theorem strOf_eq (l : List UInt8) (s : ByteArray) (h : s.data.toList = l) : s = strOf l := WideShapes.bytes_inj (by rw [h]; simp [strOf])

theorem lastValue_is (a1 a2 : Option Addr) (n c1 b1 o1 c2 b2 o2 : Nat) (ks vs : List ByteArray) (key : ByteArray) (w : World) (hn : n ≤ 4096) (hk : Strs w a1 n c1 b1 o1 ks) (hv : Strs w a2 n c2 b2 o2 vs) :
    Calls Try.prog 18 #[.slice a1 n c1, .slice a2 n c2, .string key] w fun e w' => e = .returned (.string (strOf (lastV ks vs key.data.toList n))) ∧ w' = w :=
  (lastValue_any a1 a2 n c1 b1 o1 c2 b2 o2 ks vs key w hn hk hv).mono fun e w' ⟨⟨s, he, hs⟩, hw⟩ => ⟨by rw [he, strOf_eq _ s hs], hw⟩

theorem take_turn (B n k : Nat) (ks vs : List ByteArray) (sk : ByteArray) (w : World) (hown : Holds w B n (E ks vs n k)) (hz : sk.size ≤ 1048576) (hs : sk = ks.getD k ByteArray.empty) (hk : k < n) :
    Calls Try.prog 15 #[.map (some B), .string sk] w fun e w' => e = .returned (.tuple #[.string (if found ks (bs ks k) k then ByteArray.empty else strOf (lastV ks vs (bs ks k) n)), .bool (!found ks (bs ks k) k)]) ∧ Holds w' B n (E ks vs n (k + 1)) ∧ w.mapTurned w' B := by
  refine (take_own B n _ sk w hown hz).mono ?_
  rintro e w' ⟨v, rfl, hat, hown1, hturn⟩
  have e1 : sk.data.toList = bs ks k := by rw [hs, bs]
  rw [e1] at hat hown1 ⊢
  have hf : found ks (bs ks k) n = true := (found_iff ks (bs ks k) n).2 ⟨k, hk, rfl⟩
  rw [has_E, hf, Bool.true_and]
  refine ⟨?_, hown1, hturn⟩
  have hv : v = if found ks (bs ks k) k then ByteArray.empty else strOf (lastV ks vs (bs ks k) n) := by
    cases hfk : found ks (bs ks k) k
    · rw [at_E ks vs n _ k hfk] at hat
      exact strOf_eq _ v (by injection hat with h; injection h with h; exact h.symm)
    · rw [at_E_gone ks vs n k _ hfk] at hat
      exact WideShapes.bytes_inj (by injection hat with h; injection h with h; exact h.symm)
  rw [hv]

set_option maxHeartbeats 1000000 in
set_option maxRecDepth 100000 in
theorem drains_any (a1 a2 : Option Addr) (n1 c1 b1 o1 n2 c2 b2 o2 : Nat) (ks vs : List ByteArray) (w : World) (hk : Strs w a1 n1 c1 b1 o1 ks) (hv : Strs w a2 n2 c2 b2 o2 vs)
    (h1 : 0 < n1 → b1 < w.heap.size) (h2 : 0 < n2 → b2 < w.heap.size) :
    Calls Try.prog 6 #[.slice a1 n1 c1, .slice a2 n2 c2] w fun e w' => e = .returned (.bool true) ∧ Below w.heap.size w w' := by
  obtain ⟨ix1, hc1⟩ := id hk
  obtain ⟨ix2, hc2⟩ := id hv
  have HK : Hid (Strs w a1 n1 c1 b1 o1 ks) := hk
  have HV : Hid (Strs w a2 n2 c2 b2 o2 vs) := hv
  clear hk hv
  go_enter Try.func6, Try.ntmps6
  go_wp2_with fail
  refine (bytes16_any a1 a2 n1 c1 b1 o1 n2 c2 b2 o2 ks vs w HK.out HV.out).mono ?_
  rintro e w' ⟨⟨r, rfl, hr⟩, hw⟩
  rw [hw]
  clear hw w'
  cases r
  · go_wp2_with fail
    go_ret
    exact ⟨rfl, Below.refl _ _⟩
  · obtain ⟨hs1, hs2, _⟩ := hr rfl
    clear hr
    go_wp2_with fail
    · go_ret
      exact ⟨rfl, Below.refl _ _⟩
    · go_ret
      exact ⟨rfl, Below.refl _ _⟩
    · go_loop [5, 6] (fun t i => ∃ (k : Nat) (z : Int), k ≤ n1 ∧ i = .int .i64 k ∧ t = .int .i64 z ∧ 0 ≤ z ∧ z ≤ 1048576) (fun _ i => n1 - (intOf i).toNat)
      case atStart => exact ⟨0, _, Nat.zero_le _, rfl, rfl, by omega, by omega⟩
      case round =>
        obtain ⟨k, z, hk1, rfl, rfl, hz0, hz1⟩ := hrel
        by_cases hlt : k < n1
        · have hcx := hc1 k hlt
          have hix := fun w' => ix1 k w' hlt
          have hsx := hs1 k hlt
          generalize ks.getD k ByteArray.empty = s at hcx hsx
          clear hc1 ix1 ix2 hc2
          go_wp2_with fail
          · go_ret
            exact ⟨rfl, Below.refl _ _⟩
          · go_round
            case rel => exact ⟨k + 1, _, by omega, by go_num, rfl, by omega, by omega⟩
            case measure => simp [intOf]; omega
        · obtain rfl : k = n1 := by omega
          go_wp2_with fail
          go_loop [5, 7] (fun t i => ∃ (k : Nat) (z : Int), k ≤ n2 ∧ i = .int .i64 k ∧ t = .int .i64 z ∧ 0 ≤ z ∧ z ≤ 1048576) (fun _ i => n2 - (intOf i).toNat)
          case atStart => exact ⟨0, _, Nat.zero_le _, rfl, rfl, by omega, by omega⟩
          case round =>
            obtain ⟨m, z2, g1, rfl, rfl, gz0, gz1⟩ := hrel
            by_cases hlt2 : m < n2
            · have hcx := hc2 m hlt2
              have hix := fun w' => ix2 m w' hlt2
              have hsx := hs2 m hlt2
              generalize vs.getD m ByteArray.empty = s at hcx hsx
              clear hc1 ix1 ix2 hc2
              go_wp2_with fail
              · go_ret
                exact ⟨rfl, Below.refl _ _⟩
              · go_round
                case rel => exact ⟨m + 1, _, by omega, by go_num, rfl, by omega, by omega⟩
                case measure => simp [intOf]; omega
            · obtain rfl : m = n2 := by omega
              by_cases hne : k = m
              · subst hne
                clear hlt hlt2 g1 hk1 hc1 hc2
                by_cases h0 : k = 0
                · subst h0
                  clear ix1 ix2
                  go_wp2_with fail
                  refine (build_nil _ _ _ _ _ _).mono ?_
                  rintro e w' ⟨rfl, hw⟩
                  rw [hw]
                  clear hw w'
                  have hln := fun ty => Maps.len_nil (w := w) Try.underlying36 ty
                  go_wp2_with fail
                  refine wp_loop_rounds 1 ?_
                  rw [rounds_succ]
                  go_wp2_with fail
                  go_ret
                  exact ⟨rfl, Below.refl _ _⟩
                · have hb1 : b1 < w.heap.size := h1 (by omega)
                  have hb2 : b2 < w.heap.size := h2 (by omega)
                  go_wp2_with fail
                  refine (build_any a1 a2 k c1 b1 o1 c2 b2 o2 ks vs w (by omega) (by omega) HK.out HV.out hb1 hb2 hs1 hs2).mono ?_
                  rintro e w1 ⟨rfl, hown, hbel⟩
                  go_wp2_with fail
                  go_loopw [9] (fun i wr => ∃ q : Nat, q ≤ k ∧ i = .int .i64 q ∧ Holds wr w.heap.size k (E ks vs k q) ∧ Below w.heap.size w wr) (fun i _ => k - (intOf i).toNat)
                  case atStart => exact ⟨0, Nat.zero_le _, rfl, hown, hbel⟩
                  case round =>
                    obtain ⟨q, hq, rfl, hown, hbel⟩ := hrel
                    by_cases hlt : q < k
                    · obtain ⟨sk, hsk⟩ : ∃ s, s = ks.getD q ByteArray.empty := ⟨_, rfl⟩
                      have hcx := (hbel.cell (p := ⟨b1, o1 + q, none⟩) hb1).trans (HK.out.cell q hlt)
                      rw [← hsk] at hcx
                      have hix := fun w' => ix1 q w' hlt
                      have hsx := hs1 q hlt
                      rw [← hsk] at hsx
                      have t1 := take_turn w.heap.size k q ks vs sk wr hown hsx hsk hlt
                      have ebs : sk.data.toList = bs ks q := by rw [hsk, bs]
                      have HS : Hid (sk.data.toList = bs ks q) := ebs
                      have HB : Hid (Below w.heap.size w wr) := hbel
                      clear hsk ebs hbel hown ix1 ix2
                      cases hf : found ks (bs ks q) q
                      · rw [hf] at t1
                        simp only [Bool.false_eq_true, if_false, Bool.not_false] at t1
                        obtain ⟨lv, hlv⟩ : ∃ lv, strOf (lastV ks vs (bs ks q) k) = lv := ⟨_, rfl⟩
                        rw [hlv] at t1
                        have HL : Hid (strOf (lastV ks vs (bs ks q) k) = lv) := hlv
                        have HF : Hid (found ks (bs ks q) q = false) := hf
                        clear hf hlv
                        go_wp2_with fail
                        refine t1.mono ?_
                        clear t1
                        rintro e w2 ⟨rfl, hown2, hturn⟩
                        have hb := HB.out.grown hturn.grown HB.out.size (fun x hx => by cases hx; exact Nat.le_refl _)
                        have hcx2 := (hb.cell (p := ⟨b1, o1 + q, none⟩) hb1).trans (HK.out.cell q hlt)
                        have hcx2' : w2.cell? ⟨b1, o1 + q, none⟩ = some (.string sk) := by rw [hcx2, strOf_eq _ sk HS.out, strOf_eq (bs ks q) (ks.getD q ByteArray.empty) rfl]
                        have t2 := isFirst_any a1 k c1 b1 o1 q ks w2 (by omega) hlt (HK.out.below hb1 hb)
                        rw [HF.out, Bool.not_false] at t2
                        have t3 := fun mm => lastValue_is a1 a2 k c1 b1 o1 c2 b2 o2 ks vs sk (w2.drewN mm) (by omega) ((HK.out.below hb1 hb).drewN mm) ((HV.out.below hb2 hb).drewN mm)
                        rw [HS.out, HL.out] at t3
                        have HB2 : Hid (Below w.heap.size w w2) := hb
                        have HO2 : Hid (Holds w2 w.heap.size k (E ks vs k (q + 1))) := hown2
                        clear hb hown2 hturn hcx2 hcx
                        go_wp2_with fail
                        refine t2.mono ?_
                        clear t2
                        rintro e w3 ⟨rfl, m3, rfl⟩
                        go_wp2_with fail
                        refine (t3 _).mono ?_
                        clear t3
                        rintro e w4 ⟨rfl, hw4⟩
                        rw [hw4]
                        clear hw4 w4
                        go_wp2_with fail
                        go_roundw
                        case rel => exact ⟨q + 1, by omega, by go_num, ownsMap_drewN HO2.out _, below_drewN HB2.out _⟩
                        case measure => simp [intOf]; omega
                      · rw [hf] at t1
                        simp only [if_true, Bool.not_true] at t1
                        have HF : Hid (found ks (bs ks q) q = true) := hf
                        clear hf
                        go_wp2_with fail
                        refine t1.mono ?_
                        clear t1
                        rintro e w2 ⟨rfl, hown2, hturn⟩
                        have hb := HB.out.grown hturn.grown HB.out.size (fun x hx => by cases hx; exact Nat.le_refl _)
                        have t2 := isFirst_any a1 k c1 b1 o1 q ks w2 (by omega) hlt (HK.out.below hb1 hb)
                        rw [HF.out, Bool.not_true] at t2
                        have HB2 : Hid (Below w.heap.size w w2) := hb
                        have HO2 : Hid (Holds w2 w.heap.size k (E ks vs k (q + 1))) := hown2
                        clear hb hown2 hturn hcx
                        go_wp2_with fail
                        refine t2.mono ?_
                        clear t2
                        rintro e w3 ⟨rfl, m3, rfl⟩
                        go_wp2_with fail
                        go_roundw
                        case rel => exact ⟨q + 1, by omega, by go_num, ownsMap_drewN HO2.out _, below_drewN HB2.out _⟩
                        case measure => simp [intOf]; omega
                    · obtain rfl : q = k := by omega
                      have hln := fun ty => World.ownsMap.len hown Try.underlying36 ty
                      rw [size_E] at hln
                      clear hown
                      go_wp2_with fail
                      go_ret
                      exact ⟨rfl, hbel⟩
              · have hnb : ((k : Int) != (m : Int)) = true := by simp; omega
                go_wp2_with fail
                go_ret
                exact ⟨rfl, Below.refl _ _⟩

end Go.Proofs.Qxb6618127a
