/-
  THE WALKS of what the two laws over (Query).Take call: zzIsLast (14), Take (15), zzBuildQuery (13), zzIsFirst (17), zzLastValue (18): each computes a plain function of TkPlain.
-/
import Derived.Test.Qxb6618127aTkBase
namespace Go.Proofs.Qxb6618127a
open Go.RowKit Go.WideMaps Go.Maps

theorem same_of {a b : ByteArray} (h : (a.toList == b.toList) = true) : a.data.toList = b.data.toList := by
  rw [ByteArray.toList_eq, ByteArray.toList_eq] at h
  simpa using h
theorem apart_of {a b : ByteArray} (h : (a.toList == b.toList) = false) : a.data.toList ≠ b.data.toList := by
  rw [ByteArray.toList_eq, ByteArray.toList_eq] at h
  simpa using h

theorem ownsMap_drewN {P : Program} {k : TypeId} {R : Value → Option (DataW Unit × List MemPlace)} {w : World} {b n : Nat} {M : DataW Unit} (h : w.ownsMap P k R b n M) : ∀ m, (w.drewN m).ownsMap P k R b n M := by
  intro m
  obtain ⟨es, clock, hb, r⟩ := h
  exact ⟨es, clock, by simpa using hb, r⟩

theorem keyed9 : Keyed Try.prog 9 := string_keyed Try.underlying9
theorem zero9 (w : World) : (zeroValue 9).run Try.prog w = .ok (.string ByteArray.empty) w := by kernel_rfl
theorem key_of {s : ByteArray} (h : s.size ≤ 1048576) : keyOf Try.prog 9 (.string s) = some (.string s.data.toList) := keyOf_string_mk Try.underlying9 (by unfold maxLen; omega)
theorem elem_of {s : ByteArray} (h : s.size ≤ 1048576) : plainElem (H := Unit) Try.prog 9 (.string s) = some (.lit (.string s.data.toList), []) := plainElem_string Try.underlying9 (by unfold maxLen; omega)

/-- The map in block b reads as M (texts to texts). -/
abbrev Holds (w : World) (b n : Nat) (M : DataW Unit) : Prop := w.ownsMap Try.prog 9 (plainElem Try.prog 9) b n M

/-! ### zzIsLast -/
theorem isLast_yes (ks : List ByteArray) (i k n : Nat) (hk : ¬ k < n) (hk' : k ≤ n) (hl : Hid (lastTo ks i k = true)) : lastTo ks i n = true := by
  obtain rfl : k = n := by omega
  exact hl.out
theorem isLast_go {ks : List ByteArray} {i k : Nat} {sk si : ByteArray} (hl : Hid (lastTo ks i k = true)) (h1 : Hid (sk = ks.getD k ByteArray.empty)) (h2 : Hid (si = ks.getD i ByteArray.empty)) (h : (sk.toList == si.toList) = false) : Hid (lastTo ks i (k + 1) = true) := by
  have := apart_of h
  rw [h1.out, h2.out] at this
  show lastTo ks i (k + 1) = true
  have e1 : (bs ks k == bs ks i) = false := beq_eq_false_iff_ne.2 this
  rw [lastTo_succ, hl.out, e1]
  simp
theorem isLast_no {ks : List ByteArray} {i k n : Nat} {sk si : ByteArray} (hi : i + 1 ≤ k) (hk : k < n) (h1 : Hid (sk = ks.getD k ByteArray.empty)) (h2 : Hid (si = ks.getD i ByteArray.empty)) (h : (sk.toList == si.toList) = true) : lastTo ks i n = false := by
  have := same_of h
  rw [h1.out, h2.out] at this
  exact lastTo_false hi hk this

set_option maxHeartbeats 400000 in
theorem isLast_any (a : Option Addr) (n c b o i : Nat) (ks : List ByteArray) (w : World) (hn : n ≤ 4096) (hi : i < n) (hk : Strs w a n c b o ks) :
    Calls Try.prog 14 #[.slice a n c, .int .i64 i] w fun e w' => e = .returned (.bool (lastTo ks i n)) ∧ ∃ m, w' = w.drewN m := by
  obtain ⟨ix, hc⟩ := hk
  go_enter Try.func14, Try.ntmps14
  go_wp2
  go_loopw [5] (fun j wr => ∃ k : Nat, i + 1 ≤ k ∧ k ≤ n ∧ j = .int .i64 k ∧ Hid (lastTo ks i k = true) ∧ ∃ m, wr = w.drewN m) (fun j _ => n - (intOf j).toNat)
  case atStart => exact ⟨i + 1, by omega, by omega, by go_num, lastTo_start ks i, 0, rfl⟩
  case round =>
    obtain ⟨k, h1, h2, rfl, hl, m, rfl⟩ := hrel
    by_cases hlt : k < n
    · have hck := hc k hlt
      have hci := hc i hi
      have ixk := fun w' => ix k w' hlt
      have ixi := fun w' => ix i w' hi
      obtain ⟨sk, hsk⟩ : ∃ s, s = ks.getD k ByteArray.empty := ⟨_, rfl⟩
      obtain ⟨si, hsi⟩ : ∃ s, s = ks.getD i ByteArray.empty := ⟨_, rfl⟩
      rw [← hsk] at hck
      rw [← hsi] at hci
      have HSK : Hid (sk = ks.getD k ByteArray.empty) := hsk
      have HSI : Hid (si = ks.getD i ByteArray.empty) := hsi
      clear hsk hsi hc ix
      go_wp2
      go_quiet (fail)
      go_wp2
      · go_ret
        exact ⟨by rw [isLast_no h1 hlt HSK HSI (by assumption)]; rfl, _, World.drewN_drewN _ _ _⟩
      · go_roundw
        case rel => exact ⟨k + 1, by omega, by omega, by go_num, isLast_go hl HSK HSI (by assumption), _, rfl⟩
        case measure => simp [intOf]; omega
    · go_wp2
      go_ret
      exact ⟨by rw [isLast_yes ks i k n hlt h2 hl]; rfl, m, rfl⟩

/-! ### Take -/
theorem elem_inv {v : Value} {z : DataW Unit} {ps : List MemPlace} (h : plainElem (H := Unit) Try.prog 9 v = some (z, ps)) : ∃ s : ByteArray, v = .string s ∧ z = .lit (.string s.data.toList) ∧ s.size ≤ maxLen := by
  obtain ⟨s, h1, h2, h3⟩ := plainElem_string_inv Try.underlying9 h
  exact ⟨s, h1, congrArg Prod.fst h2, h3⟩

set_option maxHeartbeats 400000 in
theorem take_own (b n : Nat) (M : DataW Unit) (key : ByteArray) (w : World) (hown : Holds w b n M) (hz : key.size ≤ 1048576) :
    Calls Try.prog 15 #[.map (some b), .string key] w fun e w' => ∃ v : ByteArray, e = .returned (.tuple #[.string v, .bool (Maps.has M (.string key.data.toList))]) ∧
      M.atKey (.string key.data.toList) (.lit (.string [])) = .lit (.string v.data.toList) ∧ Holds w' b n (M.del (.string key.data.toList)) ∧ w.mapTurned w' b := by
  obtain ⟨v, ps, hlk, hat⟩ := hown.look_ok keyed9 Try.underlying36 (zero9 _) (elem_of (s := ByteArray.empty) (by decide)) (key_of hz)
  obtain ⟨s, rfl, hs, _⟩ := elem_inv hat
  have hk := key_of hz
  clear hat
  go_enter Try.func15, Try.ntmps15
  go_wp2_with (first | (at_delete; refine wpList_delete_own _ rfl _ _ 36 9 rfl 9 keyed9 Try.underlying36 _ b n M rfl hown _ _ rfl hk ?_; intro w1 hown1 hturn1))
  go_ret2
  exact ⟨s, rfl, hs, hown1, hturn1⟩

set_option maxHeartbeats 400000 in
theorem take_nil (key : ByteArray) (w : World) (hz : key.size ≤ 1048576) :
    Calls Try.prog 15 #[.map none, .string key] w fun e w' => e = .returned (.tuple #[.string ByteArray.empty, .bool false]) ∧ w' = w := by
  have hlk := Maps.look_nil (w := w) true keyed9 Try.underlying36 (zero9 _) (key_of hz)
  have hdl := Maps.drop_nil (w := w) keyed9 Try.underlying36 (key_of hz)
  go_enter Try.func15, Try.ntmps15
  go_wp2
  go_ret2
  exact ⟨rfl, rfl⟩

/-! ### zzBuildQuery -/
theorem make36 (n : Int) (w : World) : (Instr.makeMap 36 (some (.int .i64 n))).run Try.prog w = .ok (.map (some w.heap.size)) (w.alloc (.map #[] 0)) := by
  simp [Instr.makeMap, run_underlying Try.underlying36, asInt, asIntOf, Result.andThen]

set_option maxHeartbeats 400000 in
theorem build_nil (a1 a2 : Option Addr) (c1 n2 c2 : Nat) (w : World) :
    Calls Try.prog 13 #[.slice a1 0 c1, .slice a2 n2 c2] w fun e w' => e = .returned (.map none) ∧ w' = w := by
  go_enter Try.func13, Try.ntmps13
  go_wp2
  go_ret
  exact ⟨rfl, rfl⟩

set_option maxHeartbeats 400000 in
theorem build_any (a1 a2 : Option Addr) (n c1 b1 o1 c2 b2 o2 : Nat) (ks vs : List ByteArray) (w : World) (hn : n ≤ 4096) (h0 : 0 < n) (hk : Strs w a1 n c1 b1 o1 ks) (hv : Strs w a2 n c2 b2 o2 vs)
    (h1 : b1 < w.heap.size) (h2 : b2 < w.heap.size) (hsk : Short ks n) (hsv : Short vs n) :
    Calls Try.prog 13 #[.slice a1 n c1, .slice a2 n c2] w fun e w' => e = .returned (.map (some w.heap.size)) ∧ Holds w' w.heap.size n (D ks vs n) ∧ Below w.heap.size w w' := by
  obtain ⟨ix1, hc1⟩ := hk
  obtain ⟨ix2, hc2⟩ := hv
  have hmm := make36
  have hn0 : ((n : Int) == 0) = false := by simp; omega
  go_enter Try.func13, Try.ntmps13
  go_wp2
  go_loopw [6] (fun i wr => ∃ k : Nat, k ≤ n ∧ i = .int .i64 k ∧ Holds wr w.heap.size k (D ks vs k) ∧ Below w.heap.size w wr) (fun i _ => n - (intOf i).toNat)
  case atStart => exact ⟨0, Nat.zero_le _, rfl, World.ownsMap_made _ _ _ _, (Below.refl _ _).alloc (Nat.le_refl _) _⟩
  case round =>
    obtain ⟨k, hk, rfl, hown, hnx⟩ := hrel
    by_cases hlt : k < n
    · have hck := (hnx.cell (p := ⟨b1, o1 + k, none⟩) h1).trans (hc1 k hlt)
      have hcv := (hnx.cell (p := ⟨b2, o2 + k, none⟩) h2).trans (hc2 k hlt)
      have ixk := fun w' => ix1 k w' hlt
      have ixv := fun w' => ix2 k w' hlt
      have hzk := hsk k hlt
      have hzv := hsv k hlt
      obtain ⟨sk, hsk'⟩ : ∃ s, s = ks.getD k ByteArray.empty := ⟨_, rfl⟩
      obtain ⟨sv, hsv'⟩ : ∃ s, s = vs.getD k ByteArray.empty := ⟨_, rfl⟩
      rw [← hsk'] at hck hzk
      rw [← hsv'] at hcv hzv
      obtain ⟨w1, hrun, hown1, hgrow⟩ := (World.ownsMap.drew hown).update keyed9 Try.underlying36 (by unfold maxLen; omega) (key_of hzk) (elem_of hzv)
      have R1 : Hid (Holds w1 w.heap.size (k + 1) (D ks vs (k + 1))) := by
        rw [D, bs, bs, ← hsk', ← hsv']; exact hown1
      have R2 : Hid (Below w.heap.size w w1) := hnx.drew.grown hgrow hnx.size (fun j hj => by cases hj; exact Nat.le_refl _)
      clear hsk' hsv' hc1 hc2 ix1 ix2 hown1 hgrow hown hnx
      go_wp2
      go_region
      go_wp2
      go_roundw
      case rel => exact ⟨k + 1, by omega, by go_num, R1.out, R2.out⟩
      case measure => simp [intOf]; omega
    · obtain rfl : k = n := by omega
      go_wp2
      go_ret
      exact ⟨rfl, hown, hnx⟩

end Go.Proofs.Qxb6618127a
