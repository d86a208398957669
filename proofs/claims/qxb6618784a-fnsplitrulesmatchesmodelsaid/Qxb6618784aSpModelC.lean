/-
  FnSplitRulesMatchesModel (3), walked: its last part (the masks).
-/
import Derived.Test.Qxb6618784aSpJoinC
import Derived.Test.Qxb6618784aSpNext
namespace Go.Proofs.Qxb6618784a.Sp
open Go.RowKit Go.WideMaps Go.Maps

theorem hideM {p : Prop} (h : p) : Hid p := h
noncomputable def rest3 (k : Nat) : Code := tl k (Try.f3.body.getD .ret)

set_option maxHeartbeats 4000000 in
set_option maxRecDepth 100000 in
/-- From region 23 on: the masks, word by word. -/
theorem modelC (a : Option Addr) (n c b o : Nat) (r : Nat → Rule) (w w0 : World) (v4 : Nat) (a1 : Option Addr) (c1 g1 : Nat) (a2 : Option Addr) (c2 g2 : Nat) (W : List Mk) (P : List Addr) (D : Nat)
    (u1 u2 u3 u5 u6 u7 u8 u10 u11 u12 u13 u14 u15 u16 u17 u18 u19 u20 u21 u22 u23 u24 u25 u26 u27 u28 u29 u30 u31 u32 u33 u34 u35 u36 u37 u38 u39 u40 u41 u42 u43 u44 u45 u46 u47 u48 u49 u50 u51 u52 u53 u54 u55 u56 u57 u58 u59 u60 u61 u62 u63 u64 u65 u66 u67 u68 u69 u70 u71 u72 u73 u74 u75 u76 u77 u78 u79 u80 u81 u82 u83 u84 u85 u86 u87 u88 u89 u90 u91 u92 u93 u94 u95 u96 u97 u98 u99 u100 u101 u102 u103 u104 u105 u106 u107 u108 u109 u110 u111 u112 u113 u114 u115 u116 u117 u118 u119 u120 u121 u122 u123 u124 u125 u126 u127 u128 u129 u130 u131 u132 u133 u134 u135 u136 u137 u138 u139 u140 u141 u142 u143 u144 u145 u146 u147 u148 u149 u150 u151 u152 u153 u154 u155 u156 u157 u158 u159 u160 u161 u162 u163 u164 u165 u166 u167 u168 u169 : Value)
    (hn : n ≤ 4096) (HB : Hid (Below w.heap.size w w0)) (H4 : Hid (Held w0 v4 a1 c1 g1 a2 c2 g2 W P D)) (HRR : Hid (Rules w0 a n c b o r)) (HRK : Hid (∀ k, k < n → 0 ≤ (r k).rank)) (HW : Hid (W = msT r n)) (hWn : W.length ≤ n) :
    Code.wp Try.prog (rest3 12) (bodyPost Try.prog Try.f3 (Fine w)) { tmps := #[.slice a n c, u1, u2, u3, .pointer (some ⟨v4, 0, none⟩), u5, u6, u7, u8, .int .i64 W.length, u10, u11, u12, u13, u14, u15, u16, u17, u18, u19, u20, u21, u22, u23, u24, u25, u26, u27, u28, u29, u30, u31, u32, u33, u34, u35, u36, u37, u38, u39, u40, u41, u42, u43, u44, u45, u46, u47, u48, u49, u50, u51, u52, u53, u54, u55, u56, u57, u58, u59, u60, u61, u62, u63, u64, u65, u66, u67, u68, u69, u70, u71, u72, u73, u74, u75, u76, u77, u78, u79, u80, u81, u82, u83, u84, u85, u86, u87, u88, u89, u90, u91, u92, u93, u94, u95, u96, u97, u98, u99, u100, u101, u102, u103, u104, u105, u106, u107, u108, u109, u110, u111, u112, u113, u114, u115, u116, u117, u118, u119, u120, u121, u122, u123, u124, u125, u126, u127, u128, u129, u130, u131, u132, u133, u134, u135, u136, u137, u138, u139, u140, u141, u142, u143, u144, u145, u146, u147, u148, u149, u150, u151, u152, u153, u154, u155, u156, u157, u158, u159, u160, u161, u162, u163, u164, u165, u166, u167, u168, u169], defers := [] } w0 := by
  conv =>
    arg 2
    unfold rest3
    dsimp only [Try.f3, Option.getD, tl]
  go_wp2_with fail
  go_loopw [10, 11, 12] (fun vm vp vs wr => ∃ m : Nat, m ≤ W.length ∧ vm = .int .i64 m ∧ vp = .int .i64 (prevOf W m) ∧ vs = .int .i64 m ∧ Below w0.heap.size w0 wr) (fun vm _ _ _ => W.length + 1 - (intOf vm).toNat)
  case atStart => exact ⟨0, Nat.zero_le _, rfl, rfl, rfl, Below.refl _ _⟩
  case round =>
    obtain ⟨m, hm, rfl, rfl, rfl, hbm⟩ := hrel
    have HBM : Hid (Below w0.heap.size w0 wr) := hbm
    clear hbm
    have hmn : m ≤ n := by omega
    have q1 := next_any a n c b o (prevOf W m) r wr hn (HRR.out.below HBM.out) HRK.out
    obtain ⟨pv, HPV⟩ : ∃ p, Hid (p = prevOf W m) := ⟨_, rfl⟩
    rw [← HPV.out] at q1 ⊢
    go_wp2_with fail
    refine q1.mono ?_
    clear q1
    rintro e w' ⟨⟨v, f, rfl, hx⟩, hw⟩
    rw [hw]
    clear hw w'
    have HX : Hid (NextIs r n (prevOf (msT r n) m) v f) := by rw [← HW.out, ← HPV.out]; exact hx
    clear hx
    cases f
    · have hmW : m = W.length := by
        have := next_none (by rw [← HW.out]; exact hm) HX.out
        rw [← HW.out] at this
        exact this
      subst hmW
      go_wp2_with fail
      go_ret
      exact ⟨by simp, HB.out.trans (HBM.out.mono HB.out.size)⟩
    · obtain ⟨hmW, hv⟩ : m < W.length ∧ v = (N W m).1 := by
        have := next_some (by rw [← HW.out]; exact hm) HX.out
        rw [← HW.out] at this
        exact this
      have HNW : Hid (N W m = (v, pT r v n, dT r v n)) := by
        have := mask_at r n m (by rw [← HW.out]; exact hmW)
        rw [← HW.out, ← hv] at this
        exact this
      have HNP : Hid (((v : Nat) : Int) = prevOf W (m + 1)) := by
        rw [hv]
        unfold prevOf
        rw [if_neg (by omega)]
        rfl
      have HV : Hid (v = (N W m).1) := hv
      clear hv
      have ix := HRR.out.idx
      have x1 := (HRR.out.below HBM.out).c1
      have x2 := (HRR.out.below HBM.out).c2
      have x5 := (HRR.out.below HBM.out).c5
      have HK : Hid (∀ k, k < n → 0 ≤ (r k).rank ∧ (r k).rank ≤ 2147483647) := fun k hk => ⟨HRK.out k hk, HRR.out.rk k hk⟩
      go_wp2_with fail
      obtain ⟨wm, rfl⟩ : ∃ u, u = wr := ⟨wr, rfl⟩
      go_loop [15, 16, 17] (fun vp vd vi => ∃ i : Nat, i ≤ n ∧ vp = .int .u64 (pT r v i) ∧ vd = .int .u64 (dT r v i) ∧ vi = .int .i64 i) (fun _ _ vi => n - (intOf vi).toNat)
      case atStart => exact ⟨0, Nat.zero_le _, rfl, rfl, rfl⟩
      case round =>
        obtain ⟨i, hi, rfl, rfl, rfl⟩ := hrel
        by_cases hlt : i < n
        · have hix := fun w' => ix i w' hlt
          have y1 := x1 i hlt
          have y2 := x2 i hlt
          have y5 := x5 i hlt
          have hk := HK.out i hlt
          have HP : Hid (pT r v (i + 1) = if (r i).every = true ∧ wordOf (r i) = v ∧ (r i).deny = false then pT r v i ||| bitOf (r i) else pT r v i) := (rfl : pT r v (i + 1) = _)
          have HD : Hid (dT r v (i + 1) = if (r i).every = true ∧ wordOf (r i) = v ∧ (r i).deny = true then dT r v i ||| bitOf (r i) else dT r v i) := (rfl : dT r v (i + 1) = _)
          have hp := pT_lt r v i
          have hd := dT_lt r v i
          obtain ⟨rv, hrv⟩ : ∃ x : Nat, (r i).rank = (x : Int) := ⟨(r i).rank.toNat, by omega⟩
          rw [hrv] at y5 hk
          obtain ⟨q, HQ⟩ : ∃ q, Hid (q = wordOf (r i)) := ⟨_, rfl⟩
          have hqv : q = rv / 64 := by rw [HQ.out, wordOf, hrv]; rfl
          have hq1 : IntKind.i32.wrap ((rv : Int) / 64) = (q : Int) := by rw [IntKind.wrap_i32]; omega
          have hq2 : IntKind.i64.wrap (q : Int) = (q : Int) := by rw [IntKind.wrap_i64]; omega
          obtain ⟨t, HT⟩ : ∃ t, Hid (t = rv % 64) := ⟨_, rfl⟩
          have ht : t < 64 := by have := HT.out; omega
          have hq3 : (rv : Int).tmod 64 = (t : Int) := by rw [HT.out, Int.tmod_eq_emod_of_nonneg (by omega)]; omega
          have hq4 : IntKind.u64.wrap (t : Int) = (t : Int) := by rw [IntKind.wrap_u64]; omega
          obtain ⟨B, HBit⟩ : ∃ B, Hid (B = bitOf (r i)) := ⟨_, rfl⟩
          have hBt : B = 2 ^ t := by rw [HBit.out, bitOf, hrv, HT.out]; rfl
          have hBl : B < 18446744073709551616 := by rw [HBit.out]; exact bitOf_lt _
          have hsh : IntKind.u64.wrap (2 ^ t) = (B : Int) := by
            have h2 : ((2 ^ t : Nat) : Int) = 2 ^ t := by push_cast; rfl
            rw [IntKind.wrap_u64, ← h2, ← hBt]
            omega
          generalize pT r v i = xp at *
          generalize dT r v i = xd at *
          have hor1 := u64_or_nat xp B hp hBl
          have hor2 := u64_or_nat xd B hd hBl
          obtain ⟨dn, HDN⟩ : ∃ d, Hid (d = (r i).deny) := ⟨_, rfl⟩
          rw [← HDN.out] at y1
          clear hqv hBt ix x1 x2 x5 hrv
          cases hev : (r i).every
          · rw [hev] at y2
            have HE : Hid ((r i).every = false) := hev
            clear hev
            go_wp2_with fail
            go_round
            case rel =>
              refine ⟨i + 1, by omega, ?_, ?_, by go_num⟩
              · rw [HP.out, if_neg (by rw [HE.out]; simp)]
              · rw [HD.out, if_neg (by rw [HE.out]; simp)]
            case measure => simp [intOf]; omega
          · rw [hev] at y2
            have HE : Hid ((r i).every = true) := hev
            clear hev
            by_cases hqe : q = v
            · have hqe' : ((q : Int) == (v : Int)) = true := by simp [hqe]
              have HQV : Hid (q = v) := hqe
              clear hqe
              cases hdn : dn
              · rw [hdn] at y1
                go_wp2_with fail
                go_round
                case rel =>
                  have h3 : (r i).every = true ∧ wordOf (r i) = v ∧ (r i).deny = false := ⟨HE.out, by rw [← HQ.out]; exact HQV.out, by rw [← HDN.out]; exact hdn⟩
                  refine ⟨i + 1, by omega, ?_, ?_, by go_num⟩
                  · rw [HP.out, if_pos h3, ← HBit.out]
                  · rw [HD.out, if_neg (by rw [h3.2.2]; simp)]
                case measure => simp [intOf]; omega
              · rw [hdn] at y1
                go_wp2_with fail
                go_round
                case rel =>
                  have h3 : (r i).every = true ∧ wordOf (r i) = v ∧ (r i).deny = true := ⟨HE.out, by rw [← HQ.out]; exact HQV.out, by rw [← HDN.out]; exact hdn⟩
                  refine ⟨i + 1, by omega, ?_, ?_, by go_num⟩
                  · rw [HP.out, if_neg (by rw [h3.2.2]; simp)]
                  · rw [HD.out, if_pos h3, ← HBit.out]
                case measure => simp [intOf]; omega
            · have hqe' : ((q : Int) == (v : Int)) = false := by simp; omega
              have HQV : Hid (¬ q = v) := hqe
              clear hqe
              go_wp2_with fail
              go_round
              case rel =>
                have h3 : ¬ wordOf (r i) = v := by rw [← HQ.out]; exact HQV.out
                refine ⟨i + 1, by omega, ?_, ?_, by go_num⟩
                · rw [HP.out, if_neg (fun h => h3 h.2.1)]
                · rw [HD.out, if_neg (fun h => h3 h.2.1)]
              case measure => simp [intOf]; omega
        · obtain rfl : n = i := by omega
          clear ix x1 x2 x5
          obtain ⟨y0, y1, y2, -, -, -⟩ := cells_S (H4.out.below HBM.out).blk
          have q1 := everyAt_any a1 a2 c1 P.length c2 D g1 g2 m W P wm (H4.out.below HBM.out).spl hmW
          unfold sval at q1
          rw [HNW.out] at q1
          generalize pT r v n = xp at *
          generalize dT r v n = xd at *
          go_wp2_with fail
          refine q1.mono ?_
          clear q1 y0 y1 y2
          rintro e w9 ⟨rfl, hb9⟩
          have HB9 : Hid (Below w0.heap.size w0 w9) := HBM.out.trans (hb9.mono HBM.out.size)
          clear hb9
          go_wp2_with fail
          go_roundw
          case rel => exact ⟨m + 1, by omega, by go_num, by rw [HNP.out], by go_num, HB9.out⟩
          case measure => simp [intOf]; omega

end Go.Proofs.Qxb6618784a.Sp
