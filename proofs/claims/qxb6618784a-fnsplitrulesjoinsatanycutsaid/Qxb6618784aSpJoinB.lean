/-
  FnSplitRulesJoinsAtAnyCut (4), walked: its middle part.
-/
import Derived.Test.Qxb6618784aSpJoinC
namespace Go.Proofs.Qxb6618784a.Sp
open Go.RowKit Go.WideMaps Go.Maps

theorem hide {p : Prop} (h : p) : Hid p := h

set_option maxHeartbeats 4000000 in
set_option maxRecDepth 100000 in
/-- From region 13 on. -/
theorem joinB (a : Option Addr) (n c b o : Nat) (r : Nat → Rule) (w w8 : World) (v6 v7 v8 : Nat) (a1 : Option Addr) (c1 g1 : Nat) (a2 : Option Addr) (c2 g2 : Nat) (W : List Mk) (P : List Addr) (D : Nat) (b1 : Option Addr) (d1 h1 : Nat) (b2 : Option Addr) (d2 h2 : Nat) (L : List Mk) (PL : List Addr) (DL : Nat) (e1 : Option Addr) (f1 k1 : Nat) (e2 : Option Addr) (f2 k2 : Nat) (Q : List Mk) (PQ : List Addr) (DQ : Nat)
    (u1 u2 u3 u4 u5 u9 u10 u11 u12 u13 u14 u15 u16 u17 u18 u19 u20 u21 u22 u23 u24 u25 u26 u27 u28 u29 u30 u31 u32 u33 u34 u35 u36 u37 u38 u39 u40 u41 u42 u43 u44 u45 u46 u47 u48 u49 u50 u51 u52 u53 u54 u55 u56 u57 u58 u59 u60 u61 u62 u63 u64 u65 u66 u67 u68 u69 u70 u71 u72 u73 u74 u75 u76 u77 u78 u79 u80 u81 u82 u83 u84 u85 u86 u87 u88 u89 u90 u91 u92 u93 u94 u95 u96 u97 u98 u99 u100 u101 u102 u103 u104 u105 u106 u107 u108 u109 u110 u111 u112 u113 u114 u115 u116 u117 u118 u119 u120 u121 u122 u123 u124 u125 u126 u127 u128 u129 u130 u131 u132 u133 u134 u135 u136 u137 u138 u139 u140 u141 u142 u143 u144 u145 u146 u147 u148 u149 u150 u151 u152 u153 u154 u155 u156 u157 u158 u159 u160 u161 u162 u163 u164 u165 u166 u167 u168 u169 u170 u171 u172 u173 u174 u175 u176 u177 u178 u179 u180 u181 u182 u183 u184 u185 u186 u187 u188 u189 u190 u191 u192 u193 u194 u195 u196 u197 u198 u199 u200 u201 u202 u203 u204 u205 u206 u207 u208 u209 u210 u211 u212 u213 u214 u215 u216 u217 u218 u219 u220 u221 u222 u223 u224 u225 u226 u227 u228 u229 u230 u231 u232 u233 u234 u235 u236 u237 u238 u239 u240 u241 u242 u243 u244 u245 u246 u247 : Value)
    (hn : n ≤ 4096) (HB8 : Hid (Below w.heap.size w w8)) (H6 : Hid (Held w8 v6 a1 c1 g1 a2 c2 g2 W P D)) (H7 : Hid (Held w8 v7 b1 d1 h1 b2 d2 h2 L PL DL)) (H8 : Hid (Held w8 v8 e1 f1 k1 e2 f2 k2 Q PQ DQ)) (HRR : Hid (Rules w8 a n c b o r))
    (HW : Hid (W = msT r n)) (HJ : Hid (W = mergeM L Q)) (HJP : Hid (P = PL ++ PQ)) (HJD : Hid (D = DL ||| DQ)) (HPN : Hid (P.length = (askT r n).length)) (HPP : Hid (P.length = PL.length + PQ.length)) (HFL : Hid (Fits L ∧ Fits Q)) (HDD : Hid (DL < 256 ∧ DQ < 256))
    (hWn : W.length ≤ n) (hPLn : PL.length ≤ n) (hPQn : PQ.length ≤ n) (hLn : L.length ≤ n) (hQn : Q.length ≤ n) :
    Code.wp Try.prog (rest4 9) (bodyPost Try.prog Try.f4 (Fine w)) { tmps := #[.slice a n c, u1, u2, u3, u4, u5, .pointer (some ⟨v6, 0, none⟩), .pointer (some ⟨v7, 0, none⟩), .pointer (some ⟨v8, 0, none⟩), u9, u10, u11, u12, u13, u14, u15, u16, u17, u18, u19, u20, u21, u22, u23, u24, u25, u26, u27, u28, u29, u30, u31, u32, u33, u34, u35, u36, u37, u38, u39, u40, u41, u42, u43, u44, u45, u46, u47, u48, u49, u50, u51, u52, u53, u54, u55, u56, u57, u58, u59, u60, u61, u62, u63, u64, u65, u66, u67, u68, u69, u70, u71, u72, u73, u74, u75, u76, u77, u78, u79, u80, u81, u82, u83, u84, u85, u86, u87, u88, u89, u90, u91, u92, u93, u94, u95, u96, u97, u98, u99, u100, u101, u102, u103, u104, u105, u106, u107, u108, u109, u110, u111, u112, u113, u114, u115, u116, u117, u118, u119, u120, u121, u122, u123, u124, u125, u126, u127, u128, u129, u130, u131, u132, u133, u134, u135, u136, u137, u138, u139, u140, u141, u142, u143, u144, u145, u146, u147, u148, u149, u150, u151, u152, u153, u154, u155, u156, u157, u158, u159, u160, u161, u162, u163, u164, u165, u166, u167, u168, u169, u170, u171, u172, u173, u174, u175, u176, u177, u178, u179, u180, u181, u182, u183, u184, u185, u186, u187, u188, u189, u190, u191, u192, u193, u194, u195, u196, u197, u198, u199, u200, u201, u202, u203, u204, u205, u206, u207, u208, u209, u210, u211, u212, u213, u214, u215, u216, u217, u218, u219, u220, u221, u222, u223, u224, u225, u226, u227, u228, u229, u230, u231, u232, u233, u234, u235, u236, u237, u238, u239, u240, u241, u242, u243, u244, u245, u246, u247], defers := [] } w8 := by
  conv =>
    arg 2
    unfold rest4
    dsimp only [Try.f4, Option.getD, tl]
  have ix := HRR.out.idx
  have cx := HRR.out.c2
  go_wp2_with fail
  go_loop [9, 10, 11] (fun vn vs vi => ∃ i : Nat, i ≤ n ∧ vi = .int .i64 i ∧ vn = .int .i64 (askT r i).length ∧ vs = .bool (decide (0 < (msT r i).length))) (fun _ _ vi => n - (intOf vi).toNat)
  case atStart => exact ⟨0, Nat.zero_le _, rfl, rfl, rfl⟩
  case round =>
    obtain ⟨i, hi, rfl, rfl, rfl⟩ := hrel
    have hA := askT_length r i
    by_cases hlt : i < n
    · have x2 := cx i hlt
      have hix := fun w' => ix i w' hlt
      have HM := msT_some r i
      have HA : (askT r (i + 1)).length = if (r i).every then (askT r i).length else (askT r i).length + 1 := by rw [askT]; split <;> simp
      clear cx ix
      generalize (msT r i).length = lm at *
      generalize (askT r i).length = la at *
      cases hev : (r i).every
      · rw [hev] at x2
        have HE : Hid ((r i).every = false) := hev
        clear hev
        go_wp2_with fail
        go_round
        case rel =>
          rw [HE.out] at HA HM
          exact ⟨i + 1, by omega, by go_num, by rw [HA]; go_num, by simp [HM]⟩
        case measure => simp [intOf]; omega
      · rw [hev] at x2
        have HE : Hid ((r i).every = true) := hev
        clear hev
        go_wp2_with fail
        go_round
        case rel =>
          rw [HE.out] at HA HM
          exact ⟨i + 1, by omega, by go_num, by rw [HA]; rfl, by simp [HM]⟩
        case measure => simp [intOf]; omega
    · obtain rfl : n = i := by omega
      rw [← HPN.out, ← HW.out]
      clear hA
      obtain ⟨y0, y1, y2, -, -, -⟩ := cells_S H7.out.blk
      have q1 := askedLen_any b1 b2 L.length d1 PL.length d2 DL w8
      unfold sval at q1
      go_wp2_with fail
      refine q1.mono ?_
      clear q1 y0 y1 y2
      rintro e w9 ⟨rfl, hb9⟩
      have G8 : Hid (Held w9 v8 e1 f1 k1 e2 f2 k2 Q PQ DQ) := H8.out.below hb9
      have G7 : Hid (Held w9 v7 b1 d1 h1 b2 d2 h2 L PL DL) := H7.out.below hb9
      have G6 : Hid (Held w9 v6 a1 c1 g1 a2 c2 g2 W P D) := H6.out.below hb9
      have HB9 : Hid (Below w.heap.size w w9) := HB8.out.trans (hb9.mono HB8.out.size)
      clear hb9 H8 H7 H6 HB8
      obtain ⟨y0, y1, y2, -, -, -⟩ := cells_S G8.out.blk
      have q1 := askedLen_any e1 e2 Q.length f1 PQ.length f2 DQ w9
      unfold sval at q1
      go_wp2_with fail
      refine q1.mono ?_
      clear q1 y0 y1 y2
      rintro e w10 ⟨rfl, hb9⟩
      have H8 : Hid (Held w10 v8 e1 f1 k1 e2 f2 k2 Q PQ DQ) := G8.out.below hb9
      have H7 : Hid (Held w10 v7 b1 d1 h1 b2 d2 h2 L PL DL) := G7.out.below hb9
      have H6 : Hid (Held w10 v6 a1 c1 g1 a2 c2 g2 W P D) := G6.out.below hb9
      have HB10 : Hid (Below w.heap.size w w10) := HB9.out.trans (hb9.mono HB9.out.size)
      clear hb9 G8 G7 G6 HB9
      obtain ⟨y0, y1, y2, -, -, -⟩ := cells_S H6.out.blk
      have q1 := askedLen_any a1 a2 W.length c1 P.length c2 D w10
      unfold sval at q1
      go_wp2_with fail
      refine q1.mono ?_
      clear q1 y0 y1 y2
      rintro e w11 ⟨rfl, hb9⟩
      have G8 : Hid (Held w11 v8 e1 f1 k1 e2 f2 k2 Q PQ DQ) := H8.out.below hb9
      have G7 : Hid (Held w11 v7 b1 d1 h1 b2 d2 h2 L PL DL) := H7.out.below hb9
      have G6 : Hid (Held w11 v6 a1 c1 g1 a2 c2 g2 W P D) := H6.out.below hb9
      have HB11 : Hid (Below w.heap.size w w11) := HB10.out.trans (hb9.mono HB10.out.size)
      clear hb9 H8 H7 H6 HB10
      have hs1 : IntKind.i64.wrap ((PL.length : Int) + (PQ.length : Int)) = (P.length : Int) := by have := HPP.out; rw [IntKind.wrap_i64]; omega
      go_wp2_with fail
      go_loopw [14] (fun v wr => ∃ j : Nat, j ≤ PL.length ∧ v = .int .i64 j ∧ Below w11.heap.size w11 wr) (fun v _ => PL.length - (intOf v).toNat)
      case atStart => exact ⟨0, Nat.zero_le _, rfl, Below.refl _ _⟩
      case round =>
        obtain ⟨j, hj, rfl, hbj⟩ := hrel
        have HBJ : Hid (Below w11.heap.size w11 wr) := hbj
        clear hbj
        by_cases hlt : j < PL.length
        · have J6 := G6.out.below HBJ.out
          have J7 := G7.out.below HBJ.out
          obtain ⟨y0, y1, y2, -, -, -⟩ := cells_S J6.blk
          obtain ⟨z0, z1, z2, -, -, -⟩ := cells_S J7.blk
          have q1 := askedSame_any a1 a2 b1 b2 W.length c1 c2 D L.length d1 d2 DL g1 g2 h1 h2 j j W L P PL wr J6.spl J7.spl (by have := HPP.out; omega) hlt (by rw [HJP.out]; simp [List.getD, List.getElem?_append_left hlt])
          unfold sval at q1
          clear J6 J7
          go_wp2_with fail
          refine q1.mono ?_
          clear q1 y0 y1 y2 z0 z1 z2
          rintro e w12 ⟨rfl, hb12⟩
          have HB12 : Hid (Below w11.heap.size w11 w12) := HBJ.out.trans (hb12.mono HBJ.out.size)
          clear hb12
          go_wp2_with fail
          go_roundw
          case rel => exact ⟨j + 1, by omega, by go_num, HB12.out⟩
          case measure => simp [intOf]; omega
        · obtain rfl : j = PL.length := by omega
          go_wp2_with fail
          obtain ⟨wA, rfl⟩ : ∃ u, u = wr := ⟨wr, rfl⟩
          go_loopw [15] (fun v wr => ∃ j : Nat, j ≤ PQ.length ∧ v = .int .i64 j ∧ Below w11.heap.size w11 wr) (fun v _ => PQ.length - (intOf v).toNat)
          case atStart => exact ⟨0, Nat.zero_le _, rfl, HBJ.out⟩
          case round =>
            clear HBJ hlt hj
            obtain ⟨j, hj, rfl, hbj⟩ := hrel
            have HBJ : Hid (Below w11.heap.size w11 wr) := hbj
            clear hbj
            by_cases hlt : j < PQ.length
            · have J6 := G6.out.below HBJ.out
              have J8 := G8.out.below HBJ.out
              obtain ⟨y0, y1, y2, -, -, -⟩ := cells_S J6.blk
              obtain ⟨z0, z1, z2, -, -, -⟩ := cells_S J8.blk
              have q1 := askedSame_any a1 a2 e1 e2 W.length c1 c2 D Q.length f1 f2 DQ g1 g2 k1 k2 (PL.length + j) j W Q P PQ wr J6.spl J8.spl (by have := HPP.out; omega) hlt (by rw [HJP.out]; simp [List.getD, List.getElem?_append_right])
              unfold sval at q1
              rw [Int.natCast_add] at q1
              clear J6 J8
              go_wp2_with fail
              refine q1.mono ?_
              clear q1 y0 y1 y2 z0 z1 z2
              rintro e w12 ⟨rfl, hb12⟩
              have HB12 : Hid (Below w11.heap.size w11 w12) := HBJ.out.trans (hb12.mono HBJ.out.size)
              clear hb12
              go_wp2_with fail
              go_roundw
              case rel => exact ⟨j + 1, by omega, by go_num, HB12.out⟩
              case measure => simp [intOf]; omega
            · obtain rfl : j = PQ.length := by omega
              go_upto_region 35 with fail
              obtain ⟨wB, rfl⟩ : ∃ u, u = wr := ⟨wr, rfl⟩
              have hor : bits .or .u8 (DL : Int) (DQ : Int) = (D : Int) := by rw [u8_or_nat DL DQ HDD.out.1 HDD.out.2, HJD.out]
              obtain ⟨y0, y1, y2, -, -, -⟩ := cells_S (G6.out.below HBJ.out).blk
              obtain ⟨z0, z1, z2, -, -, -⟩ := cells_S (G7.out.below HBJ.out).blk
              obtain ⟨x0, x1, x2, -, -, -⟩ := cells_S (G8.out.below HBJ.out).blk
              have C9 : ∀ u, Below w11.heap.size w11 u → Below w11.heap.size w11 u ∧ u.cell? ⟨v6, 0, none⟩ = some (.slice a1 W.length c1) ∧ u.cell? ⟨v6, 1, none⟩ = some (.slice a2 P.length c2) ∧ u.cell? ⟨v6, 2, none⟩ = some (.int .u8 D) ∧ u.cell? ⟨v7, 0, none⟩ = some (.slice b1 L.length d1) ∧ u.cell? ⟨v7, 1, none⟩ = some (.slice b2 PL.length d2) ∧ u.cell? ⟨v7, 2, none⟩ = some (.int .u8 DL) ∧ u.cell? ⟨v8, 0, none⟩ = some (.slice e1 Q.length f1) ∧ u.cell? ⟨v8, 1, none⟩ = some (.slice e2 PQ.length f2) ∧ u.cell? ⟨v8, 2, none⟩ = some (.int .u8 DQ) := fun u hu => by
                obtain ⟨y0, y1, y2, -, -, -⟩ := cells_S (G6.out.below hu).blk
                obtain ⟨z0, z1, z2, -, -, -⟩ := cells_S (G7.out.below hu).blk
                obtain ⟨x0, x1, x2, -, -, -⟩ := cells_S (G8.out.below hu).blk
                exact ⟨hu, y0, y1, y2, z0, z1, z2, x0, x1, x2⟩
              have HC9 : Hid (∀ u, Below w11.heap.size w11 u → Below w11.heap.size w11 u ∧ u.cell? ⟨v6, 0, none⟩ = some (.slice a1 W.length c1) ∧ u.cell? ⟨v6, 1, none⟩ = some (.slice a2 P.length c2) ∧ u.cell? ⟨v6, 2, none⟩ = some (.int .u8 D) ∧ u.cell? ⟨v7, 0, none⟩ = some (.slice b1 L.length d1) ∧ u.cell? ⟨v7, 1, none⟩ = some (.slice b2 PL.length d2) ∧ u.cell? ⟨v7, 2, none⟩ = some (.int .u8 DL) ∧ u.cell? ⟨v8, 0, none⟩ = some (.slice e1 Q.length f1) ∧ u.cell? ⟨v8, 1, none⟩ = some (.slice e2 PQ.length f2) ∧ u.cell? ⟨v8, 2, none⟩ = some (.int .u8 DQ)) := C9
              clear C9 y0 y1 y2 z0 z1 z2 x0 x1 x2
              go_cut [130] (fun v wd => v = .bool false ∧ Below w11.heap.size w11 wd)
              case first =>
                have HBD : Hid (Below w11.heap.size w11 wB.drew) := HBJ.out.drew
                go_region_held3 (fun u => Below w11.heap.size w11 u ∧ u.cell? ⟨v6, 0, none⟩ = some (.slice a1 W.length c1) ∧ u.cell? ⟨v6, 1, none⟩ = some (.slice a2 P.length c2) ∧ u.cell? ⟨v6, 2, none⟩ = some (.int .u8 D) ∧ u.cell? ⟨v7, 0, none⟩ = some (.slice b1 L.length d1) ∧ u.cell? ⟨v7, 1, none⟩ = some (.slice b2 PL.length d2) ∧ u.cell? ⟨v7, 2, none⟩ = some (.int .u8 DL) ∧ u.cell? ⟨v8, 0, none⟩ = some (.slice e1 Q.length f1) ∧ u.cell? ⟨v8, 1, none⟩ = some (.slice e2 PQ.length f2) ∧ u.cell? ⟨v8, 2, none⟩ = some (.int .u8 DQ))
                  (first | exact HC9.out _ HBD.out | exact HC9.out _ HBA.out | exact HC9.out _ HBE.out | exact HC9.out _ HBF.out)
                  (first | (go_at_call 13; refine (reads_any a1 a2 W.length c1 P.length c2 D _).mono ?_; rintro e wa ⟨rfl, hba⟩; have HBA : Hid (Below w11.heap.size w11 wa) := HBD.out.trans (hba.mono HBD.out.size); clear hba) | (go_at_call 13; refine (reads_any b1 b2 L.length d1 PL.length d2 DL _).mono ?_; rintro e wb ⟨rfl, hbb⟩; have HBE : Hid (Below w11.heap.size w11 wb) := HBA.out.trans (hbb.mono HBA.out.size); clear hbb) | (go_at_call 13; refine (reads_any e1 e2 Q.length f1 PQ.length f2 DQ _).mono ?_; rintro e wd ⟨rfl, hbd⟩; have HBF : Hid (Below w11.heap.size w11 wd) := HBE.out.trans (hbd.mono HBE.out.size); clear hbd))
                all_goals
                  go_wp2_with fail
                  go_meet
                  exact ⟨by simp, HBF.out⟩
              case rest =>
                obtain ⟨wC, rfl⟩ : ∃ u, u = wc := ⟨wc, rfl⟩
                obtain ⟨rfl, hbc⟩ := hcut
                have HBC : Hid (Below w11.heap.size w11 wC) := hbc
                clear hbc HC9 hor HBJ
                rename_i K1 hK1 K0 hK0
                have HK1 := hide hK1
                clear hK1
                go_wp2_with fail
                exact HK1.out _ _ (joinC n w wC v6 v7 v8 a1 c1 g1 a2 c2 g2 W P D b1 d1 h1 b2 d2 h2 L PL DL e1 f1 k1 e2 f2 k2 Q PQ DQ _ _ _ _ _ _ _ _ _ _ _ _ _ _ _ _ _ _ _ _ _ _ _ _ _ _ _ _ _ _ _ _ _ _ _ _ _ _ _ _ _ _ _ _ _ _ _ _ _ _ _ _ _ _ _ _ _ _ _ _ _ _ _ _ _ _ _ _ _ _ _ _ _ _ _ _ _ _ _ _ _ _ _ _ _ _ _ _ _ _ _ _ _ _ _ _ _ _ _ _ _ _ _ _ _ _ _ _ _ _ _ _ _ _ _ _ _ _ _ _ _ _ _ _ _ _ _ _ _ _ _ _ _ _ _ _ _ _ _ _ _ _ _ _ _ _ _ _ _ _ _ _ _ _ _ _ _ _ _ _ _ _ _ _ _ _ _ _ _ _ _ _ _ _ _ _ _ _ _ _ _ _ _ _ _ _ _ _ _ _ _ _ _ _ _ _ _ _ _ _ _ _ _ _ _ _ _ _ _ _ _ _ _ _ _ _ _ _ _ _ _ _ _ _ _ _ _ _ _ _ _ _ _ _ _ _ _ _ _ _ _ _ _ _ hn (HB11.out.trans (HBC.out.mono HB11.out.size)) (G6.out.below HBC.out) (G7.out.below HBC.out) (G8.out.below HBC.out) HJ HFL hWn hLn hQn)

end Go.Proofs.Qxb6618784a.Sp
