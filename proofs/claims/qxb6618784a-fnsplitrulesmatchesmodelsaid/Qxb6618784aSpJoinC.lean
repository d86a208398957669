/-
  FnSplitRulesJoinsAtAnyCut (4), walked: its last part (the masks).
-/
import Derived.Test.Qxb6618784aSpAcc
import Derived.Test.Qxb6618784aSpMerge
namespace Go.Proofs.Qxb6618784a.Sp
open Go.RowKit Go.WideMaps Go.Maps

/-- A split in a variable of the law's own. -/
structure Held (w : World) (v : Nat) (a1 : Option Addr) (c1 g1 : Nat) (a2 : Option Addr) (c2 g2 : Nat) (ms : List Mk) (ps : List Addr) (rd : Nat) : Prop where
  blk : w.heap[v]? = some (.cells #[.slice a1 ms.length c1, .slice a2 ps.length c2, .int .u8 rd] 37 (0, 0))
  spl : Spl w a1 g1 a2 g2 ms ps
  lt : v < w.heap.size

theorem Held.below {w w' : World} {v : Nat} {a1 : Option Addr} {c1 g1 : Nat} {a2 : Option Addr} {c2 g2 : Nat} {ms : List Mk} {ps : List Addr} {rd : Nat} (h : Held w v a1 c1 g1 a2 c2 g2 ms ps rd) (hw : Below w.heap.size w w') : Held w' v a1 c1 g1 a2 c2 g2 ms ps rd :=
  ⟨(hw.block _ h.lt).trans h.blk, h.spl.below hw, Nat.lt_of_lt_of_le h.lt hw.size⟩

theorem Built.below {w w' : World} {g n : Nat} {r : Nat → Rule} (h : Built w g n r) (hw : Below w.heap.size w w') : Built w' g n r := by
  have k : ∀ j v, w.cell? ⟨g, j, none⟩ = some v → w'.cell? ⟨g, j, none⟩ = some v := fun j v hv => (hw.cell (p := ⟨g, j, none⟩) h.lt).trans hv
  exact ⟨fun i hi => k _ _ (h.dn i hi), fun i hi => k _ _ (h.ev i hi), fun i hi => k _ _ (h.rd i hi), fun i hi => k _ _ (h.rk i hi), Nat.lt_of_lt_of_le h.lt hw.size⟩

theorem held_new {w : World} {a1 : Option Addr} {c1 g1 : Nat} {a2 : Option Addr} {c2 g2 : Nat} {ms : List Mk} {ps : List Addr} {rd : Nat} (h : Spl w a1 g1 a2 g2 ms ps) : Held (w.alloc (.cells #[.slice a1 ms.length c1, .slice a2 ps.length c2, .int .u8 rd] 37)) w.heap.size a1 c1 g1 a2 c2 g2 ms ps rd :=
  ⟨heap_alloc_new w _, h.below ((Below.refl _ w).alloc (Nat.le_refl _) _), by simp⟩

def Fine (w : World) (e : Ending) (w' : World) : Prop := e = .returned (.bool true) ∧ Below w.heap.size w w'

/-- What is left of the body behind its first k parts. -/
noncomputable def tl : Nat → Code → Code
  | 0, c => c
  | k + 1, .seq _ b => tl k b
  | _, c => c
noncomputable def rest4 (k : Nat) : Code := tl k (Try.f4.body.getD .ret)

set_option maxHeartbeats 4000000 in
set_option maxRecDepth 100000 in
/-- From region 37 on: the masks. -/
theorem joinC (n : Nat) (w w11 : World) (v6 v7 v8 : Nat) (a1 : Option Addr) (c1 g1 : Nat) (a2 : Option Addr) (c2 g2 : Nat) (W : List Mk) (P : List Addr) (D : Nat) (b1 : Option Addr) (d1 h1 : Nat) (b2 : Option Addr) (d2 h2 : Nat) (L : List Mk) (PL : List Addr) (DL : Nat) (e1 : Option Addr) (f1 k1 : Nat) (e2 : Option Addr) (f2 k2 : Nat) (Q : List Mk) (PQ : List Addr) (DQ : Nat)
    (u0 u1 u2 u3 u4 u5 u9 u11 u12 u13 u14 u15 u16 u17 u18 u19 u20 u21 u22 u23 u24 u25 u26 u27 u28 u29 u30 u31 u32 u33 u34 u35 u36 u37 u38 u39 u40 u41 u42 u43 u44 u45 u46 u47 u48 u49 u50 u51 u52 u53 u54 u55 u56 u57 u58 u59 u60 u61 u62 u63 u64 u65 u66 u67 u68 u69 u70 u71 u72 u73 u74 u75 u76 u77 u78 u79 u80 u81 u82 u83 u84 u85 u86 u87 u88 u89 u90 u91 u92 u93 u94 u95 u96 u97 u98 u99 u100 u101 u102 u103 u104 u105 u106 u107 u108 u109 u110 u111 u112 u113 u114 u115 u116 u117 u118 u119 u120 u121 u122 u123 u124 u125 u126 u127 u128 u129 u130 u131 u132 u133 u134 u135 u136 u137 u138 u139 u140 u141 u142 u143 u144 u145 u146 u147 u148 u149 u150 u151 u152 u153 u154 u155 u156 u157 u158 u159 u160 u161 u162 u163 u164 u165 u166 u167 u168 u169 u170 u171 u172 u173 u174 u175 u176 u177 u178 u179 u180 u181 u182 u183 u184 u185 u186 u187 u188 u189 u190 u191 u192 u193 u194 u195 u196 u197 u198 u199 u200 u201 u202 u203 u204 u205 u206 u207 u208 u209 u210 u211 u212 u213 u214 u215 u216 u217 u218 u219 u220 u221 u222 u223 u224 u225 u226 u227 u228 u229 u230 u231 u232 u233 u234 u235 u236 u237 u238 u239 u240 u241 u242 u243 u244 u245 u246 u247 : Value)
    (hn : n ≤ 4096) (HB11 : Hid (Below w.heap.size w w11)) (G6 : Hid (Held w11 v6 a1 c1 g1 a2 c2 g2 W P D)) (G7 : Hid (Held w11 v7 b1 d1 h1 b2 d2 h2 L PL DL)) (G8 : Hid (Held w11 v8 e1 f1 k1 e2 f2 k2 Q PQ DQ))
    (HJ : Hid (W = mergeM L Q)) (HFL : Hid (Fits L ∧ Fits Q)) (hWn : W.length ≤ n) (hLn : L.length ≤ n) (hQn : Q.length ≤ n) :
    Code.wp Try.prog (rest4 18) (bodyPost Try.prog Try.f4 (Fine w)) { tmps := #[u0, u1, u2, u3, u4, u5, .pointer (some ⟨v6, 0, none⟩), .pointer (some ⟨v7, 0, none⟩), .pointer (some ⟨v8, 0, none⟩), u9, .bool (decide (0 < W.length)), u11, u12, u13, u14, u15, u16, u17, u18, u19, u20, u21, u22, u23, u24, u25, u26, u27, u28, u29, u30, u31, u32, u33, u34, u35, u36, u37, u38, u39, u40, u41, u42, u43, u44, u45, u46, u47, u48, u49, u50, u51, u52, u53, u54, u55, u56, u57, u58, u59, u60, u61, u62, u63, u64, u65, u66, u67, u68, u69, u70, u71, u72, u73, u74, u75, u76, u77, u78, u79, u80, u81, u82, u83, u84, u85, u86, u87, u88, u89, u90, u91, u92, u93, u94, u95, u96, u97, u98, u99, u100, u101, u102, u103, u104, u105, u106, u107, u108, u109, u110, u111, u112, u113, u114, u115, u116, u117, u118, u119, u120, u121, u122, u123, u124, u125, u126, u127, u128, u129, u130, u131, u132, u133, u134, u135, u136, u137, u138, u139, u140, u141, u142, u143, u144, u145, u146, u147, u148, u149, u150, u151, u152, u153, u154, u155, u156, u157, u158, u159, u160, u161, u162, u163, u164, u165, u166, u167, u168, u169, u170, u171, u172, u173, u174, u175, u176, u177, u178, u179, u180, u181, u182, u183, u184, u185, u186, u187, u188, u189, u190, u191, u192, u193, u194, u195, u196, u197, u198, u199, u200, u201, u202, u203, u204, u205, u206, u207, u208, u209, u210, u211, u212, u213, u214, u215, u216, u217, u218, u219, u220, u221, u222, u223, u224, u225, u226, u227, u228, u229, u230, u231, u232, u233, u234, u235, u236, u237, u238, u239, u240, u241, u242, u243, u244, u245, u246, u247], defers := [] } w11 := by
  unfold rest4
  dsimp only [Try.f4, Option.getD, tl]
  have HBC : Hid (Below w11.heap.size w11 w11) := Below.refl _ _
  obtain ⟨y0, y1, y2, -, -, -⟩ := cells_S (G7.out.below HBC.out).blk
  have q1 := everyLen_any b1 b2 L.length d1 PL.length d2 DL w11
  unfold sval at q1
  go_wp2_with fail
  refine q1.mono ?_
  clear q1 y0 y1 y2
  rintro e wD ⟨rfl, hb9⟩
  have HBD : Hid (Below w11.heap.size w11 wD) := HBC.out.trans (hb9.mono HBC.out.size)
  clear hb9
  obtain ⟨y0, y1, y2, -, -, -⟩ := cells_S (G8.out.below HBD.out).blk
  have q1 := everyLen_any e1 e2 Q.length f1 PQ.length f2 DQ wD
  unfold sval at q1
  go_wp2_with fail
  refine q1.mono ?_
  clear q1 y0 y1 y2
  rintro e wE ⟨rfl, hb9⟩
  have HBE : Hid (Below w11.heap.size w11 wE) := HBD.out.trans (hb9.mono HBD.out.size)
  clear hb9
  obtain ⟨y0, y1, y2, -, -, -⟩ := cells_S (G6.out.below HBE.out).blk
  have q1 := everyLen_any a1 a2 W.length c1 P.length c2 D wE
  unfold sval at q1
  go_wp2_with fail
  refine q1.mono ?_
  clear q1 y0 y1 y2
  rintro e wF ⟨rfl, hb9⟩
  have HBF : Hid (Below w11.heap.size w11 wF) := HBE.out.trans (hb9.mono HBE.out.size)
  clear hb9
  clear HBC HBD HBE
  go_wp2_with fail
  go_loopw [19, 20, 21] (fun vi vj vm wr => ∃ i j m : Nat, i ≤ L.length ∧ j ≤ Q.length ∧ m ≤ W.length ∧ vi = .int .i64 i ∧ vj = .int .i64 j ∧ vm = .int .i64 m ∧ mergeM (L.drop i) (Q.drop j) = W.drop m ∧ Below w11.heap.size w11 wr) (fun vi vj _ _ => (L.length - (intOf vi).toNat) + (Q.length - (intOf vj).toNat))
  case atStart => exact ⟨0, 0, 0, Nat.zero_le _, Nat.zero_le _, Nat.zero_le _, rfl, rfl, rfl, by rw [HJ.out]; rfl, HBF.out⟩
  case round =>
    clear HBF
    obtain ⟨i, j, m, hi, hj, hm, rfl, rfl, rfl, hmg, hbj⟩ := hrel
    have HMG : Hid (mergeM (L.drop i) (Q.drop j) = W.drop m) := hmg
    have HBJ : Hid (Below w11.heap.size w11 wr) := hbj
    clear hbj hmg
    by_cases hil : i < L.length
    · by_cases hjl : j < Q.length
      · obtain ⟨xw, xp, xd, hx⟩ : ∃ a b c, N L i = (a, b, c) := ⟨_, _, _, rfl⟩
        obtain ⟨yw, yp, yd, hy⟩ : ∃ a b c, N Q j = (a, b, c) := ⟨_, _, _, rfl⟩
        rcases Nat.lt_trichotomy xw yw with hlt | heq | hgt
        · obtain ⟨hmW, hz, hst⟩ := step_lt HMG.out hil hjl (by rw [hx, hy]; exact hlt)
          have hz : N W m = (xw, xp, xd) := by rw [hz, hx]
          have HST : Hid (mergeM (L.drop (i + 1)) (Q.drop j) = W.drop (m + 1)) := hst
          clear hst
          have hj0 : ¬ Q.length ≤ j := by omega
          have hi0 : ¬ L.length ≤ i := by omega
          have hm0 : ¬ W.length ≤ m := by omega
          obtain ⟨y0, y1, y2, -, -, -⟩ := cells_S (G7.out.below HBJ.out).blk
          have q1 := everyAt_any b1 b2 d1 PL.length d2 DL h1 h2 i L PL wr (G7.out.below HBJ.out).spl hil
          unfold sval at q1
          rw [hx] at q1
          go_wp2_with fail
          refine q1.mono ?_
          clear q1 y0 y1 y2
          rintro e wG ⟨rfl, hb9⟩
          have HBG : Hid (Below w11.heap.size w11 wG) := HBJ.out.trans (hb9.mono HBJ.out.size)
          clear hb9
          obtain ⟨y0, y1, y2, -, -, -⟩ := cells_S (G8.out.below HBG.out).blk
          have q1 := everyAt_any e1 e2 f1 PQ.length f2 DQ k1 k2 j Q PQ wG (G8.out.below HBG.out).spl hjl
          unfold sval at q1
          rw [hy] at q1
          go_wp2_with fail
          refine q1.mono ?_
          clear q1 y0 y1 y2
          rintro e wH ⟨rfl, hb9⟩
          have HBH : Hid (Below w11.heap.size w11 wH) := HBG.out.trans (hb9.mono HBG.out.size)
          clear hb9
          obtain ⟨y0, y1, y2, -, -, -⟩ := cells_S (G6.out.below HBH.out).blk
          have q1 := everyAt_any a1 a2 c1 P.length c2 D g1 g2 m W P wH (G6.out.below HBH.out).spl hmW
          unfold sval at q1
          rw [hz] at q1
          go_wp2_with fail
          refine q1.mono ?_
          clear q1 y0 y1 y2
          rintro e wI ⟨rfl, hb9⟩
          have HBI : Hid (Below w11.heap.size w11 wI) := HBH.out.trans (hb9.mono HBH.out.size)
          clear hb9
          go_wp2_with fail
          go_roundw
          case rel => exact ⟨i + 1, j, m + 1, by omega, by omega, by omega, by go_num, by go_num, by go_num, HST.out, HBI.out⟩
          case measure => simp [intOf]; omega
        · obtain ⟨hmW, hz, hst⟩ := step_eq HMG.out hil hjl (by rw [hx, hy]; exact heq)
          have hz : N W m = (xw, xp ||| yp, xd ||| yd) := by rw [hz, hx, hy]; rfl
          have HST : Hid (mergeM (L.drop (i + 1)) (Q.drop (j + 1)) = W.drop (m + 1)) := hst
          clear hst
          have hfx := HFL.out.1 (N L i) (by simp [N, List.getD, List.getElem?_eq_getElem hil])
          have hfy := HFL.out.2 (N Q j) (by simp [N, List.getD, List.getElem?_eq_getElem hjl])
          rw [hx] at hfx
          rw [hy] at hfy
          have hor1 := u64_or_nat xp yp hfx.1 hfy.1
          have hor2 := u64_or_nat xd yd hfx.2 hfy.2
          have heq1 : ¬ xw < yw := by omega
          have heq2 : ¬ yw < xw := by omega
          clear heq
          have hj0 : ¬ Q.length ≤ j := by omega
          have hi0 : ¬ L.length ≤ i := by omega
          have hm0 : ¬ W.length ≤ m := by omega
          obtain ⟨y0, y1, y2, -, -, -⟩ := cells_S (G7.out.below HBJ.out).blk
          have q1 := everyAt_any b1 b2 d1 PL.length d2 DL h1 h2 i L PL wr (G7.out.below HBJ.out).spl hil
          unfold sval at q1
          rw [hx] at q1
          go_wp2_with fail
          refine q1.mono ?_
          clear q1 y0 y1 y2
          rintro e wG ⟨rfl, hb9⟩
          have HBG : Hid (Below w11.heap.size w11 wG) := HBJ.out.trans (hb9.mono HBJ.out.size)
          clear hb9
          obtain ⟨y0, y1, y2, -, -, -⟩ := cells_S (G8.out.below HBG.out).blk
          have q1 := everyAt_any e1 e2 f1 PQ.length f2 DQ k1 k2 j Q PQ wG (G8.out.below HBG.out).spl hjl
          unfold sval at q1
          rw [hy] at q1
          go_wp2_with fail
          refine q1.mono ?_
          clear q1 y0 y1 y2
          rintro e wH ⟨rfl, hb9⟩
          have HBH : Hid (Below w11.heap.size w11 wH) := HBG.out.trans (hb9.mono HBG.out.size)
          clear hb9
          obtain ⟨y0, y1, y2, -, -, -⟩ := cells_S (G6.out.below HBH.out).blk
          have q1 := everyAt_any a1 a2 c1 P.length c2 D g1 g2 m W P wH (G6.out.below HBH.out).spl hmW
          unfold sval at q1
          rw [hz] at q1
          go_wp2_with fail
          refine q1.mono ?_
          clear q1 y0 y1 y2
          rintro e wI ⟨rfl, hb9⟩
          have HBI : Hid (Below w11.heap.size w11 wI) := HBH.out.trans (hb9.mono HBH.out.size)
          clear hb9
          go_wp2_with fail
          go_roundw
          case rel => exact ⟨i + 1, j + 1, m + 1, by omega, by omega, by omega, by go_num, by go_num, by go_num, HST.out, HBI.out⟩
          case measure => simp [intOf]; omega
        · obtain ⟨hmW, hz, hst⟩ := step_gt HMG.out hil hjl (by rw [hx, hy]; exact hgt)
          have hz : N W m = (yw, yp, yd) := by rw [hz, hy]
          have HST : Hid (mergeM (L.drop i) (Q.drop (j + 1)) = W.drop (m + 1)) := hst
          clear hst
          have hgt1 : ¬ xw < yw := by omega
          have hj0 : ¬ Q.length ≤ j := by omega
          have hi0 : ¬ L.length ≤ i := by omega
          have hm0 : ¬ W.length ≤ m := by omega
          obtain ⟨y0, y1, y2, -, -, -⟩ := cells_S (G7.out.below HBJ.out).blk
          have q1 := everyAt_any b1 b2 d1 PL.length d2 DL h1 h2 i L PL wr (G7.out.below HBJ.out).spl hil
          unfold sval at q1
          rw [hx] at q1
          go_wp2_with fail
          refine q1.mono ?_
          clear q1 y0 y1 y2
          rintro e wG ⟨rfl, hb9⟩
          have HBG : Hid (Below w11.heap.size w11 wG) := HBJ.out.trans (hb9.mono HBJ.out.size)
          clear hb9
          obtain ⟨y0, y1, y2, -, -, -⟩ := cells_S (G8.out.below HBG.out).blk
          have q1 := everyAt_any e1 e2 f1 PQ.length f2 DQ k1 k2 j Q PQ wG (G8.out.below HBG.out).spl hjl
          unfold sval at q1
          rw [hy] at q1
          go_wp2_with fail
          refine q1.mono ?_
          clear q1 y0 y1 y2
          rintro e wH ⟨rfl, hb9⟩
          have HBH : Hid (Below w11.heap.size w11 wH) := HBG.out.trans (hb9.mono HBG.out.size)
          clear hb9
          obtain ⟨y0, y1, y2, -, -, -⟩ := cells_S (G6.out.below HBH.out).blk
          have q1 := everyAt_any a1 a2 c1 P.length c2 D g1 g2 m W P wH (G6.out.below HBH.out).spl hmW
          unfold sval at q1
          rw [hz] at q1
          go_wp2_with fail
          refine q1.mono ?_
          clear q1 y0 y1 y2
          rintro e wI ⟨rfl, hb9⟩
          have HBI : Hid (Below w11.heap.size w11 wI) := HBH.out.trans (hb9.mono HBH.out.size)
          clear hb9
          go_wp2_with fail
          go_roundw
          case rel => exact ⟨i, j + 1, m + 1, by omega, by omega, by omega, by go_num, by go_num, by go_num, HST.out, HBI.out⟩
          case measure => simp [intOf]; omega
      · obtain ⟨xw, xp, xd, hx⟩ : ∃ a b c, N L i = (a, b, c) := ⟨_, _, _, rfl⟩
        obtain ⟨hmW, hz, hst⟩ := step_l HMG.out hil (by omega)
        have hz : N W m = (xw, xp, xd) := by rw [hz, hx]
        have HST : Hid (mergeM (L.drop (i + 1)) (Q.drop j) = W.drop (m + 1)) := hst
        have hj0 : Q.length ≤ j := by omega
        have hi0 : ¬ L.length ≤ i := by omega
        have hm0 : ¬ W.length ≤ m := by omega
        clear hst
        obtain ⟨y0, y1, y2, -, -, -⟩ := cells_S (G7.out.below HBJ.out).blk
        have q1 := everyAt_any b1 b2 d1 PL.length d2 DL h1 h2 i L PL wr (G7.out.below HBJ.out).spl hil
        unfold sval at q1
        rw [hx] at q1
        go_wp2_with fail
        refine q1.mono ?_
        clear q1 y0 y1 y2
        rintro e wG ⟨rfl, hb9⟩
        have HBG : Hid (Below w11.heap.size w11 wG) := HBJ.out.trans (hb9.mono HBJ.out.size)
        clear hb9
        obtain ⟨y0, y1, y2, -, -, -⟩ := cells_S (G6.out.below HBG.out).blk
        have q1 := everyAt_any a1 a2 c1 P.length c2 D g1 g2 m W P wG (G6.out.below HBG.out).spl hmW
        unfold sval at q1
        rw [hz] at q1
        go_wp2_with fail
        refine q1.mono ?_
        clear q1 y0 y1 y2
        rintro e wI ⟨rfl, hb9⟩
        have HBI : Hid (Below w11.heap.size w11 wI) := HBG.out.trans (hb9.mono HBG.out.size)
        clear hb9
        go_wp2_with fail
        go_roundw
        case rel => exact ⟨i + 1, j, m + 1, by omega, by omega, by omega, by go_num, by go_num, by go_num, HST.out, HBI.out⟩
        case measure => simp [intOf]; omega
    · by_cases hjl : j < Q.length
      · obtain ⟨yw, yp, yd, hy⟩ : ∃ a b c, N Q j = (a, b, c) := ⟨_, _, _, rfl⟩
        obtain ⟨hmW, hz, hst⟩ := step_r HMG.out (by omega) hjl
        have hz : N W m = (yw, yp, yd) := by rw [hz, hy]
        have HST : Hid (mergeM (L.drop i) (Q.drop (j + 1)) = W.drop (m + 1)) := hst
        have hj0 : ¬ Q.length ≤ j := by omega
        have hi0 : L.length ≤ i := by omega
        have hm0 : ¬ W.length ≤ m := by omega
        clear hst
        obtain ⟨y0, y1, y2, -, -, -⟩ := cells_S (G8.out.below HBJ.out).blk
        have q1 := everyAt_any e1 e2 f1 PQ.length f2 DQ k1 k2 j Q PQ wr (G8.out.below HBJ.out).spl hjl
        unfold sval at q1
        rw [hy] at q1
        go_wp2_with fail
        refine q1.mono ?_
        clear q1 y0 y1 y2
        rintro e wH ⟨rfl, hb9⟩
        have HBH : Hid (Below w11.heap.size w11 wH) := HBJ.out.trans (hb9.mono HBJ.out.size)
        clear hb9
        obtain ⟨y0, y1, y2, -, -, -⟩ := cells_S (G6.out.below HBH.out).blk
        have q1 := everyAt_any a1 a2 c1 P.length c2 D g1 g2 m W P wH (G6.out.below HBH.out).spl hmW
        unfold sval at q1
        rw [hz] at q1
        go_wp2_with fail
        refine q1.mono ?_
        clear q1 y0 y1 y2
        rintro e wI ⟨rfl, hb9⟩
        have HBI : Hid (Below w11.heap.size w11 wI) := HBH.out.trans (hb9.mono HBH.out.size)
        clear hb9
        go_wp2_with fail
        go_roundw
        case rel => exact ⟨i, j + 1, m + 1, by omega, by omega, by omega, by go_num, by go_num, by go_num, HST.out, HBI.out⟩
        case measure => simp [intOf]; omega
      · have hmW : m = W.length := by have := step_end HMG.out (by omega) (by omega); omega
        subst hmW
        go_wp2_with fail
        go_ret
        exact ⟨by simp, HB11.out.trans (HBJ.out.mono HB11.out.size)⟩

end Go.Proofs.Qxb6618784a.Sp
