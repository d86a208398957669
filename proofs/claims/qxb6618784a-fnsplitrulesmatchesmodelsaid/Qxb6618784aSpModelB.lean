/-
  FnSplitRulesMatchesModel (3), walked: its middle part (the asked rules).
-/
import Derived.Test.Qxb6618784aSpModelC
namespace Go.Proofs.Qxb6618784a.Sp
open Go.RowKit Go.WideMaps Go.Maps

theorem ask_prefix (r : Nat → Rule) (i : Nat) : ∀ d, ∃ t, askT r (i + d) = askT r i ++ t
  | 0 => ⟨[], by simp⟩
  | d + 1 => by
    obtain ⟨t, ht⟩ := ask_prefix r i d
    show ∃ t, askT r ((i + d) + 1) = _
    rw [askT]
    split
    · exact ⟨t, ht⟩
    · exact ⟨t ++ [i + d], by rw [ht, List.append_assoc]⟩
/-- The asked rule at the place that is next, when rule i is asked. -/
theorem ask_at {r : Nat → Rule} {i n : Nat} (hi : i < n) (he : (r i).every = false) (G : Nat) : (askT r i).length < (adr G 0 (askT r n)).length ∧ (adr G 0 (askT r n)).getD (askT r i).length ⟨0, 0, none⟩ = ⟨G, i * 8, none⟩ := by
  obtain ⟨t, ht⟩ := ask_prefix r (i + 1) (n - (i + 1))
  rw [show i + 1 + (n - (i + 1)) = n by omega, askT, if_neg (by rw [he]; decide)] at ht
  rw [ht, adr]
  constructor
  · simp
  · simp [List.getD]

set_option maxHeartbeats 4000000 in
set_option maxRecDepth 100000 in
/-- From region 10 on. -/
theorem modelB (a : Option Addr) (n c b o G : Nat) (r : Nat → Rule) (w w0 : World) (v4 : Nat) (a1 : Option Addr) (c1 g1 : Nat) (a2 : Option Addr) (c2 g2 : Nat) (W : List Mk) (P : List Addr) (D : Nat)
    (u1 u2 u6 u7 u8 u9 u10 u11 u12 u13 u14 u15 u16 u17 u18 u19 u20 u21 u22 u23 u24 u25 u26 u27 u28 u29 u30 u31 u32 u33 u34 u35 u36 u37 u38 u39 u40 u41 u42 u43 u44 u45 u46 u47 u48 u49 u50 u51 u52 u53 u54 u55 u56 u57 u58 u59 u60 u61 u62 u63 u64 u65 u66 u67 u68 u69 u70 u71 u72 u73 u74 u75 u76 u77 u78 u79 u80 u81 u82 u83 u84 u85 u86 u87 u88 u89 u90 u91 u92 u93 u94 u95 u96 u97 u98 u99 u100 u101 u102 u103 u104 u105 u106 u107 u108 u109 u110 u111 u112 u113 u114 u115 u116 u117 u118 u119 u120 u121 u122 u123 u124 u125 u126 u127 u128 u129 u130 u131 u132 u133 u134 u135 u136 u137 u138 u139 u140 u141 u142 u143 u144 u145 u146 u147 u148 u149 u150 u151 u152 u153 u154 u155 u156 u157 u158 u159 u160 u161 u162 u163 u164 u165 u166 u167 u168 u169 : Value)
    (hn : n ≤ 4096) (HB : Hid (Below w.heap.size w w0)) (H4 : Hid (Held w0 v4 a1 c1 g1 a2 c2 g2 W P D)) (HRR : Hid (Rules w0 a n c b o r)) (HRK : Hid (∀ k, k < n → 0 ≤ (r k).rank)) (HW : Hid (W = msT r n)) (HP : Hid (P = adr G 0 (askT r n))) (HD : Hid (D = rdT r n)) (hWn : W.length ≤ n) (hPn : P.length ≤ n) :
    Code.wp Try.prog (rest3 7) (bodyPost Try.prog Try.f3 (Fine w)) { tmps := #[.slice a n c, u1, u2, .slice (some ⟨G, 0, none⟩) n n, .pointer (some ⟨v4, 0, none⟩), .int .i64 P.length, u6, u7, u8, u9, u10, u11, u12, u13, u14, u15, u16, u17, u18, u19, u20, u21, u22, u23, u24, u25, u26, u27, u28, u29, u30, u31, u32, u33, u34, u35, u36, u37, u38, u39, u40, u41, u42, u43, u44, u45, u46, u47, u48, u49, u50, u51, u52, u53, u54, u55, u56, u57, u58, u59, u60, u61, u62, u63, u64, u65, u66, u67, u68, u69, u70, u71, u72, u73, u74, u75, u76, u77, u78, u79, u80, u81, u82, u83, u84, u85, u86, u87, u88, u89, u90, u91, u92, u93, u94, u95, u96, u97, u98, u99, u100, u101, u102, u103, u104, u105, u106, u107, u108, u109, u110, u111, u112, u113, u114, u115, u116, u117, u118, u119, u120, u121, u122, u123, u124, u125, u126, u127, u128, u129, u130, u131, u132, u133, u134, u135, u136, u137, u138, u139, u140, u141, u142, u143, u144, u145, u146, u147, u148, u149, u150, u151, u152, u153, u154, u155, u156, u157, u158, u159, u160, u161, u162, u163, u164, u165, u166, u167, u168, u169], defers := [] } w0 := by
  conv =>
    arg 2
    unfold rest3
    dsimp only [Try.f3, Option.getD, tl]
  have ix := HRR.out.idx
  go_wp2_with fail
  go_loopw [6, 7, 8] (fun vj vr vi wr => ∃ i : Nat, i ≤ n ∧ vj = .int .i64 (askT r i).length ∧ vr = .int .u8 (rdT r i) ∧ vi = .int .i64 i ∧ Below w0.heap.size w0 wr) (fun _ _ vi _ => n - (intOf vi).toNat)
  case atStart => exact ⟨0, Nat.zero_le _, rfl, rfl, rfl, Below.refl _ _⟩
  case round =>
    obtain ⟨i, hi, rfl, rfl, rfl, hbm⟩ := hrel
    have HBM : Hid (Below w0.heap.size w0 wr) := hbm
    clear hbm
    by_cases hlt : i < n
    · have hix := fun w' => ix i w' hlt
      have y2 := (HRR.out.below HBM.out).c2 i hlt
      have y3 := (HRR.out.below HBM.out).c3 i hlt
      have hA := askT_length r i
      have hrd := HRR.out.rd i hlt
      have hdl := rdT_lt r n (fun k hk => HRR.out.rd k hk) i hi
      clear ix
      cases hev : (r i).every
      · rw [hev] at y2
        have HA1 : Hid ((askT r (i + 1)).length = (askT r i).length + 1) := by rw [askT, if_neg (by rw [hev]; decide), List.length_append]; rfl
        obtain ⟨rv, hrv⟩ : ∃ x : Nat, (r i).reads = (x : Int) := ⟨(r i).reads.toNat, by omega⟩
        have HD1 : Hid (rdT r (i + 1) = rdT r i ||| rv) := by rw [rdT, if_neg (by rw [hev]; decide), hrv]; rfl
        rw [hrv] at y3 hrd
        have hor := u8_or_nat (rdT r i) rv hdl (by omega)
        have hat := ask_at hlt hev G
        rw [← HP.out] at hat
        have q1 := askedIs_any a1 a2 W.length c1 c2 D g1 g2 G n (askT r i).length i W P wr (H4.out.below HBM.out).spl hat.1 hlt hat.2
        unfold sval at q1
        obtain ⟨x0, x1, x2, -, -, -⟩ := cells_S (H4.out.below HBM.out).blk
        have hjP : (askT r i).length < P.length := hat.1
        generalize (askT r i).length = la at *
        generalize rdT r i = rd at *
        have hjP' : ¬ P.length ≤ la := by omega
        clear hat hev hrv
        go_wp2_with fail
        refine q1.mono ?_
        clear q1 x0 x1 x2
        rintro e w9 ⟨rfl, hb9⟩
        have HB9 : Hid (Below w0.heap.size w0 w9) := HBM.out.trans (hb9.mono HBM.out.size)
        have z3 := (hb9.cell (p := ⟨b, o + i * 6 + 3, none⟩) (by show b < _; exact (HRR.out.below HBM.out).lt (by omega))).trans y3
        clear hb9 y2 y3
        go_wp2_with fail
        go_roundw
        case rel => exact ⟨i + 1, by omega, by rw [HA1.out]; go_num, by rw [HD1.out], by go_num, HB9.out⟩
        case measure => simp [intOf]; omega
      · rw [hev] at y2
        have HA1 : Hid ((askT r (i + 1)).length = (askT r i).length) := by rw [askT, if_pos hev]; rfl
        have HD1 : Hid (rdT r (i + 1) = rdT r i) := by rw [rdT, if_pos hev]; rfl
        generalize (askT r i).length = la at *
        generalize rdT r i = rd at *
        clear hev
        go_wp2_with fail
        go_roundw
        case rel => exact ⟨i + 1, by omega, by rw [HA1.out], by rw [HD1.out], by go_num, HBM.out⟩
        case measure => simp [intOf]; omega
    · obtain rfl : n = i := by omega
      have HPN : Hid ((askT r n).length = P.length) := by rw [HP.out, adr, List.length_map]; rfl
      rw [HPN.out, ← HD.out]
      clear ix
      obtain ⟨x0, x1, x2, -, -, -⟩ := cells_S (H4.out.below HBM.out).blk
      have q1 := reads_any a1 a2 W.length c1 P.length c2 D wr
      unfold sval at q1
      go_wp2_with fail
      refine q1.mono ?_
      clear q1 x0 x1 x2
      rintro e w9 ⟨rfl, hb9⟩
      have HB9 : Hid (Below w0.heap.size w0 w9) := HBM.out.trans (hb9.mono HBM.out.size)
      clear hb9
      go_upto_region 22 with fail
      rename_i K hK
      have HK := hideM hK
      clear hK
      obtain ⟨x0, x1, x2, -, -, -⟩ := cells_S (H4.out.below HB9.out).blk
      have q1 := everyLen_any a1 a2 W.length c1 P.length c2 D w9
      unfold sval at q1
      go_wp2_with fail
      refine q1.mono ?_
      clear q1 x0 x1 x2
      rintro e w10 ⟨rfl, hb9⟩
      have HB10 : Hid (Below w0.heap.size w0 w10) := HB9.out.trans (hb9.mono HB9.out.size)
      clear hb9
      go_wp2_with fail
      exact HK.out _ _ (modelC a n c b o r w w10 v4 a1 c1 g1 a2 c2 g2 W P D _ _ _ _ _ _ _ _ _ _ _ _ _ _ _ _ _ _ _ _ _ _ _ _ _ _ _ _ _ _ _ _ _ _ _ _ _ _ _ _ _ _ _ _ _ _ _ _ _ _ _ _ _ _ _ _ _ _ _ _ _ _ _ _ _ _ _ _ _ _ _ _ _ _ _ _ _ _ _ _ _ _ _ _ _ _ _ _ _ _ _ _ _ _ _ _ _ _ _ _ _ _ _ _ _ _ _ _ _ _ _ _ _ _ _ _ _ _ _ _ _ _ _ _ _ _ _ _ _ _ _ _ _ _ _ _ _ _ _ _ _ _ _ _ _ _ _ _ _ _ _ _ _ _ _ _ _ _ _ _ _ _ _ _ _ _ _ hn (HB.out.trans (HB10.out.mono HB.out.size)) (H4.out.below HB10.out) (HRR.out.below HB10.out) HRK HW hWn)

end Go.Proofs.Qxb6618784a.Sp
