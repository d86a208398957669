/-
  b1MatchesModel (22), walked: it says yes.
-/
import Derived.Test.Qxb6618997aLkEnv
import Derived.Test.Qxb6618997aLkGive2
import Derived.Lib.Builder
namespace Go.Proofs.Qxb6618997a.Lk
open Go.RowKit Go.WideMaps Go.Maps

/-- What was collected, read. -/
structure Got (w : World) (a : Option Addr) (n g : Nat) (l : List Nat) : Prop where
  nn : n = l.length
  aa : 0 < n → a = some ⟨g, 0, none⟩
  c : ∀ k r, l[k]? = some r → w.cell? ⟨g, k, none⟩ = some (.pointer (some ⟨r, 0, none⟩))
  lt : 0 < n → g < w.heap.size

/-- The slices that the model reads. -/
structure Ins (D : Data) (X : Adr) (w : World) (a3 : Option Addr) (c3 b3 o3 : Nat) (a4 : Option Addr) (c4 b4 o4 : Nat) (a6 : Option Addr) (c6 b6 o6 : Nat) (a8 : Option Addr) (c8 b8 o8 : Nat) : Prop where
  h3 : Pool w a3 D.np c3 b3 o3 D.P
  h4 : Bnds w a4 D.nb c4 b4 o4 D.B X.pn X.px
  h6 : Kps w a6 D.nf c6 b6 o6 D.K
  h8 : Ints 35 .i64 w a8 D.nr c8 b8 o8 D.R
theorem Ins.below {D : Data} {X : Adr} {w w' : World} {a3 : Option Addr} {c3 b3 o3 : Nat} {a4 : Option Addr} {c4 b4 o4 : Nat} {a6 : Option Addr} {c6 b6 o6 : Nat} {a8 : Option Addr} {c8 b8 o8 : Nat} (h : Ins D X w a3 c3 b3 o3 a4 c4 b4 o4 a6 c6 b6 o6 a8 c8 b8 o8) (hw : Below w.heap.size w w') : Ins D X w' a3 c3 b3 o3 a4 c4 b4 o4 a6 c6 b6 o6 a8 c8 b8 o8 := ⟨h.h3.below hw, h.h4.below hw, h.h6.below hw, h.h8.below hw⟩

theorem neq_same (a : Addr) (w : World) : (binOp .neq 55 (.pointer (some a)) (.pointer (some a))).run Try.prog w = .ok (.bool false) w := by
  obtain ⟨q, hq, -⟩ := info110
  exact Lib.run_neq_ptr_same w a Try.underlying55 hq

theorem all_at {D : Data} {X : Adr} {w : World} {a : Option Addr} {n g : Nat} (h : Got w a n g (offs D X D.ask.all)) {l : List Nat} {x : Nat} (hp : l ++ [x] <+: D.ask.all) : l.length < n ∧ w.cell? ⟨g, l.length, none⟩ = some (.pointer (some ⟨X.ra (D.role x), 0, none⟩)) := by
  obtain ⟨h1, h2⟩ := next hp
  refine ⟨by rw [h.nn, offs_length]; exact h1, h.c _ _ ?_⟩
  rw [offs, List.getElem?_map, h2]
  rfl

/-- b1Gives at role r of the pool and binding j. -/
theorem givesAt {D : Data} {pn px : Option Addr} {j : Nat} {u : World} (h1 : Says u pn (D.B j).nb) (h2 : Says u px (D.B j).ex) (z : Int) : Calls Try.prog 24 #[.int .i64 D.t, .string D.pk, .string D.pm, .agg #[.int .i32 (D.P (D.role j)).place, .string (D.P (D.role j)).ik, .string (D.P (D.role j)).inn], .agg #[.int .i64 z, .pointer pn, .pointer px]] u fun e w' => e = .returned (.bool (D.g j)) ∧ Below u.heap.size u w' :=
  b1Gives_any D.t D.pk D.pm (D.P (D.role j)).place z (D.P (D.role j)).ik (D.P (D.role j)).inn pn px (D.B j).nb (D.B j).ex u h1 h2

set_option maxHeartbeats 8000000 in
set_option maxRecDepth 100000 in
theorem model_any (D : Data) (X : Adr) (ok : Ok D) (w : World) (E : Env D X w) (a3 : Option Addr) (c3 b3 o3 : Nat) (a4 : Option Addr) (c4 b4 o4 : Nat) (a6 : Option Addr) (c6 b6 o6 : Nat) (a8 : Option Addr) (c8 b8 o8 : Nat) (I : Ins D X w a3 c3 b3 o3 a4 c4 b4 o4 a6 c6 b6 o6 a8 c8 b8 o8) (ag : Option Addr) (ng cg gg : Nat) (hG : Got w ag ng gg (offs D X D.ask.all))
    (i32 : ∀ (q : Nat) (w' : World), q < D.nb → (Instr.indexAt 32 (.slice a4 D.nb c4) (.int .i32 (q : Int))).run Try.prog w' = .ok (.pointer (some ⟨b4, o4 + q * 3, none⟩)) w') :
    Calls Try.prog 22 #[.slice ag ng cg, .slice (some ⟨X.gp, 0, none⟩) D.np D.np, .int .i64 D.t, .string D.pk, .string D.pm, .slice a3 D.np c3, .slice a4 D.nb c4, .bool D.ix, .slice a6 D.nf c6, .slice X.a7 D.nw X.c7, .slice a8 D.nr c8, .slice X.a9 D.ns X.c9] w fun e w' => e = .returned (.bool true) ∧ Below w.heap.size w w' := by
  have s0 := ok.np
  have s1 := ok.nb
  have s2 := ok.nf
  have s3 := ok.nw
  have s4 := ok.nr
  have s5 := ok.ns
  have HOK : Hid (Ok D) := ok
  have HE : Hid (∀ u, Below w.heap.size w u → Env D X u) := fun u hu => E.below hu
  have HI : Hid (∀ u, Below w.heap.size w u → Ins D X u a3 c3 b3 o3 a4 c4 b4 o4 a6 c6 b6 o6 a8 c8 b8 o8) := fun u hu => I.below hu
  have HGA : Hid (0 < ng → ag = some ⟨gg, 0, none⟩) := hG.aa
  have HGN : Hid (ng = D.ask.all.length) := hG.nn.trans (offs_length D X _)
  have HG : Hid (∀ u, Below w.heap.size w u → ∀ (l : List Nat) (x : Nat), l ++ [x] <+: D.ask.all → l.length < ng ∧ u.cell? ⟨gg, l.length, none⟩ = some (.pointer (some ⟨X.ra (D.role x), 0, none⟩))) := fun u hu l x hp => by
    obtain ⟨h1, h2⟩ := all_at hG hp
    exact ⟨h1, (hu.cell (p := ⟨gg, l.length, none⟩) (hG.lt (by omega))).trans h2⟩
  have H32 : Hid (∀ (q : Nat) (w' : World), q < D.nb → (Instr.indexAt 32 (.slice a4 D.nb c4) (.int .i32 (q : Int))).run Try.prog w' = .ok (.pointer (some ⟨b4, o4 + q * 3, none⟩)) w') := i32
  have hnl : ng ≤ 2098176 := by rw [HGN.out]; exact D.ask.len_all s1 s2 s3 s4 s5
  clear E I ok hG i32
  go_enter Try.func22, Try.ntmps22
  go_wp2_with fail
  go_loopw [25, 26] (fun x i wr => ∃ k : Nat, k ≤ D.nr ∧ i = .int .i64 k ∧ x = .int .i64 ((D.ask.a1 k).length : Nat) ∧ Below w.heap.size w wr) (fun _ i _ => D.nr - (intOf i).toNat)
  case atStart => exact ⟨0, Nat.zero_le _, rfl, rfl, Below.refl _ _⟩
  case round =>
    obtain ⟨k, hk, rfl, rfl, hbel⟩ := hrel
    obtain ⟨wA, rfl⟩ : ∃ u, u = wr := ⟨wr, rfl⟩
    have HBA : Hid (Below w.heap.size w wA) := hbel
    clear hbel
    by_cases hlt : k < D.nr
    · go_wp2_with fail
      go_loopw [25, 27] (fun x i wr => ∃ j : Nat, j ≤ D.nb ∧ i = .int .i64 j ∧ x = .int .i64 ((D.ask.d1 k j).length : Nat) ∧ Below w.heap.size w wr) (fun _ i _ => D.nb - (intOf i).toNat)
      case atStart => exact ⟨0, Nat.zero_le _, rfl, by rw [Ask.d1_zero], HBA.out⟩
      case round =>
        obtain ⟨j, hj, rfl, rfl, hbel⟩ := hrel
        obtain ⟨wB, rfl⟩ : ∃ u, u = wr := ⟨wr, rfl⟩
        have HBB : Hid (Below w.heap.size w wB) := hbel
        clear hbel
        by_cases hjl : j < D.nb
        · obtain ⟨hrl, hre⟩ := HOK.out.role hjl
          have ix4 := fun w' => (HI.out w (Below.refl _ _)).h4.idx j w' hjl
          have ix8 := fun w' => (HI.out w (Below.refl _ _)).h8.idx k w' hlt
          have ix3 := fun w' => (HI.out w (Below.refl _ _)).h3.idx (D.role j) w' hrl
          obtain ⟨r, HR⟩ : ∃ r, Hid (r = D.role j) := ⟨_, rfl⟩
          obtain ⟨y, HY⟩ : ∃ y, Hid (y = D.R k) := ⟨_, rfl⟩
          obtain ⟨l, HL⟩ : ∃ l : Nat, Hid (l = (D.ask.d1 k j).length) := ⟨_, rfl⟩
          rw [← HR.out] at hrl hre ix3
          rw [← HL.out]
          have HC : Hid (∀ u, Below w.heap.size w u → u.cell? ⟨b4, o4 + j * 3, none⟩ = some (.int .i64 (r : Int)) ∧ u.cell? ⟨b4, o4 + j * 3 + 1, none⟩ = some (.pointer (X.pn j)) ∧ u.cell? ⟨b4, o4 + j * 3 + 2, none⟩ = some (.pointer (X.px j)) ∧ u.cell? ⟨b8, o8 + k, none⟩ = some (.int .i64 y) ∧ u.cell? ⟨b3, o3 + r * 3, none⟩ = some (.int .i32 (D.P r).place) ∧ u.cell? ⟨b3, o3 + r * 3 + 1, none⟩ = some (.string (D.P r).ik) ∧ u.cell? ⟨b3, o3 + r * 3 + 2, none⟩ = some (.string (D.P r).inn)) := fun u hu => by
            have h := HI.out u hu
            exact ⟨(h.h4.c0 j hjl).trans (by rw [hre]), h.h4.c1 j hjl, h.h4.c2 j hjl, (h.h8.c0 k hlt).trans (by rw [HY.out]), h.h3.c0 r hrl, h.h3.c1 r hrl, h.h3.c2 r hrl⟩
          by_cases heq : (r : Int) = y
          · have HP : Hid (D.ask.p1 k j = D.g j) := by
              show (decide ((D.B j).role = D.R k) && D.g j) = D.g j
              rw [decide_eq_true (by rw [hre, heq, HY.out]), Bool.true_and]
            subst heq
            have H24 : Hid (∀ u, Below w.heap.size w u → Calls Try.prog 24 #[.int .i64 D.t, .string D.pk, .string D.pm, .agg #[.int .i32 (D.P r).place, .string (D.P r).ik, .string (D.P r).inn], .agg #[.int .i64 (r : Int), .pointer (X.pn j), .pointer (X.px j)]] u fun e w' => e = .returned (.bool (D.g j)) ∧ Below u.heap.size u w') := fun u hu => by
              have h := HE.out u hu
              rw [HR.out]
              exact givesAt (h.s1 j hjl) (h.s2 j hjl) _
            have HBD : Hid (Below w.heap.size w wB.drew) := HBB.out.drew
            clear hre
            go_wp2_with fail
            go_cut [72] (fun v wd => v = .bool (D.g j) ∧ Below w.heap.size w wd)
            case first =>
              go_region_held3 (fun u => u.cell? ⟨b4, o4 + j * 3, none⟩ = some (.int .i64 (r : Int)) ∧ u.cell? ⟨b4, o4 + j * 3 + 1, none⟩ = some (.pointer (X.pn j)) ∧ u.cell? ⟨b4, o4 + j * 3 + 2, none⟩ = some (.pointer (X.px j)) ∧ u.cell? ⟨b8, o8 + k, none⟩ = some (.int .i64 (r : Int)) ∧ u.cell? ⟨b3, o3 + r * 3, none⟩ = some (.int .i32 (D.P r).place) ∧ u.cell? ⟨b3, o3 + r * 3 + 1, none⟩ = some (.string (D.P r).ik) ∧ u.cell? ⟨b3, o3 + r * 3 + 2, none⟩ = some (.string (D.P r).inn))
                (first | with_reducible exact HC.out _ HBE.out | with_reducible exact HC.out _ HBD.out)
                (first | (go_at_call 24; refine (H24.out _ HBD.out).mono ?_; rintro e wa ⟨rfl, hba⟩; have HBE : Hid (Below w.heap.size w wa) := HBD.out.trans (hba.mono HBD.out.size); clear hba))
              all_goals
                go_wp2_with fail
                go_meet
                exact ⟨rfl, HBE.out⟩
            case rest =>
              obtain ⟨wC, rfl⟩ : ∃ u, u = wc := ⟨wc, rfl⟩
              obtain ⟨rfl, hbc⟩ := hcut
              have HBC : Hid (Below w.heap.size w wC) := hbc
              clear hbc H24 HBD
              cases hg : D.g j
              · have HS : Hid ((D.ask.d1 k (j + 1)).length = l) := by show (D.ask.d1 k (j + 1)).length = l; rw [Ask.d1_succ, HP.out, hg, HL.out]; simp
                clear hg HP
                go_wp2_with fail
                go_roundw
                case rel => exact ⟨j + 1, by omega, by go_num, by rw [HS.out], HBC.out⟩
                case measure => simp [intOf]; omega
              · have hsu : D.ask.d1 k (j + 1) = D.ask.d1 k j ++ [j] := by rw [Ask.d1_succ, HP.out, hg]; simp
                have HS : Hid ((D.ask.d1 k (j + 1)).length = l + 1) := by show (D.ask.d1 k (j + 1)).length = l + 1; rw [hsu, HL.out]; simp
                obtain ⟨hl, hcell⟩ := HG.out wC HBC.out (D.ask.d1 k j) j (by rw [← hsu]; exact D.ask.d1_all hlt hjl)
                rw [← HL.out] at hl hcell
                rw [← HR.out] at hcell
                obtain rfl := HGA.out (by omega)
                have hpt := (HE.out wC HBC.out).pt r hrl
                obtain ⟨y0, -⟩ := HC.out wC HBC.out
                have hd : decide ((ng : Int) ≤ (l : Int)) = false := by simp; omega
                have hneq := neq_same ⟨X.ra r, 0, none⟩
                clear hg HP hsu
                go_wp2_with fail
                go_quiet (fail)
                go_wp2_with fail
                go_roundw
                case rel => exact ⟨j + 1, by omega, by go_num, by rw [HS.out]; go_num, Below.drewN HBC.out _⟩
                case measure => simp [intOf]; omega
          · have HS : Hid ((D.ask.d1 k (j + 1)).length = l) := by
              have e : D.ask.p1 k j = false := by
                show (decide ((D.B j).role = D.R k) && D.g j) = false
                rw [decide_eq_false (by rw [hre, ← HY.out]; exact heq), Bool.false_and]
              show (D.ask.d1 k (j + 1)).length = l
              rw [Ask.d1_succ, e, HL.out]; simp
            obtain ⟨y0, -, -, y3, -⟩ := HC.out wB HBB.out
            have hd : ((r : Int) == y) = false := by simpa using heq
            clear hre HC
            go_wp2_with fail
            go_quiet (fail)
            go_wp2_with fail
            go_roundw
            case rel => exact ⟨j + 1, by omega, by go_num, by rw [HS.out], Below.drewN HBB.out _⟩
            case measure => simp [intOf]; omega
        · have HS : Hid ((D.ask.a1 (k + 1)).length = (D.ask.d1 k j).length) := by
            have e : j = D.nb := by omega
            rw [e, ← D.ask.d1_full]
            rfl
          go_wp2_with fail
          go_roundw
          case rel => exact ⟨k + 1, by omega, by go_num, by rw [HS.out], HBB.out⟩
          case measure => simp [intOf]; omega
    · obtain ⟨l, HL⟩ : ∃ l : Nat, Hid (l = (D.ask.a1 D.nr).length) := ⟨_, rfl⟩
      have ek : k = D.nr := by omega
      rw [show (D.ask.a1 k).length = l by rw [ek, HL.out]]
      cases hx : D.ix
      · have hnl2 : l = ng := by rw [HL.out, HGN.out, D.ask.all_no (.inl hx)]; rfl
        subst hnl2
        go_wp2_with fail
        go_ret
        exact ⟨by simp, HBA.out⟩
      · have HX : Hid (D.ix = true) := hx
        by_cases hns : D.ns = 0
        · have hnl2 : l = ng := by rw [HL.out, HGN.out, D.ask.all_no (.inr hns)]; rfl
          subst hnl2
          go_wp2_with fail
          go_ret
          exact ⟨by simp, HBA.out⟩
        · have hns2 : decide ((0 : Int) < (D.ns : Int)) = true := by simp; omega
          have HNS : Hid (¬ D.ns = 0) := hns
          go_wp2_with fail
          rw [show decide (0 < D.ns) = true by simp; omega]
          clear hns hx hlt hk ek
          go_loopw [25, 28] (fun x i wr => ∃ k : Nat, k ≤ D.ns ∧ i = .int .i64 k ∧ x = .int .i64 ((D.ask.a2 k).length : Nat) ∧ Below w.heap.size w wr) (fun _ i _ => D.ns - (intOf i).toNat)
          case atStart => exact ⟨0, Nat.zero_le _, rfl, by rw [Ask.a2_zero, HL.out]; rfl, HBA.out⟩
          case round =>
            clear hns2 HL HBA
            obtain ⟨k, hk, rfl, rfl, hbel⟩ := hrel
            obtain ⟨wA, rfl⟩ : ∃ u, u = wr := ⟨wr, rfl⟩
            have HBA : Hid (Below w.heap.size w wA) := hbel
            clear hbel
            by_cases hlt : k < D.ns
            · go_wp2_with fail
              go_loopw [25, 29] (fun x i wr => ∃ m : Nat, m ≤ D.nf ∧ i = .int .i64 m ∧ x = .int .i64 ((D.ask.d2 k m).length : Nat) ∧ Below w.heap.size w wr) (fun _ i _ => D.nf - (intOf i).toNat)
              case atStart => exact ⟨0, Nat.zero_le _, rfl, by rw [Ask.d2_zero], HBA.out⟩
              case round =>
                obtain ⟨m, hm, rfl, rfl, hbel⟩ := hrel
                obtain ⟨wB, rfl⟩ : ∃ u, u = wr := ⟨wr, rfl⟩
                have HBB : Hid (Below w.heap.size w wB) := hbel
                clear hbel
                by_cases hml : m < D.nf
                · have ix6 := fun w' => (HI.out w (Below.refl _ _)).h6.idx m w' hml
                  have ix9 := fun w' => (HE.out w (Below.refl _ _)).sh.idx k w' hlt
                  have hkr := HOK.out.pre.kr HX.out m hml
                  obtain ⟨q, HQ⟩ : ∃ q : Nat, Hid (q = (D.K m).place.toNat) := ⟨_, rfl⟩
                  have hq0 : (D.K m).place = (q : Int) := by have := HQ.out; omega
                  have hqn : q < D.nb := by omega
                  obtain ⟨x, HXX⟩ : ∃ x, Hid (x = (D.K m).key) := ⟨_, rfl⟩
                  obtain ⟨y, HY⟩ : ∃ y, Hid (y = D.S k) := ⟨_, rfl⟩
                  obtain ⟨l, HL⟩ : ∃ l : Nat, Hid (l = (D.ask.d2 k m).length) := ⟨_, rfl⟩
                  rw [← HL.out]
                  have HC6 : Hid (∀ u, Below w.heap.size w u → u.cell? ⟨b6, o6 + m * 2, none⟩ = some (.int .i32 x) ∧ u.cell? ⟨b6, o6 + m * 2 + 1, none⟩ = some (.int .i32 (q : Int)) ∧ u.cell? ⟨X.b9, X.o9 + k, none⟩ = some (.int .i32 y)) := fun u hu => by
                    have h := HI.out u hu
                    exact ⟨(h.h6.c0 m hml).trans (by rw [HXX.out]), (h.h6.c1 m hml).trans (by rw [hq0]), ((HE.out u hu).sh.c0 k hlt).trans (by rw [HY.out])⟩
                  obtain ⟨z0, z1, z2⟩ := HC6.out wB HBB.out
                  clear hkr hq0
                  by_cases heq : x = y
                  · have HP : Hid (D.ask.p2 k m = D.g q ∧ D.ask.pl m = q) := by
                      have e1 : D.ask.pl m = q := HQ.out.symm
                      refine ⟨?_, e1⟩
                      show (decide ((D.K m).key = D.S k) && D.g (D.ask.pl m)) = D.g q
                      rw [decide_eq_true (by rw [← HXX.out, ← HY.out, heq]), Bool.true_and, e1]
                    subst heq
                    go_wp2_with fail
                    go_quiet (fail)
                    generalize hwq : wB.drewN nq = wQ
                    have HBQ : Hid (Below w.heap.size w wQ) := by rw [← hwq]; exact Below.drewN HBB.out nq
                    clear hwq z0 z1 z2 HBB
                    obtain ⟨z0, z1, z2⟩ := HC6.out wQ HBQ.out
                    obtain ⟨hrl, hre⟩ := HOK.out.role hqn
                    have ix3 := fun w' => (HI.out w (Below.refl _ _)).h3.idx (D.role q) w' hrl
                    have ix4 := fun w' => H32.out q w' hqn
                    obtain ⟨r, HR⟩ : ∃ r, Hid (r = D.role q) := ⟨_, rfl⟩
                    rw [← HR.out] at hrl hre ix3
                    have HC : Hid (∀ u, Below w.heap.size w u → u.cell? ⟨b4, o4 + q * 3, none⟩ = some (.int .i64 (r : Int)) ∧ u.cell? ⟨b4, o4 + q * 3 + 1, none⟩ = some (.pointer (X.pn q)) ∧ u.cell? ⟨b4, o4 + q * 3 + 2, none⟩ = some (.pointer (X.px q)) ∧ u.cell? ⟨b3, o3 + r * 3, none⟩ = some (.int .i32 (D.P r).place) ∧ u.cell? ⟨b3, o3 + r * 3 + 1, none⟩ = some (.string (D.P r).ik) ∧ u.cell? ⟨b3, o3 + r * 3 + 2, none⟩ = some (.string (D.P r).inn)) := fun u hu => by
                      have h := HI.out u hu
                      exact ⟨(h.h4.c0 q hqn).trans (by rw [hre]), h.h4.c1 q hqn, h.h4.c2 q hqn, h.h3.c0 r hrl, h.h3.c1 r hrl, h.h3.c2 r hrl⟩
                    have H24 : Hid (∀ u, Below w.heap.size w u → Calls Try.prog 24 #[.int .i64 D.t, .string D.pk, .string D.pm, .agg #[.int .i32 (D.P r).place, .string (D.P r).ik, .string (D.P r).inn], .agg #[.int .i64 (r : Int), .pointer (X.pn q), .pointer (X.px q)]] u fun e w' => e = .returned (.bool (D.g q)) ∧ Below u.heap.size u w') := fun u hu => by
                      have h := HE.out u hu
                      rw [HR.out]
                      exact givesAt (h.s1 q hqn) (h.s2 q hqn) _
                    obtain ⟨y0, y1, y2, -⟩ := HC.out wQ HBQ.out
                    clear hre
                    go_wp2_with fail
                    generalize hw1 : wQ.alloc (Obj.cells #[.int .i64 (r : Int), .pointer (X.pn q), .pointer (X.px q)] 58) = w1
                    have HB1 : Hid (Below w.heap.size w w1) := by rw [← hw1]; exact HBQ.out.alloc HBQ.out.size _
                    have HX1 : Hid (w1.heap[wQ.heap.size]? = some (.cells #[.int .i64 (r : Int), .pointer (X.pn q), .pointer (X.px q)] 58)) := by rw [← hw1]; exact heap_alloc_new wQ _
                    have HSZ : Hid (wQ.heap.size < w1.heap.size) := lt_of_heap HX1.out
                    clear hw1 y0 y1 y2
                    have HK : Hid (∀ u, Below w1.heap.size w1 u → u.cell? ⟨wQ.heap.size, 0, none⟩ = some (.int .i64 (r : Int)) ∧ u.cell? ⟨wQ.heap.size, 1, none⟩ = some (.pointer (X.pn q)) ∧ u.cell? ⟨wQ.heap.size, 2, none⟩ = some (.pointer (X.px q)) ∧ u.cell? ⟨b3, o3 + r * 3, none⟩ = some (.int .i32 (D.P r).place) ∧ u.cell? ⟨b3, o3 + r * 3 + 1, none⟩ = some (.string (D.P r).ik) ∧ u.cell? ⟨b3, o3 + r * 3 + 2, none⟩ = some (.string (D.P r).inn)) := fun u hu => by
                      obtain ⟨-, -, -, e3, e4, e5⟩ := HC.out u (HB1.out.trans (hu.mono HB1.out.size))
                      have hb := (hu.block _ HSZ.out).trans HX1.out
                      refine ⟨?_, ?_, ?_, e3, e4, e5⟩ <;> simp [World.cell?, hb]
                    have HBD : Hid (Below w1.heap.size w1 w1.drew) := (Below.refl _ _).drew
                    go_cut [139] (fun v wd => v = .bool (D.g q) ∧ Below w1.heap.size w1 wd)
                    case first =>
                      go_region_held3 (fun u => u.cell? ⟨wQ.heap.size, 0, none⟩ = some (.int .i64 (r : Int)) ∧ u.cell? ⟨wQ.heap.size, 1, none⟩ = some (.pointer (X.pn q)) ∧ u.cell? ⟨wQ.heap.size, 2, none⟩ = some (.pointer (X.px q)) ∧ u.cell? ⟨b3, o3 + r * 3, none⟩ = some (.int .i32 (D.P r).place) ∧ u.cell? ⟨b3, o3 + r * 3 + 1, none⟩ = some (.string (D.P r).ik) ∧ u.cell? ⟨b3, o3 + r * 3 + 2, none⟩ = some (.string (D.P r).inn))
                        (first | with_reducible exact HK.out _ HBE.out | with_reducible exact HK.out _ HBD.out)
                        (first | (go_at_call 24; refine (H24.out _ (HB1.out.trans (HBD.out.mono HB1.out.size))).mono ?_; rintro e wa ⟨rfl, hba⟩; have HBE : Hid (Below w1.heap.size w1 wa) := HBD.out.trans (hba.mono HBD.out.size); clear hba))
                      all_goals
                        go_wp2_with fail
                        go_meet
                        exact ⟨rfl, HBE.out⟩
                    case rest =>
                      obtain ⟨wC, rfl⟩ : ∃ u, u = wc := ⟨wc, rfl⟩
                      obtain ⟨rfl, hbc⟩ := hcut
                      have HBC1 : Hid (Below w1.heap.size w1 wC) := hbc
                      have HBC : Hid (Below w.heap.size w wC) := HB1.out.trans (hbc.mono HB1.out.size)
                      clear hbc H24 HBD
                      cases hg : D.g q
                      · have HS : Hid ((D.ask.d2 k (m + 1)).length = l) := by show (D.ask.d2 k (m + 1)).length = l; rw [Ask.d2_succ, HP.out.1, hg, HL.out]; simp
                        clear hg HP
                        go_wp2_with fail
                        go_roundw
                        case rel => exact ⟨m + 1, by omega, by go_num, by rw [HS.out], HBC.out⟩
                        case measure => simp [intOf]; omega
                      · have hsu : (D.ask.d2 k (m + 1)) = (D.ask.d2 k m) ++ [q] := by rw [Ask.d2_succ, HP.out.1, hg, HP.out.2]; simp
                        have HS : Hid ((D.ask.d2 k (m + 1)).length = l + 1) := by show (D.ask.d2 k (m + 1)).length = l + 1; rw [hsu, HL.out]; simp
                        obtain ⟨hl, hcell⟩ := HG.out wC HBC.out (D.ask.d2 k m) q (by rw [← hsu]; exact D.ask.d2_all HX.out HNS.out hlt hml)
                        rw [← HL.out] at hl hcell
                        rw [← HR.out] at hcell
                        obtain rfl := HGA.out (by omega)
                        have hpt := (HE.out wC HBC.out).pt r hrl
                        obtain ⟨y0, -⟩ := HK.out wC HBC1.out
                        have hd : decide ((ng : Int) ≤ (l : Int)) = false := by simp; omega
                        have hneq := neq_same ⟨X.ra r, 0, none⟩
                        clear hg HP hsu
                        go_wp2_with fail
                        go_quiet (fail)
                        go_wp2_with fail
                        go_roundw
                        case rel => exact ⟨m + 1, by omega, by go_num, by rw [HS.out]; go_num, Below.drewN HBC.out _⟩
                        case measure => simp [intOf]; omega
                  · have HS : Hid ((D.ask.d2 k (m + 1)).length = l) := by
                      have e : D.ask.p2 k m = false := by
                        show (decide ((D.K m).key = D.S k) && D.g (D.ask.pl m)) = false
                        rw [decide_eq_false (by rw [← HXX.out, ← HY.out]; exact heq), Bool.false_and]
                      show (D.ask.d2 k (m + 1)).length = l
                      rw [Ask.d2_succ, e, HL.out]; simp
                    have hd : (x == y) = false := by simpa using heq
                    go_wp2_with fail
                    go_quiet (fail)
                    go_wp2_with fail
                    go_roundw
                    case rel => exact ⟨m + 1, by omega, by go_num, by rw [HS.out], Below.drewN HBB.out _⟩
                    case measure => simp [intOf]; omega
                · have HS : Hid ((D.ask.a2 (k + 1)).length = (D.ask.d2 k m).length) := by
                    have e : m = D.nf := by omega
                    rw [e, ← D.ask.d2_full]
                    rfl
                  go_wp2_with fail
                  go_roundw
                  case rel => exact ⟨k + 1, by omega, by go_num, by rw [HS.out], HBB.out⟩
                  case measure => simp [intOf]; omega
            · obtain ⟨l, HL⟩ : ∃ l : Nat, Hid (l = (D.ask.a2 D.ns).length) := ⟨_, rfl⟩
              have ek : k = D.ns := by omega
              rw [show (D.ask.a2 k).length = l by rw [ek, HL.out]]
              go_wp2_with fail
              clear hlt hk ek
              go_loopw [25, 31] (fun x i wr => ∃ k : Nat, k ≤ D.nw ∧ i = .int .i64 k ∧ x = .int .i64 ((D.ask.a3 k).length : Nat) ∧ Below w.heap.size w wr) (fun _ i _ => D.nw - (intOf i).toNat)
              case atStart => exact ⟨0, Nat.zero_le _, rfl, by rw [Ask.a3_zero, HL.out]; rfl, HBA.out⟩
              case round =>
                clear HL HBA
                obtain ⟨k, hk, rfl, rfl, hbel⟩ := hrel
                obtain ⟨wQ, rfl⟩ : ∃ u, u = wr := ⟨wr, rfl⟩
                have HBQ : Hid (Below w.heap.size w wQ) := hbel
                clear hbel
                obtain ⟨l, HL⟩ : ∃ l : Nat, Hid (l = (D.ask.a3 k).length) := ⟨_, rfl⟩
                rw [← HL.out]
                by_cases hlt : k < D.nw
                · have ix7 := fun w' => (HE.out w (Below.refl _ _)).wi.idx k w' hlt
                  have hwr := HOK.out.pre.wr HX.out k hlt
                  obtain ⟨q, HQ⟩ : ∃ q : Nat, Hid (q = (D.W k).toNat) := ⟨_, rfl⟩
                  have hq0 : D.W k = (q : Int) := by have := HQ.out; omega
                  have hqn : q < D.nb := by omega
                  have z7 := (HE.out wQ HBQ.out).wi.c0 k hlt
                  rw [hq0] at z7
                  have HP : Hid (D.ask.p3 k = D.g q ∧ D.ask.wl k = q) := by
                    have e1 : D.ask.wl k = q := HQ.out.symm
                    refine ⟨?_, e1⟩
                    show D.g (D.ask.wl k) = D.g q
                    rw [e1]
                  clear hwr hq0
                  obtain ⟨hrl, hre⟩ := HOK.out.role hqn
                  have ix3 := fun w' => (HI.out w (Below.refl _ _)).h3.idx (D.role q) w' hrl
                  have ix4 := fun w' => H32.out q w' hqn
                  obtain ⟨r, HR⟩ : ∃ r, Hid (r = D.role q) := ⟨_, rfl⟩
                  rw [← HR.out] at hrl hre ix3
                  have HC : Hid (∀ u, Below w.heap.size w u → u.cell? ⟨b4, o4 + q * 3, none⟩ = some (.int .i64 (r : Int)) ∧ u.cell? ⟨b4, o4 + q * 3 + 1, none⟩ = some (.pointer (X.pn q)) ∧ u.cell? ⟨b4, o4 + q * 3 + 2, none⟩ = some (.pointer (X.px q)) ∧ u.cell? ⟨b3, o3 + r * 3, none⟩ = some (.int .i32 (D.P r).place) ∧ u.cell? ⟨b3, o3 + r * 3 + 1, none⟩ = some (.string (D.P r).ik) ∧ u.cell? ⟨b3, o3 + r * 3 + 2, none⟩ = some (.string (D.P r).inn)) := fun u hu => by
                    have h := HI.out u hu
                    exact ⟨(h.h4.c0 q hqn).trans (by rw [hre]), h.h4.c1 q hqn, h.h4.c2 q hqn, h.h3.c0 r hrl, h.h3.c1 r hrl, h.h3.c2 r hrl⟩
                  have H24 : Hid (∀ u, Below w.heap.size w u → Calls Try.prog 24 #[.int .i64 D.t, .string D.pk, .string D.pm, .agg #[.int .i32 (D.P r).place, .string (D.P r).ik, .string (D.P r).inn], .agg #[.int .i64 (r : Int), .pointer (X.pn q), .pointer (X.px q)]] u fun e w' => e = .returned (.bool (D.g q)) ∧ Below u.heap.size u w') := fun u hu => by
                    have h := HE.out u hu
                    rw [HR.out]
                    exact givesAt (h.s1 q hqn) (h.s2 q hqn) _
                  obtain ⟨y0, y1, y2, -⟩ := HC.out wQ HBQ.out
                  clear hre
                  go_wp2_with fail
                  generalize hw1 : wQ.alloc (Obj.cells #[.int .i64 (r : Int), .pointer (X.pn q), .pointer (X.px q)] 58) = w1
                  have HB1 : Hid (Below w.heap.size w w1) := by rw [← hw1]; exact HBQ.out.alloc HBQ.out.size _
                  have HX1 : Hid (w1.heap[wQ.heap.size]? = some (.cells #[.int .i64 (r : Int), .pointer (X.pn q), .pointer (X.px q)] 58)) := by rw [← hw1]; exact heap_alloc_new wQ _
                  have HSZ : Hid (wQ.heap.size < w1.heap.size) := lt_of_heap HX1.out
                  clear hw1 y0 y1 y2
                  have HK : Hid (∀ u, Below w1.heap.size w1 u → u.cell? ⟨wQ.heap.size, 0, none⟩ = some (.int .i64 (r : Int)) ∧ u.cell? ⟨wQ.heap.size, 1, none⟩ = some (.pointer (X.pn q)) ∧ u.cell? ⟨wQ.heap.size, 2, none⟩ = some (.pointer (X.px q)) ∧ u.cell? ⟨b3, o3 + r * 3, none⟩ = some (.int .i32 (D.P r).place) ∧ u.cell? ⟨b3, o3 + r * 3 + 1, none⟩ = some (.string (D.P r).ik) ∧ u.cell? ⟨b3, o3 + r * 3 + 2, none⟩ = some (.string (D.P r).inn)) := fun u hu => by
                    obtain ⟨-, -, -, e3, e4, e5⟩ := HC.out u (HB1.out.trans (hu.mono HB1.out.size))
                    have hb := (hu.block _ HSZ.out).trans HX1.out
                    refine ⟨?_, ?_, ?_, e3, e4, e5⟩ <;> simp [World.cell?, hb]
                  have HBD : Hid (Below w1.heap.size w1 w1.drew) := (Below.refl _ _).drew
                  go_cut [180] (fun v wd => v = .bool (D.g q) ∧ Below w1.heap.size w1 wd)
                  case first =>
                    go_region_held3 (fun u => u.cell? ⟨wQ.heap.size, 0, none⟩ = some (.int .i64 (r : Int)) ∧ u.cell? ⟨wQ.heap.size, 1, none⟩ = some (.pointer (X.pn q)) ∧ u.cell? ⟨wQ.heap.size, 2, none⟩ = some (.pointer (X.px q)) ∧ u.cell? ⟨b3, o3 + r * 3, none⟩ = some (.int .i32 (D.P r).place) ∧ u.cell? ⟨b3, o3 + r * 3 + 1, none⟩ = some (.string (D.P r).ik) ∧ u.cell? ⟨b3, o3 + r * 3 + 2, none⟩ = some (.string (D.P r).inn))
                      (first | with_reducible exact HK.out _ HBE.out | with_reducible exact HK.out _ HBD.out)
                      (first | (go_at_call 24; refine (H24.out _ (HB1.out.trans (HBD.out.mono HB1.out.size))).mono ?_; rintro e wa ⟨rfl, hba⟩; have HBE : Hid (Below w1.heap.size w1 wa) := HBD.out.trans (hba.mono HBD.out.size); clear hba))
                    all_goals
                      go_wp2_with fail
                      go_meet
                      exact ⟨rfl, HBE.out⟩
                  case rest =>
                    obtain ⟨wC, rfl⟩ : ∃ u, u = wc := ⟨wc, rfl⟩
                    obtain ⟨rfl, hbc⟩ := hcut
                    have HBC1 : Hid (Below w1.heap.size w1 wC) := hbc
                    have HBC : Hid (Below w.heap.size w wC) := HB1.out.trans (hbc.mono HB1.out.size)
                    clear hbc H24 HBD
                    cases hg : D.g q
                    · have HS : Hid ((D.ask.a3 (k + 1)).length = l) := by show (D.ask.a3 (k + 1)).length = l; rw [Ask.a3_succ, HP.out.1, hg, HL.out]; simp
                      clear hg HP
                      go_wp2_with fail
                      go_roundw
                      case rel => exact ⟨k + 1, by omega, by go_num, by rw [HS.out], HBC.out⟩
                      case measure => simp [intOf]; omega
                    · have hsu : (D.ask.a3 (k + 1)) = (D.ask.a3 k) ++ [q] := by rw [Ask.a3_succ, HP.out.1, hg, HP.out.2]; simp
                      have HS : Hid ((D.ask.a3 (k + 1)).length = l + 1) := by show (D.ask.a3 (k + 1)).length = l + 1; rw [hsu, HL.out]; simp
                      obtain ⟨hl, hcell⟩ := HG.out wC HBC.out (D.ask.a3 k) q (by rw [← hsu]; exact D.ask.a3_all HX.out HNS.out hlt)
                      rw [← HL.out] at hl hcell
                      rw [← HR.out] at hcell
                      obtain rfl := HGA.out (by omega)
                      have hpt := (HE.out wC HBC.out).pt r hrl
                      obtain ⟨y0, -⟩ := HK.out wC HBC1.out
                      have hd : decide ((ng : Int) ≤ (l : Int)) = false := by simp; omega
                      have hneq := neq_same ⟨X.ra r, 0, none⟩
                      clear hg HP hsu
                      go_wp2_with fail
                      go_quiet (fail)
                      go_wp2_with fail
                      go_roundw
                      case rel => exact ⟨k + 1, by omega, by go_num, by rw [HS.out]; go_num, Below.drewN HBC.out _⟩
                      case measure => simp [intOf]; omega
                · have hnl2 : l = ng := by
                    have e : k = D.nw := by omega
                    rw [HL.out, HGN.out, D.ask.all_yes HX.out HNS.out, e]
                    rfl
                  subst hnl2
                  go_wp2_with fail
                  go_ret
                  exact ⟨by simp, HBQ.out⟩

end Go.Proofs.Qxb6618997a.Lk
