/-
  lookUp (32), walked: it offers what the plain law says.
-/
import Derived.Test.Qxb6618997aLkEnv
namespace Go.Proofs.Qxb6618997a.Lk
open Go.RowKit Go.WideMaps Go.Maps

theorem endr {fn : Func} {R : Ending → World → Prop} {a : Act} {w : World} (hr : fn.results = #[]) (hd : a.defers = []) (hR : R (.returned (.tuple #[])) w) : bodyPost Try.prog fn R .ret a w :=
  bodyPost_ret (v := .tuple #[]) (by simp [results, hr, go_sem]) hd hR

/-- offerGiven at binding j. -/
theorem offerAt {D : Data} {X : Adr} (ok : Ok D) {u : World} (E : Env D X u) {gh gq c base : Nat} (hH : Held u gh gq D.t D.pk D.pm) {j : Nat} (hj : j < D.nb) {l : List Nat} (hL : LI c base (offs D X l) u) (hc : c < base) (hb : base ≤ u.heap.size) (hl : l.length ≤ 4000000) :
    Calls Try.prog 38 #[.pointer (some ⟨gh, 0, none⟩), .agg #[.pointer (some ⟨X.ra (D.role j), 0, none⟩), .int .i32 (D.P (D.role j)).place, .int .i32 0, .pointer (X.pn j), .pointer (X.px j)], .func (.func 33) #[] #[.pointer (some ⟨c, 0, none⟩)]] u fun e w' => e = .returned (.tuple #[]) ∧ LI c base (offs D X (l ++ if D.g j = true then [j] else [])) w' ∧ Below c u w' ∧ Far c base u w' := by
  obtain ⟨h1, -⟩ := ok.role hj
  have hb1 := E.rb _ h1
  obtain ⟨-, c4, c5⟩ := role_cells hb1
  refine (offer_any gh gq c base (X.ra (D.role j)) D.t (D.P (D.role j)).place D.pk D.pm (D.P (D.role j)).ik (D.P (D.role j)).inn (X.pn j) (X.px j) (D.B j).nb (D.B j).ex (offs D X l) u hH c4 c5 (lt_of_heap hb1) (E.s1 j hj) (E.s2 j hj) hL hc hb (by rw [offs_length]; exact hl)).mono ?_
  rintro e w' ⟨h, h2, h3, h4⟩
  refine ⟨h, ?_, h3, h4⟩
  rw [offs_append]
  have e1 : D.g j = giv D.t D.pk D.pm (D.P (D.role j)).ik (D.P (D.role j)).inn (D.B j).nb (D.B j).ex := rfl
  rw [e1]
  cases hg : giv D.t D.pk D.pm (D.P (D.role j)).ik (D.P (D.role j)).inn (D.B j).nb (D.B j).ex
  · rw [hg] at h2
    exact h2
  · rw [hg] at h2
    exact h2

/-- What stands in the midst of lookUp. -/
def St (D : Data) (X : Adr) (w1 : World) (c : Nat) (l : List Nat) (u : World) : Prop := LI c w1.heap.size (offs D X l) u ∧ Below c w1 u ∧ Far c w1.heap.size w1 u
theorem St.below {D : Data} {X : Adr} {w1 : World} {c : Nat} {l : List Nat} {u v : World} (h : St D X w1 c l u) (hc : c < w1.heap.size) (hw : Below u.heap.size u v) : St D X w1 c l v :=
  ⟨h.1.below hw, h.2.1.trans (hw.mono (by have := h.2.1.size; omega)), h.2.2.trans (far_of hw h.2.1.size)⟩
theorem St.next {D : Data} {X : Adr} {w1 : World} {c : Nat} {l l' : List Nat} {u v : World} (h : St D X w1 c l u) (h1 : LI c w1.heap.size (offs D X l') v) (h2 : Below c u v) (h3 : Far c w1.heap.size u v) : St D X w1 c l' v := ⟨h1, h.2.1.trans h2, h.2.2.trans h3⟩

theorem p1_iff {D : Data} (ok : Ok D) {i j : Nat} (hi : i < D.nr) (hj : j < D.nb) : (D.ask.p1 i j) = (decide (D.role j = (D.R i).toNat) && D.g j) := by
  obtain ⟨-, h1⟩ := ok.role hj
  obtain ⟨-, h2⟩ := ok.rr hi
  show (decide ((D.B j).role = D.R i) && D.g j) = _
  have h3 : ((D.B j).role = D.R i) ↔ D.role j = (D.R i).toNat := by omega
  simp only [h3]

set_option maxHeartbeats 8000000 in
set_option maxRecDepth 100000 in
theorem lookUp_any (D : Data) (X : Adr) (ok : Ok D) (w0 w : World) (E : Env D X w0) (gh gq c : Nat) (hH : Held w0 gh gq D.t D.pk D.pm) (hw : Below w0.heap.size w0 w) (hc0 : w0.heap.size ≤ c) (hcell : w.heap[c]? = some (.cells #[.slice none 0 0] 41 (0, 0))) (pi : Option Addr) (hpi : pi = if D.ix = true then some ⟨X.gi, 0, none⟩ else none) :
    Calls Try.prog 32 #[.pointer (some ⟨gh, 0, none⟩), .agg #[.slice (some ⟨X.gl, 0, none⟩) D.nb D.nb, .pointer pi], .slice (some ⟨X.gr, 0, none⟩) D.nr D.nr, .slice X.a9 D.ns X.c9, .func (.func 33) #[] #[.pointer (some ⟨c, 0, none⟩)]] w fun e w' => e = .returned (.tuple #[]) ∧ (∃ base, LI c base (offs D X D.ask.all) w') ∧ Below c w w' := by
  have hcl : c < w.heap.size := lt_of_heap hcell
  have HOK : Hid (Ok D) := ok
  have s1 := ok.nb
  have s2 := ok.nf
  have s3 := ok.nw
  have s4 := ok.nr
  have s5 := ok.ns
  have HPI : Hid (pi = if D.ix = true then some ⟨X.gi, 0, none⟩ else none) := hpi
  have HW1 : Hid (∀ w1, w1 = w.alloc (.cells #[.slice (some ⟨X.gl, 0, none⟩) D.nb D.nb, .pointer pi] 45) → St D X w1 c [] w1 ∧ w.heap.size < w1.heap.size ∧ Below w.heap.size w w1 ∧ (∀ u, Below c w1 u → Env D X u ∧ Held u gh gq D.t D.pk D.pm) ∧ (∀ u, Far c w1.heap.size w1 u → u.cell? ⟨w.heap.size, 0, none⟩ = some (.slice (some ⟨X.gl, 0, none⟩) D.nb D.nb) ∧ u.cell? ⟨w.heap.size, 1, none⟩ = some (.pointer pi))) := by
    intro w1 hw1
    have hb : Below w.heap.size w w1 := by rw [hw1]; exact (Below.refl _ _).alloc (Nat.le_refl _) _
    have hsz : w.heap.size < w1.heap.size := by rw [hw1]; simp
    refine ⟨⟨⟨.slice none 0 0, (hb.block c hcl).trans hcell, rfl, .inl ⟨rfl, rfl⟩⟩, Below.refl _ _, Far.refl _ _ _⟩, hsz, hb, fun u hu => ?_, fun u hu => ?_⟩
    · have hb2 : Below w0.heap.size w0 u := (hw.trans (hb.mono hw.size)).trans (hu.mono hc0)
      exact ⟨E.below hb2, hH.below hb2 hH.lt1 hH.lt2⟩
    · have hblk : u.heap[w.heap.size]? = some (.cells #[.slice (some ⟨X.gl, 0, none⟩) D.nb D.nb, .pointer pi] 45) := (hu.2 _ hsz (by omega)).trans (by rw [hw1]; exact heap_alloc_new w _)
      simp [World.cell?, hblk]
  clear E hH hw hc0 hcell ok hpi
  go_enter Try.func32, Try.ntmps32
  go_upto_region 1 with fail
  generalize hw1 : w.alloc (Obj.cells #[.slice (some ⟨X.gl, 0, none⟩) D.nb D.nb, .pointer pi] 45) = w1
  obtain ⟨st0, hsz, hb1, hE, hbox⟩ := HW1.out w1 hw1.symm
  have HS0 : Hid (St D X w1 c [] w1) := st0
  have HB1 : Hid (Below w.heap.size w w1) := hb1
  have HE : Hid (∀ u, Below c w1 u → Env D X u ∧ Held u gh gq D.t D.pk D.pm) := hE
  have HBOX : Hid (∀ u, Far c w1.heap.size w1 u → u.cell? ⟨w.heap.size, 0, none⟩ = some (.slice (some ⟨X.gl, 0, none⟩) D.nb D.nb) ∧ u.cell? ⟨w.heap.size, 1, none⟩ = some (.pointer pi)) := hbox
  have hcl1 : c < w1.heap.size := by omega
  clear HW1 hw1 st0 hb1 hE hbox
  go_wp2_with fail
  go_loopw [23] (fun i wr => ∃ k : Nat, k ≤ D.nr ∧ i = .int .i64 k ∧ St D X w1 c (D.ask.a1 k) wr) (fun i _ => D.nr - (intOf i).toNat)
  case atStart => exact ⟨0, Nat.zero_le _, rfl, HS0.out⟩
  case round =>
    obtain ⟨k, hk, rfl, hst⟩ := hrel
    have HST : Hid (St D X w1 c (D.ask.a1 k) wr) := hst
    clear hst HS0
    by_cases hlt : k < D.nr
    · obtain ⟨hrl, -⟩ := HOK.out.rr hlt
      have y0 := (HE.out wr HST.out.2.1).1.rp k hlt
      have hrg := HOK.out.prg _ hrl
      obtain ⟨r, HR⟩ : ∃ r, Hid (r = (D.R k).toNat) := ⟨_, rfl⟩
      rw [← HR.out] at y0 hrl hrg
      have hcv : IntKind.i32.wrap (D.P r).place = (D.P r).place := by rw [IntKind.wrap_i32]; omega
      have HC : Hid (∀ u, Below wr.heap.size wr u → Below wr.heap.size wr u ∧ u.cell? ⟨w.heap.size, 0, none⟩ = some (.slice (some ⟨X.gl, 0, none⟩) D.nb D.nb) ∧ u.cell? ⟨X.ra r, 2, none⟩ = some (.int .i64 (D.P r).place)) := fun u hu => by
        have st := HST.out.below hcl1 hu
        exact ⟨hu, (HBOX.out u st.2.2).1, (role_cells ((HE.out u st.2.1).1.rb r hrl)).1⟩
      have H36 : Hid (∀ u, Below wr.heap.size wr u → Calls Try.prog 36 #[.slice (some ⟨X.gl, 0, none⟩) D.nb D.nb, .int .i32 (D.P r).place, .func (.func 37) #[] #[]] u fun e w' => RunIs X.gl 5 D.nb (fun j => (D.P (D.role j)).place) (D.P r).place e ∧ Below u.heap.size u w') := fun u hu => by
        have st := HST.out.below hcl1 hu
        exact runB_any X.gl D.nb (fun j => X.ra (D.role j)) (fun j => (D.P (D.role j)).place) X.pn X.px (D.P r).place u s1 (HE.out u st.2.1).1.bl HOK.out.pre.bo
      have HBD : Hid (Below wr.heap.size wr wr.drew) := (Below.refl _ _).drew
      go_wp2_with fail
      go_cut [34, 35, 36] (fun x y z wd => ∃ (lo m cc : Nat) (aa : Option Addr), x = .slice aa m cc ∧ y = .int .i64 m ∧ z = .int .i64 0 ∧ (0 < m → aa = some ⟨X.gl, lo * 5, none⟩) ∧ Run D.nb (fun j => (D.P (D.role j)).place) (D.P r).place lo (lo + m) ∧ St D X w1 c (D.ask.a1 k) wd)
      case first =>
        go_region_held3 (fun u => Below wr.heap.size wr u ∧ u.cell? ⟨w.heap.size, 0, none⟩ = some (.slice (some ⟨X.gl, 0, none⟩) D.nb D.nb) ∧ u.cell? ⟨X.ra r, 2, none⟩ = some (.int .i64 (D.P r).place))
          (first | exact HC.out _ HBD.out | exact HC.out _ HBA.out)
          (first | (go_at_call 36; refine (H36.out _ HBD.out).mono ?_; rintro e wa ⟨⟨lo, hi, cc, aa, rfl, haa, hrun⟩, hba⟩; have HBA : Hid (Below wr.heap.size wr wa) := HBD.out.trans (hba.mono HBD.out.size); have HRUN : Hid ((lo < hi → aa = some ⟨X.gl, lo * 5, none⟩) ∧ Run D.nb (fun j => (D.P (D.role j)).place) (D.P r).place lo hi) := ⟨haa, hrun⟩; clear hba haa hrun))
        all_goals
          go_wp2_with fail
          go_meet
          exact ⟨lo, hi - lo, cc, aa, rfl, rfl, rfl, fun h => HRUN.out.1 (by omega), by rw [show lo + (hi - lo) = hi by have := HRUN.out.2.le; omega]; exact HRUN.out.2, HST.out.below hcl1 HBA.out⟩
      case rest =>
        obtain ⟨w2, rfl⟩ : ∃ w2, w2 = wc := ⟨wc, rfl⟩
        obtain ⟨lo, m, cc, aa, rfl, rfl, rfl, haa, hrun, hst⟩ := hcut
        have HS2 : Hid (St D X w1 c (D.ask.a1 k) w2) := hst
        have HRUN : Hid (Run D.nb (fun j => (D.P (D.role j)).place) (D.P r).place lo (lo + m)) := hrun
        have HAA : Hid (0 < m → aa = some ⟨X.gl, lo * 5, none⟩) := haa
        have hlm : lo + m ≤ D.nb := hrun.hn
        clear haa hrun hst HC H36 HBD y0 hcv hrg HST
        go_wp2_with fail
        go_loopw [36] (fun i wr => ∃ t : Nat, t ≤ m ∧ i = .int .i64 t ∧ St D X w1 c (D.ask.r1 k lo t) wr) (fun i _ => m - (intOf i).toNat)
        case atStart => exact ⟨0, Nat.zero_le _, rfl, by rw [Ask.r1_zero]; exact HS2.out⟩
        case round =>
          obtain ⟨t, ht, rfl, hst⟩ := hrel
          obtain ⟨w3, rfl⟩ : ∃ w3, w3 = wr := ⟨wr, rfl⟩
          have HST : Hid (St D X w1 c (D.ask.r1 k lo t) w3) := hst
          clear hst HS2
          by_cases htl : t < m
          · obtain rfl := HAA.out (by omega)
            have hjn : lo + t < D.nb := by omega
            have hE := (HE.out w3 HST.out.2.1).1
            obtain ⟨hjr, -⟩ := HOK.out.role hjn
            have x0 := hE.bl.c0 (lo + t) hjn
            have x1 := hE.bl.c1 (lo + t) hjn
            have x2 := hE.bl.c2 (lo + t) hjn
            have x3 := hE.bl.c3 (lo + t) hjn
            have x4 := hE.bl.c4 (lo + t) hjn
            rw [show (lo + t) * 5 = lo * 5 + t * 5 by omega] at x0 x1 x2 x3 x4
            have HB4 : Hid (Below w3.heap.size w3 (w3.alloc (.cells #[.pointer (some ⟨X.ra (D.role (lo + t)), 0, none⟩), .int .i32 (D.P (D.role (lo + t))).place, .int .i32 0, .pointer (X.pn (lo + t)), .pointer (X.px (lo + t))] 71))) := (Below.refl _ _).alloc (Nat.le_refl _) _
            have HS4 : Hid (St D X w1 c (D.ask.r1 k lo t) (w3.alloc (.cells #[.pointer (some ⟨X.ra (D.role (lo + t)), 0, none⟩), .int .i32 (D.P (D.role (lo + t))).place, .int .i32 0, .pointer (X.pn (lo + t)), .pointer (X.px (lo + t))] 71))) := HST.out.below hcl1 HB4.out
            have hq := (HE.out _ HS4.out.2.1).1.eql hjr hrl
            have HP : Hid (D.ask.p1 k (lo + t) = (decide (D.role (lo + t) = r) && D.g (lo + t))) := by rw [HR.out]; exact p1_iff HOK.out hlt hjn
            clear hE
            by_cases heq : D.role (lo + t) = r
            · rw [decide_eq_true heq] at hq
              have H38 := offerAt HOK.out (HE.out _ HS4.out.2.1).1 (HE.out _ HS4.out.2.1).2 hjn HS4.out.1 hcl1 HS4.out.2.1.size (by have := D.ask.r1_len (lo := lo) s1 (Nat.le_trans hk s4) (show t ≤ 1024 by omega); omega)
              have HQ : Hid (D.role (lo + t) = r) := heq
              clear heq
              go_wp2_with (go_at_call 38; refine H38.mono ?_; rintro e w5 ⟨rfl, h1, h2, h3⟩; have HL5 : Hid (LI c w1.heap.size (offs D X (D.ask.r1 k lo t ++ if D.g (lo + t) = true then [lo + t] else [])) w5 ∧ Below c (w3.alloc (.cells #[.pointer (some ⟨X.ra (D.role (lo + t)), 0, none⟩), .int .i32 (D.P (D.role (lo + t))).place, .int .i32 0, .pointer (X.pn (lo + t)), .pointer (X.px (lo + t))] 71)) w5 ∧ Far c w1.heap.size (w3.alloc (.cells #[.pointer (some ⟨X.ra (D.role (lo + t)), 0, none⟩), .int .i32 (D.P (D.role (lo + t))).place, .int .i32 0, .pointer (X.pn (lo + t)), .pointer (X.px (lo + t))] 71)) w5) := ⟨h1, h2, h3⟩; clear h1 h2 h3)
              go_roundw
              case rel => exact ⟨t + 1, by omega, by go_num, by rw [Ask.r1_succ, HP.out, HQ.out, decide_eq_true rfl, Bool.true_and]; exact HS4.out.next HL5.out.1 HL5.out.2.1 HL5.out.2.2⟩
              case measure => simp [intOf]; omega
            · rw [decide_eq_false heq] at hq
              have HQ : Hid (¬ D.role (lo + t) = r) := heq
              clear heq
              go_wp2_with fail
              go_roundw
              case rel => exact ⟨t + 1, by omega, by go_num, by rw [Ask.r1_succ, HP.out, decide_eq_false HQ.out, Bool.false_and, if_neg (by decide), List.append_nil]; exact HS4.out⟩
              case measure => simp [intOf]; omega
          · obtain rfl : m = t := by omega
            have HS5 : Hid (St D X w1 c (D.ask.a1 (k + 1)) w3) := by
              have hfull := D.ask.r1_full (i := k) HRUN.out (fun j hj hje => by
                obtain ⟨-, e1⟩ := HOK.out.role (j := j) hj
                have e2 : (D.B j).role = D.R k := hje
                have e3 : D.role j = r := by rw [HR.out]; unfold Data.role; rw [e2]
                show (D.P (D.role j)).place = _
                rw [e3])
              rw [show lo + m - lo = m by omega] at hfull
              rw [← hfull]
              exact HST.out
            clear HST
            go_wp2_with fail
            go_roundw
            case rel => exact ⟨k + 1, by omega, by go_num, HS5.out⟩
            case measure => simp [intOf]; omega
    · obtain ⟨wA, rfl⟩ : ∃ u, u = wr := ⟨wr, rfl⟩
      have HSA : Hid (St D X w1 c (D.ask.a1 D.nr) wA) := by
        have e : k = D.nr := by omega
        rw [← e]
        exact HST.out
      have b1 := (HBOX.out wA HSA.out.2.2).2
      clear HST
      cases hx : D.ix
      · have hpi := HPI.out
        rw [hx, if_neg (by decide)] at hpi
        subst hpi
        have HALL : Hid (D.ask.all = D.ask.a1 D.nr) := D.ask.all_no (.inl hx)
        clear HPI hx
        go_wp2_with fail
        refine endr Try.results32 rfl ⟨rfl, ⟨w1.heap.size, ?_⟩, (HB1.out.mono (by omega)).trans HSA.out.2.1⟩
        rw [HALL.out]
        exact HSA.out.1
      · have hpi := HPI.out
        rw [hx, if_pos rfl] at hpi
        subst hpi
        have HX : Hid (D.ix = true) := hx
        clear HPI hx
        by_cases hns : D.ns = 0
        · have HALL : Hid (D.ask.all = D.ask.a1 D.nr) := D.ask.all_no (.inr hns)
          go_wp2_with fail
          refine endr Try.results32 rfl ⟨rfl, ⟨w1.heap.size, ?_⟩, (HB1.out.mono (by omega)).trans HSA.out.2.1⟩
          rw [HALL.out]
          exact HSA.out.1
        · have HALL : Hid (D.ask.all = D.ask.a3 D.nw) := D.ask.all_yes HX.out hns
          have HNS : Hid (¬ D.ns = 0) := hns
          have hns2 : ((D.ns : Int) == 0) = false := by simpa using hns
          go_wp2_with fail
          go_loopw [61] (fun i wr => ∃ k : Nat, k ≤ D.ns ∧ i = .int .i64 k ∧ St D X w1 c (D.ask.a2 k) wr) (fun i _ => D.ns - (intOf i).toNat)
          case atStart => exact ⟨0, Nat.zero_le _, rfl, by rw [Ask.a2_zero]; exact HSA.out⟩
          case round =>
            clear hns hns2 b1 hlt hk
            obtain ⟨k, hk, rfl, hst⟩ := hrel
            obtain ⟨w2, rfl⟩ : ∃ u, u = wr := ⟨wr, rfl⟩
            have HST : Hid (St D X w1 c (D.ask.a2 k) w2) := hst
            clear hst HSA
            have i0 : w2.cell? ⟨X.gi, 0, none⟩ = some (.slice (some ⟨X.gk, 0, none⟩) D.nf D.nf) := by
              have h := (HE.out w2 HST.out.2.1).1.il HX.out
              simp [World.cell?, h]
            have i1 : w2.cell? ⟨X.gi, 1, none⟩ = some (.slice X.a7 D.nw X.c7) := by
              have h := (HE.out w2 HST.out.2.1).1.il HX.out
              simp [World.cell?, h]
            by_cases hlt : k < D.ns
            · have hix := fun w' => (HE.out w2 HST.out.2.1).1.sh.idx k w' hlt
              have y0 := (HE.out w2 HST.out.2.1).1.sh.c0 k hlt
              obtain ⟨sk, HSK⟩ : ∃ z, Hid (z = D.S k) := ⟨_, rfl⟩
              rw [← HSK.out] at y0
              have H39 := runK_any X.gk D.nf (fun m => (D.K m).key) (fun m => (D.K m).place) sk w2 s2 ((HE.out w2 HST.out.2.1).1.kl HX.out) (HOK.out.pre.ko HX.out)
              go_wp2_with (go_at_call 39; refine H39.mono ?_; rintro e w3 ⟨⟨lo, hi, cc, aa, rfl, haa, hrun⟩, hba⟩; have HB3 : Hid (Below w2.heap.size w2 w3) := hba; have HRUN : Hid ((lo < hi → aa = some ⟨X.gk, lo * 2, none⟩) ∧ Run D.nf (fun m => (D.K m).key) sk lo hi) := ⟨haa, hrun⟩; obtain ⟨m, HM⟩ : ∃ m, Hid (m = hi - lo) := ⟨_, rfl⟩; rw [← HM.out]; clear hba haa hrun H39)
              have HS3 : Hid (St D X w1 c (D.ask.a2 k) w3) := HST.out.below hcl1 HB3.out
              have hlm : lo + m ≤ D.nf := by have h1 := HRUN.out.2.hn; have h2 := HRUN.out.2.le; have h3 := HM.out; omega
              have HAA : Hid (0 < m → aa = some ⟨X.gk, lo * 2, none⟩) := fun h => HRUN.out.1 (by have h3 := HM.out; omega)
              clear HST HB3 y0 hix i0 i1
              go_loopw [72] (fun i wr => ∃ t : Nat, t ≤ m ∧ i = .int .i64 t ∧ St D X w1 c (D.ask.r2 k lo t) wr) (fun i _ => m - (intOf i).toNat)
              case atStart => exact ⟨0, Nat.zero_le _, rfl, by rw [Ask.r2_zero]; exact HS3.out⟩
              case round =>
                obtain ⟨t, ht, rfl, hst⟩ := hrel
                obtain ⟨w4, rfl⟩ : ∃ u, u = wr := ⟨wr, rfl⟩
                have HST : Hid (St D X w1 c (D.ask.r2 k lo t) w4) := hst
                clear hst HS3
                by_cases htl : t < m
                · obtain rfl := HAA.out (by omega)
                  have hmn : lo + t < D.nf := by omega
                  have hkr := HOK.out.pre.kr HX.out (lo + t) hmn
                  obtain ⟨q, HQ⟩ : ∃ q : Nat, Hid (q = (D.K (lo + t)).place.toNat) := ⟨_, rfl⟩
                  have hq0 : (D.K (lo + t)).place = (q : Int) := by have := HQ.out; omega
                  have hqn : q < D.nb := by omega
                  have hE := (HE.out w4 HST.out.2.1).1
                  have z0 := (hE.kl HX.out).c0 (lo + t) hmn
                  have z1 := (hE.kl HX.out).c1 (lo + t) hmn
                  rw [show (lo + t) * 2 = lo * 2 + t * 2 by omega] at z0 z1
                  simp only [hq0] at z1
                  have HB5 : Hid (Below w4.heap.size w4 (w4.alloc (.cells #[.int .i32 (D.K (lo + t)).key, .int .i32 (q : Int)] 75))) := (Below.refl _ _).alloc (Nat.le_refl _) _
                  have HS5 : Hid (St D X w1 c (D.ask.r2 k lo t) (w4.alloc (.cells #[.int .i32 (D.K (lo + t)).key, .int .i32 (q : Int)] 75))) := HST.out.below hcl1 HB5.out
                  have hE5 := (HE.out _ HS5.out.2.1).1
                  have x0 := hE5.bl.c0 q hqn
                  have x1 := hE5.bl.c1 q hqn
                  have x2 := hE5.bl.c2 q hqn
                  have x3 := hE5.bl.c3 q hqn
                  have x4 := hE5.bl.c4 q hqn
                  have b0 := (HBOX.out _ HS5.out.2.2).1
                  have hgl := hE5.bl.lt
                  have H38 := offerAt HOK.out hE5 (HE.out _ HS5.out.2.1).2 hqn HS5.out.1 hcl1 HS5.out.2.1.size (by have := D.ask.r2_len (lo := lo) s1 s2 s4 (Nat.le_trans hk s5) (show t ≤ 1024 by omega); omega)
                  have HP : Hid (D.ask.p2 k (lo + t) = D.g q ∧ D.ask.pl (lo + t) = q) := by
                    have e1 : D.ask.pl (lo + t) = q := HQ.out.symm
                    refine ⟨?_, e1⟩
                    have e2 : D.ask.key (lo + t) = D.ask.S k := (HRUN.out.2.ins (lo + t) (by omega) (by have h3 := HM.out; omega)).trans HSK.out
                    show (decide (D.ask.key (lo + t) = D.ask.S k) && D.g (D.ask.pl (lo + t))) = _
                    rw [decide_eq_true e2, e1, Bool.true_and]
                  clear hE hE5 hkr hq0
                  go_wp2_with (go_at_call 38; refine H38.mono ?_; rintro e w6 ⟨rfl, h1, h2, h3⟩; have HL6 : Hid (LI c w1.heap.size (offs D X (D.ask.r2 k lo t ++ if D.g q = true then [q] else [])) w6 ∧ Below c (w4.alloc (.cells #[.int .i32 (D.K (lo + t)).key, .int .i32 (q : Int)] 75)) w6 ∧ Far c w1.heap.size (w4.alloc (.cells #[.int .i32 (D.K (lo + t)).key, .int .i32 (q : Int)] 75)) w6) := ⟨h1, h2, h3⟩; clear h1 h2 h3)
                  go_roundw
                  case rel => exact ⟨t + 1, by omega, by go_num, by rw [Ask.r2_succ, HP.out.1, HP.out.2]; exact HS5.out.next HL6.out.1 HL6.out.2.1 HL6.out.2.2⟩
                  case measure => simp [intOf]; omega
                · obtain rfl : m = t := by omega
                  have HS5 : Hid (St D X w1 c (D.ask.a2 (k + 1)) w4) := by
                    have hr := HRUN.out.2
                    rw [HSK.out] at hr
                    have hfull := D.ask.r2_full (s := k) hr
                    rw [← HM.out] at hfull
                    rw [← hfull]
                    exact HST.out
                  clear HST
                  go_wp2_with fail
                  go_roundw
                  case rel => exact ⟨k + 1, by omega, by go_num, HS5.out⟩
                  case measure => simp [intOf]; omega
            · have HSA : Hid (St D X w1 c (D.ask.a3 0) w2) := by
                have e : k = D.ns := by omega
                rw [Ask.a3_zero, show D.ask.ns = D.ns from rfl, ← e]
                exact HST.out
              clear HST
              go_wp2_with fail
              go_loopw [92] (fun i wr => ∃ k : Nat, k ≤ D.nw ∧ i = .int .i64 k ∧ St D X w1 c (D.ask.a3 k) wr) (fun i _ => D.nw - (intOf i).toNat)
              case atStart => exact ⟨0, Nat.zero_le _, rfl, HSA.out⟩
              case round =>
                clear i0 i1 hlt hk
                obtain ⟨k, hk, rfl, hst⟩ := hrel
                obtain ⟨w3, rfl⟩ : ∃ u, u = wr := ⟨wr, rfl⟩
                have HST : Hid (St D X w1 c (D.ask.a3 k) w3) := hst
                clear hst HSA
                by_cases hlt : k < D.nw
                · have hE := (HE.out w3 HST.out.2.1).1
                  have hix := fun w' => hE.wi.idx k w' hlt
                  have y0 := hE.wi.c0 k hlt
                  have hwr := HOK.out.pre.wr HX.out k hlt
                  obtain ⟨q, HQ⟩ : ∃ q : Nat, Hid (q = (D.W k).toNat) := ⟨_, rfl⟩
                  have hq0 : D.W k = (q : Int) := by have := HQ.out; omega
                  have hqn : q < D.nb := by omega
                  rw [hq0] at y0
                  have x0 := hE.bl.c0 q hqn
                  have x1 := hE.bl.c1 q hqn
                  have x2 := hE.bl.c2 q hqn
                  have x3 := hE.bl.c3 q hqn
                  have x4 := hE.bl.c4 q hqn
                  have b0 := (HBOX.out _ HST.out.2.2).1
                  have H38 := offerAt HOK.out hE (HE.out _ HST.out.2.1).2 hqn HST.out.1 hcl1 HST.out.2.1.size (by have := D.ask.a3_len s1 s2 s4 s5 (Nat.le_trans hk s3); omega)
                  have HP : Hid (D.ask.p3 k = D.g q ∧ D.ask.wl k = q) := by
                    have e1 : D.ask.wl k = q := HQ.out.symm
                    refine ⟨?_, e1⟩
                    show D.g (D.ask.wl k) = _
                    rw [e1]
                  clear hE hwr hq0
                  go_wp2_with (go_at_call 38; refine H38.mono ?_; rintro e w6 ⟨rfl, h1, h2, h3⟩; have HL6 : Hid (LI c w1.heap.size (offs D X (D.ask.a3 k ++ if D.g q = true then [q] else [])) w6 ∧ Below c w3 w6 ∧ Far c w1.heap.size w3 w6) := ⟨h1, h2, h3⟩; clear h1 h2 h3)
                  go_roundw
                  case rel => exact ⟨k + 1, by omega, by go_num, by rw [Ask.a3_succ, HP.out.1, HP.out.2]; exact HST.out.next HL6.out.1 HL6.out.2.1 HL6.out.2.2⟩
                  case measure => simp [intOf]; omega
                · have HSB : Hid (St D X w1 c D.ask.all w3) := by
                    have e : k = D.nw := by omega
                    rw [HALL.out, ← e]
                    exact HST.out
                  go_wp2_with fail
                  refine end0 Try.results32 rfl ⟨rfl, ⟨w1.heap.size, HSB.out.1⟩, (HB1.out.mono (by omega)).trans HSB.out.2.1⟩

end Go.Proofs.Qxb6618997a.Lk
