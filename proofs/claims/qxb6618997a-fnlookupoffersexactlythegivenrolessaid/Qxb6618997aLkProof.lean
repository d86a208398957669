/-
  THE STATEMENT Rows.FnLookUpOffersExactlyTheGivenRolesSaid, proved: the frame round the walk of Qxb6618997aLkMain.
-/
import Derived.Test.Qxb6618997aLkMain
import Derived.Test.Qxb6618997aLkFrame
namespace Go.Proofs.Qxb6618997a.fnLookUpOffersExactlyTheGivenRoles
open Go.ChangeShapes Go.WideShapes Go.ChangeAt Go.RowKit
open Go.ChangeMaps (open_string shut_string)
open Go.Proofs.Qxb6618997a.Lk (own laidOut pool_of bnds_of kps_of ints34_of ints35_of)
set_option linter.unusedVariables false

set_option maxRecDepth 100000 in
theorem lifted (os : Os) (started : os.Started) (H : Type) (enc : TypeId × Value → H) :
    ReturnsInHanded {} Try.checked os 6 .any (Rows.fnLookUpOffersExactlyTheGivenRolesSpec.pre6 enc Try.prog Try.f6 Rows.fnLookUpOffersExactlyTheGivenRolesRow.domain false) (Rows.fnLookUpOffersExactlyTheGivenRolesSpec.post enc Try.prog Try.f6 false true false false) := by
  refine returnsInHanded_of_change (C := Try.checked) own started (by kernel_rfl) Try.func6
    (ChangeSpec.witness6 (enc := enc) (C := Try.checked) false ⟨#[], #[.int .i64 0, .string ByteArray.empty, .string ByteArray.empty, .slice none 0 0, .slice none 0 0, .bool false, .slice none 0 0, .slice none 0 0, .slice none 0 0, .slice none 0 0], []⟩ 8 (by kernel_rfl) (by kernel_rfl) (by kernel_rfl) (by kernel_rfl)) ?_
  intro W base args ds gs before hval0 hW hcnd _
  have hval : ∀ (j : Nat) t v, Try.f6.params[j]? = some t → args[j]? = some v → Value.okWide Try.prog W .any base t v := hval0
  have hW' := hW
  obtain ⟨p, q, hA0, hV, rfl, hfz, hnd⟩ := hW
  have hA : DataW.TrodAll enc Try.prog W 0 (fun _ => true) true Try.f6.params.toList args.toList ds p := hA0
  rw [Try.params6] at hA hval
  obtain ⟨v0, vs0, d0, ds0, p0, q0, hargs, rfl, rfl, h0, r0⟩ := trodAll_cons hA
  obtain ⟨v1, vs1, d1, ds1, p1, q1, rfl, rfl, rfl, h1, r1⟩ := trodAll_cons r0
  obtain ⟨v2, vs2, d2, ds2, p2, q2, rfl, rfl, rfl, h2, r2⟩ := trodAll_cons r1
  obtain ⟨v3, vs3, d3, ds3, p3, q3, rfl, rfl, rfl, h3, r3⟩ := trodAll_cons r2
  obtain ⟨v4, vs4, d4, ds4, p4, q4, rfl, rfl, rfl, h4, r4⟩ := trodAll_cons r3
  obtain ⟨v5, vs5, d5, ds5, p5, q5, rfl, rfl, rfl, h5, r5⟩ := trodAll_cons r4
  obtain ⟨v6, vs6, d6, ds6, p6, q6, rfl, rfl, rfl, h6, r6⟩ := trodAll_cons r5
  obtain ⟨v7, vs7, d7, ds7, p7, q7, rfl, rfl, rfl, h7, r7⟩ := trodAll_cons r6
  obtain ⟨v8, vs8, d8, ds8, p8, q8, rfl, rfl, rfl, h8, r8⟩ := trodAll_cons r7
  obtain ⟨v9, vs9, d9, ds9, p9, q9, rfl, rfl, rfl, h9, r9⟩ := trodAll_cons r8
  obtain ⟨rfl, rfl, rfl⟩ := trodAll_nil r9
  obtain rfl : args = #[v0, v1, v2, v3, v4, v5, v6, v7, v8, v9] := by cases args; simp_all
  obtain ⟨rfl, rfl⟩ := trodVars_none hV
  obtain ⟨a0, rfl, rfl, rfl, w0⟩ := open_int Try.underlying2 (hval 0 2 v0 rfl rfl) h0
  obtain ⟨a1, rfl, rfl, rfl, w1⟩ := open_string Try.underlying9 (hval 1 9 v1 rfl rfl) h1
  obtain ⟨a2, rfl, rfl, rfl, w2⟩ := open_string Try.underlying9 (hval 2 9 v2 rfl rfl) h2
  obtain ⟨a3, n3, c3, rfl⟩ := okWide_slice Try.underlying31 (hval 3 31 v3 rfl rfl)
  obtain ⟨a4, n4, c4, rfl⟩ := okWide_slice Try.underlying32 (hval 4 32 v4 rfl rfl)
  obtain ⟨ix, rfl, rfl, rfl⟩ := open_bool Try.underlying4 (hval 5 4 v5 rfl rfl) h5
  obtain ⟨a6, n6, c6, rfl⟩ := okWide_slice Try.underlying33 (hval 6 33 v6 rfl rfl)
  obtain ⟨a7, n7, c7, rfl⟩ := okWide_slice Try.underlying34 (hval 7 34 v7 rfl rfl)
  obtain ⟨a8, n8, c8, rfl⟩ := okWide_slice Try.underlying35 (hval 8 35 v8 rfl rfl)
  obtain ⟨a9, n9, c9, rfl⟩ := okWide_slice Try.underlying34 (hval 9 34 v9 rfl rfl)
  have k3 := h3
  have k4 := h4
  have k6 := h6
  have k7 := h7
  have k8 := h8
  have k9 := h9
  have lt3 : ∀ x ∈ p3, x.block < W.heap.size := by obtain ⟨m, hm⟩ := k3; exact DataW.trod_lt m _ _ _ hm
  have lt4 : ∀ x ∈ p4, x.block < W.heap.size := by obtain ⟨m, hm⟩ := k4; exact DataW.trod_lt m _ _ _ hm
  have lt6 : ∀ x ∈ p6, x.block < W.heap.size := by obtain ⟨m, hm⟩ := k6; exact DataW.trod_lt m _ _ _ hm
  have lt7 : ∀ x ∈ p7, x.block < W.heap.size := by obtain ⟨m, hm⟩ := k7; exact DataW.trod_lt m _ _ _ hm
  have lt8 : ∀ x ∈ p8, x.block < W.heap.size := by obtain ⟨m, hm⟩ := k8; exact DataW.trod_lt m _ _ _ hm
  have lt9 : ∀ x ∈ p9, x.block < W.heap.size := by obtain ⟨m, hm⟩ := k9; exact DataW.trod_lt m _ _ _ hm
  obtain ⟨b3, o3, P, hP⟩ : ∃ b o P, Lk.Pool W a3 n3 c3 b o P := by
    obtain ⟨fuel, hf⟩ := h3
    exact pool_of hf
  obtain ⟨b4, o4, B, pn, px, hB⟩ : ∃ b o B pn px, Lk.Bnds W a4 n4 c4 b o B pn px := by
    obtain ⟨fuel, hf⟩ := h4
    exact bnds_of hf
  obtain ⟨b6, o6, K, hK⟩ : ∃ b o K, Lk.Kps W a6 n6 c6 b o K := by
    obtain ⟨fuel, hf⟩ := h6
    exact kps_of hf
  obtain ⟨b7, o7, Z, hZ⟩ : ∃ b o Z, Lk.Ints 34 .i32 W a7 n7 c7 b o Z := by
    obtain ⟨fuel, hf⟩ := h7
    exact ints34_of hf
  obtain ⟨b8, o8, R, hR⟩ : ∃ b o Z, Lk.Ints 35 .i64 W a8 n8 c8 b o Z := by
    obtain ⟨fuel, hf⟩ := h8
    exact ints35_of hf
  obtain ⟨b9, o9, S, hS⟩ : ∃ b o Z, Lk.Ints 34 .i32 W a9 n9 c9 b o Z := by
    obtain ⟨fuel, hf⟩ := h9
    exact ints34_of hf
  clear hA0 hval0
  simp only [List.append_nil, List.nil_append] at hW'
  refine (Lk.main_any ⟨n3, n4, n6, n7, n8, n9, ix, P, B, K, Z, R, S, a0, a1, a2⟩ a3 c3 b3 o3 a4 c4 b4 o4 pn px a6 c6 b6 o6 a7 c7 b7 o7 a8 c8 b8 o8 a9 c9 b9 o9 W hP hB hK hZ hR hS).mono fun e W' ⟨he, bel⟩ => ?_
  subst he
  exact ⟨_, rfl, _, _, _, [], _, [], hW', trodAll_mk1 (shut_bool Try.underlying4 _), (trodAll_cons_mk (shut_int Try.underlying2 w0) (trodAll_cons_mk (shut_string Try.underlying9 w1) (trodAll_cons_mk (shut_string Try.underlying9 w2) (trodAll_cons_mk (Below.trod laidOut (by kernel_rfl) (of_decide_eq_true (by kernel_rfl)) k3 bel lt3) (trodAll_cons_mk (Below.trod laidOut (by kernel_rfl) (of_decide_eq_true (by kernel_rfl)) k4 bel lt4) (trodAll_cons_mk (shut_bool Try.underlying4 _) (trodAll_cons_mk (Below.trod laidOut (by kernel_rfl) (of_decide_eq_true (by kernel_rfl)) k6 bel lt6) (trodAll_cons_mk (Below.trod laidOut (by kernel_rfl) (of_decide_eq_true (by kernel_rfl)) k7 bel lt7) (trodAll_cons_mk (Below.trod laidOut (by kernel_rfl) (of_decide_eq_true (by kernel_rfl)) k8 bel lt8) (trodAll_cons_mk (Below.trod laidOut (by kernel_rfl) (of_decide_eq_true (by kernel_rfl)) k9 bel lt9) trodAll_mk0)))))))))), rfl, bel.frame _, fun h => by cases h⟩

theorem over : Rows.fnLookUpOffersExactlyTheGivenRolesRow.holds Try.pinned (OpenSpec.ofChange Rows.fnLookUpOffersExactlyTheGivenRolesSpec) :=
  OpenClaim.holds_of_wide 6 Try.f6 rfl rfl rfl rfl rfl rfl rfl ⟨rfl, rfl, rfl, rfl, rfl⟩ rfl rfl rfl rfl rfl (by kernel_rfl) Try.func6 (by kernel_rfl)
    (of_decide_eq_true (by kernel_rfl)) (by unfold Func.isWrapper; first | (rw [if_pos (by decide +kernel)]; kernel_rfl) | (rw [if_neg (by decide +kernel)]; exact ⟨rfl, rfl⟩))
    (fun os started H enc _ => lifted os started H enc)

/-- THE STATEMENT. -/
theorem proved : Rows.FnLookUpOffersExactlyTheGivenRolesSaid := over
#print axioms proved
end Go.Proofs.Qxb6618997a.fnLookUpOffersExactlyTheGivenRoles
