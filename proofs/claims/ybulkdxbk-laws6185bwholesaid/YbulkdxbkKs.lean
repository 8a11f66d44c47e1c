import Derived.Test.YbulkdxbkKq
import Derived.Test.YbulkdxbkKr
namespace Go.Proofs.Ybulkdxbk
open Go.ChangeShapes Go.WideShapes Go.ChangeAt Go.RowKit Go.Joins Go.Deep
set_option linter.unusedVariables false

theorem u8_nat {z : Int} (h : (Lit.int .u8 z).wf = true) : 0 ≤ z ∧ z ≤ 255 := by
  simp [Lit.wf, IntKind.min, IntKind.max, IntKind.signed, IntKind.bits] at h
  omega
set_option maxRecDepth 100000 in
theorem lifted (os : Os) (started : os.Started) (H : Type) (enc : TypeId × Value → H) :
    ReturnsInHanded {} Yba.checked os 3 .any (Rows.lawS6185BWholeSpec.pre6 enc Yba.prog Yba.f3 Rows.lawS6185BWholeRow.domain false) (Rows.lawS6185BWholeSpec.post enc Yba.prog Yba.f3 false true false false) := by
  refine returnsInHanded_of_change (C := Yba.checked) own started (by kernel_rfl) Yba.func3
    (ChangeSpec.witness6 (enc := enc) (C := Yba.checked) false ⟨#[], #[.int .u8 0, .int .u8 0, .int .u16 0, .slice none 0 0, .slice none 0 0, .slice none 0 0, .int .u8 0, .int .u8 0, .slice none 0 0], []⟩ 8 (by kernel_rfl) (by kernel_rfl) (by kernel_rfl) (by kernel_rfl)) ?_
  intro W base args ds gs before hval0 hW hcnd _
  have hval : ∀ (j : Nat) t v, Yba.f3.params[j]? = some t → args[j]? = some v → Value.okWide Yba.prog W .any base t v := hval0
  have hW' := hW
  obtain ⟨p, q, hA0, hV, rfl, hfz, hnd⟩ := hW
  have hA : DataW.TrodAll enc Yba.prog W 0 (fun _ => true) true Yba.f3.params.toList args.toList ds p := hA0
  rw [Yba.params3] at hA hval
  obtain ⟨v0, vs0, d0, ds0, p0, q0, hargs, rfl, rfl, h0, r0⟩ := trodAll_cons hA
  obtain ⟨v1, vs1, d1, ds1, p1, q1, rfl, rfl, rfl, h1, r1⟩ := trodAll_cons r0
  obtain ⟨v2, vs2, d2, ds2, p2, q2, rfl, rfl, rfl, h2, r2⟩ := trodAll_cons r1
  obtain ⟨v3, vs3, d3, ds3, p3, q3, rfl, rfl, rfl, h3, r3⟩ := trodAll_cons r2
  obtain ⟨v4, vs4, d4, ds4, p4, q4, rfl, rfl, rfl, h4, r4⟩ := trodAll_cons r3
  obtain ⟨v5, vs5, d5, ds5, p5, q5, rfl, rfl, rfl, h5, r5⟩ := trodAll_cons r4
  obtain ⟨v6, vs6, d6, ds6, p6, q6, rfl, rfl, rfl, h6, r6⟩ := trodAll_cons r5
  obtain ⟨v7, vs7, d7, ds7, p7, q7, rfl, rfl, rfl, h7, r7⟩ := trodAll_cons r6
  obtain ⟨v8, vs8, d8, ds8, p8, q8, rfl, rfl, rfl, h8, r8⟩ := trodAll_cons r7
  obtain ⟨rfl, rfl, rfl⟩ := trodAll_nil r8
  obtain rfl : args = #[v0, v1, v2, v3, v4, v5, v6, v7, v8] := by cases args; simp_all
  obtain ⟨rfl, rfl⟩ := trodVars_none hV
  have lt0 : ∀ x ∈ p0, x.block < W.heap.size := by obtain ⟨m, hm⟩ := h0; exact DataW.trod_lt m _ _ _ hm
  have lt1 : ∀ x ∈ p1, x.block < W.heap.size := by obtain ⟨m, hm⟩ := h1; exact DataW.trod_lt m _ _ _ hm
  have lt2 : ∀ x ∈ p2, x.block < W.heap.size := by obtain ⟨m, hm⟩ := h2; exact DataW.trod_lt m _ _ _ hm
  have lt3 : ∀ x ∈ p3, x.block < W.heap.size := by obtain ⟨m, hm⟩ := h3; exact DataW.trod_lt m _ _ _ hm
  have lt4 : ∀ x ∈ p4, x.block < W.heap.size := by obtain ⟨m, hm⟩ := h4; exact DataW.trod_lt m _ _ _ hm
  have lt5 : ∀ x ∈ p5, x.block < W.heap.size := by obtain ⟨m, hm⟩ := h5; exact DataW.trod_lt m _ _ _ hm
  have lt6 : ∀ x ∈ p6, x.block < W.heap.size := by obtain ⟨m, hm⟩ := h6; exact DataW.trod_lt m _ _ _ hm
  have lt7 : ∀ x ∈ p7, x.block < W.heap.size := by obtain ⟨m, hm⟩ := h7; exact DataW.trod_lt m _ _ _ hm
  have lt8 : ∀ x ∈ p8, x.block < W.heap.size := by obtain ⟨m, hm⟩ := h8; exact DataW.trod_lt m _ _ _ hm
  have k0 := h0; have k1 := h1; have k2 := h2; have k3 := h3; have k4 := h4; have k5 := h5; have k6 := h6; have k7 := h7; have k8 := h8
  obtain ⟨z1, rfl, _, _, w0⟩ := open_int Yba.underlying5 (hval 0 5 v0 rfl rfl) h0
  obtain ⟨z2, rfl, _, _, w1⟩ := open_int Yba.underlying5 (hval 1 5 v1 rfl rfl) h1
  obtain ⟨sv, rfl, _, _, w2⟩ := open_int Yba.underlying22 (hval 2 22 v2 rfl rfl) h2
  obtain ⟨a1, n1, c1, rfl⟩ := okWide_slice Yba.underlying23 (hval 3 23 v3 rfl rfl)
  obtain ⟨a2, n2, c2, rfl⟩ := okWide_slice Yba.underlying24 (hval 4 24 v4 rfl rfl)
  obtain ⟨a3, n3, c3, rfl⟩ := okWide_slice Yba.underlying25 (hval 5 25 v5 rfl rfl)
  obtain ⟨x1, rfl, _, _, w6⟩ := open_int Yba.underlying5 (hval 6 5 v6 rfl rfl) h6
  obtain ⟨x2, rfl, _, _, w7⟩ := open_int Yba.underlying5 (hval 7 5 v7 rfl rfl) h7
  obtain ⟨a4, n4, c4, rfl⟩ := okWide_slice Yba.underlying26 (hval 8 26 v8 rfl rfl)
  obtain ⟨E1, b1, o1, hE1, ha1, hr1, hb1, hm1⟩ := open_in3 h3
  obtain ⟨E2, b2, o2, hE2, ha2, hr2, hb2, hm2⟩ := open_in2 h4
  obtain ⟨E3, b3, o3, hE3, ha3, hr3, hb3, hm3⟩ := open_inU h5
  obtain ⟨D, b4, o4, hD, ha4, hn4, hr4, hm4⟩ := open_inZ h8
  have u0 := u8_nat w0
  have u1 := u8_nat w1
  obtain ⟨svn, rfl, lsv⟩ := u16_nat w2
  have u6 := u8_nat w6
  have u7 := u8_nat w7
  clear hA0 hval0
  have hwalk : Calls Yba.prog 3 #[.int .u8 z1, .int .u8 z2, .int .u16 (svn : Int), .slice a1 n1 c1, .slice a2 n2 c2, .slice a3 n3 c3, .int .u8 x1, .int .u8 x2, .slice a4 n4 c4] W fun e w' => e = .returned (.bool true) ∧ Below W.heap.size W w' := by
    by_cases hlong : 65536 < n1 ∨ 65536 < n2 ∨ 65536 < n3 ∨ 65536 < n4
    · exact law_long W z1 z2 svn x1 x2 a1 n1 c1 a2 n2 c2 a3 n3 c3 a4 n4 c4 hlong hm1 hm2 hm3 hm4
    · have e1 : x1 = ((x1.toNat : Nat) : Int) := by omega
      have e2 : x2 = ((x2.toNat : Nat) : Int) := by omega
      rw [e1, e2]
      exact law W z1 z2 (z1.toNat + 1) (z2 % 4 + 1).toNat (by omega) (by omega) u0.1 u1.1 u0.2 u1.2 svn x1.toNat x2.toNat lsv (by omega) (by omega) a1 n1 c1 b1 o1 E1 a2 n2 c2 b2 o2 E2 a3 n3 c3 b3 o3 E3 a4 n4 c4 b4 o4 D
        hE1.symm (by omega) ha1 hr1 hb1 hE2.symm (by omega) ha2 hr2 hb2 hE3.symm (by omega) ha3 hr3 hb3 hD.symm (by omega) ha4 hn4 hr4
  refine hwalk.mono fun e W' ⟨he, bel⟩ => ?_
  subst he
  exact ⟨_, rfl, _, _, _, [], _, [], hW', trodAll_mk1 (shut_bool Yba.underlying4 _),
    (trodAll_cons_mk (Below.trod laidOut (by kernel_rfl) (of_decide_eq_true (by kernel_rfl)) k0 bel lt0)
    (trodAll_cons_mk (Below.trod laidOut (by kernel_rfl) (of_decide_eq_true (by kernel_rfl)) k1 bel lt1)
    (trodAll_cons_mk (Below.trod laidOut (by kernel_rfl) (of_decide_eq_true (by kernel_rfl)) k2 bel lt2)
    (trodAll_cons_mk (Below.trod laidOut (by kernel_rfl) (of_decide_eq_true (by kernel_rfl)) k3 bel lt3)
    (trodAll_cons_mk (Below.trod laidOut (by kernel_rfl) (of_decide_eq_true (by kernel_rfl)) k4 bel lt4)
    (trodAll_cons_mk (Below.trod laidOut (by kernel_rfl) (of_decide_eq_true (by kernel_rfl)) k5 bel lt5)
    (trodAll_cons_mk (Below.trod laidOut (by kernel_rfl) (of_decide_eq_true (by kernel_rfl)) k6 bel lt6)
    (trodAll_cons_mk (Below.trod laidOut (by kernel_rfl) (of_decide_eq_true (by kernel_rfl)) k7 bel lt7)
    (trodAll_cons_mk (Below.trod laidOut (by kernel_rfl) (of_decide_eq_true (by kernel_rfl)) k8 bel lt8) trodAll_mk0))))))))),
    rfl, bel.frame _, fun h => by cases h⟩

theorem over : Rows.lawS6185BWholeRow.holds Yba.pinned (OpenSpec.ofChange Rows.lawS6185BWholeSpec) :=
  OpenClaim.holds_of_wide 3 Yba.f3 rfl rfl rfl rfl rfl rfl rfl ⟨rfl, rfl, rfl, rfl, rfl⟩ rfl rfl rfl rfl rfl (by kernel_rfl) Yba.func3 (by kernel_rfl)
    (of_decide_eq_true (by kernel_rfl)) (by unfold Func.isWrapper; first | (rw [if_pos (by decide +kernel)]; kernel_rfl) | (rw [if_neg (by decide +kernel)]; exact ⟨rfl, rfl⟩))
    (fun os started H enc _ => lifted os started H enc)
/-- THE STATEMENT -/
theorem lawS6185BWhole_holds : Rows.LawS6185BWholeSaid := over
end Go.Proofs.Ybulkdxbk
