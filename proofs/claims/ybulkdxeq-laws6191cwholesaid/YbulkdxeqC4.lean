import Derived.Test.YbulkdxeqC3
import Derived.ProofKit
import Derived.OpenShut
import Derived.ShutString
import Derived.ChangeOld
import Derived.Below
import Derived.Lib.SmallJoins
namespace Go.Proofs.Ybulkdxeq.C
open Go.ChangeShapes Go.WideShapes Go.ChangeAt Go.RowKit Go.Joins
set_option linter.unusedVariables false

theorem own : ownKnob Yba.prog.godebug = none := by kernel_rfl
theorem laidOut : laidOutB Yba.prog = true := by kernel_rfl
theorem cells42 : Yba.prog.cellsOf 42 = 4 := by kernel_rfl

/-- A node that came in by value, its four fields written out. -/
theorem open_node {H : Type} {enc : TypeId × Value → H} {W : World} {r : Reach} {b0 : Nat} {v : Value} {d : DataW H} {p : List MemPlace}
    (hv : Value.okWide Yba.prog W r b0 42 v) (h : DataW.Trod enc Yba.prog W 0 (fun _ => true) true 42 v d p) :
    ∃ f n l q : Int, v = .agg #[.int .u64 f, .int .u64 n, .int .u64 l, .int .u32 q] := by
  obtain ⟨v0, v1, v2, v3, y0, y1, y2, y3, m, rfl, rfl, rfl, h0, h1, h2, h3⟩ := open_agg4 Yba.underlying42 (by kernel_rfl) cells42 hv h
  obtain ⟨a0, e0, _, _⟩ := DataW.trod_int Yba.underlying22 h0
  obtain ⟨a1, e1, _, _⟩ := DataW.trod_int Yba.underlying22 h1
  obtain ⟨a2, e2, _, _⟩ := DataW.trod_int Yba.underlying22 h2
  obtain ⟨a3, e3, _, _⟩ := DataW.trod_int Yba.underlying24 h3
  simp at e0 e1 e2 e3
  subst e0 e1 e2 e3
  exact ⟨a0, a1, a2, a3, rfl⟩

set_option maxRecDepth 100000 in
theorem lifted (os : Os) (started : os.Started) (H : Type) (enc : TypeId × Value → H) :
    ReturnsInHanded {} Yba.checked os 4 .any (Rows.lawS6191CWholeSpec.pre6 enc Yba.prog Yba.f4 Rows.lawS6191CWholeRow.domain false) (Rows.lawS6191CWholeSpec.post enc Yba.prog Yba.f4 false true false false) := by
  refine returnsInHanded_of_change (C := Yba.checked) own started (by kernel_rfl) Yba.func4
    (ChangeSpec.witness6 (enc := enc) (C := Yba.checked) false ⟨#[], #[.agg #[.int .u64 0, .int .u64 0, .int .u64 0, .int .u32 0], .bool false, .agg #[.int .u64 0, .int .u64 0, .int .u64 0, .int .u32 0], .bool false, .agg #[.int .u64 0, .int .u64 0, .int .u64 0, .int .u32 0]], []⟩ 8 (by kernel_rfl) (by kernel_rfl) (by kernel_rfl) (by kernel_rfl)) ?_
  intro W base args ds gs before hval0 hW hcnd _
  have hval : ∀ (j : Nat) t v, Yba.f4.params[j]? = some t → args[j]? = some v → Value.okWide Yba.prog W .any base t v := hval0
  have hW' := hW
  obtain ⟨p, q, hA0, hV, rfl, hfz, hnd⟩ := hW
  have hA : DataW.TrodAll enc Yba.prog W 0 (fun _ => true) true Yba.f4.params.toList args.toList ds p := hA0
  rw [Yba.params4] at hA hval
  obtain ⟨v0, vs0, d0, ds0, p0, q0, hargs, rfl, rfl, h0, r0⟩ := trodAll_cons hA
  obtain ⟨v1, vs1, d1, ds1, p1, q1, rfl, rfl, rfl, h1, r1⟩ := trodAll_cons r0
  obtain ⟨v2, vs2, d2, ds2, p2, q2, rfl, rfl, rfl, h2, r2⟩ := trodAll_cons r1
  obtain ⟨v3, vs3, d3, ds3, p3, q3, rfl, rfl, rfl, h3, r3⟩ := trodAll_cons r2
  obtain ⟨v4, vs4, d4, ds4, p4, q4, rfl, rfl, rfl, h4, r4⟩ := trodAll_cons r3
  obtain ⟨rfl, rfl, rfl⟩ := trodAll_nil r4
  obtain rfl : args = #[v0, v1, v2, v3, v4] := by cases args; simp_all
  obtain ⟨rfl, rfl⟩ := trodVars_none hV
  have lt0 : ∀ x ∈ p0, x.block < W.heap.size := by obtain ⟨m, hm⟩ := h0; exact DataW.trod_lt m _ _ _ hm
  have lt1 : ∀ x ∈ p1, x.block < W.heap.size := by obtain ⟨m, hm⟩ := h1; exact DataW.trod_lt m _ _ _ hm
  have lt2 : ∀ x ∈ p2, x.block < W.heap.size := by obtain ⟨m, hm⟩ := h2; exact DataW.trod_lt m _ _ _ hm
  have lt3 : ∀ x ∈ p3, x.block < W.heap.size := by obtain ⟨m, hm⟩ := h3; exact DataW.trod_lt m _ _ _ hm
  have lt4 : ∀ x ∈ p4, x.block < W.heap.size := by obtain ⟨m, hm⟩ := h4; exact DataW.trod_lt m _ _ _ hm
  obtain ⟨f, n, l, s, rfl⟩ := open_node (hval 0 42 v0 rfl rfl) h0
  obtain ⟨f2, n2, l2, s2, rfl⟩ := open_node (hval 2 42 v2 rfl rfl) h2
  obtain ⟨f4, n4, l4, s4, rfl⟩ := open_node (hval 4 42 v4 rfl rfl) h4
  have k1 := h1
  have k3 := h3
  obtain ⟨a1, rfl, _, _⟩ := open_bool Yba.underlying4 (hval 1 4 v1 rfl rfl) h1
  obtain ⟨a3, rfl, _, _⟩ := open_bool Yba.underlying4 (hval 3 4 v3 rfl rfl) h3
  clear hA0 hval0
  refine (law_any f n l s f2 n2 l2 s2 f4 n4 l4 s4 a1 a3 W).mono fun e W' ⟨he, bel⟩ => ?_
  subst he
  exact ⟨_, rfl, _, _, _, [], _, [], hW', trodAll_mk1 (shut_bool Yba.underlying4 _),
    (trodAll_cons_mk (Below.trod laidOut (by kernel_rfl) (of_decide_eq_true (by kernel_rfl)) h0 bel lt0)
    (trodAll_cons_mk (Below.trod laidOut (by kernel_rfl) (of_decide_eq_true (by kernel_rfl)) k1 bel lt1)
    (trodAll_cons_mk (Below.trod laidOut (by kernel_rfl) (of_decide_eq_true (by kernel_rfl)) h2 bel lt2)
    (trodAll_cons_mk (Below.trod laidOut (by kernel_rfl) (of_decide_eq_true (by kernel_rfl)) k3 bel lt3)
    (trodAll_cons_mk (Below.trod laidOut (by kernel_rfl) (of_decide_eq_true (by kernel_rfl)) h4 bel lt4) trodAll_mk0))))),
    rfl, bel.frame _, fun h => by cases h⟩

theorem over : Rows.lawS6191CWholeRow.holds Yba.pinned (OpenSpec.ofChange Rows.lawS6191CWholeSpec) :=
  OpenClaim.holds_of_wide 4 Yba.f4 rfl rfl rfl rfl rfl rfl rfl ⟨rfl, rfl, rfl, rfl, rfl⟩ rfl rfl rfl rfl rfl (by kernel_rfl) Yba.func4 (by kernel_rfl)
    (of_decide_eq_true (by kernel_rfl)) (by unfold Func.isWrapper; first | (rw [if_pos (by decide +kernel)]; kernel_rfl) | (rw [if_neg (by decide +kernel)]; exact ⟨rfl, rfl⟩))
    (fun os started H enc _ => lifted os started H enc)
end Go.Proofs.Ybulkdxeq.C
namespace Go.Proofs.Ybulkdxeq
/-- THE STATEMENT -/
theorem lawS6191CWhole_holds : Rows.LawS6191CWholeSaid := C.over
end Go.Proofs.Ybulkdxeq
