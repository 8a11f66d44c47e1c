import Derived.Test.YbulkdxeqC2
import Derived.LaidEqlPtr
namespace Go.Proofs.Ybulkdxeq.C
open Go.RowKit

theorem info46 : (Yba.prog.info? 46).isSome = true := by kernel_rfl
theorem neq_same (a : Addr) (w : World) : (binOp .neq 43 (.pointer (some a)) (.pointer (some a))).run Yba.prog w = .ok (.bool false) w := by
  obtain ⟨j, hj⟩ := Option.isSome_iff_exists.1 info46
  have h : ∀ d : Nat, (Op.equalIn (d + 1) 43 (.pointer (some a)) (.pointer (some a))).run Yba.prog w = .ok true w := fun d => by
    simp [Op.equalIn, run_underlying Yba.underlying43, sizeOf, typeInfo, hj, run_sameAddr_same]
  simp only [binOp]
  simp [Op.equal, Op.maxDepth, h 9999]
theorem bl_alloc {a w : World} (h : Below a.heap.size a w) (o : Obj) : Below a.heap.size a (w.alloc o) := h.alloc h.size o
theorem bl_drewN {B : Nat} {a w : World} (h : Below B a w) (n : Nat) : Below B a (w.drewN n) := ⟨h.os, h.tape, h.output, h.size, h.block⟩

theorem law_TT1 (f n l p f1 n1 l1 p1 f2 n2 l2 p2 : Int) (w : World) (h1 : n < l1) (h2 : l1 < l2) :
    Calls Yba.prog 4 #[.agg #[.int .u64 f, .int .u64 n, .int .u64 l, .int .u32 p], .bool true, .agg #[.int .u64 f1, .int .u64 n1, .int .u64 l1, .int .u32 p1], .bool true, .agg #[.int .u64 f2, .int .u64 n2, .int .u64 l2, .int .u32 p2]] w fun e w' =>
      e = .returned (.bool true) ∧ Below w.heap.size w w' := by
  have hnq := neq_same
  have e1 : gm n l1 = l1 := by simp [gm, h1]
  have e2 : gm l1 l2 = l2 := by simp [gm, h2]
  go_enter Yba.func4, Yba.ntmps4
  go_wp2_with (go_at_call 7; refine (build_any _ _ _ _ _).mono ?_; rintro e w' ⟨rfl, rfl⟩)
  refine (fixed_TT _ (w.heap.size + 1 + 1 + 1 + 1 + 1 + 1) (w.heap.size + 1 + 1 + 1 + 1 + 1 + 1 + 1 + 1) n l l1 l2 _ ?_ ?_ ?_ ?_ ?_ ?_ ?_ ?_ ?_).mono ?_
  rotate_right
  · rintro e w' ⟨rfl, k, rfl⟩
    rw [e1, e2]
    go_wp2_with fail
    go_quiet (fail)
    go_wp2_with fail
    refine (same_any _ f1 n1 l1 p1 _ ?_ ?_ ?_ ?_ ?_ ?_ ?_).mono ?_
    rotate_right
    · rintro e w' ⟨rfl, k, rfl⟩
      go_wp2_with fail
      refine (same_any _ f2 n2 l2 p2 _ ?_ ?_ ?_ ?_ ?_ ?_ ?_).mono ?_
      rotate_right
      · rintro e w' ⟨rfl, k, rfl⟩
        go_wp2_with fail
        go_ret
        refine ⟨rfl, ?_⟩
        repeat (first | exact Below.refl _ _ | apply bl_alloc | apply bl_drewN | apply Below.drew)
      all_goals (simp [go_sem])

    all_goals (simp [go_sem])
  all_goals (simp [go_sem])

theorem law_TT2 (f n l p f1 n1 l1 p1 f2 n2 l2 p2 : Int) (w : World) (h1 : n < l1) (h2 : ¬ l1 < l2) :
    Calls Yba.prog 4 #[.agg #[.int .u64 f, .int .u64 n, .int .u64 l, .int .u32 p], .bool true, .agg #[.int .u64 f1, .int .u64 n1, .int .u64 l1, .int .u32 p1], .bool true, .agg #[.int .u64 f2, .int .u64 n2, .int .u64 l2, .int .u32 p2]] w fun e w' =>
      e = .returned (.bool true) ∧ Below w.heap.size w w' := by
  have hnq := neq_same
  have e1 : gm n l1 = l1 := by simp [gm, h1]
  have e2 : gm l1 l2 = l1 := by simp [gm, h2]
  go_enter Yba.func4, Yba.ntmps4
  go_wp2_with (go_at_call 7; refine (build_any _ _ _ _ _).mono ?_; rintro e w' ⟨rfl, rfl⟩)
  refine (fixed_TT _ (w.heap.size + 1 + 1 + 1 + 1 + 1 + 1) (w.heap.size + 1 + 1 + 1 + 1 + 1 + 1 + 1 + 1) n l l1 l2 _ ?_ ?_ ?_ ?_ ?_ ?_ ?_ ?_ ?_).mono ?_
  rotate_right
  · rintro e w' ⟨rfl, k, rfl⟩
    rw [e1, e2]
    go_wp2_with fail
    go_quiet (fail)
    go_wp2_with fail
    refine (same_any _ f1 n1 l1 p1 _ ?_ ?_ ?_ ?_ ?_ ?_ ?_).mono ?_
    rotate_right
    · rintro e w' ⟨rfl, k, rfl⟩
      go_wp2_with fail
      refine (same_any _ f2 n2 l2 p2 _ ?_ ?_ ?_ ?_ ?_ ?_ ?_).mono ?_
      rotate_right
      · rintro e w' ⟨rfl, k, rfl⟩
        go_wp2_with fail
        go_ret
        refine ⟨rfl, ?_⟩
        repeat (first | exact Below.refl _ _ | apply bl_alloc | apply bl_drewN | apply Below.drew)
      all_goals (simp [go_sem])

    all_goals (simp [go_sem])
  all_goals (simp [go_sem])

theorem law_TT3 (f n l p f1 n1 l1 p1 f2 n2 l2 p2 : Int) (w : World) (h1 : ¬ n < l1) (h2 : n < l2) :
    Calls Yba.prog 4 #[.agg #[.int .u64 f, .int .u64 n, .int .u64 l, .int .u32 p], .bool true, .agg #[.int .u64 f1, .int .u64 n1, .int .u64 l1, .int .u32 p1], .bool true, .agg #[.int .u64 f2, .int .u64 n2, .int .u64 l2, .int .u32 p2]] w fun e w' =>
      e = .returned (.bool true) ∧ Below w.heap.size w w' := by
  have hnq := neq_same
  have e1 : gm n l1 = n := by simp [gm, h1]
  have e2 : gm n l2 = l2 := by simp [gm, h2]
  go_enter Yba.func4, Yba.ntmps4
  go_wp2_with (go_at_call 7; refine (build_any _ _ _ _ _).mono ?_; rintro e w' ⟨rfl, rfl⟩)
  refine (fixed_TT _ (w.heap.size + 1 + 1 + 1 + 1 + 1 + 1) (w.heap.size + 1 + 1 + 1 + 1 + 1 + 1 + 1 + 1) n l l1 l2 _ ?_ ?_ ?_ ?_ ?_ ?_ ?_ ?_ ?_).mono ?_
  rotate_right
  · rintro e w' ⟨rfl, k, rfl⟩
    rw [e1, e2]
    go_wp2_with fail
    go_quiet (fail)
    go_wp2_with fail
    refine (same_any _ f1 n1 l1 p1 _ ?_ ?_ ?_ ?_ ?_ ?_ ?_).mono ?_
    rotate_right
    · rintro e w' ⟨rfl, k, rfl⟩
      go_wp2_with fail
      refine (same_any _ f2 n2 l2 p2 _ ?_ ?_ ?_ ?_ ?_ ?_ ?_).mono ?_
      rotate_right
      · rintro e w' ⟨rfl, k, rfl⟩
        go_wp2_with fail
        go_ret
        refine ⟨rfl, ?_⟩
        repeat (first | exact Below.refl _ _ | apply bl_alloc | apply bl_drewN | apply Below.drew)
      all_goals (simp [go_sem])

    all_goals (simp [go_sem])
  all_goals (simp [go_sem])

theorem law_TT4 (f n l p f1 n1 l1 p1 f2 n2 l2 p2 : Int) (w : World) (h1 : ¬ n < l1) (h2 : ¬ n < l2) :
    Calls Yba.prog 4 #[.agg #[.int .u64 f, .int .u64 n, .int .u64 l, .int .u32 p], .bool true, .agg #[.int .u64 f1, .int .u64 n1, .int .u64 l1, .int .u32 p1], .bool true, .agg #[.int .u64 f2, .int .u64 n2, .int .u64 l2, .int .u32 p2]] w fun e w' =>
      e = .returned (.bool true) ∧ Below w.heap.size w w' := by
  have hnq := neq_same
  have e1 : gm n l1 = n := by simp [gm, h1]
  have e2 : gm n l2 = n := by simp [gm, h2]
  go_enter Yba.func4, Yba.ntmps4
  go_wp2_with (go_at_call 7; refine (build_any _ _ _ _ _).mono ?_; rintro e w' ⟨rfl, rfl⟩)
  refine (fixed_TT _ (w.heap.size + 1 + 1 + 1 + 1 + 1 + 1) (w.heap.size + 1 + 1 + 1 + 1 + 1 + 1 + 1 + 1) n l l1 l2 _ ?_ ?_ ?_ ?_ ?_ ?_ ?_ ?_ ?_).mono ?_
  rotate_right
  · rintro e w' ⟨rfl, k, rfl⟩
    rw [e1, e2]
    go_wp2_with fail
    go_quiet (fail)
    go_wp2_with fail
    refine (same_any _ f1 n1 l1 p1 _ ?_ ?_ ?_ ?_ ?_ ?_ ?_).mono ?_
    rotate_right
    · rintro e w' ⟨rfl, k, rfl⟩
      go_wp2_with fail
      refine (same_any _ f2 n2 l2 p2 _ ?_ ?_ ?_ ?_ ?_ ?_ ?_).mono ?_
      rotate_right
      · rintro e w' ⟨rfl, k, rfl⟩
        go_wp2_with fail
        go_ret
        refine ⟨rfl, ?_⟩
        repeat (first | exact Below.refl _ _ | apply bl_alloc | apply bl_drewN | apply Below.drew)
      all_goals (simp [go_sem])

    all_goals (simp [go_sem])
  all_goals (simp [go_sem])

theorem law_TF1 (f n l p f1 n1 l1 p1 f2 n2 l2 p2 : Int) (w : World) (h1 : n < l1) :
    Calls Yba.prog 4 #[.agg #[.int .u64 f, .int .u64 n, .int .u64 l, .int .u32 p], .bool true, .agg #[.int .u64 f1, .int .u64 n1, .int .u64 l1, .int .u32 p1], .bool false, .agg #[.int .u64 f2, .int .u64 n2, .int .u64 l2, .int .u32 p2]] w fun e w' =>
      e = .returned (.bool true) ∧ Below w.heap.size w w' := by
  have hnq := neq_same
  have e1 : gm n l1 = l1 := by simp [gm, h1]
  go_enter Yba.func4, Yba.ntmps4
  go_wp2_with (go_at_call 7; refine (build_any _ _ _ _ _).mono ?_; rintro e w' ⟨rfl, rfl⟩)
  refine (fixed_TF _ (w.heap.size + 1 + 1 + 1 + 1 + 1 + 1) n l l1 _ ?_ ?_ ?_ ?_ ?_ ?_ ?_).mono ?_
  rotate_right
  · rintro e w' ⟨rfl, k, rfl⟩
    rw [e1]
    go_wp2_with fail
    go_quiet (fail)
    go_wp2_with fail
    refine (same_any _ f1 n1 l1 p1 _ ?_ ?_ ?_ ?_ ?_ ?_ ?_).mono ?_
    rotate_right
    · rintro e w' ⟨rfl, k, rfl⟩
      go_wp2_with fail
      go_ret
      refine ⟨rfl, ?_⟩
      repeat (first | exact Below.refl _ _ | apply bl_alloc | apply bl_drewN | apply Below.drew)
    all_goals (simp [go_sem])
  all_goals (simp [go_sem])

theorem law_TF2 (f n l p f1 n1 l1 p1 f2 n2 l2 p2 : Int) (w : World) (h1 : ¬ n < l1) :
    Calls Yba.prog 4 #[.agg #[.int .u64 f, .int .u64 n, .int .u64 l, .int .u32 p], .bool true, .agg #[.int .u64 f1, .int .u64 n1, .int .u64 l1, .int .u32 p1], .bool false, .agg #[.int .u64 f2, .int .u64 n2, .int .u64 l2, .int .u32 p2]] w fun e w' =>
      e = .returned (.bool true) ∧ Below w.heap.size w w' := by
  have hnq := neq_same
  have e1 : gm n l1 = n := by simp [gm, h1]
  go_enter Yba.func4, Yba.ntmps4
  go_wp2_with (go_at_call 7; refine (build_any _ _ _ _ _).mono ?_; rintro e w' ⟨rfl, rfl⟩)
  refine (fixed_TF _ (w.heap.size + 1 + 1 + 1 + 1 + 1 + 1) n l l1 _ ?_ ?_ ?_ ?_ ?_ ?_ ?_).mono ?_
  rotate_right
  · rintro e w' ⟨rfl, k, rfl⟩
    rw [e1]
    go_wp2_with fail
    go_quiet (fail)
    go_wp2_with fail
    refine (same_any _ f1 n1 l1 p1 _ ?_ ?_ ?_ ?_ ?_ ?_ ?_).mono ?_
    rotate_right
    · rintro e w' ⟨rfl, k, rfl⟩
      go_wp2_with fail
      go_ret
      refine ⟨rfl, ?_⟩
      repeat (first | exact Below.refl _ _ | apply bl_alloc | apply bl_drewN | apply Below.drew)
    all_goals (simp [go_sem])
  all_goals (simp [go_sem])

theorem law_FT1 (f n l p f1 n1 l1 p1 f2 n2 l2 p2 : Int) (w : World) (h1 : n < l2) :
    Calls Yba.prog 4 #[.agg #[.int .u64 f, .int .u64 n, .int .u64 l, .int .u32 p], .bool false, .agg #[.int .u64 f1, .int .u64 n1, .int .u64 l1, .int .u32 p1], .bool true, .agg #[.int .u64 f2, .int .u64 n2, .int .u64 l2, .int .u32 p2]] w fun e w' =>
      e = .returned (.bool true) ∧ Below w.heap.size w w' := by
  have hnq := neq_same
  have e1 : gm n l2 = l2 := by simp [gm, h1]
  go_enter Yba.func4, Yba.ntmps4
  go_wp2_with (go_at_call 7; refine (build_any _ _ _ _ _).mono ?_; rintro e w' ⟨rfl, rfl⟩)
  refine (fixed_FT _ (w.heap.size + 1 + 1 + 1 + 1 + 1 + 1) n l l2 _ ?_ ?_ ?_ ?_ ?_ ?_ ?_).mono ?_
  rotate_right
  · rintro e w' ⟨rfl, k, rfl⟩
    rw [e1]
    go_wp2_with fail
    go_quiet (fail)
    go_wp2_with fail
    refine (same_any _ f2 n2 l2 p2 _ ?_ ?_ ?_ ?_ ?_ ?_ ?_).mono ?_
    rotate_right
    · rintro e w' ⟨rfl, k, rfl⟩
      go_wp2_with fail
      go_ret
      refine ⟨rfl, ?_⟩
      repeat (first | exact Below.refl _ _ | apply bl_alloc | apply bl_drewN | apply Below.drew)
    all_goals (simp [go_sem])
  all_goals (simp [go_sem])

theorem law_FT2 (f n l p f1 n1 l1 p1 f2 n2 l2 p2 : Int) (w : World) (h1 : ¬ n < l2) :
    Calls Yba.prog 4 #[.agg #[.int .u64 f, .int .u64 n, .int .u64 l, .int .u32 p], .bool false, .agg #[.int .u64 f1, .int .u64 n1, .int .u64 l1, .int .u32 p1], .bool true, .agg #[.int .u64 f2, .int .u64 n2, .int .u64 l2, .int .u32 p2]] w fun e w' =>
      e = .returned (.bool true) ∧ Below w.heap.size w w' := by
  have hnq := neq_same
  have e1 : gm n l2 = n := by simp [gm, h1]
  go_enter Yba.func4, Yba.ntmps4
  go_wp2_with (go_at_call 7; refine (build_any _ _ _ _ _).mono ?_; rintro e w' ⟨rfl, rfl⟩)
  refine (fixed_FT _ (w.heap.size + 1 + 1 + 1 + 1 + 1 + 1) n l l2 _ ?_ ?_ ?_ ?_ ?_ ?_ ?_).mono ?_
  rotate_right
  · rintro e w' ⟨rfl, k, rfl⟩
    rw [e1]
    go_wp2_with fail
    go_quiet (fail)
    go_wp2_with fail
    refine (same_any _ f2 n2 l2 p2 _ ?_ ?_ ?_ ?_ ?_ ?_ ?_).mono ?_
    rotate_right
    · rintro e w' ⟨rfl, k, rfl⟩
      go_wp2_with fail
      go_ret
      refine ⟨rfl, ?_⟩
      repeat (first | exact Below.refl _ _ | apply bl_alloc | apply bl_drewN | apply Below.drew)
    all_goals (simp [go_sem])
  all_goals (simp [go_sem])

theorem law_FF (f n l p f1 n1 l1 p1 f2 n2 l2 p2 : Int) (w : World)  :
    Calls Yba.prog 4 #[.agg #[.int .u64 f, .int .u64 n, .int .u64 l, .int .u32 p], .bool false, .agg #[.int .u64 f1, .int .u64 n1, .int .u64 l1, .int .u32 p1], .bool false, .agg #[.int .u64 f2, .int .u64 n2, .int .u64 l2, .int .u32 p2]] w fun e w' =>
      e = .returned (.bool true) ∧ Below w.heap.size w w' := by
  have hnq := neq_same
  go_enter Yba.func4, Yba.ntmps4
  go_wp2_with (go_at_call 7; refine (build_any _ _ _ _ _).mono ?_; rintro e w' ⟨rfl, rfl⟩)
  refine (fixed_FF _ n l _ ?_ ?_ ?_ ?_ ?_).mono ?_
  rotate_right
  · rintro e w' ⟨rfl, rfl⟩
    go_wp2_with fail
    go_quiet (fail)
    go_wp2_with fail
    go_ret
    refine ⟨rfl, ?_⟩
    repeat (first | exact Below.refl _ _ | apply bl_alloc | apply bl_drewN | apply Below.drew)
  all_goals (simp [go_sem])

theorem law_any (f n l p f1 n1 l1 p1 f2 n2 l2 p2 : Int) (a b : Bool) (w : World) :
    Calls Yba.prog 4 #[.agg #[.int .u64 f, .int .u64 n, .int .u64 l, .int .u32 p], .bool a, .agg #[.int .u64 f1, .int .u64 n1, .int .u64 l1, .int .u32 p1], .bool b, .agg #[.int .u64 f2, .int .u64 n2, .int .u64 l2, .int .u32 p2]] w fun e w' =>
      e = .returned (.bool true) ∧ Below w.heap.size w w' := by
  cases a <;> cases b
  · exact law_FF f n l p f1 n1 l1 p1 f2 n2 l2 p2 w
  · by_cases h1 : n < l2
    · exact law_FT1 f n l p f1 n1 l1 p1 f2 n2 l2 p2 w h1
    · exact law_FT2 f n l p f1 n1 l1 p1 f2 n2 l2 p2 w h1
  · by_cases h1 : n < l1
    · exact law_TF1 f n l p f1 n1 l1 p1 f2 n2 l2 p2 w h1
    · exact law_TF2 f n l p f1 n1 l1 p1 f2 n2 l2 p2 w h1
  · by_cases h1 : n < l1
    · by_cases h2 : l1 < l2
      · exact law_TT1 f n l p f1 n1 l1 p1 f2 n2 l2 p2 w h1 h2
      · exact law_TT2 f n l p f1 n1 l1 p1 f2 n2 l2 p2 w h1 h2
    · by_cases h2 : n < l2
      · exact law_TT3 f n l p f1 n1 l1 p1 f2 n2 l2 p2 w h1 h2
      · exact law_TT4 f n l p f1 n1 l1 p1 f2 n2 l2 p2 w h1 h2
end Go.Proofs.Ybulkdxeq.C
