import Derived.Test.YbulkdxeqRows
import Derived.WalkKit
import Derived.WalkSpells
import Derived.Handy
import Derived.Deep.QuietTactic
import Derived.BigQuiet
import Derived.Outline
namespace Go.Proofs.Ybulkdxeq.C
open Go.RowKit

theorem build_any (f n l p : Int) (w : World) :
    Calls Yba.prog 7 #[.agg #[.int .u64 f, .int .u64 n, .int .u64 l, .int .u32 p]] w fun e w' =>
      e = .returned (.pointer (some ⟨w.heap.size + 1, 0, none⟩)) ∧
      w' = (w.alloc (.cells #[.int .u64 f, .int .u64 n, .int .u64 l, .int .u32 p] 42)).alloc (.cells #[.int .u64 f, .int .u64 n, .int .u64 l, .int .u32 p, .pointer none, .pointer none] 46) := by
  go_enter Yba.func7, Yba.ntmps7
  go_wp2
  go_ret
  exact ⟨rfl, rfl⟩

/-- same: all equal. -/
theorem same_any (b : Nat) (f n l p : Int) (w : World)
   (c0 : w.cell? ⟨b, 0, none⟩ = some (.int .u64 f)) (c1 : w.cell? ⟨b, 1, none⟩ = some (.int .u64 n)) (c2 : w.cell? ⟨b, 2, none⟩ = some (.int .u64 l))
   (c3 : w.cell? ⟨b, 3, none⟩ = some (.int .u32 p)) (c4 : w.cell? ⟨b, 4, none⟩ = some (.pointer none)) (c5 : w.cell? ⟨b, 5, none⟩ = some (.pointer none)) (hb : b < w.heap.size) :
    Calls Yba.prog 9 #[.pointer (some ⟨b, 0, none⟩), .agg #[.int .u64 f, .int .u64 n, .int .u64 l, .int .u32 p]] w fun e w' =>
      e = .returned (.bool true) ∧ ∃ k, w' = (w.alloc (.cells #[.int .u64 f, .int .u64 n, .int .u64 l, .int .u32 p] 42)).drewN k := by
  go_enter Yba.func9, Yba.ntmps9
  go_wp2
  go_quiet (fail)
  go_wp2
  go_ret
  exact ⟨rfl, _, rfl⟩

def gm (x y : Int) : Int := if x < y then y else x

theorem fixed_FF (b : Nat) (n l : Int) (w : World)
   (c1 : w.cell? ⟨b, 1, none⟩ = some (.int .u64 n)) (c2 : w.cell? ⟨b, 2, none⟩ = some (.int .u64 l))
   (c4 : w.cell? ⟨b, 4, none⟩ = some (.pointer none)) (c5 : w.cell? ⟨b, 5, none⟩ = some (.pointer none)) (f2 : w.frozen? ⟨b, 2, none⟩ = false) :
    Calls Yba.prog 8 #[.pointer (some ⟨b, 0, none⟩)] w fun e w' =>
      e = .returned (.pointer (some ⟨b, 0, none⟩)) ∧ w' = w.setCell ⟨b, 2, none⟩ (.int .u64 n) := by
  go_enter Yba.func8, Yba.ntmps8
  go_wp2
  go_ret
  exact ⟨rfl, rfl⟩

theorem fixed_TF (b lb : Nat) (n l ll : Int) (w : World)
   (c1 : w.cell? ⟨b, 1, none⟩ = some (.int .u64 n)) (c2 : w.cell? ⟨b, 2, none⟩ = some (.int .u64 l))
   (c4 : w.cell? ⟨b, 4, none⟩ = some (.pointer (some ⟨lb, 0, none⟩))) (c5 : w.cell? ⟨b, 5, none⟩ = some (.pointer none)) (f2 : w.frozen? ⟨b, 2, none⟩ = false) 
   (l2 : w.cell? ⟨lb, 2, none⟩ = some (.int .u64 ll)) (hne : b ≠ lb) :
    Calls Yba.prog 8 #[.pointer (some ⟨b, 0, none⟩)] w fun e w' =>
      e = .returned (.pointer (some ⟨b, 0, none⟩)) ∧ ∃ k, w' = ((w.setCell ⟨b, 2, none⟩ (.int .u64 n)).setCell ⟨b, 2, none⟩ (.int .u64 (gm n ll))).drewN k := by
  unfold gm
  by_cases h : n < ll
  all_goals
    go_enter Yba.func8, Yba.ntmps8
    go_wp2
    go_region
    go_wp2
    go_ret
    exact ⟨rfl, 1, rfl⟩

theorem fixed_FT (b rb : Nat) (n l rl : Int) (w : World)
   (c1 : w.cell? ⟨b, 1, none⟩ = some (.int .u64 n)) (c2 : w.cell? ⟨b, 2, none⟩ = some (.int .u64 l))
   (c4 : w.cell? ⟨b, 4, none⟩ = some (.pointer none)) (c5 : w.cell? ⟨b, 5, none⟩ = some (.pointer (some ⟨rb, 0, none⟩))) (f2 : w.frozen? ⟨b, 2, none⟩ = false) 
   (l2 : w.cell? ⟨rb, 2, none⟩ = some (.int .u64 rl)) (hne : b ≠ rb) :
    Calls Yba.prog 8 #[.pointer (some ⟨b, 0, none⟩)] w fun e w' =>
      e = .returned (.pointer (some ⟨b, 0, none⟩)) ∧ ∃ k, w' = ((w.setCell ⟨b, 2, none⟩ (.int .u64 n)).setCell ⟨b, 2, none⟩ (.int .u64 (gm n rl))).drewN k := by
  unfold gm
  by_cases h : n < rl
  all_goals
    go_enter Yba.func8, Yba.ntmps8
    go_wp2
    go_region
    go_wp2
    go_ret
    exact ⟨rfl, 1, rfl⟩

theorem fixed_TT (b lb rb : Nat) (n l ll rl : Int) (w : World)
   (c1 : w.cell? ⟨b, 1, none⟩ = some (.int .u64 n)) (c2 : w.cell? ⟨b, 2, none⟩ = some (.int .u64 l))
   (c4 : w.cell? ⟨b, 4, none⟩ = some (.pointer (some ⟨lb, 0, none⟩))) (c5 : w.cell? ⟨b, 5, none⟩ = some (.pointer (some ⟨rb, 0, none⟩))) (f2 : w.frozen? ⟨b, 2, none⟩ = false) 
   (l2 : w.cell? ⟨lb, 2, none⟩ = some (.int .u64 ll)) (r2 : w.cell? ⟨rb, 2, none⟩ = some (.int .u64 rl)) (hne : b ≠ lb) (hne' : b ≠ rb) :
    Calls Yba.prog 8 #[.pointer (some ⟨b, 0, none⟩)] w fun e w' =>
      e = .returned (.pointer (some ⟨b, 0, none⟩)) ∧ ∃ k, w' = (((w.setCell ⟨b, 2, none⟩ (.int .u64 n)).setCell ⟨b, 2, none⟩ (.int .u64 (gm n ll))).setCell ⟨b, 2, none⟩ (.int .u64 (gm (gm n ll) rl))).drewN k := by
  obtain ⟨m, hm⟩ : ∃ m, m = gm n ll := ⟨_, rfl⟩
  rw [← hm]
  unfold gm at hm
  unfold gm
  by_cases h : n < ll
  · rw [if_pos h] at hm
    subst hm
    by_cases h2 : m < rl
    all_goals
      go_enter Yba.func8, Yba.ntmps8
      go_wp2
      go_region
      go_wp2
      go_region
      go_wp2
      go_ret
      exact ⟨rfl, 2, rfl⟩
  · rw [if_neg h] at hm
    subst hm
    by_cases h2 : m < rl
    all_goals
      go_enter Yba.func8, Yba.ntmps8
      go_wp2
      go_region
      go_wp2
      go_region
      go_wp2
      go_ret
      exact ⟨rfl, 2, rfl⟩
end Go.Proofs.Ybulkdxeq.C
