import Derived.Test.YbulkdxbkK6
namespace Go.Proofs.Ybulkdxbk
open Go.RowKit
set_option linter.unusedVariables false

theorem info97 : (Yba.prog.info? 97).map (fun i => (i.zero, i.size, i.bytes)) = some (some (.int .u64 0), 1, 8) := by kernel_rfl
theorem newBitSet_any (w : World) (n : Nat) (hn : n ≤ 256) :
    Calls Yba.prog 27 #[.int .i64 (n : Int)] w fun e w' => ∃ m, m ≤ 5 ∧ e = .returned (.slice (some ⟨w.heap.size, 0, none⟩) m m) ∧ Fr w w' [] := by
  obtain ⟨i3, hi3, hz03, hz13, hz23⟩ := info_parts info97
  obtain ⟨m, hm⟩ : ∃ m, m = (n + 63) / 64 := ⟨_, rfl⟩
  have mk1 : i3.bytes * m ≤ 281474976710656 := by rw [hz23]; omega
  have mk2 : m ≤ maxLen := by unfold maxLen; omega
  have HE : Hid (((n : Int) + 63) / 64 = (m : Int)) := (by omega : ((n : Int) + 63) / 64 = (m : Int))
  have hm5 : m ≤ 5 := by omega
  clear hm
  go_enter Yba.func27, Yba.ntmps27
  go_wp2_with (first | (at_make; refine wpList_make_full _ rfl _ _ 46 rfl w.heap.size 97 i3 (.int .u64 0) 1 Yba.underlying46 hi3 hz03 hz13 .i64 .i64 _ _ m rfl rfl HE.out HE.out mk1 mk2 (Nat.le_refl _) ?_; intro W4 hown4 hgrow4; have HGROW4 : Hid (w.grownBy W4 none) := hgrow4; clear hown4 hgrow4))
  go_ret
  exact ⟨m, hm5, rfl, (Fr.refl w []).grown HGROW4.out (fun b hb => by cases hb)⟩
theorem newSetBuilder_any (w : World) (n : Nat) (hn : n ≤ 256) :
    Calls Yba.prog 21 #[.int .i64 (n : Int)] w fun e w' => ∃ (m m2 b1 b2 : Nat), e = .returned (.agg #[.slice (some ⟨b1, 0, none⟩) m m, .slice none 0 0, .bool false, .slice (some ⟨b2, 0, none⟩) m2 m2, .slice none 0 0]) ∧ Fr w w' [] := by
  go_enter Yba.func21, Yba.ntmps21
  go_wp2_with fail
  refine (newBitSet_any _ n hn).mono ?_
  rintro e w1 ⟨m, hm, rfl, hf⟩
  have hb : w1.heap[w.heap.size]? = some (.cells #[.slice none 0 0, .slice none 0 0, .bool false, .slice none 0 0, .slice none 0 0] 48 (0, 0)) := hf.blk (heap_new _ _) (by simp)
  have HF : Hid (Fr w w1 []) := ((Fr.refl w []).alloc _).trans hf
  clear hf
  go_wp2_with fail
  refine (newBitSet_any _ m (by omega)).mono ?_
  rintro e w2 ⟨m2, hm2, rfl, hf⟩
  have hb2 : w2.heap[w.heap.size]? = some (.cells #[.slice none 0 0, .slice none 0 0, .bool false, .slice none 0 0, .slice none 0 0] 48 (0, 0)) := hf.blk hb (by simp)
  have HF2 : Hid (Fr w w2 []) := HF.out.trans hf
  have hz : w1.heap.size ≤ w2.heap.size := hf.size
  have k0 : w2.cell? ⟨w.heap.size, 0, none⟩ = some (.slice none 0 0) := by simp [World.cell?, hb2]
  have f0 : w2.frozen? ⟨w.heap.size, 0, none⟩ = false := by simp [World.frozen?, hb2]
  have k1 : w2.cell? ⟨w.heap.size, 1, none⟩ = some (.slice none 0 0) := by simp [World.cell?, hb2]
  have f1 : w2.frozen? ⟨w.heap.size, 1, none⟩ = false := by simp [World.frozen?, hb2]
  have k2 : w2.cell? ⟨w.heap.size, 2, none⟩ = some (.bool false) := by simp [World.cell?, hb2]
  have f2 : w2.frozen? ⟨w.heap.size, 2, none⟩ = false := by simp [World.frozen?, hb2]
  have k3 : w2.cell? ⟨w.heap.size, 3, none⟩ = some (.slice none 0 0) := by simp [World.cell?, hb2]
  have f3 : w2.frozen? ⟨w.heap.size, 3, none⟩ = false := by simp [World.frozen?, hb2]
  have k4 : w2.cell? ⟨w.heap.size, 4, none⟩ = some (.slice none 0 0) := by simp [World.cell?, hb2]
  have f4 : w2.frozen? ⟨w.heap.size, 4, none⟩ = false := by simp [World.frozen?, hb2]
  have HB2 : Hid (w2.heap[w.heap.size]? = some (.cells #[.slice none 0 0, .slice none 0 0, .bool false, .slice none 0 0, .slice none 0 0] 48 (0, 0))) := hb2
  clear hf hb HF hb2
  go_wp2_with fail
  try simp only [Exit.inBlock, Exit.then]
  refine bodyPost_ret (results_cell_row rfl _ _ w.heap.size 48 #[.slice (some ⟨w.heap.size + 1, 0, none⟩) m m, .slice none 0 0, .bool false, .slice (some ⟨w1.heap.size, 0, none⟩) m2 m2, .slice none 0 0] (0, 0) _ rfl (setCell_at (setCell_at (setCell_at (setCell_at (setCell_at HB2.out _ _) _ _) _ _) _ _) _ _) Yba.underlying48 rfl (by kernel_rfl)) rfl ?_
  exact ⟨_, _, _, _, rfl, ((((HF2.out.set (.inr (Nat.le_refl _)) _ _).set (.inr (Nat.le_refl _)) _ _).set (.inr (Nat.le_refl _)) _ _).set (.inr (Nat.le_refl _)) _ _).set (.inr (Nat.le_refl _)) _ _⟩
end Go.Proofs.Ybulkdxbk
