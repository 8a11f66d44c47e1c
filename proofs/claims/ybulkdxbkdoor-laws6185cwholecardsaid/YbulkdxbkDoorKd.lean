import Derived.Test.YbulkdxbkDoorKc
import Derived.BigRegion
namespace Go.Proofs.YbulkdxbkDoor
open Go.RowKit
set_option linter.unusedVariables false

theorem info79 : (Ybad.prog.info? 79).map (fun i => (i.zero, i.size, i.bytes)) = some (some (.int .u64 0), 1, 8) := by kernel_rfl
/-- make([]T, n), its cells a letter -/
theorem make_ex (T E : TypeId) {z : Value} {bytes : Nat} (hT : Ybad.prog.underlying T = some (.slice E)) (hE : (Ybad.prog.info? E).map (fun i => (i.zero, i.size, i.bytes)) = some (some z, 1, bytes)) (hz : z.cells = #[z]) (hb : bytes ≤ 64) (n : Nat) (hn : n ≤ 1048576) :
    ∃ C : Array Value, C.toList = List.replicate n z ∧ ∀ w, (Instr.makeSlice T (.int .i64 (n : Int)) (.int .i64 (n : Int))).run Ybad.prog w = .ok (.slice (some ⟨w.heap.size, 0, none⟩) n n) (w.alloc (.cells C E)) := by
  obtain ⟨i, hi, h0, h1, h2⟩ := info_parts hE
  refine ⟨madeCells z.cells (n * 1), made_one z hz n, fun w => ?_⟩
  have h3 : (i.bytes : Int) * (n : Int) ≤ 281474976710656 := by
    have : i.bytes * n ≤ 64 * 1048576 := Nat.mul_le_mul (by omega) hn
    have h4 : ((i.bytes * n : Nat) : Int) ≤ 281474976710656 := by omega
    rwa [Int.natCast_mul] at h4
  have := run_makeSlice (P := Ybad.prog) w T E i z hT hi h0 .i64 .i64 (n : Int) (n : Int) (by omega) (Int.le_refl _) (by rw [h1]; simp; omega) h3 (by omega)
  rw [h1] at this
  simpa using this
theorem made_own {w : World} {n : Nat} {z : Value} {E : TypeId} {C : Array Value} (hC : C.toList = List.replicate n z) (hn : n ≤ 1048576) {B : Nat} (hB : B ≤ w.heap.size) :
    (w.alloc (.cells C E)).ownsRow B E 1 (.slice (some ⟨w.heap.size, 0, none⟩) n n) n (List.replicate n z) := by
  refine ⟨by simp, .inr ⟨w.heap.size, n, C, rfl, hB, heap_new _ _, Nat.le_refl _, by unfold maxLen; omega, ?_, ?_⟩⟩
  · have : C.toList.length = n := by rw [hC]; simp
    simpa using this
  · rw [hC, Nat.mul_one, List.take_of_length_le (by simp)]
theorem replicate_bools (n : Nat) : List.replicate n (Value.bool false) = bools n fun _ => false := by
  apply List.ext_getElem?
  intro i
  by_cases hi : i < n
  · rw [bools_get hi, List.getElem?_replicate, if_pos hi]
  · rw [List.getElem?_eq_none (by simp; omega), List.getElem?_eq_none (by rw [bools_len]; omega)]
def u64s (L : List Nat) : List Value := L.map fun (x : Nat) => Value.int .u64 (x : Int)
theorem u64s_len (L : List Nat) : (u64s L).length = L.length := by simp [u64s]
theorem u64s_get {L : List Nat} {i x : Nat} (h : L[i]? = some x) : (u64s L)[i]? = some (.int .u64 (x : Int)) := by simp [u64s, h]
theorem u64s_set (L : List Nat) (i x : Nat) : (u64s L).set i (.int .u64 (x : Int)) = u64s (L.set i x) := by simp [u64s, List.map_set]
theorem u64s_zero (n : Nat) : List.replicate n (Value.int .u64 0) = u64s (List.replicate n 0) := by simp [u64s]

theorem newBitSet_any (w : World) (n : Nat) (hn : n ≤ 65536) :
    Calls Ybad.prog 28 #[.int .i64 (n : Int)] w fun e w' => e = .returned (.slice (some ⟨w.heap.size, 0, none⟩) ((n + 63) / 64) ((n + 63) / 64)) ∧ w'.ownsRow w.heap.size 79 1 (.slice (some ⟨w.heap.size, 0, none⟩) ((n + 63) / 64) ((n + 63) / 64)) ((n + 63) / 64) (u64s (List.replicate ((n + 63) / 64) 0)) ∧ Fr w w' [] := by
  obtain ⟨m, hm⟩ : ∃ m, m = (n + 63) / 64 := ⟨_, rfl⟩
  rw [← hm]
  obtain ⟨C1, hC1, mk1⟩ := make_ex 58 79 Ybad.underlying58 info79 rfl (by omega) m (by omega)
  have he : ((n : Int) + 63) / 64 = (m : Int) := by omega
  have HC : Hid (C1.toList = List.replicate m (.int .u64 0)) := hC1
  have HM : Hid (m ≤ 1048576) := (by omega : m ≤ 1048576)
  clear hm hC1
  go_enter Ybad.func28, Ybad.ntmps28
  go_wp2_with fail
  go_ret
  refine ⟨rfl, ?_, (Fr.refl w []).alloc _⟩
  rw [← u64s_zero]
  exact made_own HC.out HM.out (Nat.le_refl _)
theorem newSetBuilder_any (w : World) (n : Nat) (hn : n ≤ 65536) :
    Calls Ybad.prog 20 #[.int .i64 (n : Int)] w fun e w' => ∃ (b1 b2 : Nat), e = .returned (.agg #[.slice (some ⟨b1, 0, none⟩) ((n + 63) / 64) ((n + 63) / 64), .slice none 0 0, .bool false, .slice (some ⟨b2, 0, none⟩) (((n + 63) / 64 + 63) / 64) (((n + 63) / 64 + 63) / 64), .slice none 0 0]) ∧ Fr w w' [] ∧ b1 ≠ b2 ∧
      w'.ownsRow w.heap.size 79 1 (.slice (some ⟨b1, 0, none⟩) ((n + 63) / 64) ((n + 63) / 64)) ((n + 63) / 64) (u64s (List.replicate ((n + 63) / 64) 0)) ∧
      w'.ownsRow w.heap.size 79 1 (.slice (some ⟨b2, 0, none⟩) (((n + 63) / 64 + 63) / 64) (((n + 63) / 64 + 63) / 64)) (((n + 63) / 64 + 63) / 64) (u64s (List.replicate (((n + 63) / 64 + 63) / 64) 0)) := by
  obtain ⟨m, hm⟩ : ∃ m, m = (n + 63) / 64 := ⟨_, rfl⟩
  have hm2 : m ≤ 65536 := by omega
  have hc1 := newBitSet_any (w.alloc (.cells #[.slice none 0 0, .slice none 0 0, .bool false, .slice none 0 0, .slice none 0 0] 60)) n hn
  rw [← hm] at hc1 ⊢
  clear hm
  obtain ⟨m2, hm3⟩ : ∃ m2, m2 = (m + 63) / 64 := ⟨_, rfl⟩
  rw [← hm3]
  have HM3 : Hid (m2 = (m + 63) / 64) := hm3
  clear hm3
  go_enter Ybad.func20, Ybad.ntmps20
  go_wp2_with fail
  refine hc1.mono ?_
  rintro e w1 ⟨rfl, ho1, hf⟩
  have hsz : (w.alloc (.cells #[.slice none 0 0, .slice none 0 0, .bool false, .slice none 0 0, .slice none 0 0] 60)).heap.size = w.heap.size + 1 := by simp
  have hb : w1.heap[w.heap.size]? = some (.cells #[.slice none 0 0, .slice none 0 0, .bool false, .slice none 0 0, .slice none 0 0] 60 (0, 0)) := hf.blk (heap_new _ _) (by simp)
  have HF : Hid (Fr w w1 []) := ((Fr.refl w []).alloc _).trans hf
  have HO1 : Hid (w1.ownsRow w.heap.size 79 1 (.slice (some ⟨w.heap.size + 1, 0, none⟩) m m) m (u64s (List.replicate m 0))) := by
    rw [hsz] at ho1
    exact own_base ho1 fun g hg => by have := (ho1.lt g hg).1; omega
  have hc2 := newBitSet_any w1 m hm2
  rw [← HM3.out] at hc2
  have HC2 : Hid (Calls Ybad.prog 28 #[.int .i64 (m : Int)] w1 fun e w' => e = .returned (.slice (some ⟨w1.heap.size, 0, none⟩) m2 m2) ∧ w'.ownsRow w1.heap.size 79 1 (.slice (some ⟨w1.heap.size, 0, none⟩) m2 m2) m2 (u64s (List.replicate m2 0)) ∧ Fr w1 w' []) := hc2
  clear hf ho1 hc1 hc2 hsz
  go_wp2_with (go_at_call 28; refine HC2.out.mono ?_)
  rintro e w2 ⟨rfl, ho2, hf⟩
  have hb2 : w2.heap[w.heap.size]? = some (.cells #[.slice none 0 0, .slice none 0 0, .bool false, .slice none 0 0, .slice none 0 0] 60 (0, 0)) := hf.blk hb (by simp)
  have HF2 : Hid (Fr w w2 []) := HF.out.trans hf
  have hl1 := (HO1.out.lt (w.heap.size + 1) rfl).2
  have hfs := HF.out.size
  have HO2 : Hid (w2.ownsRow w.heap.size 79 1 (.slice (some ⟨w.heap.size + 1, 0, none⟩) m m) m (u64s (List.replicate m 0))) := hf.own HO1.out (by simp)
  have HO3 : Hid (w2.ownsRow w.heap.size 79 1 (.slice (some ⟨w1.heap.size, 0, none⟩) m2 m2) m2 (u64s (List.replicate m2 0))) := own_base ho2 fun g hg => by have := (ho2.lt g hg).1; omega
  have k0 : w2.cell? ⟨w.heap.size, 0, none⟩ = some (.slice none 0 0) := by simp [World.cell?, hb2]
  have f0 : w2.frozen? ⟨w.heap.size, 0, none⟩ = false := by simp [World.frozen?, hb2]
  have k1 : w2.cell? ⟨w.heap.size, 1, none⟩ = some (.slice none 0 0) := by simp [World.cell?, hb2]
  have f1 : w2.frozen? ⟨w.heap.size, 1, none⟩ = false := by simp [World.frozen?, hb2]
  have k2 : w2.cell? ⟨w.heap.size, 2, none⟩ = some (.bool false) := by simp [World.cell?, hb2]
  have f2 : w2.frozen? ⟨w.heap.size, 2, none⟩ = false := by simp [World.frozen?, hb2]
  have k3 : w2.cell? ⟨w.heap.size, 3, none⟩ = some (.slice none 0 0) := by simp [World.cell?, hb2]
  have f3 : w2.frozen? ⟨w.heap.size, 3, none⟩ = false := by simp [World.frozen?, hb2]
  have k4 : w2.cell? ⟨w.heap.size, 4, none⟩ = some (.slice none 0 0) := by simp [World.cell?, hb2]
  have f4 : w2.frozen? ⟨w.heap.size, 4, none⟩ = false := by simp [World.frozen?, hb2]
  have HB2 : Hid (w2.heap[w.heap.size]? = some (.cells #[.slice none 0 0, .slice none 0 0, .bool false, .slice none 0 0, .slice none 0 0] 60 (0, 0))) := hb2
  clear hf hb HF hb2 ho2 HC2
  go_wp2_with fail
  try simp only [Exit.inBlock, Exit.then]
  refine bodyPost_ret (results_cell_row rfl _ _ w.heap.size 60 #[.slice (some ⟨w.heap.size + 1, 0, none⟩) m m, .slice none 0 0, .bool false, .slice (some ⟨w1.heap.size, 0, none⟩) m2 m2, .slice none 0 0] (0, 0) _ rfl (setCell_at (setCell_at (setCell_at (setCell_at (setCell_at HB2.out _ _) _ _) _ _) _ _) _ _) Ybad.underlying60 rfl (by kernel_rfl)) rfl ?_
  have hfar : ∀ {g m' : Nat} {xs : List Value} {v : Value}, v = .slice (some ⟨g, 0, none⟩) m' m' → g ≠ w.heap.size → w2.ownsRow w.heap.size 79 1 v m' xs → ∀ a0 a1 a2 a3 a4, (((((w2.setCell ⟨w.heap.size, 0, none⟩ a0).setCell ⟨w.heap.size, 1, none⟩ a1).setCell ⟨w.heap.size, 2, none⟩ a2).setCell ⟨w.heap.size, 3, none⟩ a3).setCell ⟨w.heap.size, 4, none⟩ a4).ownsRow w.heap.size 79 1 v m' xs := by
    intro g m' xs v hv hne ho a0 a1 a2 a3 a4
    subst hv
    refine own_same ho fun b hb => ?_
    have e : g = b := by cases hb; rfl
    subst e
    exact (setCell_far hne _ _).trans ((setCell_far hne _ _).trans ((setCell_far hne _ _).trans ((setCell_far hne _ _).trans (setCell_far hne _ _))))
  exact ⟨_, _, rfl, ((((HF2.out.set (.inr (Nat.le_refl _)) _ _).set (.inr (Nat.le_refl _)) _ _).set (.inr (Nat.le_refl _)) _ _).set (.inr (Nat.le_refl _)) _ _).set (.inr (Nat.le_refl _)) _ _, by omega, hfar rfl (by omega) HO2.out _ _ _ _ _, hfar rfl (by omega) HO3.out _ _ _ _ _⟩
end Go.Proofs.YbulkdxbkDoor
