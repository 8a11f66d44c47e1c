import Derived.Test.YbulkdxbkKj
import Derived.BigRegion
namespace Go.Proofs.Ybulkdxbk
open Go.RowKit
set_option linter.unusedVariables false

theorem closer_endA {w w' : World} {n : Nat} {C1 : Array Value} (hC : C1.toList = List.replicate n (.bool false)) (hn : n ≤ 256) (hf : Fr (w.alloc (.cells C1 4)).drew w' []) (o : Obj) :
    (w'.alloc o).heap[w'.heap.size]? = some o ∧ (w'.alloc o).ownsRow w.heap.size 4 1 (.slice (some ⟨w.heap.size, 0, none⟩) n n) n (bools n fun _ => false) ∧ Fr w (w'.alloc o) [] ∧ w.heap.size ≤ w'.heap.size ∧ w'.heap.size ≠ w.heap.size := by
  have ho := made_own (w := w) (E := 4) (B := w.heap.size) hC (by omega) (Nat.le_refl _)
  rw [replicate_bools] at ho
  have hs := hf.size
  have hs2 : (w.alloc (.cells C1 4)).drew.heap.size = w.heap.size + 1 := by simp
  exact ⟨heap_new _ _, (hf.own (own_same (w' := (w.alloc (.cells C1 4)).drew) ho fun _ _ => rfl) (by simp)).alloc _, ((((Fr.refl w []).alloc _).drew).trans hf).alloc _, by omega, by omega⟩
theorem closer_endB {w w' : World} {n : Nat} {C1 : Array Value} (hC : C1.toList = List.replicate n (.bool false)) (hn : n ≤ 256) (hf : Fr w.drew w' []) (o : Obj) :
    ((w'.alloc (.cells C1 4)).alloc o).heap[w'.heap.size + 1]? = some o ∧ ((w'.alloc (.cells C1 4)).alloc o).ownsRow w.heap.size 4 1 (.slice (some ⟨w'.heap.size, 0, none⟩) n n) n (bools n fun _ => false) ∧ Fr w ((w'.alloc (.cells C1 4)).alloc o) [] ∧ w.heap.size ≤ w'.heap.size + 1 ∧ w'.heap.size + 1 ≠ w'.heap.size := by
  have hs : w.heap.size ≤ w'.heap.size := hf.size
  have ho := made_own (w := w') (E := 4) (B := w.heap.size) hC (by omega) hs
  rw [replicate_bools] at ho
  have hnew := heap_new (w'.alloc (.cells C1 4)) o
  rw [show (w'.alloc (.cells C1 4)).heap.size = w'.heap.size + 1 by simp] at hnew
  exact ⟨hnew, ho.alloc _, ((((Fr.refl w []).drew).trans hf).alloc _).alloc _, by omega, by omega⟩
set_option maxRecDepth 100000 in
set_option maxHeartbeats 8000000 in
theorem newCloser_any (w : World) (gb n : Nat) (NL : List (List Nat)) (hn1 : 0 < n) (hn : n ≤ 256) (hfl : NL.flatten.length ≤ 65536) (hC : Cond w gb n NL) :
    Calls Yba.prog 11 #[.pointer (some ⟨gb, 0, none⟩)] w fun e w' => ∃ cb mk nf x5 x6 x7 x8 x9, e = .returned (.pointer (some ⟨cb, 0, none⟩)) ∧ w'.heap[cb]? = some (cloBlk gb mk n nf (.slice none 0 0) (.slice none 0 0) x5 x6 x7 x8 x9) ∧
      w'.ownsRow w.heap.size 4 1 (.slice (some ⟨mk, 0, none⟩) n n) n (bools n fun _ => false) ∧ Fr w w' [] ∧ w.heap.size ≤ cb ∧ cb ≠ mk := by
  obtain ⟨ck, so, sc, sb, fb, fc, h1, h2, h3, h4, h5, h6, h7⟩ := hC
  have c0 : w.cell? ⟨gb, 0, none⟩ = some (.slice (some ⟨ck, 0, none⟩) n (n + 1)) := by simp [World.cell?, h1]
  have c2 : w.cell? ⟨gb, 2, none⟩ = some (.slice (some ⟨ck, 0, none⟩) (n + 1) (n + 1)) := by simp [World.cell?, h1]
  have c3 : w.cell? ⟨gb, 3, none⟩ = some (.slice so NL.flatten.length sc) := by simp [World.cell?, h1]
  obtain ⟨C1, hC1, mk1⟩ := make_ex 30 4 Yba.underlying30 info4 rfl (by omega) n (by omega)
  have HC1 : Hid (C1.toList = List.replicate n (.bool false)) := hC1
  have hgs : gb < w.heap.size := blk_lt h1
  clear h1 h2 h3 h4 h5 h6 h7 hC1
  generalize NL.flatten.length = fl at *
  have HK1 : Hid (∀ X w', Fr w X [] → Fr X w' [] → w'.cell? ⟨gb, 0, none⟩ = some (.slice (some ⟨ck, 0, none⟩) n (n + 1)) ∧ w'.cell? ⟨gb, 2, none⟩ = some (.slice (some ⟨ck, 0, none⟩) (n + 1) (n + 1)) ∧ w'.cell? ⟨gb, 3, none⟩ = some (.slice so fl sc)) := fun X w' h1 h2 =>
    ⟨(h1.trans h2).cell c0 (by simp), (h1.trans h2).cell c2 (by simp), (h1.trans h2).cell c3 (by simp)⟩
  go_enter Yba.func11, Yba.ntmps11
  go_wp2_with fail
  go_region_held3 (fun w' => w'.cell? ⟨gb, 0, none⟩ = some (.slice (some ⟨ck, 0, none⟩) n (n + 1)) ∧ w'.cell? ⟨gb, 2, none⟩ = some (.slice (some ⟨ck, 0, none⟩) (n + 1) (n + 1)) ∧ w'.cell? ⟨gb, 3, none⟩ = some (.slice so fl sc)) (go_keep)
    (first | (go_at_call 12; refine (len_any _ gb n (n + 1) ⟨ck, 0, none⟩ hn ?_).mono ?_; (simp [*]); rintro e w' ⟨rfl, rfl⟩) | (go_at_call 21; refine (newSetBuilder_any _ n hn).mono ?_; rintro e w' ⟨m1, m2, q1, q2, rfl, hf⟩; obtain ⟨d0, d2, d3⟩ := HK1.out _ _ (by first | exact (Fr.refl w []).drew | exact ((Fr.refl w []).alloc _).drew | exact ((Fr.refl w []).drew).alloc _ | exact Fr.refl w [] | exact (Fr.refl w []).alloc _) hf; have HF : Hid _ := hf; clear hf))
  all_goals
    go_wp2_with fail
    go_ret
    first
      | exact ⟨_, _, _, _, _, _, _, _, rfl, closer_endA HC1.out hn HF.out _⟩
      | exact ⟨_, _, _, _, _, _, _, _, rfl, closer_endB HC1.out hn HF.out _⟩
end Go.Proofs.Ybulkdxbk
