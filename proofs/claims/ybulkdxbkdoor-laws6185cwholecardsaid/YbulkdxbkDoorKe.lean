import Derived.Test.YbulkdxbkDoorKd
namespace Go.Proofs.YbulkdxbkDoor
open Go.RowKit
set_option linter.unusedVariables false
set_option linter.unusedSimpArgs false

/-- what newCloser leaves -/
structure NewClo (w w' : World) (gb cb mk m n : Nat) (nf : Bool) (b1 b2 : Nat) : Prop where
  blk : w'.heap[cb]? = some (cloBlk gb mk m nf (.slice none 0 0) (.slice none 0 0) (.slice (some ⟨b1, 0, none⟩) ((n + 63) / 64) ((n + 63) / 64)) (.slice none 0 0) (.bool false) (.slice (some ⟨b2, 0, none⟩) (((n + 63) / 64 + 63) / 64) (((n + 63) / 64 + 63) / 64)) (.slice none 0 0))
  mark : w'.ownsRow w.heap.size 4 1 (.slice (some ⟨mk, 0, none⟩) m m) m (bools m fun _ => false)
  bits : w'.ownsRow w.heap.size 79 1 (.slice (some ⟨b1, 0, none⟩) ((n + 63) / 64) ((n + 63) / 64)) ((n + 63) / 64) (u64s (List.replicate ((n + 63) / 64) 0))
  use : w'.ownsRow w.heap.size 79 1 (.slice (some ⟨b2, 0, none⟩) (((n + 63) / 64 + 63) / 64) (((n + 63) / 64 + 63) / 64)) (((n + 63) / 64 + 63) / 64) (u64s (List.replicate (((n + 63) / 64 + 63) / 64) 0))
  fr : Fr w w' []
  cw : w.heap.size ≤ cb
  d1 : cb ≠ mk ∧ cb ≠ b1 ∧ cb ≠ b2 ∧ mk ≠ b1 ∧ mk ≠ b2 ∧ b1 ≠ b2
theorem closer_endA {w w' : World} {gb m n b1 b2 : Nat} {nf : Bool} {C1 : Array Value} (hC : C1.toList = List.replicate m (.bool false)) (hm : m ≤ 4096) (hf : Fr (w.alloc (.cells C1 4)).drew w' []) (hb : b1 ≠ b2)
    (h1 : w'.ownsRow (w.alloc (.cells C1 4)).drew.heap.size 79 1 (.slice (some ⟨b1, 0, none⟩) ((n + 63) / 64) ((n + 63) / 64)) ((n + 63) / 64) (u64s (List.replicate ((n + 63) / 64) 0)))
    (h2 : w'.ownsRow (w.alloc (.cells C1 4)).drew.heap.size 79 1 (.slice (some ⟨b2, 0, none⟩) (((n + 63) / 64 + 63) / 64) (((n + 63) / 64 + 63) / 64)) (((n + 63) / 64 + 63) / 64) (u64s (List.replicate (((n + 63) / 64 + 63) / 64) 0))) :
    NewClo w (w'.alloc (cloBlk gb w.heap.size m nf (.slice none 0 0) (.slice none 0 0) (.slice (some ⟨b1, 0, none⟩) ((n + 63) / 64) ((n + 63) / 64)) (.slice none 0 0) (.bool false) (.slice (some ⟨b2, 0, none⟩) (((n + 63) / 64 + 63) / 64) (((n + 63) / 64 + 63) / 64)) (.slice none 0 0))) gb w'.heap.size w.heap.size m n nf b1 b2 := by
  have ho := made_own (w := w) (E := 4) (B := w.heap.size) hC (by omega) (Nat.le_refl _)
  rw [replicate_bools] at ho
  have hs := hf.size
  have hs2 : (w.alloc (.cells C1 4)).drew.heap.size = w.heap.size + 1 := by simp
  have l1 := h1.lt b1 rfl
  have l2 := h2.lt b2 rfl
  exact ⟨heap_new _ _, (hf.own (own_same (w' := (w.alloc (.cells C1 4)).drew) ho fun _ _ => rfl) (by simp)).alloc _, (own_base h1 fun g hg => by have := (h1.lt g hg).1; omega).alloc _, (own_base h2 fun g hg => by have := (h2.lt g hg).1; omega).alloc _, ((((Fr.refl w []).alloc _).drew).trans hf).alloc _, by omega, by omega⟩
theorem closer_endB {w w' : World} {gb m n b1 b2 : Nat} {nf : Bool} {C1 : Array Value} (hC : C1.toList = List.replicate m (.bool false)) (hm : m ≤ 4096) (hf : Fr w.drew w' []) (hb : b1 ≠ b2)
    (h1 : w'.ownsRow w.drew.heap.size 79 1 (.slice (some ⟨b1, 0, none⟩) ((n + 63) / 64) ((n + 63) / 64)) ((n + 63) / 64) (u64s (List.replicate ((n + 63) / 64) 0)))
    (h2 : w'.ownsRow w.drew.heap.size 79 1 (.slice (some ⟨b2, 0, none⟩) (((n + 63) / 64 + 63) / 64) (((n + 63) / 64 + 63) / 64)) (((n + 63) / 64 + 63) / 64) (u64s (List.replicate (((n + 63) / 64 + 63) / 64) 0))) :
    NewClo w ((w'.alloc (.cells C1 4)).alloc (cloBlk gb w'.heap.size m nf (.slice none 0 0) (.slice none 0 0) (.slice (some ⟨b1, 0, none⟩) ((n + 63) / 64) ((n + 63) / 64)) (.slice none 0 0) (.bool false) (.slice (some ⟨b2, 0, none⟩) (((n + 63) / 64 + 63) / 64) (((n + 63) / 64 + 63) / 64)) (.slice none 0 0))) gb (w'.heap.size + 1) w'.heap.size m n nf b1 b2 := by
  have hs : w.heap.size ≤ w'.heap.size := hf.size
  have ho := made_own (w := w') (E := 4) (B := w.heap.size) hC (by omega) hs
  rw [replicate_bools] at ho
  have hnew := heap_new (w'.alloc (.cells C1 4)) (cloBlk gb w'.heap.size m nf (.slice none 0 0) (.slice none 0 0) (.slice (some ⟨b1, 0, none⟩) ((n + 63) / 64) ((n + 63) / 64)) (.slice none 0 0) (.bool false) (.slice (some ⟨b2, 0, none⟩) (((n + 63) / 64 + 63) / 64) (((n + 63) / 64 + 63) / 64)) (.slice none 0 0))
  rw [show (w'.alloc (.cells C1 4)).heap.size = w'.heap.size + 1 by simp] at hnew
  have l1 := h1.lt b1 rfl
  have l2 := h2.lt b2 rfl
  exact ⟨hnew, ho.alloc _, (h1.alloc _).alloc _, (h2.alloc _).alloc _, ((((Fr.refl w []).drew).trans hf).alloc _).alloc _, by omega, by omega⟩

set_option maxRecDepth 100000 in
set_option maxHeartbeats 8000000 in
theorem newCloser_any (w : World) (gb n m : Nat) (CP : List Nat) (ML SL : List (List Nat)) (hn : n ≤ 65536) (hm : m ≤ 4096) (hfl : SL.flatten.length ≤ 65536) (hC : CondC w gb n m CP ML SL) :
    Calls Ybad.prog 11 #[.pointer (some ⟨gb, 0, none⟩)] w fun e w' => ∃ cb mk b1 b2 nf, e = .returned (.pointer (some ⟨cb, 0, none⟩)) ∧ NewClo w w' gb cb mk m n nf b1 b2 ∧ (nf = true ↔ m = n ∧ SL.flatten.length = 0) := by
  obtain ⟨ck, mb, fb, sb, tb, h1, _⟩ := hC
  have c0 : w.cell? ⟨gb, 0, none⟩ = some (.slice (some ⟨ck, 0, none⟩) n n) := by simp [World.cell?, h1]
  have c2 : w.cell? ⟨gb, 2, none⟩ = some (.slice (some ⟨fb, 0, none⟩) (m + 1) (m + 1)) := by simp [World.cell?, h1]
  have c3 : w.cell? ⟨gb, 3, none⟩ = some (.slice (some ⟨sb, 0, none⟩) SL.flatten.length SL.flatten.length) := by simp [World.cell?, h1]
  obtain ⟨C1, hC1, mk1⟩ := make_ex 61 4 Ybad.underlying61 info4 rfl (by omega) m (by omega)
  have HC1 : Hid (C1.toList = List.replicate m (.bool false)) := hC1
  have hgs : gb < w.heap.size := blk_lt h1
  clear h1 hC1
  generalize SL.flatten.length = fl at *
  have HK1 : Hid (∀ X w', Fr w X [] → Fr X w' [] → w'.cell? ⟨gb, 0, none⟩ = some (.slice (some ⟨ck, 0, none⟩) n n) ∧ w'.cell? ⟨gb, 2, none⟩ = some (.slice (some ⟨fb, 0, none⟩) (m + 1) (m + 1)) ∧ w'.cell? ⟨gb, 3, none⟩ = some (.slice (some ⟨sb, 0, none⟩) fl fl)) := fun X w' h1 h2 =>
    ⟨(h1.trans h2).cell c0 (by simp), (h1.trans h2).cell c2 (by simp), (h1.trans h2).cell c3 (by simp)⟩
  have H20 : Hid (∀ X, Calls Ybad.prog 20 #[.int .i64 (n : Int)] X fun e w' => ∃ (b1 b2 : Nat), e = .returned (.agg #[.slice (some ⟨b1, 0, none⟩) ((n + 63) / 64) ((n + 63) / 64), .slice none 0 0, .bool false, .slice (some ⟨b2, 0, none⟩) (((n + 63) / 64 + 63) / 64) (((n + 63) / 64 + 63) / 64), .slice none 0 0]) ∧ Fr X w' [] ∧ b1 ≠ b2 ∧
      w'.ownsRow X.heap.size 79 1 (.slice (some ⟨b1, 0, none⟩) ((n + 63) / 64) ((n + 63) / 64)) ((n + 63) / 64) (u64s (List.replicate ((n + 63) / 64) 0)) ∧
      w'.ownsRow X.heap.size 79 1 (.slice (some ⟨b2, 0, none⟩) (((n + 63) / 64 + 63) / 64) (((n + 63) / 64 + 63) / 64)) (((n + 63) / 64 + 63) / 64) (u64s (List.replicate (((n + 63) / 64 + 63) / 64) 0))) := fun X => newSetBuilder_any X n hn
  have HA : Hid (∀ (w' : World) (b1 b2 : Nat) (nf : Bool), Fr (w.alloc (.cells C1 4)).drew w' [] → b1 ≠ b2 →
    w'.ownsRow (w.alloc (.cells C1 4)).drew.heap.size 79 1 (.slice (some ⟨b1, 0, none⟩) ((n + 63) / 64) ((n + 63) / 64)) ((n + 63) / 64) (u64s (List.replicate ((n + 63) / 64) 0)) →
    w'.ownsRow (w.alloc (.cells C1 4)).drew.heap.size 79 1 (.slice (some ⟨b2, 0, none⟩) (((n + 63) / 64 + 63) / 64) (((n + 63) / 64 + 63) / 64)) (((n + 63) / 64 + 63) / 64) (u64s (List.replicate (((n + 63) / 64 + 63) / 64) 0)) →
    NewClo w (w'.alloc (cloBlk gb w.heap.size m nf (.slice none 0 0) (.slice none 0 0) (.slice (some ⟨b1, 0, none⟩) ((n + 63) / 64) ((n + 63) / 64)) (.slice none 0 0) (.bool false) (.slice (some ⟨b2, 0, none⟩) (((n + 63) / 64 + 63) / 64) (((n + 63) / 64 + 63) / 64)) (.slice none 0 0))) gb w'.heap.size w.heap.size m n nf b1 b2) := fun w' b1 b2 nf hf hb h1 h2 => closer_endA HC1.out hm hf hb h1 h2
  have HB : Hid (∀ (w' : World) (b1 b2 : Nat) (nf : Bool), Fr w.drew w' [] → b1 ≠ b2 →
    w'.ownsRow w.drew.heap.size 79 1 (.slice (some ⟨b1, 0, none⟩) ((n + 63) / 64) ((n + 63) / 64)) ((n + 63) / 64) (u64s (List.replicate ((n + 63) / 64) 0)) →
    w'.ownsRow w.drew.heap.size 79 1 (.slice (some ⟨b2, 0, none⟩) (((n + 63) / 64 + 63) / 64) (((n + 63) / 64 + 63) / 64)) (((n + 63) / 64 + 63) / 64) (u64s (List.replicate (((n + 63) / 64 + 63) / 64) 0)) →
    NewClo w ((w'.alloc (.cells C1 4)).alloc (cloBlk gb w'.heap.size m nf (.slice none 0 0) (.slice none 0 0) (.slice (some ⟨b1, 0, none⟩) ((n + 63) / 64) ((n + 63) / 64)) (.slice none 0 0) (.bool false) (.slice (some ⟨b2, 0, none⟩) (((n + 63) / 64 + 63) / 64) (((n + 63) / 64 + 63) / 64)) (.slice none 0 0))) gb (w'.heap.size + 1) w'.heap.size m n nf b1 b2) := fun w' b1 b2 nf hf hb h1 h2 => closer_endB HC1.out hm hf hb h1 h2
  generalize ((n + 63) / 64 + 63) / 64 = nu at *
  generalize (n + 63) / 64 = nw at *
  by_cases hmn : m = n
  · subst hmn
    go_enter Ybad.func11, Ybad.ntmps11
    go_wp2_with fail
    go_region_held3 (fun w' => w'.cell? ⟨gb, 0, none⟩ = some (.slice (some ⟨ck, 0, none⟩) m m) ∧ w'.cell? ⟨gb, 2, none⟩ = some (.slice (some ⟨fb, 0, none⟩) (m + 1) (m + 1)) ∧ w'.cell? ⟨gb, 3, none⟩ = some (.slice (some ⟨sb, 0, none⟩) fl fl)) (go_keep)
      (first | (go_at_call 19; refine (len_any _ gb m (m + 1) ⟨fb, 0, none⟩ (by omega) ?_).mono ?_; (simp [*]); rintro e w' ⟨rfl, rfl⟩) | (go_at_call 20; refine (H20.out _).mono ?_; rintro e w' ⟨q1, q2, rfl, hf, hb, ho1, ho2⟩; obtain ⟨d0, d2, d3⟩ := HK1.out _ _ (by first | exact (Fr.refl w []).drew | exact ((Fr.refl w []).alloc _).drew | exact ((Fr.refl w []).drew).alloc _ | exact Fr.refl w [] | exact (Fr.refl w []).alloc _) hf; have HF : Hid _ := hf; have HB2 : Hid _ := hb; have HO1 : Hid _ := ho1; have HO2 : Hid _ := ho2; clear hf hb ho1 ho2))
    all_goals
      go_wp2_with fail
      go_ret
      first
        | exact ⟨_, _, _, _, _, rfl, HA.out _ _ _ _ HF.out HB2.out HO1.out HO2.out, by simp⟩
        | exact ⟨_, _, _, _, _, rfl, HB.out _ _ _ _ HF.out HB2.out HO1.out HO2.out, by simp⟩
  · have HMN : Hid (¬ m = n) := hmn
    have g1 : ((m : Int) == (n : Int)) = false := by simp; omega
    have g1' : ¬ ((m : Int) = (n : Int)) := by omega
    clear hmn
    go_enter Ybad.func11, Ybad.ntmps11
    go_wp2_with fail
    refine wp_region_held_drew (S := (fun w' => w'.cell? ⟨gb, 0, none⟩ = some (.slice (some ⟨ck, 0, none⟩) n n) ∧ w'.cell? ⟨gb, 2, none⟩ = some (.slice (some ⟨fb, 0, none⟩) (m + 1) (m + 1)) ∧ w'.cell? ⟨gb, 3, none⟩ = some (.slice (some ⟨sb, 0, none⟩) fl fl))) (by kernel_rfl) ?_ (fun hHeld => ?_)
    · go_keep
    refine wpAnyH_take (i := 0) (v := ?v1) rfl (by kernel_rfl) (by kernel_rfl) (by kernel_rfl) (fun _ _ _ h => h) (Or.inl ⟨by rfl, ?hy1⟩) (by assumption) ?rest1
    case hy1 => (intro w hSw; (try dsimp only at hSw); go_simp; try with_reducible rfl)
    simp only [Act.put, List.setIfInBounds_toArray, List.set_cons_zero, List.set_cons_succ]
    refine wpAnyH_take (i := 1) (v := ?v2) rfl (by kernel_rfl) (by kernel_rfl) (by kernel_rfl) (fun _ _ _ h => h) (Or.inl ⟨by rfl, ?hy2⟩) (by assumption) ?rest2
    case hy2 => (intro w hSw; (try dsimp only at hSw); go_simp; try with_reducible rfl)
    simp only [Act.put, List.setIfInBounds_toArray, List.set_cons_zero, List.set_cons_succ]
    refine wpAnyH_take (i := 3) (v := ?v3) rfl (by kernel_rfl) (by kernel_rfl) (by kernel_rfl) (fun _ _ _ h => h) (Or.inl ⟨by rfl, ?hy3⟩) (by assumption) ?rest3
    case hy3 => (intro w hSw; (try dsimp only at hSw); go_simp; try with_reducible rfl)
    simp only [Act.put, List.setIfInBounds_toArray, List.set_cons_zero, List.set_cons_succ]
    refine wpAnyH_take (i := 4) (v := ?v4) rfl (by kernel_rfl) (by kernel_rfl) (by kernel_rfl) (fun _ _ _ h => h) (Or.inl ⟨by rfl, ?hy4⟩) (by assumption) ?rest4
    case hy4 => (intro w hSw; (try dsimp only at hSw); go_simp; try with_reducible rfl)
    simp only [Act.put, List.setIfInBounds_toArray, List.set_cons_zero, List.set_cons_succ]
    refine wpAnyH_take (i := 5) (v := ?v5) rfl (by kernel_rfl) (by kernel_rfl) (by kernel_rfl) (fun _ _ _ h => h) (Or.inl ⟨by rfl, ?hy5⟩) (by assumption) ?rest5
    case hy5 => (intro w hSw; (try dsimp only at hSw); go_simp; try with_reducible rfl)
    simp only [Act.put, List.setIfInBounds_toArray, List.set_cons_zero, List.set_cons_succ]
    refine wpAnyH_take (i := 6) (v := ?v6) rfl (by kernel_rfl) (by kernel_rfl) (by kernel_rfl) (fun _ _ _ h => h) (Or.inl ⟨by rfl, ?hy6⟩) (by assumption) ?rest6
    case hy6 => (intro w hSw; (try dsimp only at hSw); go_simp; try with_reducible rfl)
    simp only [Act.put, List.setIfInBounds_toArray, List.set_cons_zero, List.set_cons_succ]
    refine wpAnyH_take (i := 7) (v := ?v7) rfl (by kernel_rfl) (by kernel_rfl) (by kernel_rfl) (fun _ _ _ h => h) (Or.inl ⟨by rfl, ?hy7⟩) (by assumption) ?rest7
    case hy7 => (intro w hSw; (try dsimp only at hSw); go_simp; try with_reducible rfl)
    simp only [Act.put, List.setIfInBounds_toArray, List.set_cons_zero, List.set_cons_succ]
    refine wpAnyH_take (i := 17) (v := ?v8) rfl (by kernel_rfl) (by kernel_rfl) (by kernel_rfl) (fun _ _ _ h => h) (Or.inl ⟨by rfl, ?hy8⟩) (by assumption) ?rest8
    case hy8 => (intro w hSw; (try dsimp only at hSw); go_simp; try with_reducible rfl)
    simp only [Act.put, List.setIfInBounds_toArray, List.set_cons_zero, List.set_cons_succ]
    refine wpAnyH_take (i := 20) (v := ?v9) rfl (by kernel_rfl) (by kernel_rfl) (by kernel_rfl) (fun _ _ _ h => h) (Or.inl ⟨by rfl, ?hy9⟩) (by assumption) ?rest9
    case hy9 => (intro w hSw; (try dsimp only at hSw); go_simp; try with_reducible rfl)
    simp only [Act.put, List.setIfInBounds_toArray, List.set_cons_zero, List.set_cons_succ]
    refine wpAnyH_take (i := 21) (v := ?v10) rfl (by kernel_rfl) (by kernel_rfl) (by kernel_rfl) (fun _ _ _ h => h) (Or.inl ⟨by rfl, ?hy10⟩) (by assumption) ?rest10
    case hy10 => (intro w hSw; (try dsimp only at hSw); go_simp; try with_reducible rfl)
    simp only [Act.put, List.setIfInBounds_toArray, List.set_cons_zero, List.set_cons_succ]
    refine wpAnyH_take (i := 22) (v := ?v11) rfl (by kernel_rfl) (by kernel_rfl) (by kernel_rfl) (fun _ _ _ h => h) (Or.inl ⟨by rfl, ?hy11⟩) (by assumption) ?rest11
    case hy11 => (intro w hSw; (try dsimp only at hSw); go_simp; try with_reducible rfl)
    simp only [Act.put, List.setIfInBounds_toArray, List.set_cons_zero, List.set_cons_succ]
    refine wpAnyH_take (i := 23) (v := ?v12) rfl (by kernel_rfl) (by kernel_rfl) (by kernel_rfl) (fun _ _ _ h => h) (Or.inl ⟨by rfl, ?hy12⟩) (by assumption) ?rest12
    case hy12 => (intro w hSw; (try dsimp only at hSw); go_simp; try with_reducible rfl)
    simp only [Act.put, List.setIfInBounds_toArray, List.set_cons_zero, List.set_cons_succ]
    refine wpAnyH_take (i := 24) (v := ?v13) rfl (by kernel_rfl) (by kernel_rfl) (by kernel_rfl) (fun _ _ _ h => h) (Or.inl ⟨by rfl, ?hy13⟩) (by assumption) ?rest13
    case hy13 => (intro w hSw; (try dsimp only at hSw); go_simp; try with_reducible rfl)
    simp only [Act.put, List.setIfInBounds_toArray, List.set_cons_zero, List.set_cons_succ]
    refine wpAnyH_ready (rs := [2]) (by kernel_rfl) (by simp) ?_
    refine AllReadyH.cons rfl (fun K hK => ?_) AllReadyH.nil
    go_simp
    refine (len_any _ gb m (m + 1) ⟨fb, 0, none⟩ (by omega) ?_).mono ?_
    · first | exact hHeld.2.1
    rintro e w' ⟨rfl, rfl⟩
    go_simp
    refine hK.out _ _ hHeld (fun hHeld => ?_)
    clear hK K
    try simp only [Act.put, List.setIfInBounds_toArray, List.set_cons_zero, List.set_cons_succ]
    refine wpAnyH_take (i := 8) (v := ?v14) rfl (by kernel_rfl) (by kernel_rfl) (by kernel_rfl) (fun _ _ _ h => h) (Or.inl ⟨by rfl, ?hy14⟩) (by assumption) ?rest14
    case hy14 => (intro w hSw; (try dsimp only at hSw); go_simp; try with_reducible rfl)
    simp only [Act.put, List.setIfInBounds_toArray, List.set_cons_zero, List.set_cons_succ]
    refine wpAnyH_take (i := 9) (v := ?v15) rfl (by kernel_rfl) (by kernel_rfl) (by kernel_rfl) (fun _ _ _ h => h) (Or.inl ⟨by rfl, ?hy15⟩) (by assumption) ?rest15
    case hy15 => (intro w hSw; (try dsimp only at hSw); go_simp; try with_reducible rfl)
    simp only [Act.put, List.setIfInBounds_toArray, List.set_cons_zero, List.set_cons_succ]
    refine wpAnyH_take (i := 10) (v := undef) rfl (by kernel_rfl) (by kernel_rfl) (by kernel_rfl) (fun _ _ _ h => h) (Or.inr ⟨by rfl, rfl⟩) (by assumption) ?rest16
    simp only [Act.put, List.setIfInBounds_toArray, List.set_cons_zero, List.set_cons_succ]
    refine wpAnyH_take (i := 11) (v := undef) rfl (by kernel_rfl) (by kernel_rfl) (by kernel_rfl) (fun _ _ _ h => h) (Or.inr ⟨by rfl, rfl⟩) (by assumption) ?rest17
    simp only [Act.put, List.setIfInBounds_toArray, List.set_cons_zero, List.set_cons_succ]
    refine wpAnyH_take (i := 12) (v := undef) rfl (by kernel_rfl) (by kernel_rfl) (by kernel_rfl) (fun _ _ _ h => h) (Or.inr ⟨by rfl, rfl⟩) (by assumption) ?rest18
    simp only [Act.put, List.setIfInBounds_toArray, List.set_cons_zero, List.set_cons_succ]
    refine wpAnyH_take (i := 13) (v := undef) rfl (by kernel_rfl) (by kernel_rfl) (by kernel_rfl) (fun _ _ _ h => h) (Or.inr ⟨by rfl, rfl⟩) (by assumption) ?rest19
    simp only [Act.put, List.setIfInBounds_toArray, List.set_cons_zero, List.set_cons_succ]
    refine wpAnyH_take (i := 14) (v := undef) rfl (by kernel_rfl) (by kernel_rfl) (by kernel_rfl) (fun _ _ _ h => h) (Or.inr ⟨by rfl, rfl⟩) (by assumption) ?rest20
    simp only [Act.put, List.setIfInBounds_toArray, List.set_cons_zero, List.set_cons_succ]
    refine wpAnyH_take (i := 15) (v := undef) rfl (by kernel_rfl) (by kernel_rfl) (by kernel_rfl) (fun _ _ _ h => h) (Or.inr ⟨by rfl, rfl⟩) (by assumption) ?rest21
    simp only [Act.put, List.setIfInBounds_toArray, List.set_cons_zero, List.set_cons_succ]
    refine wpAnyH_take (i := 16) (v := ?v22) rfl (by kernel_rfl) (by kernel_rfl) (by kernel_rfl) (fun _ _ _ h => h) (Or.inl ⟨by rfl, ?hy22⟩) (by assumption) ?rest22
    case hy22 => (intro w hSw; (try dsimp only at hSw); go_simp; try with_reducible rfl)
    simp only [Act.put, List.setIfInBounds_toArray, List.set_cons_zero, List.set_cons_succ]
    refine wpAnyH_ready (rs := [18]) (by kernel_rfl) (by simp) ?_
    refine AllReadyH.cons rfl (fun K hK => ?_) AllReadyH.nil
    go_simp
    refine (len_any _ gb m (m + 1) ⟨fb, 0, none⟩ (by omega) ?_).mono ?_
    · first | exact hHeld.2.1
    rintro e w' ⟨rfl, rfl⟩
    go_simp
    refine hK.out _ _ hHeld (fun hHeld => ?_)
    clear hK K
    try simp only [Act.put, List.setIfInBounds_toArray, List.set_cons_zero, List.set_cons_succ]
    refine wpAnyH_ready (rs := [19, 25]) (by kernel_rfl) (by simp) ?_
    refine AllReadyH.cons rfl (fun K hK => ?_) (AllReadyH.cons rfl (fun K hK => ?_) AllReadyH.nil)
    · go_simp
      refine hK.out _ _ (by go_keep) (fun hHeld => ?_)
      clear hK K
      try simp only [Act.put, List.setIfInBounds_toArray, List.set_cons_zero, List.set_cons_succ]
      refine wpAnyH_ready (rs := [25]) (by kernel_rfl) (by simp) ?_
      refine AllReadyH.cons rfl (fun K hK => ?_) AllReadyH.nil
      go_simp
      refine (H20.out _).mono ?_
      rintro e w' ⟨q1, q2, rfl, hf, hb, ho1, ho2⟩
      obtain ⟨d0, d2, d3⟩ := HK1.out _ _ (by first | exact (Fr.refl w []).drew | exact ((Fr.refl w []).alloc _).drew | exact ((Fr.refl w []).drew).alloc _) hf
      have HF : Hid _ := hf
      have HB2 : Hid _ := hb
      have HO1 : Hid _ := ho1
      have HO2 : Hid _ := ho2
      clear hf hb ho1 ho2
      go_simp
      refine hK.out _ _ ⟨d0, d2, d3⟩ (fun hHeld => ?_)
      clear hK K
      try simp only [Act.put, List.setIfInBounds_toArray, List.set_cons_zero, List.set_cons_succ]
      refine wpAnyH_take (i := 26) (v := ?v23) rfl (by kernel_rfl) (by kernel_rfl) (by kernel_rfl) (fun _ _ _ h => h) (Or.inl ⟨by rfl, ?hy23⟩) (by assumption) ?rest23
      case hy23 => (intro w hSw; (try dsimp only at hSw); go_simp; try with_reducible rfl)
      simp only [Act.put, List.setIfInBounds_toArray, List.set_cons_zero, List.set_cons_succ]
      refine wpAnyH_ready (rs := [27]) (by kernel_rfl) (by simp) ?_
      refine AllReadyH.cons rfl (fun K hK => ?_) AllReadyH.nil
      go_simp
      refine hK.out _ _ (by go_keep) (fun hHeld => ?_)
      clear hK K
      try simp only [Act.put, List.setIfInBounds_toArray, List.set_cons_zero, List.set_cons_succ]
      refine wpAnyH_take (i := 28) (v := ?v24) rfl (by kernel_rfl) (by kernel_rfl) (by kernel_rfl) (fun _ _ _ h => h) (Or.inl ⟨by rfl, ?hy24⟩) (by assumption) ?rest24
      case hy24 => (intro w hSw; (try dsimp only at hSw); go_simp; try with_reducible rfl)
      change wpAnyH _ _ _ _ _ _ _ (Act.put _ (some 2) _) _
      simp only [Act.put, List.setIfInBounds_toArray, List.set_cons_zero, List.set_cons_succ]
      refine wpAnyH_done (by kernel_rfl) ?_ _
      go_wp2_with fail
      go_ret
      exact ⟨_, _, _, _, _, rfl, HA.out _ _ _ _ HF.out HB2.out HO1.out HO2.out, by simp; intro h; exact absurd h HMN.out⟩
    · go_simp
      refine (H20.out _).mono ?_
      rintro e w' ⟨q1, q2, rfl, hf, hb, ho1, ho2⟩
      obtain ⟨d0, d2, d3⟩ := HK1.out _ _ (by first | exact (Fr.refl w []).drew | exact ((Fr.refl w []).alloc _).drew | exact ((Fr.refl w []).drew).alloc _) hf
      have HF : Hid _ := hf
      have HB2 : Hid _ := hb
      have HO1 : Hid _ := ho1
      have HO2 : Hid _ := ho2
      clear hf hb ho1 ho2
      go_simp
      refine hK.out _ _ ⟨d0, d2, d3⟩ (fun hHeld => ?_)
      clear hK K
      try simp only [Act.put, List.setIfInBounds_toArray, List.set_cons_zero, List.set_cons_succ]
      refine wpAnyH_ready (rs := [19]) (by kernel_rfl) (by simp) ?_
      refine AllReadyH.cons rfl (fun K hK => ?_) AllReadyH.nil
      go_simp
      refine hK.out _ _ (by go_keep) (fun hHeld => ?_)
      clear hK K
      try simp only [Act.put, List.setIfInBounds_toArray, List.set_cons_zero, List.set_cons_succ]
      refine wpAnyH_take (i := 26) (v := ?v25) rfl (by kernel_rfl) (by kernel_rfl) (by kernel_rfl) (fun _ _ _ h => h) (Or.inl ⟨by rfl, ?hy25⟩) (by assumption) ?rest25
      case hy25 => (intro w hSw; (try dsimp only at hSw); go_simp; try with_reducible rfl)
      simp only [Act.put, List.setIfInBounds_toArray, List.set_cons_zero, List.set_cons_succ]
      refine wpAnyH_ready (rs := [27]) (by kernel_rfl) (by simp) ?_
      refine AllReadyH.cons rfl (fun K hK => ?_) AllReadyH.nil
      go_simp
      refine hK.out _ _ (by go_keep) (fun hHeld => ?_)
      clear hK K
      try simp only [Act.put, List.setIfInBounds_toArray, List.set_cons_zero, List.set_cons_succ]
      refine wpAnyH_take (i := 28) (v := ?v26) rfl (by kernel_rfl) (by kernel_rfl) (by kernel_rfl) (fun _ _ _ h => h) (Or.inl ⟨by rfl, ?hy26⟩) (by assumption) ?rest26
      case hy26 => (intro w hSw; (try dsimp only at hSw); go_simp; try with_reducible rfl)
      change wpAnyH _ _ _ _ _ _ _ (Act.put _ (some 2) _) _
      simp only [Act.put, List.setIfInBounds_toArray, List.set_cons_zero, List.set_cons_succ]
      refine wpAnyH_done (by kernel_rfl) ?_ _
      go_wp2_with fail
      go_ret
      exact ⟨_, _, _, _, _, rfl, HB.out _ _ _ _ HF.out HB2.out HO1.out HO2.out, by simp; intro h; exact absurd h HMN.out⟩
end Go.Proofs.YbulkdxbkDoor
