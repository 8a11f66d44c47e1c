import Derived.Test.YbulkdxbkDoorKw
namespace Go.Proofs.YbulkdxbkDoor
open Go.RowKit
set_option linter.unusedVariables false
set_option linter.unusedSectionVars false

/-- the closer, new -/
theorem Cl.start {w w1 w2 : World} {gb cb mk m n b1 b2 : Nat} {nf : Bool} (h : NewClo w w1 gb cb mk m n nf b1 b2) (hf : Fr w1 w2 []) :
    Cl w w2 w2.heap.size cb gb mk m nf (.slice none 0 0) (.slice none 0 ([] : List Nat).length) [] b1 b2 ((n + 63) / 64) (((n + 63) / 64 + 63) / 64) none 0 false none 0 (List.replicate ((n + 63) / 64) 0) (List.replicate (((n + 63) / 64 + 63) / 64) 0) [] [] := by
  obtain ⟨d1, d2, d3, d4, d5, d6⟩ := h.d1
  have l0 := blk_lt h.blk
  have l1 := h.mark.lt mk rfl
  have l2 := h.bits.lt b1 rfl
  have l3 := h.use.lt b2 rfl
  have hs := hf.size
  have nil : ∀ K, w2.ownsRow K 3 1 (.slice none 0 0) 0 [] := fun K => World.ownsRow_nil _ _ _ _
  have hblk := hf.blk h.blk (by simp)
  refine ⟨⟨h.cw, l1.1, by omega, by omega, d1, Nat.le_refl _, fun c hc => (hf.same c (by have := h.fr.size; omega) (by simp)).trans (h.fr.same c hc (by simp)), hblk, hf.own h.mark (by simp), ⟨0, [], nil _⟩, nil _, fun b h1 => by cases h1⟩, ⟨hblk, hf.own h.bits (by simp), hf.own h.use (by simp), nil _, nil _, h.cw, by omega, by omega, by omega, d2, d3, d6, Nat.le_refl _, (fun b h1 => by cases h1), Fr.refl _ _, Moved.refl _ _, Moved.refl _ _⟩, d4, d5, (fun b h1 => by cases h1), (fun b h1 => by cases h1), (fun b h1 => by cases h1), (fun b h1 => by cases h1)⟩
theorem slice26u {a : Option Addr} {n c j : Nat} (ha : a = none → n = 0 ∧ c = 0) (hj : j ≤ n) (hc : n ≤ c) (w : World) : (Instr.sliceAt 44 (.slice a n c) none (some (.int .i64 (j : Int))) none).run Ybad.prog w = .ok (.slice a j c) w := by
  cases a with
  | none =>
    obtain ⟨rfl, rfl⟩ := ha rfl
    obtain rfl : j = 0 := by omega
    exact slice0 (fun _ => ⟨rfl, rfl⟩) w
  | some x => exact slice26t (by omega) w
theorem Fr.belowAll {w w' : World} (h : Fr w w' []) : Below w.heap.size w w' := ⟨h.os, h.tape, h.output, h.size, fun c hc => h.same c hc (by simp)⟩
/-- a row, as what can be read -/
theorem own_read {w : World} {B n cap : Nat} {vo : Option Addr} {Z : List Int} (h : w.ownsRow B 3 1 (.slice vo n cap) n (zints Z)) : ∃ g, (0 < n → vo = some ⟨g, 0, none⟩) ∧ (vo = none → n = 0 ∧ cap = 0) ∧ n ≤ cap ∧ (0 < n → B ≤ g ∧ g < w.heap.size) ∧ ZAt w g 0 Z := by
  obtain ⟨vo', cap', g, e, h1, h2, h3⟩ := own_form h
  cases e
  have hl : n = Z.length := by have := h.1; rw [zints_len] at this; omega
  refine ⟨g, h1, fun h4 => ⟨?_, h3 h4⟩, ?_, fun h4 => ?_, fun i x hx => ?_⟩
  · rcases Nat.eq_zero_or_pos n with h0 | h0
    · exact h0
    · rw [h1 h0] at h4; cases h4
  · rcases h.2 with ⟨h5, h6⟩ | ⟨g', cap', cur, hv, hb, hg, k1, _⟩
    · omega
    · cases hv; exact k1
  · have e := h1 h4
    subst e
    exact h.lt g rfl
  · have hi := (List.getElem?_eq_some_iff.1 hx).1
    have e := h1 (by omega)
    subst e
    rw [Nat.zero_add]
    exact own_cell h (zints_get hx)
theorem own_readN {w : World} {B n cap : Nat} {vo : Option Addr} {L : List Nat} (h : w.ownsRow B 3 1 (.slice vo n cap) n (ints L)) : ∃ g, (0 < n → vo = some ⟨g, 0, none⟩) ∧ (vo = none → n = 0 ∧ cap = 0) ∧ n ≤ cap ∧ (0 < n → B ≤ g ∧ g < w.heap.size) ∧ NatsAt w g 0 L ∧ ZAt w g 0 (casts L) := by
  rw [← zints_casts] at h
  obtain ⟨g, h1, h2, h3, h4, h5⟩ := own_read h
  refine ⟨g, h1, h2, h3, h4, fun i x hx => ?_, h5⟩
  exact h5 i (x : Int) (by simp [casts, hx])
theorem ZAt.fr {w w' : World} {S : List Nat} {b o : Nat} {D : List Int} (h : ZAt w b o D) (hf : Fr w w' S) (hb : 0 < D.length → b ∉ S) : ZAt w' b o D := fun i x hx => hf.cell (h i x hx) (hb (by have := (List.getElem?_eq_some_iff.1 hx).1; omega))
theorem NatsAt.frS {w w' : World} {S : List Nat} {b o : Nat} {D : List Nat} (h : NatsAt w b o D) (hf : Fr w w' S) (hb : 0 < D.length → b ∉ S) : NatsAt w' b o D := fun i x hx => hf.cell (h i x hx) (hb (by have := (List.getElem?_eq_some_iff.1 hx).1; omega))
theorem InU.fr {w w' : World} {b o : Nat} {D : List Nat} (h : InU w b o D) (hf : Fr w w' []) : InU w' b o D := fun i x hx => hf.cell (h i x hx) (by simp)
theorem ZAt.left {w : World} {b o : Nat} {D E : List Int} (h : ZAt w b o (D ++ E)) : ZAt w b o D := fun i x hx => h i x (by rw [List.getElem?_append_left (List.getElem?_eq_some_iff.1 hx).1]; exact hx)
theorem ZAt.right {w : World} {b o : Nat} {D E : List Int} (h : ZAt w b o (D ++ E)) : ZAt w b (o + D.length) E := fun i x hx => by
  have := h (D.length + i) x (by rw [List.getElem?_append_right (by omega), Nat.add_sub_cancel_left]; exact hx)
  rwa [← Nat.add_assoc] at this
theorem clS_nil {cb mk b1 b2 c : Nat} (h : c ∈ clS cb mk b1 b2 (.slice none 0 0) (.slice none 0 ([] : List Nat).length) (.slice none 0 0) (.slice none 0 0)) : c = cb ∨ c = mk ∨ c = b1 ∨ c = b2 := by
  simp [clS, cloS, sbS, blks, Value.ownBlock] at h
  omega
end Go.Proofs.YbulkdxbkDoor
