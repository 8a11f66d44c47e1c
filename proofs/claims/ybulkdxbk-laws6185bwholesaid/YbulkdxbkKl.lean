import Derived.Test.YbulkdxbkKj
import Derived.BigRegion
namespace Go.Proofs.Ybulkdxbk
open Go.RowKit
set_option linter.unusedVariables false
set_option linter.unusedSectionVars false

abbrev conBlk (ck n : Nat) (sv fv : Value) : Obj := .cells #[.slice (some ⟨ck, 0, none⟩) n (n + 1), .slice (some ⟨ck, 0, none⟩) n (n + 1), .slice (some ⟨ck, 0, none⟩) (n + 1) (n + 1), sv, fv] 64 (0, 0)
/-- the condensation on its way -/
structure CS (w : World) (ck gb sk n : Nat) (wr : World) (so : Option Addr) (sc : Nat) (SL : List Nat) (fo : Option Addr) (fc : Nat) (FL : List Nat) (p : Nat → Bool) : Prop where
  gblk : wr.heap[gb]? = some (conBlk ck n (.slice so SL.length sc) (.slice fo FL.length fc))
  cnt : NatsAt wr ck 0 (List.range (n + 1))
  mark : wr.ownsRow w.heap.size 4 1 (.slice (some ⟨sk, 0, none⟩) n n) n (bools n p)
  sown : wr.ownsRow w.heap.size 3 1 (.slice so SL.length sc) SL.length (ints SL)
  fown : wr.ownsRow w.heap.size 3 1 (.slice fo FL.length fc) FL.length (ints FL)
  gw : w.heap.size ≤ gb
  d1 : ∀ b, (Value.slice so SL.length sc).ownBlock = some b → b ≠ ck ∧ b ≠ gb ∧ b ≠ sk
  d2 : ∀ b, (Value.slice fo FL.length fc).ownBlock = some b → b ≠ ck ∧ b ≠ gb ∧ b ≠ sk
  d3 : ∀ b, (Value.slice so SL.length sc).ownBlock = some b → (Value.slice fo FL.length fc).ownBlock = some b → False
  d4 : gb ≠ ck ∧ sk ≠ gb ∧ sk ≠ ck
  fr : Fr w wr []
section
variable {w wr w2 : World} {ck gb sk n sc fc : Nat} {so fo : Option Addr} {SL FL : List Nat} {p : Nat → Bool}
theorem CS.cells (h : CS w ck gb sk n wr so sc SL fo fc FL p) :
    wr.cell? ⟨gb, 0, none⟩ = some (.slice (some ⟨ck, 0, none⟩) n (n + 1)) ∧ wr.cell? ⟨gb, 1, none⟩ = some (.slice (some ⟨ck, 0, none⟩) n (n + 1)) ∧ wr.cell? ⟨gb, 2, none⟩ = some (.slice (some ⟨ck, 0, none⟩) (n + 1) (n + 1)) ∧
    wr.cell? ⟨gb, 3, none⟩ = some (.slice so SL.length sc) ∧ wr.cell? ⟨gb, 4, none⟩ = some (.slice fo FL.length fc) ∧ wr.frozen? ⟨gb, 3, none⟩ = false ∧ wr.frozen? ⟨gb, 4, none⟩ = false := by
  have := h.gblk
  refine ⟨?_, ?_, ?_, ?_, ?_, ?_, ?_⟩ <;> simp [World.cell?, World.frozen?, this]
theorem CS.at (h : CS w ck gb sk n wr so sc SL fo fc FL p) {k : Nat} (hk : k < n) : wr.cell? ⟨sk, k, none⟩ = some (.bool (p k)) ∧ wr.frozen? ⟨sk, k, none⟩ = false :=
  ⟨own_cell h.mark (bools_get hk), own_frozen h.mark k⟩
theorem CS.drewN (h : CS w ck gb sk n wr so sc SL fo fc FL p) (q : Nat) : CS w ck gb sk n (wr.drewN q) so sc SL fo fc FL p :=
  ⟨h.gblk, fun i x hx => h.cnt i x hx, own_same h.mark fun _ _ => rfl, own_same h.sown fun _ _ => rfl, own_same h.fown fun _ _ => rfl, h.gw, h.d1, h.d2, h.d3, h.d4, h.fr.drewN q⟩
theorem CS.flip (h : CS w ck gb sk n wr so sc SL fo fc FL p) (k : Nat) (b : Bool) : CS w ck gb sk n (wr.setCell ⟨sk, k, none⟩ (.bool b)) so sc SL fo fc FL (fun i => if i = k then b else p i) := by
  have hs := (h.mark.lt sk rfl).1
  refine ⟨(setCell_far h.d4.2.1.symm _ _).trans h.gblk, h.cnt.same (setCell_far h.d4.2.2.symm _ _), ?_, own_same h.sown fun b' hb => setCell_far (h.d1 b' hb).2.2 _ _, own_same h.fown fun b' hb => setCell_far (h.d2 b' hb).2.2 _ _, h.gw, h.d1, h.d2, h.d3, h.d4, h.fr.set (.inr hs) _ _⟩
  have := own_set h.mark k (.bool b)
  rwa [bools_set] at this
theorem CS.lt (h : CS w ck gb sk n wr so sc SL fo fc FL p) : ck < wr.heap.size ∧ gb < wr.heap.size ∧ sk < wr.heap.size := ⟨h.cnt.lt (by simp), blk_lt h.gblk, (h.mark.lt sk rfl).2⟩
theorem CS.pushS (h : CS w ck gb sk n wr so sc SL fo fc FL p) {k g cap : Nat}
    (ho : w2.ownsRow w.heap.size 3 1 (.slice (some ⟨g, 0, none⟩) (SL.length + 1) cap) (SL.length + 1) (ints SL ++ [.int .i64 (k : Int)])) (hf : Fr wr w2 (blks (.slice so SL.length sc))) (hm : Moved wr (.slice so SL.length sc) (.slice (some ⟨g, 0, none⟩) (SL.length + 1) cap)) :
    CS w ck gb sk n (w2.setCell ⟨gb, 3, none⟩ (.slice (some ⟨g, 0, none⟩) (SL.length + 1) cap)) (some ⟨g, 0, none⟩) cap (SL ++ [k]) fo fc FL p := by
  obtain ⟨l1, l2, l3⟩ := h.lt
  have hlen : (SL ++ [k]).length = SL.length + 1 := by simp
  have hg : g ≠ ck ∧ g ≠ gb ∧ g ≠ sk := by
    rcases hm g rfl with h1 | h1
    · exact h.d1 g h1
    · omega
  have hgf : ∀ b, (Value.slice fo FL.length fc).ownBlock = some b → b ≠ g := fun b hb e => by
    subst e
    rcases hm b rfl with h1 | h1
    · exact h.d3 b h1 hb
    · have := (h.fown.lt b hb).2; omega
  have hn : ∀ c, c = ck ∨ c = gb ∨ c = sk → c ∉ blks (.slice so SL.length sc) := fun c hc hm' => by
    have := h.d1 c (mem_blks.1 hm')
    omega
  refine ⟨?_, ?_, ?_, ?_, ?_, h.gw, ?_, h.d2, ?_, h.d4, ?_⟩
  · rw [hlen]; exact setCell_at (hf.blk h.gblk (hn gb (by simp))) _ _
  · exact (h.cnt.same (hf.same ck l1 (hn ck (by simp)))).same (setCell_far h.d4.1.symm _ _)
  · refine own_same (hf.own h.mark fun b hb => by cases hb; exact hn sk (by simp)) fun b hb => setCell_far ?_ _ _
    have e : sk = b := by cases hb; rfl
    subst e; exact h.d4.2.1
  · have : w2.ownsRow w.heap.size 3 1 (.slice (some ⟨g, 0, none⟩) (SL ++ [k]).length cap) (SL ++ [k]).length (ints (SL ++ [k])) := by rw [hlen, ints_app]; exact ho
    refine own_same this fun b hb => setCell_far ?_ _ _
    have hb' : g = b := by cases hb; rfl
    subst hb'; exact hg.2.1
  · exact own_same (hf.own h.fown fun b hb hm' => h.d3 b (mem_blks.1 hm') hb) fun b hb => setCell_far (h.d2 b hb).2.1 _ _
  · intro b hb
    have hb' : g = b := by cases hb; rfl
    subst hb'; exact hg
  · intro b hb hb2
    have hb' : g = b := by cases hb; rfl
    exact hgf b hb2 hb'.symm
  · refine (h.fr.then hf fun c hc => .inr ?_).set (.inr h.gw) _ _
    exact (h.sown.lt c (mem_blks.1 hc)).1
theorem CS.pushF (h : CS w ck gb sk n wr so sc SL fo fc FL p) {k g cap : Nat}
    (ho : w2.ownsRow w.heap.size 3 1 (.slice (some ⟨g, 0, none⟩) (FL.length + 1) cap) (FL.length + 1) (ints FL ++ [.int .i64 (k : Int)])) (hf : Fr wr w2 (blks (.slice fo FL.length fc))) (hm : Moved wr (.slice fo FL.length fc) (.slice (some ⟨g, 0, none⟩) (FL.length + 1) cap)) :
    CS w ck gb sk n (w2.setCell ⟨gb, 4, none⟩ (.slice (some ⟨g, 0, none⟩) (FL.length + 1) cap)) so sc SL (some ⟨g, 0, none⟩) cap (FL ++ [k]) p := by
  obtain ⟨l1, l2, l3⟩ := h.lt
  have hlen : (FL ++ [k]).length = FL.length + 1 := by simp
  have hg : g ≠ ck ∧ g ≠ gb ∧ g ≠ sk := by
    rcases hm g rfl with h1 | h1
    · exact h.d2 g h1
    · omega
  have hgf : ∀ b, (Value.slice so SL.length sc).ownBlock = some b → b ≠ g := fun b hb e => by
    subst e
    rcases hm b rfl with h1 | h1
    · exact h.d3 b hb h1
    · have := (h.sown.lt b hb).2; omega
  have hn : ∀ c, c = ck ∨ c = gb ∨ c = sk → c ∉ blks (.slice fo FL.length fc) := fun c hc hm' => by
    have := h.d2 c (mem_blks.1 hm')
    omega
  refine ⟨?_, ?_, ?_, ?_, ?_, h.gw, h.d1, ?_, ?_, h.d4, ?_⟩
  · rw [hlen]; exact setCell_at (hf.blk h.gblk (hn gb (by simp))) _ _
  · exact (h.cnt.same (hf.same ck l1 (hn ck (by simp)))).same (setCell_far h.d4.1.symm _ _)
  · refine own_same (hf.own h.mark fun b hb => by cases hb; exact hn sk (by simp)) fun b hb => setCell_far ?_ _ _
    have e : sk = b := by cases hb; rfl
    subst e; exact h.d4.2.1
  · exact own_same (hf.own h.sown fun b hb hm' => h.d3 b hb (mem_blks.1 hm')) fun b hb => setCell_far (h.d1 b hb).2.1 _ _
  · have : w2.ownsRow w.heap.size 3 1 (.slice (some ⟨g, 0, none⟩) (FL ++ [k]).length cap) (FL ++ [k]).length (ints (FL ++ [k])) := by rw [hlen, ints_app]; exact ho
    refine own_same this fun b hb => setCell_far ?_ _ _
    have hb' : g = b := by cases hb; rfl
    subst hb'; exact hg.2.1
  · intro b hb
    have hb' : g = b := by cases hb; rfl
    subst hb'; exact hg
  · intro b hb hb2
    have hb' : g = b := by cases hb2; rfl
    exact hgf b hb hb'.symm
  · refine (h.fr.then hf fun c hc => .inr ?_).set (.inr h.gw) _ _
    exact (h.fown.lt c (mem_blks.1 hc)).1
end
end Go.Proofs.Ybulkdxbk
