import Derived.Test.YbulkdxbkDoorKf
namespace Go.Proofs.YbulkdxbkDoor
open Go.RowKit
set_option linter.unusedVariables false
set_option linter.unusedSectionVars false

/-- the blocks that the set's builder may turn -/
def sbS (cb b1 b2 : Nat) (wv kv : Value) : List Nat := cb :: b1 :: b2 :: (blks wv ++ blks kv)
/-- the set's builder inside the closer -/
structure SB (w0 : World) (wv0 kv0 : Value) (B K cb gb mk m : Nat) (nf : Bool) (sv rv : Value) (b1 b2 nw nu : Nat) (w : World) (wo : Option Addr) (wc : Nat) (od : Bool) (ko : Option Addr) (kc : Nat) (BL UL WL KL : List Nat) : Prop where
  blk : w.heap[cb]? = some (cloBlk gb mk m nf sv rv (.slice (some ⟨b1, 0, none⟩) nw nw) (.slice wo WL.length wc) (.bool od) (.slice (some ⟨b2, 0, none⟩) nu nu) (.slice ko KL.length kc))
  bits : w.ownsRow B 79 1 (.slice (some ⟨b1, 0, none⟩) nw nw) nw (u64s BL)
  use : w.ownsRow B 79 1 (.slice (some ⟨b2, 0, none⟩) nu nu) nu (u64s UL)
  wown : w.ownsRow K 3 1 (.slice wo WL.length wc) WL.length (ints WL)
  kown : w.ownsRow K 3 1 (.slice ko KL.length kc) KL.length (ints KL)
  c1 : B ≤ cb
  c2 : cb < K
  l1 : b1 < K
  l2 : b2 < K
  n1 : cb ≠ b1
  n2 : cb ≠ b2
  n3 : b1 ≠ b2
  kw : K ≤ w.heap.size
  dis : ∀ b, (Value.slice wo WL.length wc).ownBlock = some b → (Value.slice ko KL.length kc).ownBlock = some b → False
  fr : Fr w0 w (sbS cb b1 b2 wv0 kv0)
  mw : Moved w0 wv0 (.slice wo WL.length wc)
  mk2 : Moved w0 kv0 (.slice ko KL.length kc)
section
variable {w0 w w2 : World} {wv0 kv0 : Value} {B K cb gb mk m : Nat} {nf : Bool} {sv rv : Value} {b1 b2 nw nu : Nat} {wo : Option Addr} {wc : Nat} {od : Bool} {ko : Option Addr} {kc : Nat} {BL UL WL KL : List Nat}
theorem SB.wfar (h : SB w0 wv0 kv0 B K cb gb mk m nf sv rv b1 b2 nw nu w wo wc od ko kc BL UL WL KL) {c : Nat} (hc : c < K) : c ∉ blks (.slice wo WL.length wc) := fun hm => by
  have := (h.wown.lt c (mem_blks.1 hm)).1; omega
theorem SB.kfar (h : SB w0 wv0 kv0 B K cb gb mk m nf sv rv b1 b2 nw nu w wo wc od ko kc BL UL WL KL) {c : Nat} (hc : c < K) : c ∉ blks (.slice ko KL.length kc) := fun hm => by
  have := (h.kown.lt c (mem_blks.1 hm)).1; omega
theorem SB.cells (h : SB w0 wv0 kv0 B K cb gb mk m nf sv rv b1 b2 nw nu w wo wc od ko kc BL UL WL KL) :
    (w.cell? ⟨cb, 5, none⟩ = some (.slice (some ⟨b1, 0, none⟩) nw nw) ∧ w.cell? ⟨cb, 6, none⟩ = some (.slice wo WL.length wc) ∧ w.cell? ⟨cb, 7, none⟩ = some (.bool od) ∧ w.cell? ⟨cb, 8, none⟩ = some (.slice (some ⟨b2, 0, none⟩) nu nu) ∧ w.cell? ⟨cb, 9, none⟩ = some (.slice ko KL.length kc)) ∧ w.frozen? ⟨cb, 6, none⟩ = false ∧ w.frozen? ⟨cb, 7, none⟩ = false ∧ w.frozen? ⟨cb, 9, none⟩ = false := by
  have := h.blk
  refine ⟨⟨?_, ?_, ?_, ?_, ?_⟩, ?_, ?_, ?_⟩ <;> simp [World.cell?, World.frozen?, this]
theorem SB.bitAt (h : SB w0 wv0 kv0 B K cb gb mk m nf sv rv b1 b2 nw nu w wo wc od ko kc BL UL WL KL) {i : Nat} (hl : BL.length = nw) (hi : i < nw) : w.cell? ⟨b1, i, none⟩ = some (.int .u64 (at64 BL i : Int)) ∧ w.frozen? ⟨b1, i, none⟩ = false :=
  ⟨own_cell h.bits (u64s_get (at64_get (by omega))), own_frozen h.bits i⟩
theorem SB.useAt (h : SB w0 wv0 kv0 B K cb gb mk m nf sv rv b1 b2 nw nu w wo wc od ko kc BL UL WL KL) {i : Nat} (hl : UL.length = nu) (hi : i < nu) : w.cell? ⟨b2, i, none⟩ = some (.int .u64 (at64 UL i : Int)) ∧ w.frozen? ⟨b2, i, none⟩ = false :=
  ⟨own_cell h.use (u64s_get (at64_get (by omega))), own_frozen h.use i⟩
theorem SB.drewN (h : SB w0 wv0 kv0 B K cb gb mk m nf sv rv b1 b2 nw nu w wo wc od ko kc BL UL WL KL) (q : Nat) : SB w0 wv0 kv0 B K cb gb mk m nf sv rv b1 b2 nw nu (w.drewN q) wo wc od ko kc BL UL WL KL :=
  ⟨h.blk, own_same h.bits fun _ _ => rfl, own_same h.use fun _ _ => rfl, own_same h.wown fun _ _ => rfl, own_same h.kown fun _ _ => rfl, h.c1, h.c2, h.l1, h.l2, h.n1, h.n2, h.n3, h.kw, h.dis, h.fr.drewN q, h.mw, h.mk2⟩
theorem SB.setBits (h : SB w0 wv0 kv0 B K cb gb mk m nf sv rv b1 b2 nw nu w wo wc od ko kc BL UL WL KL) (i x : Nat) : SB w0 wv0 kv0 B K cb gb mk m nf sv rv b1 b2 nw nu (w.setCell ⟨b1, i, none⟩ (.int .u64 (x : Int))) wo wc od ko kc (BL.set i x) UL WL KL := by
  have hw := h.wfar h.l1
  have hk := h.kfar h.l1
  refine ⟨(setCell_far h.n1 _ _).trans h.blk, ?_, own_same h.use fun b hb => setCell_far (fun e => ?_) _ _, own_same h.wown fun b hb => setCell_far (fun e => ?_) _ _, own_same h.kown fun b hb => setCell_far (fun e => ?_) _ _, h.c1, h.c2, h.l1, h.l2, h.n1, h.n2, h.n3, by rw [setCell_size]; exact h.kw, h.dis, h.fr.set (.inl (by simp [sbS])) _ _, h.mw, h.mk2⟩
  · rw [← u64s_set]; exact own_set h.bits i _
  · cases hb; exact h.n3 e.symm
  · subst e; exact hw (mem_blks.2 hb)
  · subst e; exact hk (mem_blks.2 hb)
theorem SB.setUse (h : SB w0 wv0 kv0 B K cb gb mk m nf sv rv b1 b2 nw nu w wo wc od ko kc BL UL WL KL) (i x : Nat) : SB w0 wv0 kv0 B K cb gb mk m nf sv rv b1 b2 nw nu (w.setCell ⟨b2, i, none⟩ (.int .u64 (x : Int))) wo wc od ko kc BL (UL.set i x) WL KL := by
  have hw := h.wfar h.l2
  have hk := h.kfar h.l2
  refine ⟨(setCell_far h.n2 _ _).trans h.blk, own_same h.bits fun b hb => setCell_far (fun e => ?_) _ _, ?_, own_same h.wown fun b hb => setCell_far (fun e => ?_) _ _, own_same h.kown fun b hb => setCell_far (fun e => ?_) _ _, h.c1, h.c2, h.l1, h.l2, h.n1, h.n2, h.n3, by rw [setCell_size]; exact h.kw, h.dis, h.fr.set (.inl (by simp [sbS])) _ _, h.mw, h.mk2⟩
  · cases hb; exact h.n3 e
  · rw [← u64s_set]; exact own_set h.use i _
  · subst e; exact hw (mem_blks.2 hb)
  · subst e; exact hk (mem_blks.2 hb)
theorem SB.setOd (h : SB w0 wv0 kv0 B K cb gb mk m nf sv rv b1 b2 nw nu w wo wc od ko kc BL UL WL KL) (o2 : Bool) : SB w0 wv0 kv0 B K cb gb mk m nf sv rv b1 b2 nw nu (w.setCell ⟨cb, 7, none⟩ (.bool o2)) wo wc o2 ko kc BL UL WL KL := by
  have hw := h.wfar h.c2
  have hk := h.kfar h.c2
  refine ⟨setCell_at h.blk _ _, own_same h.bits fun b hb => setCell_far (fun e => ?_) _ _, own_same h.use fun b hb => setCell_far (fun e => ?_) _ _, own_same h.wown fun b hb => setCell_far (fun e => ?_) _ _, own_same h.kown fun b hb => setCell_far (fun e => ?_) _ _, h.c1, h.c2, h.l1, h.l2, h.n1, h.n2, h.n3, by rw [setCell_size]; exact h.kw, h.dis, h.fr.set (.inl (by simp [sbS])) _ _, h.mw, h.mk2⟩
  · cases hb; exact h.n1 e.symm
  · cases hb; exact h.n2 e.symm
  · subst e; exact hw (mem_blks.2 hb)
  · subst e; exact hk (mem_blks.2 hb)
/-- the words' list anew: grown or cut, and stored -/
theorem SB.setW (h : SB w0 wv0 kv0 B K cb gb mk m nf sv rv b1 b2 nw nu w wo wc od ko kc BL UL WL KL) {wo2 : Option Addr} {wc2 : Nat} {WL2 : List Nat}
    (ho : w2.ownsRow K 3 1 (.slice wo2 WL2.length wc2) WL2.length (ints WL2)) (hf : Fr w w2 (blks (.slice wo WL.length wc))) (hm : Moved w (.slice wo WL.length wc) (.slice wo2 WL2.length wc2)) :
    SB w0 wv0 kv0 B K cb gb mk m nf sv rv b1 b2 nw nu (w2.setCell ⟨cb, 6, none⟩ (.slice wo2 WL2.length wc2)) wo2 wc2 od ko kc BL UL WL2 KL := by
  have hk := h.kfar h.c2
  have hkd : ∀ b, (Value.slice ko KL.length kc).ownBlock = some b → b ∉ blks (.slice wo WL.length wc) := fun b hb hm => h.dis b (mem_blks.1 hm) hb
  refine ⟨setCell_at (hf.blk h.blk (h.wfar h.c2)) _ _, own_same (hf.own h.bits fun b hb => by cases hb; exact h.wfar h.l1) fun b hb => setCell_far (fun e => ?_) _ _, own_same (hf.own h.use fun b hb => by cases hb; exact h.wfar h.l2) fun b hb => setCell_far (fun e => ?_) _ _, own_same ho fun b hb => setCell_far (fun e => ?_) _ _, own_same (hf.own h.kown hkd) fun b hb => setCell_far (fun e => ?_) _ _, h.c1, h.c2, h.l1, h.l2, h.n1, h.n2, h.n3, by rw [setCell_size]; exact Nat.le_trans h.kw hf.size, ?_, ?_, h.mw.trans h.fr hm, h.mk2⟩
  · cases hb; exact h.n1 e.symm
  · cases hb; exact h.n2 e.symm
  · subst e; have := (ho.lt b hb).1; have := h.c2; omega
  · subst e; exact hk (mem_blks.2 hb)
  · intro b h1 h2
    rcases hm b h1 with h3 | h3
    · exact h.dis b h3 h2
    · have := (h.kown.lt b h2).2; omega
  · refine (h.fr.then hf fun c hc => ?_).set (.inl (by simp [sbS])) _ _
    rcases h.mw c (mem_blks.1 hc) with h1 | h1
    · exact .inl (by simp [sbS, mem_blks.2 h1])
    · exact .inr h1
theorem SB.setK (h : SB w0 wv0 kv0 B K cb gb mk m nf sv rv b1 b2 nw nu w wo wc od ko kc BL UL WL KL) {ko2 : Option Addr} {kc2 : Nat} {KL2 : List Nat}
    (ho : w2.ownsRow K 3 1 (.slice ko2 KL2.length kc2) KL2.length (ints KL2)) (hf : Fr w w2 (blks (.slice ko KL.length kc))) (hm : Moved w (.slice ko KL.length kc) (.slice ko2 KL2.length kc2)) :
    SB w0 wv0 kv0 B K cb gb mk m nf sv rv b1 b2 nw nu (w2.setCell ⟨cb, 9, none⟩ (.slice ko2 KL2.length kc2)) wo wc od ko2 kc2 BL UL WL KL2 := by
  have hk := h.wfar h.c2
  have hkd : ∀ b, (Value.slice wo WL.length wc).ownBlock = some b → b ∉ blks (.slice ko KL.length kc) := fun b hb hm => h.dis b hb (mem_blks.1 hm)
  refine ⟨setCell_at (hf.blk h.blk (h.kfar h.c2)) _ _, own_same (hf.own h.bits fun b hb => by cases hb; exact h.kfar h.l1) fun b hb => setCell_far (fun e => ?_) _ _, own_same (hf.own h.use fun b hb => by cases hb; exact h.kfar h.l2) fun b hb => setCell_far (fun e => ?_) _ _, own_same (hf.own h.wown hkd) fun b hb => setCell_far (fun e => ?_) _ _, own_same ho fun b hb => setCell_far (fun e => ?_) _ _, h.c1, h.c2, h.l1, h.l2, h.n1, h.n2, h.n3, by rw [setCell_size]; exact Nat.le_trans h.kw hf.size, ?_, ?_, h.mw, h.mk2.trans h.fr hm⟩
  · cases hb; exact h.n1 e.symm
  · cases hb; exact h.n2 e.symm
  · subst e; exact hk (mem_blks.2 hb)
  · subst e; have := (ho.lt b hb).1; have := h.c2; omega
  · intro b h1 h2
    rcases hm b h2 with h3 | h3
    · exact h.dis b h1 h3
    · have := (h.wown.lt b h1).2; omega
  · refine (h.fr.then hf fun c hc => ?_).set (.inl (by simp [sbS])) _ _
    rcases h.mk2 c (mem_blks.1 hc) with h1 | h1
    · exact .inl (by simp [sbS, mem_blks.2 h1])
    · exact .inr h1
theorem SB.pushW (h : SB w0 wv0 kv0 B K cb gb mk m nf sv rv b1 b2 nw nu w wo wc od ko kc BL UL WL KL) {k g cap : Nat}
    (ho : w2.ownsRow K 3 1 (.slice (some ⟨g, 0, none⟩) (WL.length + 1) cap) (WL.length + 1) (ints WL ++ [.int .i64 (k : Int)])) (hf : Fr w w2 (blks (.slice wo WL.length wc))) (hm : Moved w (.slice wo WL.length wc) (.slice (some ⟨g, 0, none⟩) (WL.length + 1) cap)) :
    SB w0 wv0 kv0 B K cb gb mk m nf sv rv b1 b2 nw nu (w2.setCell ⟨cb, 6, none⟩ (.slice (some ⟨g, 0, none⟩) (WL.length + 1) cap)) (some ⟨g, 0, none⟩) cap od ko kc BL UL (WL ++ [k]) KL := by
  have e : (WL ++ [k]).length = WL.length + 1 := by simp
  have := h.setW (w2 := w2) (wo2 := some ⟨g, 0, none⟩) (wc2 := cap) (WL2 := WL ++ [k])
  rw [e, ints_app] at this
  exact this ho hf hm
theorem SB.pushK (h : SB w0 wv0 kv0 B K cb gb mk m nf sv rv b1 b2 nw nu w wo wc od ko kc BL UL WL KL) {k g cap : Nat}
    (ho : w2.ownsRow K 3 1 (.slice (some ⟨g, 0, none⟩) (KL.length + 1) cap) (KL.length + 1) (ints KL ++ [.int .i64 (k : Int)])) (hf : Fr w w2 (blks (.slice ko KL.length kc))) (hm : Moved w (.slice ko KL.length kc) (.slice (some ⟨g, 0, none⟩) (KL.length + 1) cap)) :
    SB w0 wv0 kv0 B K cb gb mk m nf sv rv b1 b2 nw nu (w2.setCell ⟨cb, 9, none⟩ (.slice (some ⟨g, 0, none⟩) (KL.length + 1) cap)) wo wc od (some ⟨g, 0, none⟩) cap BL UL WL (KL ++ [k]) := by
  have e : (KL ++ [k]).length = KL.length + 1 := by simp
  have := h.setK (w2 := w2) (ko2 := some ⟨g, 0, none⟩) (kc2 := cap) (KL2 := KL ++ [k])
  rw [e, ints_app] at this
  exact this ho hf hm
end
theorem index58 {n c b k : Nat} (hk : k < n) (w : World) : (Instr.indexAt 58 (.slice (some ⟨b, 0, none⟩) n c) (.int .u64 (k : Int))).run Ybad.prog w = .ok (.pointer (some ⟨b, k, none⟩)) w := by
  by_cases h0 : k = 0
  · subst h0; simp [Instr.indexAt, run_underlying Ybad.underlying58, asIntOf, hk, Addr.add]
  · simp [Instr.indexAt, run_underlying Ybad.underlying58, asIntOf, hk, Addr.add, h0]
theorem index58i {n c b k : Nat} (hk : k < n) (w : World) : (Instr.indexAt 58 (.slice (some ⟨b, 0, none⟩) n c) (.int .i64 (k : Int))).run Ybad.prog w = .ok (.pointer (some ⟨b, k, none⟩)) w := by
  by_cases h0 : k = 0
  · subst h0; simp [Instr.indexAt, run_underlying Ybad.underlying58, asIntOf, hk, Addr.add]
  · simp [Instr.indexAt, run_underlying Ybad.underlying58, asIntOf, hk, Addr.add, h0]
end Go.Proofs.YbulkdxbkDoor
