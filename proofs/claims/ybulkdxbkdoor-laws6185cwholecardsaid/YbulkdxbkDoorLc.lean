import Derived.Test.YbulkdxbkDoorLb
namespace Go.Proofs.YbulkdxbkDoor
open Go.RowKit
set_option linter.unusedVariables false
set_option linter.unusedSectionVars false

theorem InDst.below {w wn : World} {a : Option Addr} {n c b o : Nat} {D : List Int} (h : InDst w a n c b o D) (hb : Below w.heap.size w wn) : InDst wn a n c b o D :=
  ⟨h.len, h.le, h.at_, h.nil, fun i x hx => cell_of (h.rd i x hx) (hb.block _ (cell_lt (h.rd i x hx)))⟩
section
variable {w wh wi wl wx : World} {H K2 K3 G n m nw nu fl : Nat} {SZ C : List Nat} {SL : List (List Nat)} {cb mk bb1 bb2 : Nat} {nf : Bool} {v1 : Option Addr} {q1 p1 g1 : Nat} {Q1 : List Nat} {v2 : Option Addr} {q2 p2 g2 : Nat} {Q2 : List Nat} {v3 : Option Addr} {p3 g3 : Nat}
theorem chain3 (h : St62 w wh wi wl H K2 K3 G n m nw nu fl SZ C SL cb mk bb1 bb2 nf v1 q1 p1 g1 Q1 v2 q2 p2 g2 Q2 v3 p3 g3) (hf : Fr wl wx []) {dd : Option Addr} {n4 dc LL : Nat} {D : List Int} (hLL : wl.heap.size = LL) (hdr : wx.ownsRow LL 3 1 (.slice dd n4 dc) n4 (zints D)) (hdl : n4 = D.length) (hdl2 : n4 ≤ 65536) :
    Calls Ybad.prog 14 #[.slice (some ⟨H, 0, none⟩) n n, .slice (some ⟨K3, 0, none⟩) fl fl, .slice (some ⟨K2, 0, none⟩) (m + 1) (m + 1), .int .i64 (n : Int), .int .i64 (m : Int), .slice v1 q1 p1] wx fun e wm => ∃ (v4 : Option Addr) (el p4 : Nat), e = .returned (.slice v4 el p4) ∧ Calls Ybad.prog 15 #[.pointer (some ⟨cb, 0, none⟩), .slice dd n4 dc, .slice v1 q1 p1] wm fun e wn => ∃ (v5 : Option Addr) (tl p5 : Nat), e = .returned (.slice v5 tl p5) ∧
      ∃ (K g4 : Nat) (E1 : List Nat) (B5 : Nat) (so : Option Addr) (sn sc : Nat) (ro : Option Addr) (rc : Nat) (R : List Nat) (wo : Option Addr) (wc : Nat) (od : Bool) (ko : Option Addr) (kc : Nat), St68 w wh wn H K2 K3 G n m nw nu fl SZ C SL K cb mk bb1 bb2 nf v1 q1 p1 g1 Q1 v2 q2 p2 g2 Q2 v3 p3 g3 v4 el p4 g4 E1 v5 tl p5 B5 D so sn sc ro rc R wo wc od ko kc := by
  have hb := h.base
  obtain ⟨b1, b2, b3, b4, b5, b6⟩ := hb.b1
  have hwx : Fr wh wx [] := (h.new.fr.trans h.fr).trans hf
  have hix : Fr wi wx [] := h.fr.trans hf
  have hc := closure_any wx H K3 K2 n m C SL v1 q1 p1 g1 0 Q1 b5 b4 hb.gr.hfl hb.gr.hSL hb.gr.hSm hb.comp.1 (hb.rc.frS hwx (by simp)) hb.gr.hCm (hb.rs.frS hwx (by simp)) (fun i hi => hwx.cell (hb.rt i hi) (by simp)) h.r1.len h.r1.le h.s1 h.r1.at_ (h.r1.rn.frS hf (by simp))
  rw [← hb.hfl] at hc
  refine hc.mono ?_
  rintro e wm ⟨v4, p4, P1, hP, rfl, ho, hfm⟩
  have hans := answers hb.comp hb.hn hb.hm b1 hb.gr.hSm h.s1 h.nfi hP
  obtain ⟨E1, hE1⟩ : ∃ E1, (List.range n).filter (fun q => P1 (compOf C q)) = E1 := ⟨_, rfl⟩
  have hel : E1.length ≤ 12288 := by
    rw [← hE1]
    have := List.length_filter_le (fun q => P1 (compOf C q)) (List.range n)
    simp at this; omega
  rw [hE1] at ho hans ⊢
  refine ⟨v4, E1.length, p4, rfl, ?_⟩
  have l0 := blk_lt h.new.blk
  have l1 := (h.new.mark.lt mk rfl).2
  have l2 := (h.new.bits.lt bb1 rfl).2
  have l3 := (h.new.use.lt bb2 rfl).2
  have s1 := h.fr.size
  have s2 := hf.size
  have s3 := hfm.size
  have s4 := h.new.fr.size
  have hnot : ∀ c, wi.heap.size ≤ c → c ∉ clS cb mk bb1 bb2 (.slice none 0 0) (.slice none 0 ([] : List Nat).length) (.slice none 0 0) (.slice none 0 0) := fun c h5 hm => by
    rcases clS_nil hm with h | h | h | h <;> omega
  have hcl0 : Cl wh wm wm.heap.size cb G mk m nf (.slice none 0 0) (.slice none 0 ([] : List Nat).length) [] bb1 bb2 nw nu none 0 false none 0 (List.replicate nw 0) (List.replicate nu 0) [] [] := by
    have := Cl.start h.new (hix.trans hfm)
    rw [← hb.nu1, ← hb.nw1] at this
    exact this
  have hdb : ∀ b, (Value.slice dd n4 dc).ownBlock = some b → LL ≤ b ∧ b < wx.heap.size := fun b hb' => hdr.lt b hb'
  have happ := appendClosure_any wh wm wm.heap.size cb G mk m nf none 0 0 none 0 [] bb1 bb2 nw nu none 0 false none 0 n C (mems n SZ) SL v1 q1 p1 g1 0 Q1 dd dc LL D hb.gr b2 b3 (by have := hb.h3; have := hb.fr.size; omega) (tab_fr ((hb.fr.trans hwx).trans hfm) hb.tab (by simp)) hcl0 h.r1.len h.r1.le h.s1 h.r1.at_ (h.r1.rn.frS (hf.trans hfm) (by simp)) (fun h0 => hnot g1 (h.l1 h0)) (by rw [← hdl]; exact hfm.own hdr (by simp)) (by rw [← hdl]; exact hdl2) (by omega) (by omega) (fun b hb' => hnot b (by rw [← hdl] at hb'; have := (hdb b hb').1; omega))
  rw [hans, ← hdl] at happ
  refine Calls.mono happ ?_
  rintro e wn ⟨v5, p5, so', sn', sc', ro', rc', R', wo', wc', od', ko', kc', rfl, hmid⟩
  obtain ⟨g4, r4, l4⟩ := RdN.of ho (by omega)
  have hlow : ∀ g, (wi.heap.size ≤ g ∧ (g < LL ∨ wx.heap.size ≤ g)) → g ∉ clS cb mk bb1 bb2 (.slice none 0 0) (.slice none 0 ([] : List Nat).length) (.slice none 0 0) (.slice none 0 0) ++ blks (.slice dd n4 dc) := fun g h5 hm => by
    rcases List.mem_append.1 hm with h6 | h6
    · exact hnot g h5.1 h6
    · have := hdb g (mem_blks.1 h6); omega
  have g1l : 0 < q1 → g1 < LL := fun h0 => by rw [← hLL]; exact h.r1.rn.lt (by rw [← h.r1.len]; exact h0)
  have g2l : 0 < q2 → g2 < LL := fun h0 => by rw [← hLL]; exact h.r2.rn.lt (by rw [← h.r2.len]; exact h0)
  have g3l : 0 < q1 → g3 < LL := fun h0 => by rw [← hLL]; exact h.r3.rn.lt (by rw [← h.r3.len]; exact h0)
  have hfl' := hf.trans hfm
  refine ⟨v5, n4 + E1.length, p5, rfl, wm.heap.size, g4, E1, LL, so', sn', sc', ro', rc', R', wo', wc', od', ko', kc', hb, h.nfi, hmid.cl, (h.r1.fr hfl' (by simp)).fr hmid.fr (fun h0 => hlow g1 ⟨h.l1 h0, .inl (g1l h0)⟩), (h.r2.fr hfl' (by simp)).fr hmid.fr (fun h0 => hlow g2 ⟨h.l2 h0, .inl (g2l h0)⟩), (h.r3.fr hfl' (by simp)).fr hmid.fr (fun h0 => hlow g3 ⟨h.l3 h0, .inl (g3l h0)⟩), r4.fr hmid.fr (fun h0 => hlow g4 ⟨by have := (l4 h0).1; omega, .inr (l4 h0).1⟩), fun h0 hm => ?_, h.s2, hmid.own, by rw [hdl], ?_, ?_⟩
  · rcases clS_moved hmid.ms hmid.mr hmid.mw hmid.mk2 g2 hm with h5 | h5
    · exact hnot g2 (h.l2 h0) h5
    · have := g2l h0; omega
  · refine tab_fr hmid.fr (tab_fr ((hb.fr.trans hwx).trans hfm) hb.tab (by simp)) (fun hm => ?_)
    have h9 := hb.h3
    have h8 := hb.fr.size
    rcases List.mem_append.1 hm with h6 | h6
    · have := hcl0.ge 3 h6; omega
    · have := hdb 3 (mem_blks.1 h6); omega
  · have h8 := hb.fr.size
    exact hmid.fr.below (fun c hc => by
      rcases List.mem_append.1 hc with h6 | h6
      · have := hcl0.ge c h6; omega
      · have := hdb c (mem_blks.1 h6); omega) (Fr.belowAll ((hb.fr.trans hwx).trans hfm)) (by omega)
end
end Go.Proofs.YbulkdxbkDoor
