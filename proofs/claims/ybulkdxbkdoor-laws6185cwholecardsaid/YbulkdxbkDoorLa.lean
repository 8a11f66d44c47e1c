import Derived.Test.YbulkdxbkDoorKz
namespace Go.Proofs.YbulkdxbkDoor
open Go.RowKit
set_option linter.unusedVariables false
set_option linter.unusedSectionVars false

section
variable {wC w w' : World} {K cb gb mk m : Nat} {nf : Bool} {sv rv : Value} {R : List Nat} {b1 b2 nw nu : Nat} {wo : Option Addr} {wc : Nat} {od : Bool} {ko : Option Addr} {kc : Nat} {BL UL WL KL : List Nat}
theorem Cl.fr0 (h : Cl wC w K cb gb mk m nf sv rv R b1 b2 nw nu wo wc od ko kc BL UL WL KL) (hf : Fr w w' []) : Cl wC w' K cb gb mk m nf sv rv R b1 b2 nw nu wo wc od ko kc BL UL WL KL :=
  h.after2 (h.sb.keep hf (by simp)) hf (by simp) (Moved.refl _ _) (Moved.refl _ _)
theorem Cl.lt (h : Cl wC w K cb gb mk m nf sv rv R b1 b2 nw nu wo wc od ko kc BL UL WL KL) : ∀ c ∈ clS cb mk b1 b2 sv rv (.slice wo WL.length wc) (.slice ko KL.length kc), c < w.heap.size := fun c hc => by
  have k1 := h.clo.kw
  have k2 := h.clo.c2
  have k3 := h.clo.m2
  rcases List.mem_append.1 hc with h1 | h1
  · simp only [cloS, List.mem_cons, List.mem_append] at h1
    rcases h1 with h1 | h1 | h1 | h1
    · omega
    · omega
    · exact (h.clo.sv_ge c (mem_blks.1 h1)).2
    · exact (h.clo.rown.lt c (mem_blks.1 h1)).2
  · exact (h.sb.ge c h1).2
end
section
variable {w wh wi wl wn : World} {H K2 K3 G n m nw nu fl : Nat} {SZ C : List Nat} {SL : List (List Nat)} {K cb mk bb1 bb2 : Nat} {nf : Bool} {v1 : Option Addr} {q1 p1 g1 : Nat} {Q1 : List Nat} {v2 : Option Addr} {q2 p2 g2 : Nat} {Q2 : List Nat} {v3 : Option Addr} {p3 g3 : Nat} {v4 : Option Addr} {el p4 g4 : Nat} {E1 : List Nat} {v5 : Option Addr} {tl p5 B5 : Nat} {D : List Int} {so : Option Addr} {sn sc : Nat} {ro : Option Addr} {rc : Nat} {R : List Nat} {wo : Option Addr} {wc : Nat} {od : Bool} {ko : Option Addr} {kc : Nat}
/-- what is read at the end -/
def EndAt (w wr : World) (cb mk m : Nat) : Prop := ∃ (a : Option Addr) (c : Nat) (a' : Option Addr) (c' : Nat), wr.cell? ⟨cb, 6, none⟩ = some (.slice a 0 c) ∧ wr.cell? ⟨cb, 9, none⟩ = some (.slice a' 0 c') ∧ wr.cell? ⟨cb, 2, none⟩ = some (.slice (some ⟨mk, 0, none⟩) m m) ∧ (∀ i, i < m → wr.cell? ⟨mk, i, none⟩ = some (.bool false)) ∧ Below w.heap.size w wr
/-- the calls behind the first answer -/
theorem chain4 (h : St68 w wh wn H K2 K3 G n m nw nu fl SZ C SL K cb mk bb1 bb2 nf v1 q1 p1 g1 Q1 v2 q2 p2 g2 Q2 v3 p3 g3 v4 el p4 g4 E1 v5 tl p5 B5 D so sn sc ro rc R wo wc od ko kc) {wo' : World} (hf : Fr wn wo' []) :
    Calls Ybad.prog 14 #[.slice (some ⟨H, 0, none⟩) n n, .slice (some ⟨K3, 0, none⟩) fl fl, .slice (some ⟨K2, 0, none⟩) (m + 1) (m + 1), .int .i64 (n : Int), .int .i64 (m : Int), .slice v2 q2 p2] wo' fun e wp => ∃ (v6 : Option Addr) (p6 el2 : Nat), e = .returned (.slice v6 el2 p6) ∧ Calls Ybad.prog 15 #[.pointer (some ⟨cb, 0, none⟩), .slice none 0 0, .slice v2 q2 p2] wp fun e wq => ∃ (v7 : Option Addr) (p7 : Nat), e = .returned (.slice v7 el2 p7) ∧ Calls Ybad.prog 16 #[.slice v7 el2 p7, .slice v6 el2 p6] wq fun e wr => e = .returned (.bool true) ∧ EndAt w wr cb mk m := by
  have hb := h.base
  obtain ⟨b1, b2, b3, b4, b5, b6⟩ := hb.b1
  have hcl := h.cl.fr0 hf
  have hlow := hcl.clo.low
  have hc := closure_any wo' H K3 K2 n m C SL v2 q2 p2 g2 0 Q2 b5 b4 hb.gr.hfl hb.gr.hSL hb.gr.hSm hb.comp.1 (hb.rc.grown hlow) hb.gr.hCm (hb.rs.grown hlow) (fun i hi => cell_of (hb.rt i hi) (hlow _ (cell_lt (hb.rt i hi)))) h.r2.len h.r2.le h.s2 h.r2.at_ (h.r2.rn.frS hf (by simp))
  rw [← hb.hfl] at hc
  refine hc.mono ?_
  rintro e wp ⟨v6, p6, P2, hP, rfl, ho, hfp⟩
  have hans := answers hb.comp hb.hn hb.hm b1 hb.gr.hSm h.s2 h.nfi hP
  obtain ⟨E2, hE2⟩ : ∃ E2, (List.range n).filter (fun q => P2 (compOf C q)) = E2 := ⟨_, rfl⟩
  have hel : E2.length ≤ 12288 := by
    rw [← hE2]
    have := List.length_filter_le (fun q => P2 (compOf C q)) (List.range n)
    simp at this; omega
  rw [hE2] at ho hans ⊢
  refine ⟨v6, p6, E2.length, rfl, ?_⟩
  have hff := hf.trans hfp
  have hcl2 := h.cl.fr0 hff
  have happ := appendClosure_any wh wp K cb G mk m nf so sn sc ro rc R bb1 bb2 nw nu wo wc od ko kc n C (mems n SZ) SL v2 q2 p2 g2 0 Q2 none 0 wp.heap.size [] hb.gr b2 b3 (by have := hb.h3; have := hb.fr.size; omega) (tab_fr hff h.tab (by simp)) hcl2 h.r2.len h.r2.le h.s2 h.r2.at_ (h.r2.rn.frS hff (by simp)) h.f2 (World.ownsRow_nil _ _ _ _) (by simp) (Nat.le_refl _) (by have := hcl2.clo.c1; have := hcl2.clo.c2; have := hcl2.clo.kw; omega) (fun b hb' => by cases hb')
  rw [hans] at happ
  simp only [List.length_nil, Nat.zero_add] at happ
  refine Calls.mono happ ?_
  rintro e wq ⟨v7, p7, so', sn', sc', ro', rc', R', wo'', wc', od', ko', kc', rfl, hmid⟩
  refine ⟨v7, p7, rfl, ?_⟩
  have hown := hmid.own
  have e0 : zints [] ++ ints E2 = ints E2 := rfl
  rw [e0] at hown
  obtain ⟨g7, r7, l7⟩ := RdN.of hown (by omega)
  obtain ⟨g6, r6, l6⟩ := RdN.of ho (by omega)
  have hlt := hcl2.lt
  have hsz := (h.cl.fr0 hf).lt
  have r6' := r6.fr hmid.fr (fun h0 hm => by
    have h5 := (l6 h0).1
    rcases List.mem_append.1 hm with h6 | h6
    · have := hsz g6 h6; omega
    · simp [blks, Value.ownBlock] at h6)
  refine (equal_any wq v7 v6 E2.length p7 p6 g7 0 g6 0 (casts E2) (by rw [casts_len]) (by omega) r7.at_ r6.at_ r7.rz r6'.rz).mono ?_
  rintro e wr ⟨rfl, q, rfl⟩
  have hend := hmid.cl.fr0 ((Fr.refl wq []).drewN q)
  obtain ⟨⟨c5, c6, c7, c8, c9⟩, _⟩ := hend.sb.cells
  have hblk := hend.clo.blk
  refine ⟨rfl, wo'', wc', ko', kc', c6, c9, by (simp only [World.cell?]; rw [hblk]; rfl), fun i hi => own_cell hend.clo.mark (bools_get hi), ?_⟩
  have h9 := hb.fr.size
  have hB1 : Below w.heap.size w wp := hff.below (by simp) h.bel (by have := hcl.clo.kw; have := h.cl.clo.kw; have := h.cl.clo.c1; have := h.cl.clo.c2; omega)
  have hB2 : Below w.heap.size w wq := hmid.fr.below (fun c hc => by
    rcases List.mem_append.1 hc with h6 | h6
    · have := hcl2.ge c h6; omega
    · simp [blks, Value.ownBlock] at h6) hB1 (by have := hcl2.clo.kw; have := hcl2.clo.c1; have := hcl2.clo.c2; omega)
  exact ((Fr.refl wq []).drewN q).below (by simp) hB2 (by have := hmid.cl.clo.kw; have := hcl2.clo.c1; have := hcl2.clo.c2; have := hmid.fr.size; have := hcl2.clo.kw; omega)
end
end Go.Proofs.YbulkdxbkDoor
