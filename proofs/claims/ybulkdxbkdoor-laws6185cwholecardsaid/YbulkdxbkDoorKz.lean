import Derived.Test.YbulkdxbkDoorKy
namespace Go.Proofs.YbulkdxbkDoor
open Go.RowKit
set_option linter.unusedVariables false
set_option linter.unusedSectionVars false

/-- the code from a region on -/
noncomputable def codeTail (n : Nat) : Code → Option Code
  | .region id ops d => if id = n then some (.region id ops d) else none
  | .seq a b => match codeTail n a with
    | some c => some (.seq c b)
    | none => codeTail n b
  | _ => none
noncomputable def tail4 (n : Nat) : Code := (codeTail n (Ybad.f4.body.getD .skip)).getD .skip
theorem tail_use {n : Nat} {c : Code} {Q : Exit → Act → World → Prop} {a : Act} {w : World} (h : codeTail n (Ybad.f4.body.getD .skip) = some c) (hw : c.wp Ybad.prog Q a w) : (tail4 n).wp Ybad.prog Q a w := by
  unfold tail4; rw [h]; exact hw
/-- the law's end -/
abbrev fin4 (w : World) : Exit → Act → World → Prop := bodyPost Ybad.prog Ybad.f4 fun e w' => e = .returned (.bool true) ∧ Below w.heap.size w w'
/-- what the law has laid, ahead of the condensation -/
structure Pre57 (w wg : World) (H K2 K3 n m fl : Nat) (SZ C : List Nat) (SL : List (List Nat)) : Prop where
  hm : m = SZ.length
  hml : m ≤ 4096
  hn : n = sumTo SZ SZ.length
  hnl : n ≤ 12288
  comp : CompOk n SZ C n
  rc : NatsAt wg H 0 C
  rm : NatsAt wg (H + 1) 0 (mems n SZ).flatten
  rf : ∀ i, i ≤ m → wg.cell? ⟨H + 1 + 1, i, none⟩ = some (.int .i64 (pre (mems n SZ) i : Int))
  rs : NatsAt wg K3 0 SL.flatten
  rt : ∀ i, i ≤ m → wg.cell? ⟨K2, i, none⟩ = some (.int .i64 (pre SL i : Int))
  hfl : fl = SL.flatten.length
  hfl2 : fl ≤ 65536
  sll : SL.length = m
  slm : ∀ (q : Nat) L r, SL[q]? = some L → r ∈ L → r < m
  fr : Fr w wg []
  tab : TabAt w
  h3 : 3 < w.heap.size
structure InSeeds (w : World) (a : Option Addr) (n b o : Nat) (E : List Nat) : Prop where
  len : n = E.length
  le : n ≤ 65536
  at_ : 0 < n → a = some ⟨b, o, none⟩
  rd : InU w b o E
  bd : ∀ e ∈ E, e ≤ 65535
structure InDst (w : World) (a : Option Addr) (n c b o : Nat) (D : List Int) : Prop where
  len : n = D.length
  le : n ≤ 65536
  at_ : 0 < n → a = some ⟨b, o, none⟩
  nil : a = none → c = 0
  rd : ZAt w b o D
/-- the graph, laid -/
structure Base (w wh : World) (H K2 K3 G n m nw nu fl : Nat) (SZ C : List Nat) (SL : List (List Nat)) : Prop where
  hm : m = SZ.length
  hn : n = sumTo SZ SZ.length
  comp : CompOk n SZ C n
  hfl : fl = SL.flatten.length
  gr : Gr wh G n m nw C (mems n SZ) SL
  rc : NatsAt wh H 0 C
  rs : NatsAt wh K3 0 SL.flatten
  rt : ∀ i, i ≤ m → wh.cell? ⟨K2, i, none⟩ = some (.int .i64 (pre SL i : Int))
  nw1 : nw = (n + 63) / 64
  nu1 : nu = ((n + 63) / 64 + 63) / 64
  fr : Fr w wh []
  tab : TabAt w
  h3 : 3 < w.heap.size
theorem Base.b1 {w wh : World} {H K2 K3 G n m nw nu fl : Nat} {SZ C : List Nat} {SL : List (List Nat)} (h : Base w wh H K2 K3 G n m nw nu fl SZ C SL) : n ≤ nw * 64 ∧ nw ≤ nu * 64 ∧ nu ≤ 3 ∧ n ≤ 12288 ∧ m ≤ 4096 ∧ fl ≤ 65536 := by
  have h1 := h.nw1
  have h2 := h.nu1
  have h3 := h.gr.hn2
  have h4 := h.gr.hm
  have h5 := h.gr.hfl
  have h6 := h.hfl
  refine ⟨by omega, by omega, by omega, h3, h4, by omega⟩
theorem Pre57.base {w wg wh : World} {H K2 K3 n m fl : Nat} {SZ C : List Nat} {SL : List (List Nat)} (h : Pre57 w wg H K2 K3 n m fl SZ C SL) (hf : Fr wg wh []) {G : Nat}
    (hnew : wh.heap[G]? = some (.cells #[.slice (some ⟨H, 0, none⟩) n n, .slice (some ⟨H + 1, 0, none⟩) n n, .slice (some ⟨H + 1 + 1, 0, none⟩) (m + 1) (m + 1), .slice (some ⟨K3, 0, none⟩) fl fl, .slice (some ⟨K2, 0, none⟩) (m + 1) (m + 1)] 49 (0, 0))) :
    Base w wh H K2 K3 G n m ((n + 63) / 64) (((n + 63) / 64 + 63) / 64) fl SZ C SL := by
  have hcond : CondC wh G n m C (mems n SZ) SL := by
    refine ⟨H, H + 1, H + 1 + 1, K3, K2, ?_, h.comp.1, h.rc.frS hf (by simp), by rw [mems_flat_len]; exact h.hn.symm, h.rm.frS hf (by simp), fun i hi => hf.cell (h.rf i hi) (by simp), h.rs.frS hf (by simp), fun i hi => hf.cell (h.rt i hi) (by simp)⟩
    rw [← h.hfl]; exact hnew
  refine ⟨h.hm, h.hn, h.comp, h.hfl, ⟨h.hml, by have := h.hnl; omega, h.hnl, by rw [mems_len]; exact h.hm.symm, h.sll, by rw [← h.hfl]; exact h.hfl2, mems_lt h.hn, h.slm, hcond, fun q hq => by rw [h.hm]; exact (h.comp.mem h.hn hq).1⟩, h.rc.frS hf (by simp), h.rs.frS hf (by simp), fun i hi => hf.cell (h.rt i hi) (by simp), rfl, rfl, h.fr.trans hf, h.tab, h.h3⟩
/-- a row of ints that is read -/
structure RdN (w : World) (v : Option Addr) (q p g : Nat) (Q : List Nat) : Prop where
  len : q = Q.length
  le : q ≤ 65536
  at_ : 0 < q → v = some ⟨g, 0, none⟩
  nil : v = none → q = 0 ∧ p = 0
  cap : q ≤ p
  rn : NatsAt w g 0 Q
  rz : ZAt w g 0 (casts Q)
theorem RdN.fr {w w' : World} {S : List Nat} {v : Option Addr} {q p g : Nat} {Q : List Nat} (h : RdN w v q p g Q) (hf : Fr w w' S) (hg : 0 < q → g ∉ S) : RdN w' v q p g Q :=
  ⟨h.len, h.le, h.at_, h.nil, h.cap, h.rn.frS hf (by rw [← h.len]; exact hg), h.rz.fr hf (by rw [casts_len, ← h.len]; exact hg)⟩
theorem RdN.of {w : World} {B : Nat} {v : Option Addr} {q p : Nat} {Q : List Nat} (h : w.ownsRow B 3 1 (.slice v q p) q (ints Q)) (hq : q ≤ 65536) : ∃ g, RdN w v q p g Q ∧ (0 < q → B ≤ g ∧ g < w.heap.size) := by
  obtain ⟨g, h1, h2, h3, h4, h5, h6⟩ := own_readN h
  exact ⟨g, ⟨by have := h.1; rw [ints_len] at this; omega, hq, h1, h2, h3, h5, h6⟩, h4⟩
theorem seedsOf_lt {n : Nat} {E : List Nat} : ∀ x ∈ seedsOf n E, x < n := fun x hx => by
  unfold seedsOf at hx
  split at hx
  · simp at hx
  · obtain ⟨y, _, rfl⟩ := List.mem_map.1 hx; exact Nat.mod_lt _ (by omega)
theorem seedsOf_len (n : Nat) (E : List Nat) : (seedsOf n E).length ≤ E.length := by unfold seedsOf; split <;> simp
/-- at the test of Dst -/
structure St62 (w wh wi wl : World) (H K2 K3 G n m nw nu fl : Nat) (SZ C : List Nat) (SL : List (List Nat)) (cb mk bb1 bb2 : Nat) (nf : Bool) (v1 : Option Addr) (q1 p1 g1 : Nat) (Q1 : List Nat) (v2 : Option Addr) (q2 p2 g2 : Nat) (Q2 : List Nat) (v3 : Option Addr) (p3 g3 : Nat) : Prop where
  base : Base w wh H K2 K3 G n m nw nu fl SZ C SL
  new : NewClo wh wi G cb mk m n nf bb1 bb2
  nfi : nf = true ↔ m = n ∧ SL.flatten.length = 0
  fr : Fr wi wl []
  r1 : RdN wl v1 q1 p1 g1 Q1
  r2 : RdN wl v2 q2 p2 g2 Q2
  r3 : RdN wl v3 q1 p3 g3 Q1
  l1 : 0 < q1 → wi.heap.size ≤ g1
  l2 : 0 < q2 → wi.heap.size ≤ g2
  l3 : 0 < q1 → wi.heap.size ≤ g3
  s1 : ∀ x ∈ Q1, x < n
  s2 : ∀ x ∈ Q2, x < n
/-- behind the first answer -/
structure St68 (w wh wn : World) (H K2 K3 G n m nw nu fl : Nat) (SZ C : List Nat) (SL : List (List Nat)) (K cb mk bb1 bb2 : Nat) (nf : Bool) (v1 : Option Addr) (q1 p1 g1 : Nat) (Q1 : List Nat) (v2 : Option Addr) (q2 p2 g2 : Nat) (Q2 : List Nat) (v3 : Option Addr) (p3 g3 : Nat) (v4 : Option Addr) (el p4 g4 : Nat) (E1 : List Nat) (v5 : Option Addr) (tl p5 B5 : Nat) (D : List Int) (so : Option Addr) (sn sc : Nat) (ro : Option Addr) (rc : Nat) (R : List Nat) (wo : Option Addr) (wc : Nat) (od : Bool) (ko : Option Addr) (kc : Nat) : Prop where
  base : Base w wh H K2 K3 G n m nw nu fl SZ C SL
  nfi : nf = true ↔ m = n ∧ SL.flatten.length = 0
  cl : Cl wh wn K cb G mk m nf (.slice so sn sc) (.slice ro R.length rc) R bb1 bb2 nw nu wo wc od ko kc (List.replicate nw 0) (List.replicate nu 0) [] []
  r1 : RdN wn v1 q1 p1 g1 Q1
  r2 : RdN wn v2 q2 p2 g2 Q2
  r3 : RdN wn v3 q1 p3 g3 Q1
  r4 : RdN wn v4 el p4 g4 E1
  f2 : 0 < q2 → g2 ∉ clS cb mk bb1 bb2 (.slice so sn sc) (.slice ro R.length rc) (.slice wo 0 wc) (.slice ko 0 kc)
  s2 : ∀ x ∈ Q2, x < n
  own : wn.ownsRow B5 3 1 (.slice v5 tl p5) tl (zints D ++ ints E1)
  tot : tl = D.length + el
  tab : TabAt wn
  bel : Below w.heap.size w wn
end Go.Proofs.YbulkdxbkDoor
