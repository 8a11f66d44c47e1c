import Derived.Test.YbulkdxbkDoorLc
namespace Go.Proofs.YbulkdxbkDoor
open Go.RowKit
set_option linter.unusedVariables false
set_option linter.unusedSectionVars false

section
variable {w wg wh : World} {H K2 K3 G n m fl : Nat} {SZ C : List Nat} {SL : List (List Nat)} {a2 a3 : Option Addr} {n2 c2 b2 o2 n3 c3 b3 o3 : Nat} {S1 S2 : List Nat}
theorem chain2 (h : Pre57 w wg H K2 K3 n m fl SZ C SL) (hf : Fr wg wh [])
    (hnew : wh.heap[G]? = some (.cells #[.slice (some ⟨H, 0, none⟩) n n, .slice (some ⟨H + 1, 0, none⟩) n n, .slice (some ⟨H + 1 + 1, 0, none⟩) (m + 1) (m + 1), .slice (some ⟨K3, 0, none⟩) fl fl, .slice (some ⟨K2, 0, none⟩) (m + 1) (m + 1)] 49 (0, 0)))
    (i2 : InSeeds w a2 n2 b2 o2 S1) (i3 : InSeeds w a3 n3 b3 o3 S2) :
    Calls Ybad.prog 11 #[.pointer (some ⟨G, 0, none⟩)] wh fun e wi => ∃ cb, e = .returned (.pointer (some ⟨cb, 0, none⟩)) ∧ Calls Ybad.prog 12 #[.slice a2 n2 c2, .int .i64 (n : Int)] wi fun e wj => ∃ (v1 : Option Addr) (q1 p1 : Nat), e = .returned (.slice v1 q1 p1) ∧ Calls Ybad.prog 12 #[.slice a3 n3 c3, .int .i64 (n : Int)] wj fun e wk => ∃ (v2 : Option Addr) (q2 p2 : Nat), e = .returned (.slice v2 q2 p2) ∧ Calls Ybad.prog 13 #[.slice v1 q1 p1] wk fun e wl => ∃ (v3 : Option Addr) (p3 : Nat), e = .returned (.slice v3 q1 p3) ∧
      ∃ (wi : World) (nw nu mk bb1 bb2 : Nat) (nf : Bool) (g1 : Nat) (Q1 : List Nat) (g2 : Nat) (Q2 : List Nat) (g3 : Nat), St62 w wh wi wl H K2 K3 G n m nw nu fl SZ C SL cb mk bb1 bb2 nf v1 q1 p1 g1 Q1 v2 q2 p2 g2 Q2 v3 p3 g3 := by
  have hb := h.base hf hnew
  obtain ⟨_, _, _, b4, b5, b6⟩ := hb.b1
  refine (newCloser_any wh G n m C (mems n SZ) SL (by omega) b5 hb.gr.hfl hb.gr.hC).mono ?_
  rintro e wi ⟨cb, mk, bb1, bb2, nf, rfl, hnc, hnf⟩
  refine ⟨cb, rfl, ?_⟩
  have hwi := hb.fr.trans hnc.fr
  refine (seeds_any wi a2 n2 c2 b2 o2 S1 n i2.len i2.le i2.at_ (i2.rd.fr hwi) i2.bd b4).mono ?_
  rintro e wj ⟨v1, p1, rfl, ho1, hf1⟩
  have hl1 := seedsOf_len n S1
  refine ⟨v1, (seedsOf n S1).length, p1, rfl, ?_⟩
  refine (seeds_any wj a3 n3 c3 b3 o3 S2 n i3.len i3.le i3.at_ (i3.rd.fr (hwi.trans hf1)) i3.bd b4).mono ?_
  rintro e wk ⟨v2, p2, rfl, ho2, hf2⟩
  have hl2 := seedsOf_len n S2
  refine ⟨v2, (seedsOf n S2).length, p2, rfl, ?_⟩
  have k1 := i2.len
  have k2 := i2.le
  have k3 := i3.len
  have k4 := i3.le
  obtain ⟨g1, r1, l1⟩ := RdN.of ho1 (by omega)
  obtain ⟨g2, r2, l2⟩ := RdN.of ho2 (by omega)
  have r1k := r1.fr hf2 (by simp)
  refine (clone_any wk v1 (seedsOf n S1).length p1 g1 0 (casts (seedsOf n S1)) (by rw [casts_len]) (by omega) r1.at_ (fun h0 => (r1.nil h0).2) r1k.rz).mono ?_
  rintro e wl ⟨v3, p3, rfl, ho3, hf3⟩
  rw [zints_casts] at ho3
  obtain ⟨g3, r3, l3⟩ := RdN.of ho3 (by omega)
  have s1 := hf1.size
  have s2 := hf2.size
  exact ⟨v3, p3, rfl, wi, _, _, mk, bb1, bb2, nf, g1, _, g2, _, g3, hb, hnc, hnf, (hf1.trans hf2).trans hf3, r1k.fr hf3 (by simp), r2.fr hf3 (by simp), r3, fun h0 => (l1 h0).1, fun h0 => by have := (l2 h0).1; omega, fun h0 => by have := (l3 h0).1; omega, seedsOf_lt, seedsOf_lt⟩
end
end Go.Proofs.YbulkdxbkDoor
