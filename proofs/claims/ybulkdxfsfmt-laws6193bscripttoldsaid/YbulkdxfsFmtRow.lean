import Derived.Test.YbulkdxfsFmtLaw
import Derived.ProofKit
import Derived.OpenShut
import Derived.ShutString
import Derived.ChangeOld
import Derived.Below
import Derived.Deep.Slices
import Derived.Lib.SmallJoins
namespace Go.Proofs.YbulkdxfsFmt
open Go.ChangeShapes Go.WideShapes Go.ChangeAt Go.RowKit Go.Joins Go.Deep
set_option linter.unusedVariables false

theorem cells38 : Ybaf.prog.cellsOf 38 = 5 := by kernel_rfl
theorem one5 : Ybaf.prog.cellsOf 5 = 1 := by kernel_rfl
theorem u8_wf {x : Int} (h : (Lit.int .u8 x).wf = true) : u8ok x := by
  simp [Lit.wf, IntKind.min, IntKind.max, IntKind.signed, IntKind.bits] at h
  unfold u8ok; omega

section
variable {H : Type} {enc : TypeId × Value → H} {W : World}
theorem five {fuel : Nat} {v0 v1 v2 v3 v4 : Value} {x : DataW H × List MemPlace} {held : Bool} {spare : Nat → Bool} (h : DataW.trod enc Ybaf.prog W 0 spare held fuel 38 [v0, v1, v2, v3, v4] = some x) :
    ∃ e : Op5, v0 = .int .u8 e.o ∧ v1 = .int .u8 e.c ∧ v2 = .int .u8 e.i ∧ v3 = .int .u8 e.a ∧ v4 = .int .u8 e.d ∧ u8ok e.o ∧ u8ok e.c ∧ u8ok e.i ∧ u8ok e.a ∧ u8ok e.d := by
  obtain ⟨xs, n, _, rfl, hl, hlen, hf⟩ := DataW.trod_struct Ybaf.underlying38 h
  match xs, hlen with
  | [y0, y1, y2, y3, y4], _ =>
    have g0 := hf 0 _ rfl
    have g1 := hf 1 _ rfl
    have g2 := hf 2 _ rfl
    have g3 := hf 3 _ rfl
    have g4 := hf 4 _ rfl
    simp [one5] at g0 g1 g2 g3 g4
    obtain ⟨z0, e0, _, k0⟩ := DataW.trod_int Ybaf.underlying5 g0
    obtain ⟨z1, e1, _, k1⟩ := DataW.trod_int Ybaf.underlying5 g1
    obtain ⟨z2, e2, _, k2⟩ := DataW.trod_int Ybaf.underlying5 g2
    obtain ⟨z3, e3, _, k3⟩ := DataW.trod_int Ybaf.underlying5 g3
    obtain ⟨z4, e4, _, k4⟩ := DataW.trod_int Ybaf.underlying5 g4
    simp at e0 e1 e2 e3 e4
    subst e0 e1 e2 e3 e4
    exact ⟨⟨z0, z1, z2, z3, z4⟩, rfl, rfl, rfl, rfl, rfl, u8_wf k0, u8_wf k1, u8_wf k2, u8_wf k3, u8_wf k4⟩

theorem open_ops {a : Option Addr} {n c : Nat} {d : DataW H} {p : List MemPlace} (h : DataW.Trod enc Ybaf.prog W 0 (fun _ => true) true 22 (.slice a n c) d p) :
    ∃ (E : List Op5) (eb eo : Nat), E.length = n ∧ (0 < n → a = some ⟨eb, eo, none⟩) ∧ (0 < n → eb < W.heap.size) ∧ RowOp W eb eo E ∧ n ≤ maxLen := by
  obtain ⟨fuel, hf⟩ := h
  rcases open_slice Ybaf.underlying22 hf with ⟨hcs, _⟩ | ⟨x, len, cap, m, q, D, Pl, hcs, _, hl, hm, hmm, _, hx⟩
  · simp [Value.cells] at hcs
    obtain ⟨rfl, rfl, rfl⟩ := hcs
    exact ⟨[], 0, 0, rfl, fun h => absurd h (by omega), fun h => absurd h (by omega), fun k e h => by simp at h, Nat.zero_le _⟩
  · simp [Value.cells] at hcs
    obtain ⟨rfl, rfl, rfl⟩ := hcs
    simp only [if_true] at hmm
    subst hmm
    rw [cells38] at hx
    have each : ∀ i, i < n → ∃ e : Op5, (W.cell? (x.add (i * 5)) = some (.int .u8 e.o) ∧ W.cell? (x.add (i * 5 + 1)) = some (.int .u8 e.c) ∧ W.cell? (x.add (i * 5 + 2)) = some (.int .u8 e.i) ∧ W.cell? (x.add (i * 5 + 3)) = some (.int .u8 e.a) ∧ W.cell? (x.add (i * 5 + 4)) = some (.int .u8 e.d)) ∧
        u8ok e.o ∧ u8ok e.c ∧ u8ok e.i ∧ u8ok e.a ∧ u8ok e.d := by
      intro i hi
      obtain ⟨cs', h1, h2⟩ := hx i (by omega)
      obtain ⟨_, hlen, hcell⟩ := World.cells?_some h1
      match cs', hlen with
      | [v0, v1, v2, v3, v4], _ =>
        obtain ⟨e, rfl, rfl, rfl, rfl, rfl, k⟩ := five h2
        have c0 := hcell 0 (by omega)
        have c1 := hcell 1 (by omega)
        have c2 := hcell 2 (by omega)
        have c3 := hcell 3 (by omega)
        have c4 := hcell 4 (by omega)
        rw [add_add] at c0 c1 c2 c3 c4
        exact ⟨e, ⟨by simpa using c0, by simpa using c1, by simpa using c2, by simpa using c3, by simpa using c4⟩, k⟩
    obtain ⟨f, hf'⟩ : ∃ f : Nat → Op5, ∀ i, i < n → (W.cell? (x.add (i * 5)) = some (.int .u8 (f i).o) ∧ W.cell? (x.add (i * 5 + 1)) = some (.int .u8 (f i).c) ∧ W.cell? (x.add (i * 5 + 2)) = some (.int .u8 (f i).i) ∧ W.cell? (x.add (i * 5 + 3)) = some (.int .u8 (f i).a) ∧ W.cell? (x.add (i * 5 + 4)) = some (.int .u8 (f i).d)) ∧
        u8ok (f i).o ∧ u8ok (f i).c ∧ u8ok (f i).i ∧ u8ok (f i).a ∧ u8ok (f i).d :=
      ⟨fun i => if h : i < n then (each i h).choose else ⟨0, 0, 0, 0, 0⟩, fun i hi => by simp only [dif_pos hi]; exact (each i hi).choose_spec⟩
    by_cases hn : 0 < n
    · obtain ⟨eb, eo, sp⟩ := x
      have hsp : sp = none := by simpa [Addr.add] using World.cell?_spot (hf' 0 hn).1.1
      subst hsp
      refine ⟨(List.range n).map f, eb, eo, by simp, fun _ => rfl, fun _ => ?_, ?_, Nat.le_trans hl hm⟩
      · have := (hf' 0 hn).1.1
        rw [add_plain] at this
        simp only [World.cell?] at this
        by_cases hb : eb < W.heap.size
        · exact hb
        · rw [Array.getElem?_eq_none (by omega)] at this; simp at this
      · intro k e he
        have hk : k < n := by have := (List.getElem?_eq_some_iff.1 he).1; simpa using this
        have : f k = e := by simpa [hk] using he
        subst this
        have := hf' k hk
        simp only [add_plain] at this
        exact ⟨⟨this.1.1, by rw [Nat.add_assoc]; exact this.1.2.1, by rw [Nat.add_assoc]; exact this.1.2.2.1, by rw [Nat.add_assoc]; exact this.1.2.2.2.1, by rw [Nat.add_assoc]; exact this.1.2.2.2.2⟩, this.2⟩
    · have : n = 0 := by omega
      subst this
      exact ⟨[], 0, 0, rfl, fun h => absurd h (by omega), fun h => absurd h (by omega), fun k e h => by simp at h, Nat.zero_le _⟩
end
end Go.Proofs.YbulkdxfsFmt
