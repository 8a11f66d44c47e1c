import Derived.Test.YbulkdxfsSt2
import Derived.ProofKit
import Derived.OpenShut
import Derived.ShutString
import Derived.ChangeOld
import Derived.Below
import Derived.Deep.Slices
import Derived.Lib.SmallJoins
namespace Go.Proofs.Ybulkdxfs
open Go.ChangeShapes Go.WideShapes Go.ChangeAt Go.RowKit Go.Joins Go.Deep
set_option linter.unusedVariables false

theorem cells38 : Yba.prog.cellsOf 38 = 4 := by kernel_rfl
theorem cells42 : Yba.prog.cellsOf 42 = 4 := by kernel_rfl
theorem one3 : Yba.prog.cellsOf 3 = 1 := by kernel_rfl
theorem one9 : Yba.prog.cellsOf 9 = 1 := by kernel_rfl
theorem one4 : Yba.prog.cellsOf 4 = 1 := by kernel_rfl

section
variable {H : Type} {enc : TypeId × Value → H} {W : World}
theorem open_row38 {a : Option Addr} {n c : Nat} {d : DataW H} {p : List MemPlace} (h : DataW.Trod enc Yba.prog W 0 (fun _ => true) true 22 (.slice a n c) d p) :
    ∃ (E : List Ent) (eb eo : Nat), E.length = n ∧ (0 < n → a = some ⟨eb, eo, none⟩) ∧ (0 < n → eb < W.heap.size) ∧ Row38 W eb eo E ∧ n ≤ maxLen := by
  obtain ⟨fuel, hf⟩ := h
  rcases open_slice Yba.underlying22 hf with ⟨hcs, _⟩ | ⟨x, len, cap, m, q, D, Pl, hcs, _, hl, hm, hmm, _, hx⟩
  · simp [Value.cells] at hcs
    obtain ⟨rfl, rfl, rfl⟩ := hcs
    exact ⟨[], 0, 0, rfl, fun h => absurd h (by omega), fun h => absurd h (by omega), fun k e h => by simp at h, Nat.zero_le _⟩
  · simp [Value.cells] at hcs
    obtain ⟨rfl, rfl, rfl⟩ := hcs
    simp only [if_true] at hmm
    subst hmm
    rw [cells38] at hx
    have each : ∀ i, i < n → ∃ e : Ent, W.cell? (x.add (i * 4)) = some (.int .i64 e.1.1) ∧ W.cell? (x.add (i * 4 + 1)) = some (.int .i64 e.1.2.1) ∧ W.cell? (x.add (i * 4 + 2)) = some (.string e.1.2.2) ∧ W.cell? (x.add (i * 4 + 3)) = some (.bool e.2) := by
      intro i hi
      obtain ⟨cs', h1, h2⟩ := hx i (by omega)
      obtain ⟨_, hlen, hcell⟩ := World.cells?_some h1
      obtain ⟨y0, y1, y2, y3, n', _, _, g0, g1, g2, g3⟩ := trod_struct4 Yba.underlying38 h2
      match cs', hlen with
      | [v0, v1, v2, v3], _ =>
        simp [one3, one9, one4] at g0 g1 g2 g3
        obtain ⟨z0, e0, _, _⟩ := DataW.trod_int Yba.underlying3 g0
        obtain ⟨z1, e1, _, _⟩ := DataW.trod_int Yba.underlying3 g1
        obtain ⟨z2, e2, _, _⟩ := DataW.trod_string Yba.underlying9 g2
        obtain ⟨z3, e3, _⟩ := DataW.trod_bool Yba.underlying4 g3
        simp at e0 e1 e2 e3
        subst e0 e1 e2 e3
        have c0 := hcell 0 (by omega)
        have c1 := hcell 1 (by omega)
        have c2 := hcell 2 (by omega)
        have c3 := hcell 3 (by omega)
        rw [add_add] at c0 c1 c2 c3
        exact ⟨((z0, z1, z2), z3), by simpa using c0, by simpa using c1, by simpa using c2, by simpa using c3⟩
    obtain ⟨f, hf'⟩ := choose_lt each
    by_cases hn : 0 < n
    · obtain ⟨eb, eo, sp⟩ := x
      have hsp : sp = none := by simpa [Addr.add] using World.cell?_spot (hf' 0 hn).1
      subst hsp
      refine ⟨(List.range n).map f, eb, eo, by simp, fun _ => rfl, fun _ => ?_, ?_, Nat.le_trans hl hm⟩
      · have := (hf' 0 hn).1
        rw [add_plain] at this
        simp only [World.cell?] at this
        by_cases hb : eb < W.heap.size
        · exact hb
        · rw [Array.getElem?_eq_none (by omega)] at this; simp at this
      · intro k e he
        have hk : k < n := by have := (List.getElem?_eq_some_iff.1 he).1; simpa using this
        have : f k = e := by simpa [hk] using he
        subst this
        have := hf' k hk
        simp only [add_plain] at this
        exact ⟨this.1, by rw [Nat.add_assoc]; exact this.2.1, by rw [Nat.add_assoc]; exact this.2.2.1, by rw [Nat.add_assoc]; exact this.2.2.2⟩
    · have : n = 0 := by omega
      subst this
      exact ⟨[], 0, 0, rfl, fun h => absurd h (by omega), fun h => absurd h (by omega), fun k e h => by simp at h, Nat.zero_le _⟩
theorem open_row42 {a : Option Addr} {n c : Nat} {d : DataW H} {p : List MemPlace} (h : DataW.Trod enc Yba.prog W 0 (fun _ => true) true 23 (.slice a n c) d p) :
    ∃ (E : List Hl) (eb eo : Nat), E.length = n ∧ (0 < n → a = some ⟨eb, eo, none⟩) ∧ (0 < n → eb < W.heap.size) ∧ Row42 W eb eo E ∧ n ≤ maxLen := by
  obtain ⟨fuel, hf⟩ := h
  rcases open_slice Yba.underlying23 hf with ⟨hcs, _⟩ | ⟨x, len, cap, m, q, D, Pl, hcs, _, hl, hm, hmm, _, hx⟩
  · simp [Value.cells] at hcs
    obtain ⟨rfl, rfl, rfl⟩ := hcs
    exact ⟨[], 0, 0, rfl, fun h => absurd h (by omega), fun h => absurd h (by omega), fun k e h => by simp at h, Nat.zero_le _⟩
  · simp [Value.cells] at hcs
    obtain ⟨rfl, rfl, rfl⟩ := hcs
    simp only [if_true] at hmm
    subst hmm
    rw [cells42] at hx
    have each : ∀ i, i < n → ∃ e : Hl, W.cell? (x.add (i * 4)) = some (.int .i64 e.1.1) ∧ W.cell? (x.add (i * 4 + 1)) = some (.int .i64 e.1.2.1) ∧ W.cell? (x.add (i * 4 + 2)) = some (.string e.1.2.2) ∧ W.cell? (x.add (i * 4 + 3)) = some (.string e.2) := by
      intro i hi
      obtain ⟨cs', h1, h2⟩ := hx i (by omega)
      obtain ⟨_, hlen, hcell⟩ := World.cells?_some h1
      obtain ⟨y0, y1, y2, y3, n', _, _, g0, g1, g2, g3⟩ := trod_struct4 Yba.underlying42 h2
      match cs', hlen with
      | [v0, v1, v2, v3], _ =>
        simp [one3, one9] at g0 g1 g2 g3
        obtain ⟨z0, e0, _, _⟩ := DataW.trod_int Yba.underlying3 g0
        obtain ⟨z1, e1, _, _⟩ := DataW.trod_int Yba.underlying3 g1
        obtain ⟨z2, e2, _, _⟩ := DataW.trod_string Yba.underlying9 g2
        obtain ⟨z3, e3, _, _⟩ := DataW.trod_string Yba.underlying9 g3
        simp at e0 e1 e2 e3
        subst e0 e1 e2 e3
        have c0 := hcell 0 (by omega)
        have c1 := hcell 1 (by omega)
        have c2 := hcell 2 (by omega)
        have c3 := hcell 3 (by omega)
        rw [add_add] at c0 c1 c2 c3
        exact ⟨((z0, z1, z2), z3), by simpa using c0, by simpa using c1, by simpa using c2, by simpa using c3⟩
    obtain ⟨f, hf'⟩ := choose_lt each
    by_cases hn : 0 < n
    · obtain ⟨eb, eo, sp⟩ := x
      have hsp : sp = none := by simpa [Addr.add] using World.cell?_spot (hf' 0 hn).1
      subst hsp
      refine ⟨(List.range n).map f, eb, eo, by simp, fun _ => rfl, fun _ => ?_, ?_, Nat.le_trans hl hm⟩
      · have := (hf' 0 hn).1
        rw [add_plain] at this
        simp only [World.cell?] at this
        by_cases hb : eb < W.heap.size
        · exact hb
        · rw [Array.getElem?_eq_none (by omega)] at this; simp at this
      · intro k e he
        have hk : k < n := by have := (List.getElem?_eq_some_iff.1 he).1; simpa using this
        have : f k = e := by simpa [hk] using he
        subst this
        have := hf' k hk
        simp only [add_plain] at this
        exact ⟨this.1, by rw [Nat.add_assoc]; exact this.2.1, by rw [Nat.add_assoc]; exact this.2.2.1, by rw [Nat.add_assoc]; exact this.2.2.2⟩
    · have : n = 0 := by omega
      subst this
      exact ⟨[], 0, 0, rfl, fun h => absurd h (by omega), fun h => absurd h (by omega), fun k e h => by simp at h, Nat.zero_le _⟩
end
end Go.Proofs.Ybulkdxfs
