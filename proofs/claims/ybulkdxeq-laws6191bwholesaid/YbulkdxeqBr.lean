import Derived.Test.YbulkdxeqBb
import Derived.ProofKit
import Derived.OpenShut
import Derived.ShutString
import Derived.ChangeOld
import Derived.Below
import Derived.Deep.Slices
import Derived.Lib.SmallJoins
namespace Go.Proofs.Ybulkdxeq.B
open Go.ChangeShapes Go.WideShapes Go.ChangeAt Go.RowKit Go.Joins Go.Deep
set_option linter.unusedVariables false

theorem own : ownKnob Yba.prog.godebug = none := by kernel_rfl
theorem laidOut : laidOutB Yba.prog = true := by kernel_rfl
theorem cells26 : Yba.prog.cellsOf 26 = 4 := by kernel_rfl
theorem one24 : Yba.prog.cellsOf 24 = 1 := by kernel_rfl
theorem one9 : Yba.prog.cellsOf 9 = 1 := by kernel_rfl
theorem one22 : Yba.prog.cellsOf 22 = 1 := by kernel_rfl

instance : Inhabited SE := ⟨⟨0, ⟨#[]⟩, ⟨#[]⟩, 0⟩⟩
section
variable {H : Type} {enc : TypeId × Value → H} {W : World}
theorem open_row {a : Option Addr} {n c : Nat} {d : DataW H} {p : List MemPlace} (h : DataW.Trod enc Yba.prog W 0 (fun _ => true) true 23 (.slice a n c) d p) :
    ∃ (E : List SE) (eb eo : Nat), E.length = n ∧ (0 < n → a = some ⟨eb, eo, none⟩) ∧ (0 < n → eb < W.heap.size) ∧ RowIn W eb eo E ∧ n ≤ maxLen := by
  obtain ⟨fuel, hf⟩ := h
  rcases open_slice Yba.underlying23 hf with ⟨hcs, _⟩ | ⟨x, len, cap, m, q, D, Pl, hcs, _, hl, hm, hmm, _, hx⟩
  · simp [Value.cells] at hcs
    obtain ⟨rfl, rfl, rfl⟩ := hcs
    exact ⟨[], 0, 0, rfl, fun h => absurd h (by omega), fun h => absurd h (by omega), fun k e h => by simp at h, Nat.zero_le _⟩
  · simp [Value.cells] at hcs
    obtain ⟨rfl, rfl, rfl⟩ := hcs
    simp only [if_true] at hmm
    subst hmm
    rw [cells26] at hx
    have each : ∀ i, i < n → ∃ e : SE, W.cell? (x.add (i * 4)) = some (.int .u32 e.f) ∧ W.cell? (x.add (i * 4 + 1)) = some (.string e.k) ∧ W.cell? (x.add (i * 4 + 2)) = some (.string e.v) ∧ W.cell? (x.add (i * 4 + 3)) = some (.int .u64 e.c) := by
      intro i hi
      obtain ⟨cs', h1, h2⟩ := hx i (by omega)
      obtain ⟨_, hlen, hcell⟩ := World.cells?_some h1
      obtain ⟨y0, y1, y2, y3, n', _, _, g0, g1, g2, g3⟩ := trod_struct4 Yba.underlying26 h2
      match cs', hlen with
      | [v0, v1, v2, v3], _ =>
        simp [one24, one9, one22] at g0 g1 g2 g3
        obtain ⟨z0, e0, _, _⟩ := DataW.trod_int Yba.underlying24 g0
        obtain ⟨z1, e1, _, _⟩ := DataW.trod_string Yba.underlying9 g1
        obtain ⟨z2, e2, _, _⟩ := DataW.trod_string Yba.underlying9 g2
        obtain ⟨z3, e3, _, _⟩ := DataW.trod_int Yba.underlying22 g3
        simp at e0 e1 e2 e3
        subst e0 e1 e2 e3
        have c0 := hcell 0 (by omega)
        have c1 := hcell 1 (by omega)
        have c2 := hcell 2 (by omega)
        have c3 := hcell 3 (by omega)
        rw [add_add] at c0 c1 c2 c3
        exact ⟨⟨z0, z1, z2, z3⟩, by simpa using c0, by simpa using c1, by simpa using c2, by simpa using c3⟩
    obtain ⟨f, hf'⟩ := choose_lt each
    by_cases hn : 0 < n
    · obtain ⟨eb, eo, sp⟩ := x
      have hsp : sp = none := by simpa [Addr.add] using World.cell?_spot (hf' 0 hn).1
      subst hsp
      refine ⟨(List.range n).map f, eb, eo, by simp, fun _ => rfl, fun _ => ?_, ?_, Nat.le_trans hl hm⟩
      · have := (hf' 0 hn).1
        rw [add_plain] at this
        simp only [World.cell?] at this
        by_cases hb : eb < W.heap.size
        · exact hb
        · rw [Array.getElem?_eq_none (by omega)] at this; simp at this
      · intro k e he
        have hk : k < n := by have := (List.getElem?_eq_some_iff.1 he).1; simpa using this
        have : f k = e := by simpa [hk] using he
        subst this
        have := hf' k hk
        simp only [add_plain] at this
        exact ⟨this.1, by rw [Nat.add_assoc]; exact this.2.1, by rw [Nat.add_assoc]; exact this.2.2.1, by rw [Nat.add_assoc]; exact this.2.2.2⟩
    · have : n = 0 := by omega
      subst this
      exact ⟨[], 0, 0, rfl, fun h => absurd h (by omega), fun h => absurd h (by omega), fun k e h => by simp at h, Nat.zero_le _⟩
end

set_option maxRecDepth 100000 in
theorem law_long (br ub : Bool) (id flags : Int) (a1 : Option Addr) (n1 cp1 : Nat) (key value : ByteArray) (w : World) (h : 4096 < n1) (hm : n1 ≤ maxLen) :
    Calls Yba.prog 3 #[.bool br, .int .u64 id, .bool ub, .slice a1 n1 cp1, .int .u32 flags, .string key, .string value] w fun e w' => e = .returned (.bool true) ∧ Below w.heap.size w w' := by
  unfold maxLen at hm
  have h1' : decide ((4096 : Int) < (n1 : Int)) = true := by simp; omega
  have h1'' : (4096 : Int) < (n1 : Int) := by omega
  go_enter Yba.func3, Yba.ntmps3
  go_wp2_with fail
  go_ret
  exact ⟨rfl, Below.refl _ _⟩
end Go.Proofs.Ybulkdxeq.B
