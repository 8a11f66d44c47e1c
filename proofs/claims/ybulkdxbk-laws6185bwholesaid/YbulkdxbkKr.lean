import Derived.Test.YbulkdxbkKh
import Derived.Test.YbulkdxbkK6
import Derived.ProofKit
import Derived.OpenShut
import Derived.ShutString
import Derived.ChangeOld
import Derived.Below
import Derived.Deep.Slices
import Derived.Deep.Strs
import Derived.Lib.SmallJoins
namespace Go.Proofs.Ybulkdxbk
open Go.ChangeShapes Go.WideShapes Go.ChangeAt Go.RowKit Go.Joins Go.Deep
set_option linter.unusedVariables false

theorem own : ownKnob Yba.prog.godebug = none := by kernel_rfl
theorem laidOut : laidOutB Yba.prog = true := by kernel_rfl
theorem cells53 : Yba.prog.cellsOf 53 = 3 := by kernel_rfl
theorem cells58 : Yba.prog.cellsOf 58 = 2 := by kernel_rfl
theorem one22 : Yba.prog.cellsOf 22 = 1 := by kernel_rfl
theorem one3 : Yba.prog.cellsOf 3 = 1 := by kernel_rfl
theorem u16_nat {z : Int} (h : (Lit.int .u16 z).wf = true) : ∃ m : Nat, z = (m : Int) ∧ m ≤ 65535 := by
  simp [Lit.wf, IntKind.min, IntKind.max, IntKind.signed, IntKind.bits] at h
  exact ⟨z.toNat, by omega, by omega⟩
section
variable {H : Type} {enc : TypeId × Value → H} {W : World}
theorem lt_of_cell {x : Addr} {v : Value} (h : W.cell? x = some v) : x.block < W.heap.size := by
  simp only [World.cell?] at h
  by_cases hb : x.block < W.heap.size
  · exact hb
  · rw [Array.getElem?_eq_none (by omega)] at h; simp at h
theorem open_in3 {a : Option Addr} {n c : Nat} {d : DataW H} {p : List MemPlace} (h : DataW.Trod enc Yba.prog W 0 (fun _ => true) true 23 (.slice a n c) d p) :
    ∃ (E : List (Nat × Nat × Nat)) (b o : Nat), E.length = n ∧ (0 < n → a = some ⟨b, o, none⟩) ∧ In3 W b o E ∧ (∀ e ∈ E, e.1 ≤ 65535 ∧ e.2.1 ≤ 65535 ∧ e.2.2 ≤ 65535) ∧ n ≤ maxLen := by
  obtain ⟨fuel, hf⟩ := h
  rcases open_slice Yba.underlying23 hf with ⟨hcs, _⟩ | ⟨x, len, cap, m, q, D, Pl, hcs, _, hl, hm, hmm, _, hx⟩
  · simp [Value.cells] at hcs
    obtain ⟨rfl, rfl, rfl⟩ := hcs
    exact ⟨[], 0, 0, rfl, fun h => absurd h (by omega), fun k e h => by simp at h, fun e h => by simp at h, Nat.zero_le _⟩
  · simp [Value.cells] at hcs
    obtain ⟨rfl, rfl, rfl⟩ := hcs
    simp only [if_true] at hmm
    subst hmm
    rw [cells53] at hx
    have each : ∀ i, i < n → ∃ e : Nat × Nat × Nat, (W.cell? (x.add (i * 3)) = some (.int .u16 (e.1 : Int)) ∧ W.cell? (x.add (i * 3 + 1)) = some (.int .u16 (e.2.1 : Int)) ∧ W.cell? (x.add (i * 3 + 2)) = some (.int .u16 (e.2.2 : Int))) ∧ e.1 ≤ 65535 ∧ e.2.1 ≤ 65535 ∧ e.2.2 ≤ 65535 := by
      intro i hi
      obtain ⟨cs', h1, h2⟩ := hx i (by omega)
      obtain ⟨_, hlen, hcell⟩ := World.cells?_some h1
      obtain ⟨y0, y1, y2, n', _, _, g0, g1, g2⟩ := trod_struct3 Yba.underlying53 h2
      match cs', hlen with
      | [v0, v1, v2], _ =>
        simp [one22] at g0 g1 g2
        obtain ⟨z0, e0, _, w0⟩ := DataW.trod_int Yba.underlying22 g0
        obtain ⟨z1, e1, _, w1⟩ := DataW.trod_int Yba.underlying22 g1
        obtain ⟨z2, e2, _, w2⟩ := DataW.trod_int Yba.underlying22 g2
        simp at e0 e1 e2
        subst e0 e1 e2
        obtain ⟨m0, rfl, l0⟩ := u16_nat w0
        obtain ⟨m1, rfl, l1⟩ := u16_nat w1
        obtain ⟨m2, rfl, l2⟩ := u16_nat w2
        have c0 := hcell 0 (by omega)
        have c1 := hcell 1 (by omega)
        have c2 := hcell 2 (by omega)
        rw [add_add] at c0 c1 c2
        exact ⟨(m0, m1, m2), ⟨by simpa using c0, by simpa using c1, by simpa using c2⟩, l0, l1, l2⟩
    obtain ⟨f, hf'⟩ := choose_lt each
    by_cases hn : 0 < n
    · obtain ⟨eb, eo, sp⟩ := x
      have hsp : sp = none := by simpa [Addr.add] using World.cell?_spot (hf' 0 hn).1.1
      subst hsp
      refine ⟨(List.range n).map f, eb, eo, by simp, fun _ => rfl, fun k e he => ?_, fun e he => ?_, Nat.le_trans hl hm⟩
      · have hk : k < n := by have := (List.getElem?_eq_some_iff.1 he).1; simpa using this
        have : f k = e := by simpa [hk] using he
        subst this
        have := (hf' k hk).1
        simp only [add_plain] at this
        exact ⟨this.1, by rw [Nat.add_assoc]; exact this.2.1, by rw [Nat.add_assoc]; exact this.2.2⟩
      · simp at he
        obtain ⟨k, hk, rfl⟩ := he
        exact (hf' k hk).2
    · have : n = 0 := by omega
      subst this
      exact ⟨[], 0, 0, rfl, fun h => absurd h (by omega), fun k e h => by simp at h, fun e h => by simp at h, Nat.zero_le _⟩
theorem open_in2 {a : Option Addr} {n c : Nat} {d : DataW H} {p : List MemPlace} (h : DataW.Trod enc Yba.prog W 0 (fun _ => true) true 24 (.slice a n c) d p) :
    ∃ (E : List (Nat × Nat)) (b o : Nat), E.length = n ∧ (0 < n → a = some ⟨b, o, none⟩) ∧ In2 W b o E ∧ (∀ e ∈ E, e.1 ≤ 65535 ∧ e.2 ≤ 65535) ∧ n ≤ maxLen := by
  obtain ⟨fuel, hf⟩ := h
  rcases open_slice Yba.underlying24 hf with ⟨hcs, _⟩ | ⟨x, len, cap, m, q, D, Pl, hcs, _, hl, hm, hmm, _, hx⟩
  · simp [Value.cells] at hcs
    obtain ⟨rfl, rfl, rfl⟩ := hcs
    exact ⟨[], 0, 0, rfl, fun h => absurd h (by omega), fun k e h => by simp at h, fun e h => by simp at h, Nat.zero_le _⟩
  · simp [Value.cells] at hcs
    obtain ⟨rfl, rfl, rfl⟩ := hcs
    simp only [if_true] at hmm
    subst hmm
    rw [cells58] at hx
    have each : ∀ i, i < n → ∃ e : Nat × Nat, (W.cell? (x.add (i * 2)) = some (.int .u16 (e.1 : Int)) ∧ W.cell? (x.add (i * 2 + 1)) = some (.int .u16 (e.2 : Int))) ∧ e.1 ≤ 65535 ∧ e.2 ≤ 65535 := by
      intro i hi
      obtain ⟨cs', h1, h2⟩ := hx i (by omega)
      obtain ⟨_, hlen, hcell⟩ := World.cells?_some h1
      obtain ⟨y0, y1, n', _, _, g0, g1⟩ := trod_struct2 Yba.underlying58 h2
      match cs', hlen with
      | [v0, v1], _ =>
        simp [one22] at g0 g1
        obtain ⟨z0, e0, _, w0⟩ := DataW.trod_int Yba.underlying22 g0
        obtain ⟨z1, e1, _, w1⟩ := DataW.trod_int Yba.underlying22 g1
        simp at e0 e1
        subst e0 e1
        obtain ⟨m0, rfl, l0⟩ := u16_nat w0
        obtain ⟨m1, rfl, l1⟩ := u16_nat w1
        have c0 := hcell 0 (by omega)
        have c1 := hcell 1 (by omega)
        rw [add_add] at c0 c1
        exact ⟨(m0, m1), ⟨by simpa using c0, by simpa using c1⟩, l0, l1⟩
    obtain ⟨f, hf'⟩ := choose_lt each
    by_cases hn : 0 < n
    · obtain ⟨eb, eo, sp⟩ := x
      have hsp : sp = none := by simpa [Addr.add] using World.cell?_spot (hf' 0 hn).1.1
      subst hsp
      refine ⟨(List.range n).map f, eb, eo, by simp, fun _ => rfl, fun k e he => ?_, fun e he => ?_, Nat.le_trans hl hm⟩
      · have hk : k < n := by have := (List.getElem?_eq_some_iff.1 he).1; simpa using this
        have : f k = e := by simpa [hk] using he
        subst this
        have := (hf' k hk).1
        simp only [add_plain] at this
        exact ⟨this.1, by rw [Nat.add_assoc]; exact this.2⟩
      · simp at he
        obtain ⟨k, hk, rfl⟩ := he
        exact (hf' k hk).2
    · have : n = 0 := by omega
      subst this
      exact ⟨[], 0, 0, rfl, fun h => absurd h (by omega), fun k e h => by simp at h, fun e h => by simp at h, Nat.zero_le _⟩
theorem open_inU {a : Option Addr} {n c : Nat} {d : DataW H} {p : List MemPlace} (h : DataW.Trod enc Yba.prog W 0 (fun _ => true) true 25 (.slice a n c) d p) :
    ∃ (E : List Nat) (b o : Nat), E.length = n ∧ (0 < n → a = some ⟨b, o, none⟩) ∧ (∀ (i x : Nat), E[i]? = some x → W.cell? ⟨b, o + i, none⟩ = some (.int .u16 (x : Int))) ∧ (∀ e ∈ E, e ≤ 65535) ∧ n ≤ maxLen := by
  obtain ⟨fuel, hf⟩ := h
  rcases open_ints Yba.underlying25 Yba.underlying22 one22 hf with ⟨hcs, _⟩ | ⟨x, len, cap, zs, hcs, _, hl, hm, hmm, _, hx, hw⟩
  · simp [Value.cells] at hcs
    obtain ⟨rfl, rfl, rfl⟩ := hcs
    exact ⟨[], 0, 0, rfl, fun h => absurd h (by omega), fun k e h => by simp at h, fun e h => by simp at h, Nat.zero_le _⟩
  · simp [Value.cells] at hcs
    obtain ⟨rfl, rfl, rfl⟩ := hcs
    simp only [if_true] at hmm
    have each : ∀ i, i < n → ∃ e : Nat, W.cell? (x.add i) = some (.int .u16 (e : Int)) ∧ e ≤ 65535 := by
      intro i hi
      have h1 := hx i (by omega)
      obtain ⟨m0, e0, l0⟩ := u16_nat (hw (zs.getD i 0) (by rw [List.getD_eq_getElem?_getD, List.getElem?_eq_getElem (by omega)]; simp))
      rw [e0] at h1
      exact ⟨m0, h1, l0⟩
    obtain ⟨f, hf'⟩ := choose_lt each
    by_cases hn : 0 < n
    · obtain ⟨eb, eo, sp⟩ := x
      have hsp : sp = none := by simpa [Addr.add] using World.cell?_spot (hf' 0 hn).1
      subst hsp
      refine ⟨(List.range n).map f, eb, eo, by simp, fun _ => rfl, fun k e he => ?_, fun e he => ?_, Nat.le_trans hl hm⟩
      · have hk : k < n := by have := (List.getElem?_eq_some_iff.1 he).1; simpa using this
        have : f k = e := by simpa [hk] using he
        subst this
        have := (hf' k hk).1
        rwa [add_plain] at this
      · simp at he
        obtain ⟨k, hk, rfl⟩ := he
        exact (hf' k hk).2
    · have : n = 0 := by omega
      subst this
      exact ⟨[], 0, 0, rfl, fun h => absurd h (by omega), fun k e h => by simp at h, fun e h => by simp at h, Nat.zero_le _⟩
theorem open_inZ {a : Option Addr} {n c : Nat} {d : DataW H} {p : List MemPlace} (h : DataW.Trod enc Yba.prog W 0 (fun _ => true) true 26 (.slice a n c) d p) :
    ∃ (D : List Int) (b o : Nat), D.length = n ∧ (0 < n → a = some ⟨b, o, none⟩) ∧ (a = none → c = 0) ∧ ZAt W b o D ∧ n ≤ maxLen := by
  obtain ⟨fuel, hf⟩ := h
  rcases open_ints Yba.underlying26 Yba.underlying3 one3 hf with ⟨hcs, _⟩ | ⟨x, len, cap, zs, hcs, _, hl, hm, hmm, _, hx, hw⟩
  · simp [Value.cells] at hcs
    obtain ⟨rfl, rfl, rfl⟩ := hcs
    exact ⟨[], 0, 0, rfl, fun h => absurd h (by omega), fun _ => rfl, fun k e h => by simp at h, Nat.zero_le _⟩
  · simp [Value.cells] at hcs
    obtain ⟨rfl, rfl, rfl⟩ := hcs
    simp only [if_true] at hmm
    by_cases hn : 0 < n
    · obtain ⟨eb, eo, sp⟩ := x
      have hsp : sp = none := by simpa [Addr.add] using World.cell?_spot (hx 0 (by omega))
      subst hsp
      refine ⟨zs.take n, eb, eo, by simp; omega, fun _ => rfl, (fun h => by cases h), fun k e he => ?_, Nat.le_trans hl hm⟩
      have hk : k < n := by have := (List.getElem?_eq_some_iff.1 he).1; simp at this; omega
      have h1 := hx k (by omega)
      rw [add_plain] at h1
      rw [List.getElem?_take_of_lt hk] at he
      rw [List.getD_eq_getElem?_getD, he] at h1
      exact h1
    · have : n = 0 := by omega
      subst this
      exact ⟨[], 0, 0, rfl, fun h => absurd h (by omega), (fun h => by cases h), fun k e h => by simp at h, Nat.zero_le _⟩
end
set_option maxRecDepth 100000 in
set_option maxHeartbeats 4000000 in
theorem law_long (w : World) (v0 v1 v2 v6 v7 : Int) (a1 : Option Addr) (n1 c1 : Nat) (a2 : Option Addr) (n2 c2 : Nat) (a3 : Option Addr) (n3 c3 : Nat) (a4 : Option Addr) (n4 c4 : Nat) (h : 65536 < n1 ∨ 65536 < n2 ∨ 65536 < n3 ∨ 65536 < n4) (m1 : n1 ≤ maxLen) (m2 : n2 ≤ maxLen) (m3 : n3 ≤ maxLen) (m4 : n4 ≤ maxLen) :
    Calls Yba.prog 3 #[.int .u8 v0, .int .u8 v1, .int .u16 v2, .slice a1 n1 c1, .slice a2 n2 c2, .slice a3 n3 c3, .int .u8 v6, .int .u8 v7, .slice a4 n4 c4] w fun e w' => e = .returned (.bool true) ∧ Below w.heap.size w w' := by
  unfold maxLen at m1 m2 m3 m4
  by_cases h1 : 65536 < n1
  · have g1 : decide ((65536 : Int) < (n1 : Int)) = true := by simp; omega
    have g1' : (65536 : Int) < (n1 : Int) := by omega
    go_enter Yba.func3, Yba.ntmps3
    go_wp2_with fail
    go_ret
    exact ⟨rfl, Below.refl _ _⟩
  · have g1 : decide ((65536 : Int) < (n1 : Int)) = false := by simp; omega
    by_cases h2 : 65536 < n2
    · have g2 : decide ((65536 : Int) < (n2 : Int)) = true := by simp; omega
      have g2' : (65536 : Int) < (n2 : Int) := by omega
      go_enter Yba.func3, Yba.ntmps3
      go_wp2_with fail
      go_ret
      exact ⟨rfl, Below.refl _ _⟩
    · have g2 : decide ((65536 : Int) < (n2 : Int)) = false := by simp; omega
      by_cases h3 : 65536 < n3
      · have g3 : decide ((65536 : Int) < (n3 : Int)) = true := by simp; omega
        have g3' : (65536 : Int) < (n3 : Int) := by omega
        go_enter Yba.func3, Yba.ntmps3
        go_wp2_with fail
        go_ret
        exact ⟨rfl, Below.refl _ _⟩
      · have g3 : decide ((65536 : Int) < (n3 : Int)) = false := by simp; omega
        have g4 : decide ((65536 : Int) < (n4 : Int)) = true := by simp; omega
        have g4' : (65536 : Int) < (n4 : Int) := by omega
        go_enter Yba.func3, Yba.ntmps3
        go_wp2_with fail
        go_ret
        exact ⟨rfl, Below.refl _ _⟩
end Go.Proofs.Ybulkdxbk
