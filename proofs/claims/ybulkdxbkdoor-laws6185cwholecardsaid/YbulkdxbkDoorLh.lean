import Derived.Test.YbulkdxbkDoorLg
import Derived.ProofKit
import Derived.OpenShut
import Derived.ShutString
import Derived.ChangeOld
import Derived.Below
import Derived.Deep.Slices
import Derived.Deep.Strs
import Derived.Lib.SmallJoins
import Derived.Lib.LaidTab
import Derived.LaidLaws
namespace Go.Proofs.YbulkdxbkDoor
open Go.ChangeShapes Go.WideShapes Go.ChangeAt Go.RowKit Go.Joins Go.Deep
set_option linter.unusedVariables false

theorem own : ownKnob Ybad.prog.godebug = none := by kernel_rfl
theorem laidOut : laidOutB Ybad.prog = true := by kernel_rfl
theorem cells46 : Ybad.prog.cellsOf 46 = 2 := by kernel_rfl
theorem one22 : Ybad.prog.cellsOf 22 = 1 := by kernel_rfl
theorem one5 : Ybad.prog.cellsOf 5 = 1 := by kernel_rfl
theorem one3 : Ybad.prog.cellsOf 3 = 1 := by kernel_rfl
theorem u16_nat {z : Int} (h : (Lit.int .u16 z).wf = true) : ∃ m : Nat, z = (m : Int) ∧ m ≤ 65535 := by
  simp [Lit.wf, IntKind.min, IntKind.max, IntKind.signed, IntKind.bits] at h
  exact ⟨z.toNat, by omega, by omega⟩
theorem u8_nat {z : Int} (h : (Lit.int .u8 z).wf = true) : ∃ m : Nat, z = (m : Int) ∧ m ≤ 255 := by
  simp [Lit.wf, IntKind.min, IntKind.max, IntKind.signed, IntKind.bits] at h
  exact ⟨z.toNat, by omega, by omega⟩
section
variable {H : Type} {enc : TypeId × Value → H} {W : World}
theorem open_in8 {a : Option Addr} {n c : Nat} {d : DataW H} {p : List MemPlace} (h : DataW.Trod enc Ybad.prog W 0 (fun _ => true) true 41 (.slice a n c) d p) :
    ∃ (E : List Nat) (b o : Nat), E.length = n ∧ (0 < n → a = some ⟨b, o, none⟩) ∧ (∀ (i x : Nat), E[i]? = some x → W.cell? ⟨b, o + i, none⟩ = some (.int .u8 (x : Int))) ∧ (∀ e ∈ E, e ≤ 255) ∧ n ≤ maxLen := by
  obtain ⟨fuel, hf⟩ := h
  rcases open_ints Ybad.underlying41 Ybad.underlying5 one5 hf with ⟨hcs, _⟩ | ⟨x, len, cap, zs, hcs, _, hl, hm, hmm, _, hx, hw⟩
  · simp [Value.cells] at hcs
    obtain ⟨rfl, rfl, rfl⟩ := hcs
    exact ⟨[], 0, 0, rfl, fun h => absurd h (by omega), fun k e h => by simp at h, fun e h => by simp at h, Nat.zero_le _⟩
  · simp [Value.cells] at hcs
    obtain ⟨rfl, rfl, rfl⟩ := hcs
    simp only [if_true] at hmm
    have each : ∀ i, i < n → ∃ e : Nat, W.cell? (x.add i) = some (.int .u8 (e : Int)) ∧ e ≤ 255 := by
      intro i hi
      have h1 := hx i (by omega)
      obtain ⟨m0, e0, l0⟩ := u8_nat (hw (zs.getD i 0) (by rw [List.getD_eq_getElem?_getD, List.getElem?_eq_getElem (by omega)]; simp))
      rw [e0] at h1
      exact ⟨m0, h1, l0⟩
    obtain ⟨f, hf'⟩ := choose_lt each
    by_cases hn : 0 < n
    · obtain ⟨eb, eo, sp⟩ := x
      have hsp : sp = none := by simpa [Addr.add] using World.cell?_spot (hf' 0 hn).1
      subst hsp
      refine ⟨(List.range n).map f, eb, eo, by simp, fun _ => rfl, fun k e he => ?_, fun e he => ?_, Nat.le_trans hl hm⟩
      · have hk : k < n := by have := (List.getElem?_eq_some_iff.1 he).1; simpa using this
        have : f k = e := by simpa [hk] using he
        subst this
        have := (hf' k hk).1
        rwa [add_plain] at this
      · simp at he
        obtain ⟨k, hk, rfl⟩ := he
        exact (hf' k hk).2
    · have : n = 0 := by omega
      subst this
      exact ⟨[], 0, 0, rfl, fun h => absurd h (by omega), fun k e h => by simp at h, fun e h => by simp at h, Nat.zero_le _⟩
set_option maxRecDepth 100000 in
theorem open_in2 {a : Option Addr} {n c : Nat} {d : DataW H} {p : List MemPlace} (h : DataW.Trod enc Ybad.prog W 0 (fun _ => true) true 42 (.slice a n c) d p) :
    ∃ (E : List (Nat × Nat)) (b o : Nat), E.length = n ∧ (0 < n → a = some ⟨b, o, none⟩) ∧ In2 W b o E ∧ (∀ e ∈ E, e.1 ≤ 65535 ∧ e.2 ≤ 65535) ∧ n ≤ maxLen := by
  obtain ⟨fuel, hf⟩ := h
  rcases open_slice Ybad.underlying42 hf with ⟨hcs, _⟩ | ⟨x, len, cap, m, q, D, Pl, hcs, _, hl, hm, hmm, _, hx⟩
  · simp [Value.cells] at hcs
    obtain ⟨rfl, rfl, rfl⟩ := hcs
    exact ⟨[], 0, 0, rfl, fun h => absurd h (by omega), fun k e h => by simp at h, fun e h => by simp at h, Nat.zero_le _⟩
  · simp [Value.cells] at hcs
    obtain ⟨rfl, rfl, rfl⟩ := hcs
    simp only [if_true] at hmm
    subst hmm
    rw [cells46] at hx
    have each : ∀ i, i < n → ∃ e : Nat × Nat, (W.cell? (x.add (i * 2)) = some (.int .u16 (e.1 : Int)) ∧ W.cell? (x.add (i * 2 + 1)) = some (.int .u16 (e.2 : Int))) ∧ e.1 ≤ 65535 ∧ e.2 ≤ 65535 := by
      intro i hi
      obtain ⟨cs', h1, h2⟩ := hx i (by omega)
      obtain ⟨_, hlen, hcell⟩ := World.cells?_some h1
      obtain ⟨y0, y1, n', _, _, g0, g1⟩ := trod_struct2 Ybad.underlying46 h2
      match cs', hlen with
      | [v0, v1], _ =>
        simp [one22] at g0 g1
        obtain ⟨z0, e0, _, w0⟩ := DataW.trod_int Ybad.underlying22 g0
        obtain ⟨z1, e1, _, w1⟩ := DataW.trod_int Ybad.underlying22 g1
        simp at e0 e1
        subst e0 e1
        obtain ⟨m0, rfl, l0⟩ := u16_nat w0
        obtain ⟨m1, rfl, l1⟩ := u16_nat w1
        have c0 := hcell 0 (by omega)
        have c1 := hcell 1 (by omega)
        rw [add_add] at c0 c1
        exact ⟨(m0, m1), ⟨by simpa using c0, by simpa using c1⟩, l0, l1⟩
    obtain ⟨f, hf'⟩ := choose_lt each
    by_cases hn : 0 < n
    · obtain ⟨eb, eo, sp⟩ := x
      have hsp : sp = none := by simpa [Addr.add] using World.cell?_spot (hf' 0 hn).1.1
      subst hsp
      refine ⟨(List.range n).map f, eb, eo, by simp, fun _ => rfl, fun k e he => ?_, fun e he => ?_, Nat.le_trans hl hm⟩
      · have hk : k < n := by have := (List.getElem?_eq_some_iff.1 he).1; simpa using this
        have : f k = e := by simpa [hk] using he
        subst this
        have := (hf' k hk).1
        simp only [add_plain] at this
        exact ⟨this.1, by rw [Nat.add_assoc]; exact this.2⟩
      · simp at he
        obtain ⟨k, hk, rfl⟩ := he
        exact (hf' k hk).2
    · have : n = 0 := by omega
      subst this
      exact ⟨[], 0, 0, rfl, fun h => absurd h (by omega), fun k e h => by simp at h, fun e h => by simp at h, Nat.zero_le _⟩
theorem open_inU {a : Option Addr} {n c : Nat} {d : DataW H} {p : List MemPlace} (h : DataW.Trod enc Ybad.prog W 0 (fun _ => true) true 43 (.slice a n c) d p) :
    ∃ (E : List Nat) (b o : Nat), E.length = n ∧ (0 < n → a = some ⟨b, o, none⟩) ∧ (∀ (i x : Nat), E[i]? = some x → W.cell? ⟨b, o + i, none⟩ = some (.int .u16 (x : Int))) ∧ (∀ e ∈ E, e ≤ 65535) ∧ n ≤ maxLen := by
  obtain ⟨fuel, hf⟩ := h
  rcases open_ints Ybad.underlying43 Ybad.underlying22 one22 hf with ⟨hcs, _⟩ | ⟨x, len, cap, zs, hcs, _, hl, hm, hmm, _, hx, hw⟩
  · simp [Value.cells] at hcs
    obtain ⟨rfl, rfl, rfl⟩ := hcs
    exact ⟨[], 0, 0, rfl, fun h => absurd h (by omega), fun k e h => by simp at h, fun e h => by simp at h, Nat.zero_le _⟩
  · simp [Value.cells] at hcs
    obtain ⟨rfl, rfl, rfl⟩ := hcs
    simp only [if_true] at hmm
    have each : ∀ i, i < n → ∃ e : Nat, W.cell? (x.add i) = some (.int .u16 (e : Int)) ∧ e ≤ 65535 := by
      intro i hi
      have h1 := hx i (by omega)
      obtain ⟨m0, e0, l0⟩ := u16_nat (hw (zs.getD i 0) (by rw [List.getD_eq_getElem?_getD, List.getElem?_eq_getElem (by omega)]; simp))
      rw [e0] at h1
      exact ⟨m0, h1, l0⟩
    obtain ⟨f, hf'⟩ := choose_lt each
    by_cases hn : 0 < n
    · obtain ⟨eb, eo, sp⟩ := x
      have hsp : sp = none := by simpa [Addr.add] using World.cell?_spot (hf' 0 hn).1
      subst hsp
      refine ⟨(List.range n).map f, eb, eo, by simp, fun _ => rfl, fun k e he => ?_, fun e he => ?_, Nat.le_trans hl hm⟩
      · have hk : k < n := by have := (List.getElem?_eq_some_iff.1 he).1; simpa using this
        have : f k = e := by simpa [hk] using he
        subst this
        have := (hf' k hk).1
        rwa [add_plain] at this
      · simp at he
        obtain ⟨k, hk, rfl⟩ := he
        exact (hf' k hk).2
    · have : n = 0 := by omega
      subst this
      exact ⟨[], 0, 0, rfl, fun h => absurd h (by omega), fun k e h => by simp at h, fun e h => by simp at h, Nat.zero_le _⟩
theorem open_inZ {a : Option Addr} {n c : Nat} {d : DataW H} {p : List MemPlace} (h : DataW.Trod enc Ybad.prog W 0 (fun _ => true) true 44 (.slice a n c) d p) :
    ∃ (D : List Int) (b o : Nat), D.length = n ∧ (0 < n → a = some ⟨b, o, none⟩) ∧ (a = none → c = 0) ∧ ZAt W b o D ∧ n ≤ maxLen := by
  obtain ⟨fuel, hf⟩ := h
  rcases open_ints Ybad.underlying44 Ybad.underlying3 one3 hf with ⟨hcs, _⟩ | ⟨x, len, cap, zs, hcs, _, hl, hm, hmm, _, hx, hw⟩
  · simp [Value.cells] at hcs
    obtain ⟨rfl, rfl, rfl⟩ := hcs
    exact ⟨[], 0, 0, rfl, fun h => absurd h (by omega), fun _ => rfl, fun k e h => by simp at h, Nat.zero_le _⟩
  · simp [Value.cells] at hcs
    obtain ⟨rfl, rfl, rfl⟩ := hcs
    simp only [if_true] at hmm
    by_cases hn : 0 < n
    · obtain ⟨eb, eo, sp⟩ := x
      have hsp : sp = none := by simpa [Addr.add] using World.cell?_spot (hx 0 (by omega))
      subst hsp
      refine ⟨zs.take n, eb, eo, by simp; omega, fun _ => rfl, (fun h => by cases h), fun k e he => ?_, Nat.le_trans hl hm⟩
      have hk : k < n := by have := (List.getElem?_eq_some_iff.1 he).1; simp at this; omega
      have h1 := hx k (by omega)
      rw [add_plain] at h1
      rw [List.getElem?_take_of_lt hk] at he
      rw [List.getD_eq_getElem?_getD, he] at h1
      exact h1
    · have : n = 0 := by omega
      subst this
      exact ⟨[], 0, 0, rfl, fun h => absurd h (by omega), (fun h => by cases h), fun k e h => by simp at h, Nat.zero_le _⟩
end
set_option maxRecDepth 100000 in
set_option maxHeartbeats 4000000 in
theorem law_long (w : World) (a0 : Option Addr) (n0 c0 : Nat) (a1 : Option Addr) (n1 c1 : Nat) (a2 : Option Addr) (n2 c2 : Nat) (a3 : Option Addr) (n3 c3 : Nat) (a4 : Option Addr) (n4 c4 : Nat) (h : 4096 < n0 ∨ 65536 < n1 ∨ 65536 < n2 ∨ 65536 < n3 ∨ 65536 < n4) (m0 : n0 ≤ maxLen) (m1 : n1 ≤ maxLen) (m2 : n2 ≤ maxLen) (m3 : n3 ≤ maxLen) (m4 : n4 ≤ maxLen) :
    Calls Ybad.prog 4 #[.slice a0 n0 c0, .slice a1 n1 c1, .slice a2 n2 c2, .slice a3 n3 c3, .slice a4 n4 c4] w fun e w' => e = .returned (.bool true) ∧ Below w.heap.size w w' := by
  unfold maxLen at m0 m1 m2 m3 m4
  by_cases h0 : 4096 < n0
  · have g0 : decide ((4096 : Int) < (n0 : Int)) = true := by simp; omega
    have g0' : (4096 : Int) < (n0 : Int) := by omega
    go_enter Ybad.func4, Ybad.ntmps4
    go_wp2_with fail
    go_ret
    exact ⟨rfl, Below.refl _ _⟩
  · have g0 : decide ((4096 : Int) < (n0 : Int)) = false := by simp; omega
    have g0' : ¬ ((4096 : Int) < (n0 : Int)) := by omega
    by_cases h1 : 65536 < n1
    · have g1 : decide ((65536 : Int) < (n1 : Int)) = true := by simp; omega
      have g1' : (65536 : Int) < (n1 : Int) := by omega
      go_enter Ybad.func4, Ybad.ntmps4
      go_wp2_with fail
      go_ret
      exact ⟨rfl, Below.refl _ _⟩
    · have g1 : decide ((65536 : Int) < (n1 : Int)) = false := by simp; omega
      have g1' : ¬ ((65536 : Int) < (n1 : Int)) := by omega
      by_cases h2 : 65536 < n2
      · have g2 : decide ((65536 : Int) < (n2 : Int)) = true := by simp; omega
        have g2' : (65536 : Int) < (n2 : Int) := by omega
        go_enter Ybad.func4, Ybad.ntmps4
        go_wp2_with fail
        go_ret
        exact ⟨rfl, Below.refl _ _⟩
      · have g2 : decide ((65536 : Int) < (n2 : Int)) = false := by simp; omega
        have g2' : ¬ ((65536 : Int) < (n2 : Int)) := by omega
        by_cases h3 : 65536 < n3
        · have g3 : decide ((65536 : Int) < (n3 : Int)) = true := by simp; omega
          have g3' : (65536 : Int) < (n3 : Int) := by omega
          go_enter Ybad.func4, Ybad.ntmps4
          go_wp2_with fail
          go_ret
          exact ⟨rfl, Below.refl _ _⟩
        · have g3 : decide ((65536 : Int) < (n3 : Int)) = false := by simp; omega
          have g3' : ¬ ((65536 : Int) < (n3 : Int)) := by omega
          by_cases h4 : 65536 < n4
          · have g4 : decide ((65536 : Int) < (n4 : Int)) = true := by simp; omega
            have g4' : (65536 : Int) < (n4 : Int) := by omega
            go_enter Ybad.func4, Ybad.ntmps4
            go_wp2_with fail
            go_ret
            exact ⟨rfl, Below.refl _ _⟩
          · have g4 : decide ((65536 : Int) < (n4 : Int)) = false := by simp; omega
            have g4' : ¬ ((65536 : Int) < (n4 : Int)) := by omega
            omega

/-! ### The table -/
theorem g3 : Ybad.prog.globalNamed "math/bits.deBruijn64tab" = some 3 := by kernel_rfl
theorem g3t : (Ybad.prog.globals[3]?).map (·.type) = some 94 := by kernel_rfl
theorem c94 : Ybad.prog.cellsOf 94 = 64 := by kernel_rfl
def zsT : List Int := [0, 1, 56, 2, 57, 49, 28, 3, 61, 58, 42, 50, 38, 29, 17, 4, 62, 47, 59, 36, 45, 43, 51, 22, 53, 39, 33, 30, 24, 18, 12, 5, 63, 55, 48, 27, 60, 41, 37, 16, 46, 35, 44, 21, 52, 32, 23, 11, 54, 26, 40, 15, 34, 20, 31, 10, 25, 14, 19, 9, 13, 8, 7, 6]
theorem zsT_eq : zsT = deB.map fun (x : Nat) => (x : Int) := rfl
theorem tab_of_laid {W : World} (hL : laidMet Ybad.prog Rows.lawS6185CWholeRow.laid W) : TabAt W := by
  have h1 : Lib.TabIs Ybad.prog W "math/bits.deBruijn64tab" .u8 zsT := Lib.tabIs_of_head g3 g3t Ybad.underlying94 Ybad.underlying5 one5 c94 (show laidMet Ybad.prog [("math/bits.deBruijn64tab", Lib.tabData .u8 zsT)] W from hL)
  intro i x hx
  have hi := (List.getElem?_eq_some_iff.1 hx).1
  have h2 := h1.cell g3 i (by rw [zsT_eq, List.length_map]; exact hi)
  have h3 : zsT.getD i 0 = (x : Int) := by rw [zsT_eq, List.getD_eq_getElem?_getD, List.getElem?_map, hx]; rfl
  rw [h3] at h2
  exact h2
noncomputable def laidWorld (os : Os) : World :=
  { World.holding Ybad.prog os ⟨#[], #[], []⟩ with heap := (World.holding Ybad.prog os ⟨#[], #[], []⟩).heap.modify 3 fun
      | .cells _ t frozen => .cells (zsT.map fun z => Value.int .u8 z).toArray t frozen
      | o => o }
theorem laid_met (os : Os) (args : Array Value) : laidMet Ybad.prog Rows.lawS6185CWholeRow.laid ((laidWorld os).forCall (fun _ _ => 0) ⟨#[], args, []⟩).memory :=
  laidMet_of_run' 8 (by kernel_rfl) (by kernel_rfl)
set_option maxRecDepth 100000 in
theorem lifted (os : Os) (started : os.Started) (H : Type) (enc : TypeId × Value → H) :
    ReturnsInHanded {} Ybad.checked os 4 .any (fun w args => (Rows.lawS6185CWholeSpec.pre enc Ybad.prog Ybad.f4 [] false w args ∧ laidMet Ybad.prog Rows.lawS6185CWholeRow.laid w) ∧ sizedMet enc Ybad.prog Ybad.f4 (OpenSpec.ofChange Rows.lawS6185CWholeSpec) false w args)
      (Rows.lawS6185CWholeSpec.post enc Ybad.prog Ybad.f4 false true false false) := by
  refine returnsInHanded_of_change_and (C := Ybad.checked) (X := fun w _ => laidMet Ybad.prog Rows.lawS6185CWholeRow.laid w) (fun _ _ _ hh h => h.of_heap hh) own started (by kernel_rfl) Ybad.func4
    (ChangeSpec.witness_at (enc := enc) (C := Ybad.checked) (os := os) (X := fun w _ => laidMet Ybad.prog Rows.lawS6185CWholeRow.laid w) false (laidWorld os) #[.slice none 0 0, .slice none 0 0, .slice none 0 0, .slice none 0 0, .slice none 0 0] 8 rfl (by kernel_rfl) (by kernel_rfl) (by kernel_rfl) (by kernel_rfl) (by kernel_rfl) (laid_met os _)) ?_
  intro W base args ds gs before hval0 hW _ _ hL _
  have hval : ∀ (j : Nat) t v, Ybad.f4.params[j]? = some t → args[j]? = some v → Value.okWide Ybad.prog W .any base t v := hval0
  have hW' := hW
  obtain ⟨p, q, hA0, hV, rfl, hfz, hnd⟩ := hW
  have hA : DataW.TrodAll enc Ybad.prog W 0 (fun _ => true) true Ybad.f4.params.toList args.toList ds p := hA0
  rw [Ybad.params4] at hA hval
  obtain ⟨v0, vs0, d0, ds0, p0, q0, hargs, rfl, rfl, h0, r0⟩ := trodAll_cons hA
  obtain ⟨v1, vs1, d1, ds1, p1, q1, rfl, rfl, rfl, h1, r1⟩ := trodAll_cons r0
  obtain ⟨v2, vs2, d2, ds2, p2, q2, rfl, rfl, rfl, h2, r2⟩ := trodAll_cons r1
  obtain ⟨v3, vs3, d3, ds3, p3, q3, rfl, rfl, rfl, h3, r3⟩ := trodAll_cons r2
  obtain ⟨v4, vs4, d4, ds4, p4, q4, rfl, rfl, rfl, h4, r4⟩ := trodAll_cons r3
  obtain ⟨rfl, rfl, rfl⟩ := trodAll_nil r4
  obtain rfl : args = #[v0, v1, v2, v3, v4] := by cases args; simp_all
  obtain ⟨rfl, rfl⟩ := trodVars_none hV
  have lt0 : ∀ x ∈ p0, x.block < W.heap.size := by obtain ⟨m, hm⟩ := h0; exact DataW.trod_lt m _ _ _ hm
  have lt1 : ∀ x ∈ p1, x.block < W.heap.size := by obtain ⟨m, hm⟩ := h1; exact DataW.trod_lt m _ _ _ hm
  have lt2 : ∀ x ∈ p2, x.block < W.heap.size := by obtain ⟨m, hm⟩ := h2; exact DataW.trod_lt m _ _ _ hm
  have lt3 : ∀ x ∈ p3, x.block < W.heap.size := by obtain ⟨m, hm⟩ := h3; exact DataW.trod_lt m _ _ _ hm
  have lt4 : ∀ x ∈ p4, x.block < W.heap.size := by obtain ⟨m, hm⟩ := h4; exact DataW.trod_lt m _ _ _ hm
  have k0 := h0; have k1 := h1; have k2 := h2; have k3 := h3; have k4 := h4
  obtain ⟨a0, n0, c0, rfl⟩ := okWide_slice Ybad.underlying41 (hval 0 41 v0 rfl rfl)
  obtain ⟨a1, n1, c1, rfl⟩ := okWide_slice Ybad.underlying42 (hval 1 42 v1 rfl rfl)
  obtain ⟨a2, n2, c2, rfl⟩ := okWide_slice Ybad.underlying43 (hval 2 43 v2 rfl rfl)
  obtain ⟨a3, n3, c3, rfl⟩ := okWide_slice Ybad.underlying43 (hval 3 43 v3 rfl rfl)
  obtain ⟨a4, n4, c4, rfl⟩ := okWide_slice Ybad.underlying44 (hval 4 44 v4 rfl rfl)
  obtain ⟨E0, b0, o0, hE0, ha0, hr0, hb0, hm0⟩ := open_in8 h0
  obtain ⟨E1, b1, o1, hE1, ha1, hr1, hb1, hm1⟩ := open_in2 h1
  obtain ⟨E2, b2, o2, hE2, ha2, hr2, hb2, hm2⟩ := open_inU h2
  obtain ⟨E3, b3, o3, hE3, ha3, hr3, hb3, hm3⟩ := open_inU h3
  obtain ⟨D, b4, o4, hD, ha4, hn4, hr4, hm4⟩ := open_inZ h4
  clear hA0 hval0
  have hT := tab_of_laid hL
  have hwalk : Calls Ybad.prog 4 #[.slice a0 n0 c0, .slice a1 n1 c1, .slice a2 n2 c2, .slice a3 n3 c3, .slice a4 n4 c4] W fun e w' => e = .returned (.bool true) ∧ Below W.heap.size W w' := by
    by_cases hlong : 4096 < n0 ∨ 65536 < n1 ∨ 65536 < n2 ∨ 65536 < n3 ∨ 65536 < n4
    · exact law_long W a0 n0 c0 a1 n1 c1 a2 n2 c2 a3 n3 c3 a4 n4 c4 hlong hm0 hm1 hm2 hm3 hm4
    · exact law W a0 n0 c0 b0 o0 E0 a1 n1 c1 b1 o1 E1 a2 n2 c2 b2 o2 E2 a3 n3 c3 b3 o3 E3 a4 n4 c4 b4 o4 D
        hE0.symm (by omega) ha0 hr0 hb0 hE1.symm (by omega) ha1 hr1 hb1 hE2.symm (by omega) ha2 hr2 hb2 hE3.symm (by omega) ha3 hr3 hb3 hD.symm (by omega) ha4 hn4 hr4 hT (cell_lt (hT 0 0 rfl))
  refine hwalk.mono fun e W' ⟨he, bel⟩ => ?_
  subst he
  exact ⟨_, rfl, _, _, _, [], _, [], hW', trodAll_mk1 (shut_bool Ybad.underlying4 _),
    (trodAll_cons_mk (Below.trod laidOut (by kernel_rfl) (of_decide_eq_true (by kernel_rfl)) k0 bel lt0)
    (trodAll_cons_mk (Below.trod laidOut (by kernel_rfl) (of_decide_eq_true (by kernel_rfl)) k1 bel lt1)
    (trodAll_cons_mk (Below.trod laidOut (by kernel_rfl) (of_decide_eq_true (by kernel_rfl)) k2 bel lt2)
    (trodAll_cons_mk (Below.trod laidOut (by kernel_rfl) (of_decide_eq_true (by kernel_rfl)) k3 bel lt3)
    (trodAll_cons_mk (Below.trod laidOut (by kernel_rfl) (of_decide_eq_true (by kernel_rfl)) k4 bel lt4) trodAll_mk0))))),
    rfl, bel.frame _, fun h => by cases h⟩

theorem over : Rows.lawS6185CWholeRow.holds Ybad.pinned (OpenSpec.ofChange Rows.lawS6185CWholeSpec) :=
  OpenClaim.holds_of_wide 4 Ybad.f4 rfl rfl rfl rfl rfl rfl rfl ⟨rfl, rfl, rfl, rfl, rfl⟩ rfl rfl rfl rfl rfl (by kernel_rfl) Ybad.func4 (by kernel_rfl)
    (of_decide_eq_true (by kernel_rfl)) (by unfold Func.isWrapper; first | (rw [if_pos (by decide +kernel)]; kernel_rfl) | (rw [if_neg (by decide +kernel)]; exact ⟨rfl, rfl⟩))
    (fun os started H enc _ => lifted os started H enc)
end Go.Proofs.YbulkdxbkDoor
