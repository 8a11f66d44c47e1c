import Derived.Test.YbulkdxbkDoorKr
namespace Go.Proofs.YbulkdxbkDoor
open Go.RowKit
set_option linter.unusedVariables false
set_option linter.unusedSectionVars false

def InU (w : World) (b o : Nat) (E : List Nat) : Prop := ∀ (i x : Nat), E[i]? = some x → w.cell? ⟨b, o + i, none⟩ = some (.int .u16 (x : Int))
def In8 (w : World) (b o : Nat) (E : List Nat) : Prop := ∀ (i x : Nat), E[i]? = some x → w.cell? ⟨b, o + i, none⟩ = some (.int .u8 (x : Int))
def In2 (w : World) (b o : Nat) (E : List (Nat × Nat)) : Prop := ∀ (i : Nat) e, E[i]? = some e → w.cell? ⟨b, o + i * 2, none⟩ = some (.int .u16 (e.1 : Int)) ∧ w.cell? ⟨b, o + i * 2 + 1, none⟩ = some (.int .u16 (e.2 : Int))
section
variable {a : Option Addr} {n c b o k : Nat}
theorem index43 (ha : 0 < n → a = some ⟨b, o, none⟩) (hk : k < n) (w : World) : (Instr.indexAt 43 (.slice a n c) (.int .i64 (k : Int))).run Ybad.prog w = .ok (.pointer (some ⟨b, o + k, none⟩)) w := by
  rw [ha (by omega)]
  by_cases h0 : k = 0
  · subst h0; simp [Instr.indexAt, run_underlying Ybad.underlying43, asIntOf, hk, Addr.add]
  · simp [Instr.indexAt, run_underlying Ybad.underlying43, asIntOf, hk, Addr.add, h0]
end
/-- a row filled from the left -/
def Fill (t : Nat) (S M : List Nat) : Prop := M.length = S.length ∧ ∀ i, i < t → M[i]? = S[i]?
theorem Fill.step {t x : Nat} {S M : List Nat} (h : Fill t S M) (hx : S[t]? = some x) : Fill (t + 1) S (M.set t x) := by
  have hl := (List.getElem?_eq_some_iff.1 hx).1
  refine ⟨by simp [h.1], fun i hi => ?_⟩
  rw [List.getElem?_set]
  by_cases e : t = i
  · subst e; rw [if_pos rfl, if_pos (by rw [h.1]; exact hl), hx]
  · rw [if_neg e]; exact h.2 i (by omega)
theorem Fill.done {t : Nat} {S M : List Nat} (h : Fill t S M) (ht : S.length ≤ t) : M = S := by
  apply List.ext_getElem?
  intro i
  by_cases hi : i < t
  · exact h.2 i hi
  · rw [List.getElem?_eq_none (by rw [h.1]; omega), List.getElem?_eq_none (by omega)]
theorem ints_set (L : List Nat) (i x : Nat) : (ints L).set i (.int .i64 (x : Int)) = ints (L.set i x) := by simp [ints, List.map_set]
theorem own_seti {w : World} {base g n cap : Nat} {M : List Nat} (h : w.ownsRow base 3 1 (.slice (some ⟨g, 0, none⟩) n cap) n (ints M)) (i x : Nat) : (w.setCell ⟨g, i, none⟩ (.int .i64 (x : Int))).ownsRow base 3 1 (.slice (some ⟨g, 0, none⟩) n cap) n (ints (M.set i x)) := by
  rw [← ints_set]; exact own_set h i _
theorem ints_zero (n : Nat) : List.replicate n (Value.int .i64 0) = ints (List.replicate n 0) := by simp [ints]
def seedsOf (sN : Nat) (E : List Nat) : List Nat := if sN = 0 then [] else E.map (· % sN)
set_option maxHeartbeats 4000000 in
theorem seeds_any (w : World) (a : Option Addr) (n c b o : Nat) (E : List Nat) (sN : Nat) (hn : n = E.length) (hl : n ≤ 65536) (ha : 0 < n → a = some ⟨b, o, none⟩) (hr : InU w b o E) (hb : ∀ e ∈ E, e ≤ 65535) (hsN : sN ≤ 12288) :
    Calls Ybad.prog 12 #[.slice a n c, .int .i64 (sN : Int)] w fun e w' => ∃ vo cap, e = .returned (.slice vo (seedsOf sN E).length cap) ∧ w'.ownsRow w.heap.size 3 1 (.slice vo (seedsOf sN E).length cap) (seedsOf sN E).length (ints (seedsOf sN E)) ∧ Fr w w' [] := by
  by_cases h0 : sN = 0
  · subst h0
    have e : seedsOf 0 E = [] := rfl
    rw [e]
    clear hr hb ha hn e
    go_enter Ybad.func12, Ybad.ntmps12
    go_wp2_with fail
    go_ret
    exact ⟨none, 0, rfl, World.ownsRow_nil _ _ _ _, Fr.refl _ _⟩
  · have e0 : ((sN : Int) == 0) = false := by simp; omega
    have e1 : ¬ ((sN : Int) = 0) := by omega
    obtain ⟨SQ, hSQ⟩ : ∃ SQ, seedsOf sN E = SQ := ⟨_, rfl⟩
    have hSl : SQ.length = n := by rw [← hSQ, seedsOf, if_neg h0, List.length_map, hn]
    rw [hSQ, hSl]
    obtain ⟨C1, hC1, mk1⟩ := make_ex 44 3 Ybad.underlying44 info3 rfl (by omega) n (by omega)
    have HC1 : Hid (C1.toList = List.replicate n (.int .i64 0)) := hC1
    have HSQ : Hid (SQ.length = n ∧ ∀ t x, E[t]? = some x → SQ[t]? = some (x % sN)) := ⟨hSl, fun t x hx => by rw [← hSQ, seedsOf, if_neg h0, List.getElem?_map, hx]; rfl⟩
    have HR : Hid (InU w b o E) := hr
    have HN : Hid (n = E.length) := hn
    have HA : Hid (0 < n → a = some ⟨b, o, none⟩) := ha
    have HBB : Hid (∀ e ∈ E, e ≤ 65535) := hb
    have HO : Hid ((w.alloc (.cells C1 3)).ownsRow w.heap.size 3 1 (.slice (some ⟨w.heap.size, 0, none⟩) n n) n (ints (List.replicate n 0))) := by
      have := made_own (w := w) (E := 3) (B := w.heap.size) hC1 (by omega) (Nat.le_refl _)
      rw [ints_zero] at this
      exact this
    clear hC1 hSQ hSl hr hn ha hb
    obtain ⟨H, hH⟩ : ∃ H, w.heap.size = H := ⟨_, rfl⟩
    have HH : Hid (w.heap.size = H) := hH
    rw [hH] at HO ⊢
    go_enter Ybad.func12, Ybad.ntmps12
    go_wp2_with fail
    clear hH
    go_loopw [15] (fun s wr => ∃ (t : Nat) (M : List Nat), t ≤ n ∧ s = .int .i64 t ∧ Hid (Fill t SQ M ∧ wr.ownsRow H 3 1 (.slice (some ⟨H, 0, none⟩) n n) n (ints M) ∧ Fr w wr [])) (fun s _ => n - (intOf s).toNat)
    case atStart => exact ⟨0, List.replicate n 0, Nat.zero_le _, rfl, (⟨⟨by rw [HSQ.out.1]; simp, fun i hi => by omega⟩, HO.out, (Fr.refl _ _).alloc _⟩ : _ ∧ _ ∧ _)⟩
    case round =>
      clear HO
      obtain ⟨t, M, ht, rfl, HI⟩ := hrel
      rename World => wr
      by_cases htl : t < n
      · have hd : decide ((t : Int) < (n : Int)) = true := by simp; exact htl
        obtain ⟨x, hx⟩ : ∃ x, E[t]? = some x := ⟨_, List.getElem?_eq_getElem (by rw [← HN.out]; exact htl)⟩
        have hxb := HBB.out x (List.mem_of_getElem? hx)
        have y1 : wr.cell? ⟨b, o + t, none⟩ = some (.int .u16 (x : Int)) := HI.out.2.2.cell (HR.out t x hx) (by simp)
        have x1 := index43 (c := c) HA.out htl
        have x2 := index26z (b := H) (c := n) htl
        have y2 := own_cell HI.out.2.1 (ints_get (L := M) (i := t) (x := M[t]'(by rw [HI.out.1.1, HSQ.out.1]; exact htl)) (List.getElem?_eq_getElem _))
        have z2 := own_frozen HI.out.2.1 t
        generalize M[t]'(by rw [HI.out.1.1, HSQ.out.1]; exact htl) = mt at y2
        have HX : Hid (E[t]? = some x) := hx
        obtain ⟨y, hy, hmod⟩ : ∃ y : Nat, y = x % sN ∧ (x : Int) % (sN : Int) = (y : Int) := ⟨x % sN, rfl, by omega⟩
        have hmod2 : (x : Int).tmod (sN : Int) = (y : Int) := by rw [Int.tmod_eq_emod_of_nonneg (by omega)]; exact hmod
        have HY : Hid (y = x % sN) := hy
        clear hy
        clear hx
        go_wp2_with fail
        go_roundw
        case rel =>
          refine ⟨t + 1, M.set t y, by omega, by go_num, ?_⟩
          exact (⟨HI.out.1.step (x := y) (by rw [HY.out]; exact HSQ.out.2 t x HX.out), own_seti HI.out.2.1 t y, HI.out.2.2.set (.inr (by rw [HH.out]; exact Nat.le_refl _)) _ _⟩ : _ ∧ _ ∧ _)
        case measure => simp [intOf]; omega
      · have hd : decide ((t : Int) < (n : Int)) = false := by simp; omega
        have e := HI.out.1.done (by rw [HSQ.out.1]; omega)
        subst e
        go_wp2_with fail
        go_ret
        exact ⟨_, _, rfl, HI.out.2.1, HI.out.2.2⟩
end Go.Proofs.YbulkdxbkDoor
