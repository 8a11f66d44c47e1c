import Derived.Test.YbulkdxeqB7
import Derived.Deep.DeepCutAuto
import Derived.Deep.RegionHeld3
namespace Go.Proofs.Ybulkdxeq
open Go.RowKit
set_option linter.unusedVariables false

structure SE where
  (f : Int) (k v : ByteArray) (c : Int)
def cells4 (e : SE) : List Value := [.int .u32 e.f, .string e.k, .string e.v, .int .u64 e.c]
theorem len4 (e : SE) : (cells4 e).length = 4 := rfl
abbrev Z4 : SE := ⟨0, ⟨#[]⟩, ⟨#[]⟩, 0⟩
abbrev ebox (e : SE) : Obj := .cells #[.int .u32 e.f, .string e.k, .string e.v, .int .u64 e.c] 26
theorem info26 : (Yba.prog.info? 26).map (fun i => (i.zero, i.size, i.bytes)) = some (some (.agg #[.int .u32 0, .string ⟨#[]⟩, .string ⟨#[]⟩, .int .u64 0]), 4, 48) := by kernel_rfl
theorem info37 : (Yba.prog.info? 37).map (fun i => (i.zero, i.size, i.bytes)) = some (some (.agg #[.int .u32 0, .string ⟨#[]⟩, .string ⟨#[]⟩, .int .u64 0]), 4, 48) := by kernel_rfl
/-- the entries that came in -/
def RowIn (w : World) (eb eo : Nat) (E : List SE) : Prop := ∀ k e, E[k]? = some e →
  w.cell? ⟨eb, eo + k * 4, none⟩ = some (.int .u32 e.f) ∧ w.cell? ⟨eb, eo + k * 4 + 1, none⟩ = some (.string e.k) ∧
  w.cell? ⟨eb, eo + k * 4 + 2, none⟩ = some (.string e.v) ∧ w.cell? ⟨eb, eo + k * 4 + 3, none⟩ = some (.int .u64 e.c)
theorem index23 {a : Option Addr} {n c eb eo k : Nat} (ha : 0 < n → a = some ⟨eb, eo, none⟩) (hk : k < n) (w : World) :
    (Instr.indexAt 23 (.slice a n c) (.int .i64 (k : Int))).run Yba.prog w = .ok (.pointer (some ⟨eb, eo + k * 4, none⟩)) w := by
  rw [ha (by omega)]
  by_cases h0 : k = 0
  · subst h0; simp [Instr.indexAt, run_underlying Yba.underlying23, asIntOf, hk, Addr.add]
  · simp [Instr.indexAt, run_underlying Yba.underlying23, asIntOf, hk, Addr.add, show ¬ k * 4 = 0 by omega]
theorem index23g {g n c k : Nat} (hk : k < n) (w : World) :
    (Instr.indexAt 23 (.slice (some ⟨g, 0, none⟩) n c) (.int .i64 (k : Int))).run Yba.prog w = .ok (.pointer (some ⟨g, k * 4, none⟩)) w := by
  by_cases h0 : k = 0
  · subst h0; simp [Instr.indexAt, run_underlying Yba.underlying23, asIntOf, hk, Addr.add]
  · simp [Instr.indexAt, run_underlying Yba.underlying23, asIntOf, hk, Addr.add, show ¬ k * 4 = 0 by omega]
theorem index23o {vo : Option Addr} {g n c k : Nat} (ha : 0 < n → vo = some ⟨g, 0, none⟩) (hk : k < n) (w : World) :
    (Instr.indexAt 23 (.slice vo n c) (.int .i64 (k : Int))).run Yba.prog w = .ok (.pointer (some ⟨g, k * 4, none⟩)) w := by
  rw [ha (by omega)]; exact index23g hk w
theorem index35g {g n c k : Nat} (hk : k < n) (w : World) :
    (Instr.indexAt 35 (.slice (some ⟨g, 0, none⟩) n c) (.int .i64 (k : Int))).run Yba.prog w = .ok (.pointer (some ⟨g, k * 4, none⟩)) w := by
  by_cases h0 : k = 0
  · subst h0; simp [Instr.indexAt, run_underlying Yba.underlying35, asIntOf, hk, Addr.add]
  · simp [Instr.indexAt, run_underlying Yba.underlying35, asIntOf, hk, Addr.add, show ¬ k * 4 = 0 by omega]

theorem bel_drewN {B : Nat} {w0 w : World} (h : Below B w0 w) (n : Nat) : Below B w0 (w.drewN n) := h.trans ⟨rfl, rfl, rfl, Nat.le_refl _, fun _ _ => rfl⟩
theorem one4 (e : SE) : ∀ u ∈ cells4 e, u.oneCell' = true := by intro u hu; simp [cells4] at hu; rcases hu with rfl | rfl | rfl | rfl <;> rfl
theorem spot_of {K : List ByteArray} {key : ByteArray} {j : Nat} (asc : Asc K) (le : j ≤ K.length) (lo : ∀ t k, t < j → K[t]? = some k → Lt k key) (at_ : ∀ k, K[j]? = some k → ¬ Lt k key) : Spot K key j := by
  refine ⟨le, lo, fun t k ht hk => ?_⟩
  have hlt := (List.getElem?_eq_some_iff.1 hk).1
  have hk' : K[j]? = some K[j] := List.getElem?_eq_getElem (by omega)
  by_cases e : t = j
  · subst e; exact at_ k hk
  · have h1 := (List.pairwise_iff_getElem.1 asc) j t (by omega) hlt (by omega)
    have h2 : K[t] = k := by rw [List.getElem?_eq_getElem hlt] at hk; injection hk
    rw [h2] at h1
    exact fun h => at_ _ hk' (h1.trans h)
theorem spot_keys {L : List SE} {key : ByteArray} {j n : Nat} (asc : Asc (L.map (·.k))) (hn : n = L.length) (le : j ≤ n) (lo : ∀ t e', t < j → L[t]? = some e' → Lt e'.k key) (at_ : ∀ e', L[j]? = some e' → ¬ Lt e'.k key) : Spot (L.map (·.k)) key j := by
  refine spot_of asc (by simp; omega) (fun t k ht hk => ?_) (fun k hk => ?_)
  · rw [List.getElem?_map] at hk
    obtain ⟨e, he, rfl⟩ := Option.map_eq_some_iff.1 hk
    exact lo t e ht he
  · rw [List.getElem?_map] at hk
    obtain ⟨e, he, rfl⟩ := Option.map_eq_some_iff.1 hk
    exact at_ e he
theorem index23x {g n c k : Nat} {x : Int} (hx : x = (k : Int)) (hk : k < n) (w : World) :
    (Instr.indexAt 23 (.slice (some ⟨g, 0, none⟩) n c) (.int .i64 x)).run Yba.prog w = .ok (.pointer (some ⟨g, k * 4, none⟩)) w := by subst hx; exact index23g hk w
theorem row_cells {w : World} {B g n cap : Nat} {R : List SE} (h : w.ownsRow B 26 4 (.slice (some ⟨g, 0, none⟩) n cap) n (R.flatMap cells4)) {i : Nat} {e : SE} (hi : R[i]? = some e) :
    w.cell? ⟨g, i * 4, none⟩ = some (.int .u32 e.f) ∧ w.cell? ⟨g, i * 4 + 1, none⟩ = some (.string e.k) ∧ w.cell? ⟨g, i * 4 + 2, none⟩ = some (.string e.v) ∧ w.cell? ⟨g, i * 4 + 3, none⟩ = some (.int .u64 e.c) := by
  have q : ∀ r, r < 4 → (R.flatMap cells4)[i * 4 + r]? = (cells4 e)[r]? := fun r hr => flat_get len4 R i r e hi hr
  exact ⟨own_cell h (q 0 (by omega)), own_cell h (q 1 (by omega)), own_cell h (q 2 (by omega)), own_cell h (q 3 (by omega))⟩
theorem row_set {w : World} {B g n cap : Nat} {t : TypeId} {R : List SE} (h : w.ownsRow B t 4 (.slice (some ⟨g, 0, none⟩) n cap) n (R.flatMap cells4)) {i : Nat} (hi : i < R.length) (e : SE) :
    ((((w.setCell ⟨g, i * 4, none⟩ (.int .u32 e.f)).setCell ⟨g, i * 4 + 1, none⟩ (.string e.k)).setCell ⟨g, i * 4 + 2, none⟩ (.string e.v)).setCell ⟨g, i * 4 + 3, none⟩ (.int .u64 e.c)).ownsRow B t 4 (.slice (some ⟨g, 0, none⟩) n cap) n ((R.set i e).flatMap cells4) := by
  have := own_set (own_set (own_set (own_set h (i * 4) (.int .u32 e.f)) (i * 4 + 1) (.string e.k)) (i * 4 + 2) (.string e.v)) (i * 4 + 3) (.int .u64 e.c)
  rw [set4 _ _ _ _ _ _ (by rw [flat_len len4]; omega)] at this
  rw [flat_set len4 R i e hi]
  exact this
theorem shift_step {α : Type} (L : List α) (m : Nat) (X y : α) (hy : L[m]? = some y) : (L.take (m + 1) ++ X :: L.drop (m + 1)).set (m + 1) y = L.take m ++ y :: L.drop m := by
  have hm : m < L.length := (List.getElem?_eq_some_iff.1 hy).1
  have hy' : L[m] = y := by rw [List.getElem?_eq_getElem hm] at hy; injection hy
  have e1 : (L.take (m + 1)).length = m + 1 := by rw [List.length_take]; omega
  rw [List.set_append_right _ _ (by omega), e1, Nat.sub_self, List.set_cons_zero, List.take_succ_eq_append_getElem hm, List.drop_eq_getElem_cons hm, hy']
  simp
theorem mid_get {α : Type} (L : List α) (q : Nat) (X : α) (hq : q ≤ L.length) : (L.take q ++ X :: L.drop q)[q]? = some X := by
  rw [List.getElem?_append_right (by rw [List.length_take]; omega), List.length_take, Nat.min_eq_left hq, Nat.sub_self]; rfl
theorem mid_get_lt {α : Type} (L : List α) (q i : Nat) (X : α) (hi : i < q) : (L.take q ++ X :: L.drop q)[i]? = if q ≤ L.length then L[i]? else (L.take q ++ X :: L.drop q)[i]? := by
  split
  · rw [List.getElem?_append_left (by rw [List.length_take]; omega), List.getElem?_take_of_lt hi]
  · rfl
theorem mid_len {α : Type} (L : List α) (q : Nat) (X : α) (hq : q ≤ L.length) : (L.take q ++ X :: L.drop q).length = L.length + 1 := by simp; omega
theorem mid_set {α : Type} (L : List α) (q : Nat) (X Y : α) (hq : q ≤ L.length) : (L.take q ++ X :: L.drop q).set q Y = L.take q ++ Y :: L.drop q := by
  rw [List.set_append_right _ _ (by rw [List.length_take]; omega), List.length_take, Nat.min_eq_left hq, Nat.sub_self]; rfl
/-- the sorted row: v its slice, from block B on -/
structure Srt (B : Nat) (w : World) (v : Value) (L : List SE) : Prop where
  own : w.ownsRow B 26 4 v L.length (L.flatMap cells4)
  asc : Asc (L.map (·.k))
theorem Srt.form {B : Nat} {w : World} {v : Value} {L : List SE} (h : Srt B w v L) : ∃ (vo : Option Addr) (cp g : Nat), v = .slice vo L.length cp ∧ (0 < L.length → vo = some ⟨g, 0, none⟩) ∧ (vo = none ∨ vo = some ⟨g, 0, none⟩) ∧ (vo = none → cp = 0) := by
  rcases h.own.2 with ⟨h1, h2⟩ | ⟨g, cap, cur, hv, _⟩
  · exact ⟨none, 0, 0, by rw [h2]; exact h1, fun h => by omega, .inl rfl, fun _ => rfl⟩
  · exact ⟨some ⟨g, 0, none⟩, cap, g, hv, fun _ => rfl, .inr rfl, fun h => by cases h⟩
theorem Srt.cell {B : Nat} {w : World} {g cp : Nat} {vo : Option Addr} {L : List SE} (h : Srt B w (.slice vo L.length cp) L) (ha : 0 < L.length → vo = some ⟨g, 0, none⟩) {i : Nat} {e : SE} (hi : L[i]? = some e) :
    w.cell? ⟨g, i * 4, none⟩ = some (.int .u32 e.f) ∧ w.cell? ⟨g, i * 4 + 1, none⟩ = some (.string e.k) ∧ w.cell? ⟨g, i * 4 + 2, none⟩ = some (.string e.v) ∧ w.cell? ⟨g, i * 4 + 3, none⟩ = some (.int .u64 e.c) := by
  have hlt := (List.getElem?_eq_some_iff.1 hi).1
  have e1 := ha (by omega)
  subst e1
  have q : ∀ r, r < 4 → (L.flatMap cells4)[i * 4 + r]? = (cells4 e)[r]? := fun r hr => flat_get len4 L i r e hi hr
  exact ⟨own_cell h.own (q 0 (by omega)), own_cell h.own (q 1 (by omega)), own_cell h.own (q 2 (by omega)), own_cell h.own (q 3 (by omega))⟩
theorem Srt.same {B : Nat} {w w' : World} {v : Value} {L : List SE} (h : Srt B w v L) (hk : ∀ b, v.ownBlock = some b → w'.heap[b]? = w.heap[b]?) : Srt B w' v L := ⟨own_same h.own hk, h.asc⟩
theorem Srt.grown {B : Nat} {w w' : World} {v : Value} {L : List SE} (h : Srt B w v L) (hk : ∀ c, c < w.heap.size → w'.heap[c]? = w.heap[c]?) : Srt B w' v L := h.same fun b hb => hk b (h.own.lt b hb).2
end Go.Proofs.Ybulkdxeq
