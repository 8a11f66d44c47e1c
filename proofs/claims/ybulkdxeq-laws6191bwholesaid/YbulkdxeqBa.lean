import Derived.Test.YbulkdxeqB8
import Derived.BigRegion
namespace Go.Proofs.Ybulkdxeq
open Go.RowKit
set_option linter.unusedVariables false

theorem made5 (n : Nat) : (madeCells (Value.agg #[.int .u32 0, .slice none 0 0, .slice none 0 0, .int .u64 0, .pointer none]).cells (n * 5)).toList = (List.replicate n Z5).flatMap cells5 := by
  apply List.ext_getElem?
  intro i
  have hl : (madeCells (Value.agg #[.int .u32 0, .slice none 0 0, .slice none 0 0, .int .u64 0, .pointer none]).cells (n * 5)).toList.length = n * 5 := by simp [madeCells]
  have hr : ((List.replicate n Z5).flatMap cells5).length = n * 5 := by rw [flat_len len5]; simp
  by_cases hi : i < n * 5
  · have e : i = i / 5 * 5 + i % 5 := by omega
    have hq : (List.replicate n Z5)[i / 5]? = some Z5 := by rw [List.getElem?_replicate, if_pos (by omega)]
    have h2 := flat_get len5 (List.replicate n Z5) (i / 5) (i % 5) Z5 hq (by omega)
    rw [← e] at h2
    rw [h2]
    have h5 : i % 5 = 0 ∨ i % 5 = 1 ∨ i % 5 = 2 ∨ i % 5 = 3 ∨ i % 5 = 4 := by omega
    rcases h5 with h | h | h | h | h <;> simp [madeCells, hi, Value.cells, h, cells5]
  · rw [List.getElem?_eq_none (by omega), List.getElem?_eq_none (by omega)]

theorem conv_ex (w : World) (s : ByteArray) : ∃ (w' : World) (cap : Nat), (convert 9 32 (.string s)).run Yba.prog w = .ok (.slice (some ⟨w.heap.size, 0, none⟩) s.size cap) w' ∧
    BytesAt w' (.slice (some ⟨w.heap.size, 0, none⟩) s.size cap) s ∧ Fr w w' [] ∧ w'.heap.size = w.heap.size + 1 := by
  refine ⟨_, _, Lib.run_convert_string_bytes w 9 32 5 s Yba.underlying9 Yba.underlying32 Yba.underlying5, ?_, ?_, Lib.bytesWorld_size w 5 s⟩
  · refine ⟨_, _, _, _, _, rfl, Lib.bytesWorld_at_new w 5 s, fun j hj => ?_⟩
    have hj' : j < s.data.size := by simpa using hj
    unfold Lib.bytesCells
    rw [Array.getElem?_append_left (by simpa using hj'), Array.getElem?_map, Array.getElem?_eq_getElem hj']
    simp
  · exact ⟨rfl, rfl, rfl, by rw [Lib.bytesWorld_size]; omega, fun c hc _ => Lib.bytesWorld_at_old w 5 s c hc⟩

theorem take_snoc' {α : Type} {E : List α} {k : Nat} {e : α} (h : E[k]? = some e) : E.take (k + 1) = E.take k ++ [e] := by
  obtain ⟨hk, rfl⟩ := List.getElem?_eq_some_iff.1 h
  exact List.take_succ_eq_append_getElem hk
/-- a slice's block lies behind lo -/
def Hi (lo : Nat) (v : Value) : Prop := ∀ b len cap, v = .slice (some ⟨b, 0, none⟩) len cap → lo < b
def RowsAt (lo : Nat) (w : World) (ES : List EE) (L : List SE) : Prop := ∀ (t : Nat) (e : EE) (l : SE), ES[t]? = some e → L[t]? = some l → e.f = l.f ∧ e.c = l.c ∧ (BytesAt w e.k l.k ∧ Hi lo e.k) ∧ (BytesAt w e.v l.v ∧ Hi lo e.v)
structure Ph2 (w wr : World) (v : Value) (L : List SE) (eg nb n i : Nat) (br ub : Bool) (id : Int) (ES : List EE) : Prop where
  srt : Srt w.heap.size wr v L
  own : wr.ownsRow w.heap.size 34 5 (.slice (some ⟨eg, 0, none⟩) n n) n ((ES ++ List.replicate (n - i) Z5).flatMap cells5)
  len : ES.length = i
  node : wr.heap[nb]? = some (.cells #[.bool br, .int .u64 id, .slice (some ⟨eg, 0, none⟩) n n, .bool ub] 31 (0, 0))
  rows : RowsAt nb wr ES L
  lt1 : ∀ b, v.ownBlock = some b → b < eg
  lt2 : eg < nb
  bel : Below w.heap.size w wr
theorem RowsAt.keep {lo : Nat} {w w' : World} {ES : List EE} {L : List SE} (h : RowsAt lo w ES L) (hk : ∀ c, lo < c → c < w.heap.size → w'.heap[c]? = w.heap[c]?) : RowsAt lo w' ES L := by
  intro t e l he hl
  obtain ⟨h1, h2, ⟨h3, h4⟩, h5, h6⟩ := h t e l he hl
  exact ⟨h1, h2, ⟨h3.same fun b len cap hv => hk b (h4 b len cap hv) (h3.lt b len cap hv), h4⟩, h5.same fun b len cap hv => hk b (h6 b len cap hv) (h5.lt b len cap hv), h6⟩
theorem row_set5 {w : World} {B g n cap : Nat} {t : TypeId} {R : List EE} (h : w.ownsRow B t 5 (.slice (some ⟨g, 0, none⟩) n cap) n (R.flatMap cells5)) {i : Nat} (hi : i < R.length) (e : EE) :
    (((((w.setCell ⟨g, i * 5, none⟩ (.int .u32 e.f)).setCell ⟨g, i * 5 + 1, none⟩ e.k).setCell ⟨g, i * 5 + 2, none⟩ e.v).setCell ⟨g, i * 5 + 3, none⟩ (.int .u64 e.c)).setCell ⟨g, i * 5 + 4, none⟩ (.pointer none)).ownsRow B t 5 (.slice (some ⟨g, 0, none⟩) n cap) n ((R.set i e).flatMap cells5) := by
  have := own_set (own_set (own_set (own_set (own_set h (i * 5) (.int .u32 e.f)) (i * 5 + 1) e.k) (i * 5 + 2) e.v) (i * 5 + 3) (.int .u64 e.c)) (i * 5 + 4) (.pointer none)
  rw [set5 _ _ _ _ _ _ _ (by rw [flat_len len5]; omega)] at this
  rw [flat_set len5 R i e hi]
  exact this
theorem far5 {w : World} {g c : Nat} (h : c ≠ g) (o : Nat) (a0 a1 a2 a3 a4 : Value) : (((((w.setCell ⟨g, o, none⟩ a0).setCell ⟨g, o + 1, none⟩ a1).setCell ⟨g, o + 2, none⟩ a2).setCell ⟨g, o + 3, none⟩ a3).setCell ⟨g, o + 4, none⟩ a4).heap[c]? = w.heap[c]? :=
  (setCell_far h _ _).trans ((setCell_far h _ _).trans ((setCell_far h _ _).trans ((setCell_far h _ _).trans (setCell_far h _ _))))
theorem cell_far5 {w : World} {g c o' : Nat} {v : Value} (h : c ≠ g) {o : Nat} {a0 a1 a2 a3 a4 : Value} (hc : w.cell? ⟨c, o', none⟩ = some v) : (((((w.setCell ⟨g, o, none⟩ a0).setCell ⟨g, o + 1, none⟩ a1).setCell ⟨g, o + 2, none⟩ a2).setCell ⟨g, o + 3, none⟩ a3).setCell ⟨g, o + 4, none⟩ a4).cell? ⟨c, o', none⟩ = some v := cell_of hc (far5 h _ _ _ _ _ _)
theorem size5 {w : World} {g : Nat} (o : Nat) (a0 a1 a2 a3 a4 : Value) : (((((w.setCell ⟨g, o, none⟩ a0).setCell ⟨g, o + 1, none⟩ a1).setCell ⟨g, o + 2, none⟩ a2).setCell ⟨g, o + 3, none⟩ a3).setCell ⟨g, o + 4, none⟩ a4).heap.size = w.heap.size := by
  simp [World.setCell]
/-- a round of the entries' build -/
theorem Ph2.step {w wr w1 : World} {v : Value} {L : List SE} {eg nb n i : Nat} {br ub : Bool} {id : Int} {ES : List EE} (h : Ph2 w wr v L eg nb n i br ub id ES) (hi : i < n) {l : SE} (hl : L[i]? = some l) {kv vv : Value}
    (hf : Fr wr w1 []) (hk : BytesAt w1 kv l.k) (hkh : Hi nb kv) (hv : BytesAt w1 vv l.v) (hvh : Hi nb vv) :
    Ph2 w (((((w1.setCell ⟨eg, i * 5, none⟩ (.int .u32 l.f)).setCell ⟨eg, i * 5 + 1, none⟩ kv).setCell ⟨eg, i * 5 + 2, none⟩ vv).setCell ⟨eg, i * 5 + 3, none⟩ (.int .u64 l.c)).setCell ⟨eg, i * 5 + 4, none⟩ (.pointer none)) v L eg nb n (i + 1) br ub id (ES ++ [⟨l.f, kv, vv, l.c⟩]) := by
  have hsz := hf.size
  have old : ∀ c, c < wr.heap.size → w1.heap[c]? = wr.heap[c]? := fun c hc => hf.same c hc (by simp)
  have lt1 := h.lt1
  have lt2 := h.lt2
  have hnb : nb < wr.heap.size := blk_lt' h.node
  have hge : w.heap.size ≤ eg := (h.own.lt eg rfl).1
  have far : ∀ c, c ≠ eg → c < wr.heap.size → (((((w1.setCell ⟨eg, i * 5, none⟩ (.int .u32 l.f)).setCell ⟨eg, i * 5 + 1, none⟩ kv).setCell ⟨eg, i * 5 + 2, none⟩ vv).setCell ⟨eg, i * 5 + 3, none⟩ (.int .u64 l.c)).setCell ⟨eg, i * 5 + 4, none⟩ (.pointer none)).heap[c]? = wr.heap[c]? :=
    fun c hc hlt => (far5 hc _ _ _ _ _ _).trans (old c hlt)
  refine ⟨?_, ?_, by simp [h.len], ?_, ?_, h.lt1, h.lt2, ?_⟩
  · exact h.srt.same fun b hb => far b (by have := lt1 b hb; omega) (h.srt.own.lt b hb).2
  · have ho : w1.ownsRow w.heap.size 34 5 (.slice (some ⟨eg, 0, none⟩) n n) n ((ES ++ List.replicate (n - i) Z5).flatMap cells5) := own_same h.own fun b hb => old b (h.own.lt b hb).2
    have hr := row_set5 ho (i := i) (by simp [h.len]; omega) ⟨l.f, kv, vv, l.c⟩
    have e : (ES ++ List.replicate (n - i) Z5).set i ⟨l.f, kv, vv, l.c⟩ = (ES ++ [⟨l.f, kv, vv, l.c⟩]) ++ List.replicate (n - (i + 1)) Z5 := by
      obtain ⟨m, hm⟩ : ∃ m, n - i = m + 1 := ⟨n - i - 1, by omega⟩
      rw [List.set_append_right _ _ (by rw [h.len]; exact Nat.le_refl _), h.len, Nat.sub_self, hm, List.replicate_succ, List.set_cons_zero, show n - (i + 1) = m by omega]
      simp
    rw [e] at hr
    exact hr
  · exact (far nb (by omega) hnb).trans h.node
  · intro t e l' he hl'
    by_cases ht : t < ES.length
    · rw [List.getElem?_append_left ht] at he
      obtain ⟨h1, h2, ⟨h3, h4⟩, h5, h6⟩ := h.rows t e l' he hl'
      exact ⟨h1, h2, ⟨h3.same fun b len cap hv => far b (by have := h4 b len cap hv; omega) (h3.lt b len cap hv), h4⟩, h5.same fun b len cap hv => far b (by have := h6 b len cap hv; omega) (h5.lt b len cap hv), h6⟩
    · have hlt := (List.getElem?_eq_some_iff.1 he).1
      have ht' : t = i := by have := h.len; simp at hlt; omega
      subst ht'
      rw [List.getElem?_append_right (by omega), h.len, Nat.sub_self] at he
      simp at he
      subst he
      rw [hl] at hl'; cases hl'
      exact ⟨rfl, rfl, ⟨hk.same fun b len cap hv => far5 (by have := hkh b len cap hv; omega) _ _ _ _ _ _, hkh⟩, hv.same fun b len cap hv => far5 (by have := hvh b len cap hv; omega) _ _ _ _ _ _, hvh⟩
  · have := hf.below (base := w.heap.size) (by simp) h.bel h.bel.size
    exact ((((this.setCell hge _).setCell hge _).setCell hge _).setCell hge _).setCell hge _
end Go.Proofs.Ybulkdxeq
