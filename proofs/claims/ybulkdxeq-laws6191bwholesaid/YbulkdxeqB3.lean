import Derived.Test.YbulkdxeqB2
import Derived.Deep.RegionLaw
namespace Go.Proofs.Ybulkdxeq
open Go.RowKit
set_option linter.unusedVariables false
set_option linter.unusedSectionVars false

/-! ### Rows of equal elements -/
section
variable {α : Type} {f : α → List Value} {s : Nat} (hs : ∀ a, (f a).length = s)
include hs
theorem flat_len (L : List α) : (L.flatMap f).length = L.length * s := by
  induction L with
  | nil => simp
  | cons a r ih => rw [List.flatMap_cons, List.length_append, hs, ih, List.length_cons, Nat.succ_mul, Nat.add_comm]
theorem flat_get (L : List α) (i r : Nat) (a : α) (h : L[i]? = some a) (hr : r < s) : (L.flatMap f)[i * s + r]? = (f a)[r]? := by
  induction L generalizing i with
  | nil => simp at h
  | cons x L ih =>
    rw [List.flatMap_cons]
    cases i with
    | zero =>
      simp at h; subst h
      rw [Nat.zero_mul, Nat.zero_add, List.getElem?_append_left (by rw [hs]; exact hr)]
    | succ i =>
      simp at h
      have := ih i h
      have e : (i + 1) * s + r = s + (i * s + r) := by rw [Nat.succ_mul]; omega
      rw [List.getElem?_append_right (by rw [hs, e]; omega), hs, e, Nat.add_sub_cancel_left]
      exact this
theorem flat_take (L : List α) (q : Nat) : (L.flatMap f).take (q * s) = (L.take q).flatMap f := by
  induction L generalizing q with
  | nil => simp
  | cons x L ih =>
    cases q with
    | zero => simp
    | succ q =>
      rw [List.take_succ_cons, List.flatMap_cons, List.flatMap_cons, List.take_append, hs]
      have e : (q + 1) * s - s = q * s := by rw [Nat.succ_mul]; omega
      rw [e, ih]
      rw [List.take_of_length_le (by rw [hs, Nat.succ_mul]; omega)]
theorem flat_drop (L : List α) (q : Nat) : (L.flatMap f).drop (q * s) = (L.drop q).flatMap f := by
  induction L generalizing q with
  | nil => simp
  | cons x L ih =>
    cases q with
    | zero => simp
    | succ q =>
      rw [List.drop_succ_cons, List.flatMap_cons, List.drop_append, hs]
      have e : (q + 1) * s - s = q * s := by rw [Nat.succ_mul]; omega
      rw [e, ih]
      rw [List.drop_eq_nil_of_le (by rw [hs, Nat.succ_mul]; omega)]; simp
theorem flat_set (L : List α) (i : Nat) (a : α) (hi : i < L.length) : (L.set i a).flatMap f = (L.flatMap f).take (i * s) ++ f a ++ (L.flatMap f).drop (i * s + s) := by
  have e : i * s + s = (i + 1) * s := by rw [Nat.succ_mul]
  rw [e, flat_take hs, flat_drop hs, List.set_eq_take_append_cons_drop, if_pos hi]
  simp
end
theorem set4 : ∀ (o : Nat) (xs : List Value) (a b c d : Value), o + 4 ≤ xs.length → ((((xs.set o a).set (o + 1) b).set (o + 2) c).set (o + 3) d) = xs.take o ++ [a, b, c, d] ++ xs.drop (o + 4)
  | 0, x0 :: x1 :: x2 :: x3 :: r, a, b, c, d, _ => by simp
  | 0, [], _, _, _, _, h => by simp at h
  | 0, [_], _, _, _, _, h => by simp at h
  | 0, [_, _], _, _, _, _, h => by simp at h
  | 0, [_, _, _], _, _, _, _, h => by simp at h
  | o + 1, [], _, _, _, _, h => by simp at h
  | o + 1, x :: r, a, b, c, d, h => by
    have := set4 o r a b c d (by simp at h; omega)
    have e2 : o + 1 + 1 = (o + 1) + 1 := rfl
    have e3 : o + 1 + 2 = (o + 2) + 1 := by omega
    have e4 : o + 1 + 3 = (o + 3) + 1 := by omega
    have e5 : o + 1 + 4 = (o + 4) + 1 := by omega
    rw [e3, e4, e5]
    simp only [List.set_cons_succ, List.take_succ_cons, List.drop_succ_cons, List.cons_append]
    rw [this]
theorem set5 : ∀ (o : Nat) (xs : List Value) (a b c d e : Value), o + 5 ≤ xs.length → (((((xs.set o a).set (o + 1) b).set (o + 2) c).set (o + 3) d).set (o + 4) e) = xs.take o ++ [a, b, c, d, e] ++ xs.drop (o + 5)
  | 0, x0 :: x1 :: x2 :: x3 :: x4 :: r, a, b, c, d, e, _ => by simp
  | 0, [], _, _, _, _, _, h => by simp at h
  | 0, [_], _, _, _, _, _, h => by simp at h
  | 0, [_, _], _, _, _, _, _, h => by simp at h
  | 0, [_, _, _], _, _, _, _, _, h => by simp at h
  | 0, [_, _, _, _], _, _, _, _, _, h => by simp at h
  | o + 1, [], _, _, _, _, _, h => by simp at h
  | o + 1, x :: r, a, b, c, d, e, h => by
    have := set5 o r a b c d e (by simp at h; omega)
    have e3 : o + 1 + 2 = (o + 2) + 1 := by omega
    have e4 : o + 1 + 3 = (o + 3) + 1 := by omega
    have e5 : o + 1 + 4 = (o + 4) + 1 := by omega
    have e6 : o + 1 + 5 = (o + 5) + 1 := by omega
    rw [e3, e4, e5, e6]
    simp only [List.set_cons_succ, List.take_succ_cons, List.drop_succ_cons, List.cons_append]
    rw [this]

/-! ### A row of the call's own: reads and writes -/
theorem setCell_at {w : World} {b : Nat} {cs : Array Value} {t : TypeId} {fr : Nat × Nat} (h : w.heap[b]? = some (.cells cs t fr)) (o : Nat) (v : Value) : (w.setCell ⟨b, o, none⟩ v).heap[b]? = some (.cells (cs.setIfInBounds o v) t fr) := by
  simp [World.setCell, Array.getElem?_modify, h]
theorem setCell_far {w : World} {b c : Nat} (h : c ≠ b) (o : Nat) (v : Value) : (w.setCell ⟨b, o, none⟩ v).heap[c]? = w.heap[c]? := by
  simp [World.setCell, Array.getElem?_modify, Ne.symm h]
section
variable {w : World} {base g n cap s : Nat} {t : TypeId} {xs : List Value}
theorem own_blk (h : w.ownsRow base t s (.slice (some ⟨g, 0, none⟩) n cap) n xs) : ∃ cur, w.heap[g]? = some (.cells cur t (0, 0)) ∧ base ≤ g ∧ n ≤ cap ∧ cap ≤ maxLen ∧ cur.size = cap * s ∧ cur.toList.take (n * s) = xs := by
  rcases h.2 with ⟨h1, _⟩ | ⟨g', cap', cur, hv, hb, hg, h1, h2, h3, h4⟩
  · cases h1
  · cases hv; exact ⟨cur, hg, hb, h1, h2, h3, h4⟩
theorem own_cell (h : w.ownsRow base t s (.slice (some ⟨g, 0, none⟩) n cap) n xs) {j : Nat} {u : Value} (hj : xs[j]? = some u) : w.cell? ⟨g, j, none⟩ = some u := by
  have := h.cells (g := g) rfl j u hj
  rwa [add0] at this
theorem own_frozen (h : w.ownsRow base t s (.slice (some ⟨g, 0, none⟩) n cap) n xs) (j : Nat) : w.frozen? ⟨g, j, none⟩ = false := by
  obtain ⟨cur, hg, _⟩ := own_blk h
  simp [World.frozen?, hg]
theorem own_set (h : w.ownsRow base t s (.slice (some ⟨g, 0, none⟩) n cap) n xs) (j : Nat) (u : Value) : (w.setCell ⟨g, j, none⟩ u).ownsRow base t s (.slice (some ⟨g, 0, none⟩) n cap) n (xs.set j u) := by
  obtain ⟨cur, hg, hb, h1, h2, h3, h4⟩ := own_blk h
  refine ⟨by rw [List.length_set]; exact h.1, .inr ⟨g, cap, cur.setIfInBounds j u, rfl, hb, setCell_at hg j u, h1, h2, by simpa using h3, ?_⟩⟩
  rw [← h4, Array.toList_setIfInBounds, List.take_set]
theorem own_same {w' : World} {v : Value} {n' : Nat} (h : w.ownsRow base t s v n' xs) (hk : ∀ b, v.ownBlock = some b → w'.heap[b]? = w.heap[b]?) : w'.ownsRow base t s v n' xs := by
  refine ⟨h.1, ?_⟩
  rcases h.2 with h1 | ⟨g, cap, cur, rfl, hb, hg, r⟩
  · exact .inl h1
  · exact .inr ⟨g, cap, cur, rfl, hb, (hk g rfl).trans hg, r⟩
end
end Go.Proofs.Ybulkdxeq
