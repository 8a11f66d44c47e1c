import Derived.Test.YbulkdxbkDoorKv
import Derived.Laws.CopyOwn
namespace Go.Proofs.YbulkdxbkDoor
open Go.RowKit
set_option linter.unusedVariables false
set_option linter.unusedSectionVars false

section
variable {a : Option Addr} {n c b o k : Nat}
theorem index41 (ha : 0 < n → a = some ⟨b, o, none⟩) (hk : k < n) (w : World) : (Instr.indexAt 41 (.slice a n c) (.int .i64 (k : Int))).run Ybad.prog w = .ok (.pointer (some ⟨b, o + k, none⟩)) w := by
  rw [ha (by omega)]
  by_cases h0 : k = 0
  · subst h0; simp [Instr.indexAt, run_underlying Ybad.underlying41, asIntOf, hk, Addr.add]
  · simp [Instr.indexAt, run_underlying Ybad.underlying41, asIntOf, hk, Addr.add, h0]
theorem index42 (ha : 0 < n → a = some ⟨b, o, none⟩) (hk : k < n) (w : World) : (Instr.indexAt 42 (.slice a n c) (.int .i64 (k : Int))).run Ybad.prog w = .ok (.pointer (some ⟨b, o + k * 2, none⟩)) w := by
  rw [ha (by omega)]
  by_cases h0 : k = 0
  · subst h0; simp [Instr.indexAt, run_underlying Ybad.underlying42, asIntOf, hk, Addr.add]
  · simp [Instr.indexAt, run_underlying Ybad.underlying42, asIntOf, hk, Addr.add, show ¬ k * 2 = 0 by omega]
end
theorem mod_letter (f n : Nat) (hn : 0 < n) : ∃ q : Nat, q = f % n ∧ q < n ∧ (f : Int) % (n : Int) = (q : Int) := ⟨f % n, rfl, Nat.mod_lt f hn, by omega⟩
theorem row_cell {w : World} {base g n cap : Nat} {L : List Nat} (h : w.ownsRow base 3 1 (.slice (some ⟨g, 0, none⟩) n cap) n (ints L)) {i x : Nat} (hi : L[i]? = some x) : w.cell? ⟨g, i, none⟩ = some (.int .i64 (x : Int)) ∧ w.frozen? ⟨g, i, none⟩ = false := ⟨own_cell h (ints_get hi), own_frozen h i⟩
/-- three rows of ints -/
structure L3 (w : World) (H n m : Nat) (wr : World) (C M F : List Nat) : Prop where
  c : wr.ownsRow H 3 1 (.slice (some ⟨H, 0, none⟩) n n) n (ints C)
  mm : wr.ownsRow H 3 1 (.slice (some ⟨H + 1, 0, none⟩) n n) n (ints M)
  f : wr.ownsRow H 3 1 (.slice (some ⟨H + 1 + 1, 0, none⟩) (m + 1) (m + 1)) (m + 1) (ints F)
  fr : Fr w wr []
  hw : w.heap.size ≤ H
section
variable {w wr : World} {H n m : Nat} {C M F : List Nat}
theorem far1 {w : World} {g n c b H i : Nat} {v : Value} (hb : (Value.slice (some ⟨g, 0, none⟩) n c).ownBlock = some b) (hne : g ≠ H) : (w.setCell ⟨H, i, none⟩ v).heap[b]? = w.heap[b]? := by
  have e : g = b := by cases hb; rfl
  subst e; exact setCell_far hne _ _
theorem L3.setC (h : L3 w H n m wr C M F) (i x : Nat) : L3 w H n m (wr.setCell ⟨H, i, none⟩ (.int .i64 (x : Int))) (C.set i x) M F :=
  ⟨own_seti h.c i x, own_same h.mm fun b hb => far1 hb (by omega), own_same h.f fun b hb => far1 hb (by omega), h.fr.set (.inr h.hw) _ _, h.hw⟩
theorem L3.setM (h : L3 w H n m wr C M F) (i x : Nat) : L3 w H n m (wr.setCell ⟨H + 1, i, none⟩ (.int .i64 (x : Int))) C (M.set i x) F :=
  ⟨own_same h.c fun b hb => far1 hb (by omega), own_seti h.mm i x, own_same h.f fun b hb => far1 hb (by omega), h.fr.set (.inr (by have := h.hw; omega)) _ _, h.hw⟩
theorem L3.setF (h : L3 w H n m wr C M F) (i x : Nat) : L3 w H n m (wr.setCell ⟨H + 1 + 1, i, none⟩ (.int .i64 (x : Int))) C M (F.set i x) :=
  ⟨own_same h.c fun b hb => far1 hb (by omega), own_same h.mm fun b hb => far1 hb (by omega), own_seti h.f i x, h.fr.set (.inr (by have := h.hw; omega)) _ _, h.hw⟩
end
theorem L3.start {w : World} {H n m : Nat} (hH : w.heap.size = H) {C1 C2 C3 : Array Value} (h1 : C1.toList = List.replicate n (.int .i64 0)) (h2 : C2.toList = List.replicate n (.int .i64 0)) (h3 : C3.toList = List.replicate (m + 1) (.int .i64 0)) (hn : n ≤ 65536) (hm : m ≤ 65536) :
    L3 w H n m (((w.alloc (.cells C1 3)).alloc (.cells C2 3)).alloc (.cells C3 3)) (List.replicate n 0) (List.replicate n 0) (List.replicate (m + 1) 0) := by
  subst hH
  have g1 := made_own (w := w) (E := 3) (B := w.heap.size) h1 (by omega) (Nat.le_refl _)
  have g2 := made_own (w := w.alloc (.cells C1 3)) (E := 3) (B := w.heap.size) h2 (by omega) (by simp)
  have g3 := made_own (w := (w.alloc (.cells C1 3)).alloc (.cells C2 3)) (E := 3) (B := w.heap.size) h3 (by omega) (by simp; omega)
  rw [ints_zero] at g1 g2 g3
  have s1 : (w.alloc (.cells C1 3)).heap.size = w.heap.size + 1 := by simp
  have s2 : ((w.alloc (.cells C1 3)).alloc (.cells C2 3)).heap.size = w.heap.size + 1 + 1 := by simp
  rw [s1] at g2
  rw [s2] at g3
  exact ⟨(g1.alloc _).alloc _, g2.alloc _, g3, (((Fr.refl w []).alloc _).alloc _).alloc _, Nat.le_refl _⟩
/-- copy onto a row of the call's own -/
theorem wpList_copyRow {w : World} {ops : Array Oper} {rest : List Oper} {o : Oper} {a : Act} {Q : Exit → Act → World → Prop} (hgd : o.guard = none) (d s : Operand)
    (ho : o.op = .call { callee := .builtin .copy, args := #[d, s], argTypes := #[44, 44] }) {B n g sc : Nat} {xs cs : List Value} {sp : Option Addr} (hd : a.eval d = .slice (some ⟨g, 0, none⟩) n n) (own : w.ownsRow B 3 1 (.slice (some ⟨g, 0, none⟩) n n) n xs)
    (hs : a.eval s = .slice sp n sc) (hl : cs.length = n) (hsrc : 0 < n → ∃ ad, sp = some ad ∧ ∀ j v, cs[j]? = some v → w.cell? (ad.add j) = some v) (h1 : ∀ v ∈ cs, v.oneCell' = true)
    (h : ∀ w', w'.ownsRow B 3 1 (.slice (some ⟨g, 0, none⟩) n n) n cs → Fr w w' [g] → wpList Ybad.prog ops Q rest (a.put o.dst (.int .i64 (n : Int))) w') : wpList Ybad.prog ops Q (o :: rest) a w := by
  have hsz : (Ybad.prog.info? 3).map (·.size) = some 1 := by kernel_rfl
  by_cases h0 : n = 0
  · subst h0
    have e1 : xs = [] := List.eq_nil_of_length_eq_zero (by rw [own.1])
    have e2 : cs = [] := List.eq_nil_of_length_eq_zero hl
    subst e1 e2
    exact wpList_copy_nothing hgd d s 44 44 ho 3 Ybad.underlying44 hsz _ _ _ _ _ _ hd hs rfl (h w own (Fr.refl _ _))
  · obtain ⟨ad, rfl, hc⟩ := hsrc (by omega)
    obtain ⟨cur, hg, hb, k1, k2, k3, k4⟩ := own_blk own
    refine wpList_copy_own hgd d s 44 44 ho 3 Ybad.underlying44 hsz g 0 n n ad n sc hd hs cur 3 hg cs (by rw [hl]; simp) hc (by omega) h1 ?_
    have e : cur.toList.take 0 ++ (cs ++ cur.toList.drop (0 + cs.length)) = cs := by
      rw [List.drop_of_length_le (by simp; omega)]; simp
    rw [e, hl]
    refine h _ ⟨by rw [hl, Nat.mul_one], .inr ⟨g, n, cs.toArray, rfl, hb, setRow_heap _ _ _ _ _ _ hg, Nat.le_refl _, k2, by simp [hl], by rw [Nat.mul_one]; exact List.take_of_length_le (by simp [hl])⟩⟩ ⟨rfl, rfl, rfl, by simp, fun c hc' hn => setRow_other _ _ _ _ (fun e => hn (by simp [e]))⟩
/-- the moves counted, by component -/
def cf (m : Nat) (E : List (Nat × Nat)) (k : Nat) : Nat := if k < m then (sucOf m E k).length else 0
theorem cf_nil (m k : Nat) : cf m [] k = 0 := by unfold cf sucOf; split <;> simp
theorem cf_zero_row (m : Nat) : (List.range (m + 1)).map (cf m []) = List.replicate (m + 1) 0 := List.eq_replicate_iff.2 ⟨by simp, fun b hb => by obtain ⟨k, _, rfl⟩ := List.mem_map.1 hb; exact cf_nil m k⟩
theorem cf_skip {m t : Nat} {E : List (Nat × Nat)} {e : Nat × Nat} (h : E[t]? = some e) (he : ne1 m e = none) : cf m (E.take (t + 1)) = cf m (E.take t) := by
  funext k; unfold cf; rw [sucOf_skip h he]
theorem cf_add {m t a b : Nat} {E : List (Nat × Nat)} {e : Nat × Nat} (h : E[t]? = some e) (he : ne1 m e = some (a, b)) (ha : a < m) : cf m (E.take (t + 1)) = fun k => if k = a then cf m (E.take t) a + 1 else cf m (E.take t) k := by
  funext k; unfold cf; rw [sucOf_add h he]
  by_cases hk : k = a
  · subst hk; simp [ha]
  · simp [hk]
theorem ne1_eq {m f u : Nat} (h : f % m = u % m) : ne1 m (f, u) = none := by simp [ne1, h]
theorem ne1_lt {m f u : Nat} (h : f % m < u % m) : ne1 m (f, u) = some (f % m, u % m) := by
  have h1 : ¬ f % m = u % m := by omega
  simp [ne1, h1]; omega
theorem ne1_gt {m f u : Nat} (h : u % m < f % m) : ne1 m (f, u) = some (u % m, f % m) := by
  have h1 : ¬ f % m = u % m := by omega
  simp [ne1, h1]; omega
theorem cf_le {m : Nat} {E : List (Nat × Nat)} (k : Nat) : cf m E k ≤ E.length := by
  unfold cf
  split
  · rename_i hk
    have h1 := pre_succ (sucs_at (E := E) hk)
    have h2 := pre_le (NL := sucs m E) (k + 1)
    have h3 := sucs_flat m E
    omega
  · omega
/-- the successors, as they are laid -/
def UOk (m : Nat) (E : List (Nat × Nat)) (t : Nat) (U : List Nat) : Prop := U.length = (sucs m E).flatten.length ∧ ∀ (k j x : Nat), k < m → (sucOf m (E.take t) k)[j]? = some x → U[pre (sucs m E) k + j]? = some x
theorem UOk.start (m : Nat) (E : List (Nat × Nat)) : UOk m E 0 (List.replicate (sucs m E).flatten.length 0) := ⟨by simp, fun k j x _ h => by simp [sucOf] at h⟩
theorem sucOf_le (m : Nat) (E : List (Nat × Nat)) (t k : Nat) : (sucOf m (E.take t) k).length ≤ (sucOf m E k).length := by
  obtain ⟨r, hr⟩ := sucOf_pre (m := m) (E := E) t k
  rw [hr, List.length_append]; omega
section
variable {m t a b : Nat} {E : List (Nat × Nat)} {e : Nat × Nat} {U : List Nat}
theorem suc_idx (h : E[t]? = some e) (he : ne1 m e = some (a, b)) (ha : a < m) : (sucOf m (E.take t) a).length < (sucOf m E a).length ∧ pre (sucs m E) a + (sucOf m (E.take t) a).length < (sucs m E).flatten.length := by
  have h1 := sucOf_le m E (t + 1) a
  rw [sucOf_add h he, if_pos rfl, List.length_append] at h1
  simp at h1
  have h2 := pre_succ (sucs_at (E := E) ha)
  have h3 := pre_le (NL := sucs m E) (a + 1)
  omega
theorem UOk.step (hU : UOk m E t U) (h : E[t]? = some e) (he : ne1 m e = some (a, b)) (ha : a < m) : UOk m E (t + 1) (U.set (pre (sucs m E) a + (sucOf m (E.take t) a).length) b) := by
  obtain ⟨i1, i2⟩ := suc_idx h he ha
  refine ⟨by simp [hU.1], fun k j x hk hx => ?_⟩
  rw [sucOf_add h he] at hx
  rw [List.getElem?_set]
  have old : (sucOf m (E.take t) k)[j]? = some x → (if pre (sucs m E) a + (sucOf m (E.take t) a).length = pre (sucs m E) k + j then if pre (sucs m E) a + (sucOf m (E.take t) a).length < U.length then some b else none else U[pre (sucs m E) k + j]?) = some x := fun hx => by
    have hj := (List.getElem?_eq_some_iff.1 hx).1
    have hj2 := sucOf_le m E t k
    rw [if_neg fun e5 => by
      have := pre_inj (sucs_at (E := E) ha) (sucs_at (E := E) hk) i1 (show j < _ by omega) e5
      obtain ⟨rfl, rfl⟩ := this
      omega]
    exact hU.2 k j x hk hx
  by_cases hka : k = a
  · subst hka
    rw [if_pos rfl] at hx
    rcases Nat.lt_or_ge j (sucOf m (E.take t) k).length with hj | hj
    · rw [List.getElem?_append_left hj] at hx; exact old hx
    · rw [List.getElem?_append_right hj] at hx
      have hj3 : j - (sucOf m (E.take t) k).length = 0 := by
        have := (List.getElem?_eq_some_iff.1 hx).1; simp at this; omega
      rw [hj3] at hx
      simp at hx
      have hj4 : j = (sucOf m (E.take t) k).length := by omega
      subst hj4
      rw [if_pos rfl, if_pos (by rw [hU.1]; exact i2), hx]
  · rw [if_neg hka] at hx; exact old hx
theorem UOk.skip (hU : UOk m E t U) (h : E[t]? = some e) (he : ne1 m e = none) : UOk m E (t + 1) U :=
  ⟨hU.1, fun k j x hk hx => hU.2 k j x hk (by rw [sucOf_skip h he] at hx; exact hx)⟩
theorem UOk.done (hU : UOk m E t U) (ht : E.length ≤ t) : U = (sucs m E).flatten := by
  apply List.ext_getElem?
  intro i
  by_cases hi : i < (sucs m E).flatten.length
  · obtain ⟨k, L, j, h1, h2, h3⟩ := pre_loc (sucs m E) i hi
    have hk : k < m := by have := (List.getElem?_eq_some_iff.1 h1).1; rwa [sucs_len] at this
    have hL : L = sucOf m E k := by rw [sucs_at hk] at h1; cases h1; rfl
    subst hL
    have hx : (sucOf m E k)[j]? = some ((sucOf m E k)[j]) := List.getElem?_eq_getElem h2
    rw [h3, hU.2 k j _ hk (by rw [List.take_of_length_le ht]; exact hx), pre_get h1 hx]
  · rw [List.getElem?_eq_none (by rw [hU.1]; omega), List.getElem?_eq_none (by omega)]
end
theorem cf_at {m k : Nat} {E : List (Nat × Nat)} (hk : k < m) : cf m E k = (sucOf m E k).length := by simp [cf, hk]
end Go.Proofs.YbulkdxbkDoor
