import Derived.Test.YbulkdxbkK1
namespace Go.Proofs.Ybulkdxbk
open Go.RowKit
set_option linter.unusedVariables false

/-! ### What is read -/
def NatsAt (w : World) (b o : Nat) (L : List Nat) : Prop := ∀ (i x : Nat), L[i]? = some x → w.cell? ⟨b, o + i, none⟩ = some (.int .i64 (x : Int))
def MovesAt (w : World) (b o : Nat) (L : List (Nat × Nat)) : Prop := ∀ (i : Nat) (m : Nat × Nat), L[i]? = some m → w.cell? ⟨b, o + i * 2, none⟩ = some (.int .i64 (m.1 : Int)) ∧ w.cell? ⟨b, o + i * 2 + 1, none⟩ = some (.int .i64 (m.2 : Int))
def IsNats (w : World) (v : Value) (L : List Nat) : Prop :=
  ∃ (a : Option Addr) (c b o : Nat), v = .slice a L.length c ∧ (0 < L.length → a = some ⟨b, o, none⟩) ∧ (a = none → c = 0) ∧ L.length ≤ c ∧ NatsAt w b o L
def IsMoves (w : World) (v : Value) (L : List (Nat × Nat)) : Prop :=
  ∃ (a : Option Addr) (c b o : Nat), v = .slice a L.length c ∧ (0 < L.length → a = some ⟨b, o, none⟩) ∧ (a = none → c = 0) ∧ L.length ≤ c ∧ MovesAt w b o L
theorem NatsAt.same {w w' : World} {b o : Nat} {L : List Nat} (h : NatsAt w b o L) (hk : w'.heap[b]? = w.heap[b]?) : NatsAt w' b o L := fun i x hx => cell_of (h i x hx) hk
theorem MovesAt.same {w w' : World} {b o : Nat} {L : List (Nat × Nat)} (h : MovesAt w b o L) (hk : w'.heap[b]? = w.heap[b]?) : MovesAt w' b o L := fun i x hx => ⟨cell_of (h i x hx).1 hk, cell_of (h i x hx).2 hk⟩
theorem NatsAt.nil (w : World) (b o : Nat) : NatsAt w b o [] := fun i x h => by simp at h
theorem MovesAt.nil (w : World) (b o : Nat) : MovesAt w b o [] := fun i x h => by simp at h
theorem NatsAt.lt {w : World} {b o : Nat} {L : List Nat} (h : NatsAt w b o L) (hl : 0 < L.length) : b < w.heap.size := cell_lt (h 0 _ (List.getElem?_eq_getElem hl))
theorem MovesAt.lt {w : World} {b o : Nat} {L : List (Nat × Nat)} (h : MovesAt w b o L) (hl : 0 < L.length) : b < w.heap.size := cell_lt (h 0 _ (List.getElem?_eq_getElem hl)).1
theorem IsNats.fr {w w' : World} {S : List Nat} {v : Value} {L : List Nat} (h : IsNats w v L) (hf : Fr w w' S) (hb : ∀ b, v.ownBlock = some b → b ∉ S) : IsNats w' v L := by
  obtain ⟨a, c, b, o, rfl, h1, h2, h3, h4⟩ := h
  rcases Nat.eq_zero_or_pos L.length with h0 | h0
  · obtain rfl := List.eq_nil_of_length_eq_zero h0
    exact ⟨a, c, b, o, rfl, h1, h2, h3, NatsAt.nil _ _ _⟩
  · exact ⟨a, c, b, o, rfl, h1, h2, h3, h4.same (hf.same b (h4.lt h0) (hb b (by rw [h1 h0]; rfl)))⟩
theorem IsNats.grown {w w' : World} {v : Value} {L : List Nat} (h : IsNats w v L) (hk : ∀ c, c < w.heap.size → w'.heap[c]? = w.heap[c]?) : IsNats w' v L := by
  obtain ⟨a, c, b, o, rfl, h1, h2, h3, h4⟩ := h
  rcases Nat.eq_zero_or_pos L.length with h0 | h0
  · obtain rfl := List.eq_nil_of_length_eq_zero h0
    exact ⟨a, c, b, o, rfl, h1, h2, h3, NatsAt.nil _ _ _⟩
  · exact ⟨a, c, b, o, rfl, h1, h2, h3, h4.same (hk b (h4.lt h0))⟩
theorem IsMoves.grown {w w' : World} {v : Value} {L : List (Nat × Nat)} (h : IsMoves w v L) (hk : ∀ c, c < w.heap.size → w'.heap[c]? = w.heap[c]?) : IsMoves w' v L := by
  obtain ⟨a, c, b, o, rfl, h1, h2, h3, h4⟩ := h
  rcases Nat.eq_zero_or_pos L.length with h0 | h0
  · obtain rfl := List.eq_nil_of_length_eq_zero h0
    exact ⟨a, c, b, o, rfl, h1, h2, h3, MovesAt.nil _ _ _⟩
  · exact ⟨a, c, b, o, rfl, h1, h2, h3, h4.same (hk b (h4.lt h0))⟩
theorem own_nats {w : World} {B : Nat} {v : Value} {L : List Nat} (h : w.ownsRow B 3 1 v L.length (ints L)) : IsNats w v L := by
  rcases h.2 with ⟨rfl, h2⟩ | ⟨g, cap, cur, rfl, hb, hg, h1, h2, h3, h4⟩
  · obtain rfl := List.eq_nil_of_length_eq_zero h2
    exact ⟨none, 0, 0, 0, rfl, fun h => by simp at h, fun _ => rfl, Nat.le_refl _, NatsAt.nil _ _ _⟩
  · refine ⟨_, cap, g, 0, rfl, fun _ => rfl, (fun h => by cases h), h1, fun i x hx => ?_⟩
    rw [Nat.zero_add]; exact own_cell h (ints_get hx)

structure Good (n : Nat) (MV : List (List (Nat × Nat))) (NL : List (List Nat)) : Prop where
  n1 : 0 < n
  n2 : n ≤ 256
  ml : MV.length = n
  nl : NL.length = n
  mlen : ∀ (q : Nat) L, MV[q]? = some L → L.length ≤ 1024
  mto : ∀ (q : Nat) L m, MV[q]? = some L → m ∈ L → m.2 < n
  msort : ∀ (q : Nat) L, MV[q]? = some L → L.Pairwise (fun a b => a.1 < b.1 ∨ (a.1 = b.1 ∧ a.2 < b.2))
  nto : ∀ (q : Nat) L r, NL[q]? = some L → r ∈ L → q < r ∧ r < n
  nnd : ∀ (q : Nat) L, NL[q]? = some L → L.Nodup
theorem Good.nlen {n : Nat} {MV : List (List (Nat × Nat))} {NL : List (List Nat)} (h : Good n MV NL) {q : Nat} {L : List Nat} (hq : NL[q]? = some L) : L.length ≤ n :=
  len_le_of_nodup n L (h.nnd q L hq) fun x hx => (h.nto q L x hq hx).2
def Aut (w : World) (ab n ns st : Nat) (MV : List (List (Nat × Nat))) (NL : List (List Nat)) : Prop :=
  ∃ sb yb fb mb nb, w.heap[ab]? = some (.cells #[.slice (some ⟨sb, 0, none⟩) n n, .slice (some ⟨yb, 0, none⟩) ns ns, .int .i64 (st : Int), .slice (some ⟨fb, 0, none⟩) n n, .slice (some ⟨mb, 0, none⟩) n n, .slice (some ⟨nb, 0, none⟩) n n] 34 (0, 0)) ∧
    (∀ i, i < n → w.cell? ⟨fb, i, none⟩ = some (.bool false)) ∧ (∀ (q : Nat) L, MV[q]? = some L → ∃ v, w.cell? ⟨mb, q, none⟩ = some v ∧ IsMoves w v L) ∧ (∀ (q : Nat) L, NL[q]? = some L → ∃ v, w.cell? ⟨nb, q, none⟩ = some v ∧ IsNats w v L)
theorem Aut.grown {w w' : World} {ab n ns st : Nat} {MV : List (List (Nat × Nat))} {NL : List (List Nat)} (h : Aut w ab n ns st MV NL) (hk : ∀ c, c < w.heap.size → w'.heap[c]? = w.heap[c]?) : Aut w' ab n ns st MV NL := by
  obtain ⟨sb, yb, fb, mb, nb, h1, h2, h3, h4⟩ := h
  refine ⟨sb, yb, fb, mb, nb, (hk ab (blk_lt h1)).trans h1, fun i hi => cell_of (h2 i hi) (hk _ (cell_lt (h2 i hi))), fun q L hq => ?_, fun q L hq => ?_⟩
  · obtain ⟨v, hc, hv⟩ := h3 q L hq; exact ⟨v, cell_of hc (hk _ (cell_lt hc)), hv.grown hk⟩
  · obtain ⟨v, hc, hv⟩ := h4 q L hq; exact ⟨v, cell_of hc (hk _ (cell_lt hc)), hv.grown hk⟩
def pre (NL : List (List Nat)) (i : Nat) : Nat := (NL.take i).flatten.length
/-- the condensation: each state a component of its own -/
def Cond (w : World) (gb n : Nat) (NL : List (List Nat)) : Prop :=
  ∃ (cb : Nat) (so : Option Addr) (sc sb fb fc : Nat), w.heap[gb]? = some (.cells #[.slice (some ⟨cb, 0, none⟩) n (n + 1), .slice (some ⟨cb, 0, none⟩) n (n + 1), .slice (some ⟨cb, 0, none⟩) (n + 1) (n + 1), .slice so NL.flatten.length sc, .slice (some ⟨fb, 0, none⟩) (n + 1) fc] 64 (0, 0)) ∧
    NatsAt w cb 0 (List.range (n + 1)) ∧ (0 < NL.flatten.length → so = some ⟨sb, 0, none⟩) ∧ (so = none → sc = 0) ∧ NL.flatten.length ≤ sc ∧ NatsAt w sb 0 NL.flatten ∧ (∀ i, i ≤ n → w.cell? ⟨fb, i, none⟩ = some (.int .i64 (pre NL i : Int)))
theorem Cond.grown {w w' : World} {gb n : Nat} {NL : List (List Nat)} (h : Cond w gb n NL) (hk : ∀ c, c < w.heap.size → w'.heap[c]? = w.heap[c]?) : Cond w' gb n NL := by
  obtain ⟨cb, so, sc, sb, fb, fc, h1, h2, h3, h4, h5, h6, h7⟩ := h
  refine ⟨cb, so, sc, sb, fb, fc, (hk gb (blk_lt h1)).trans h1, h2.same (hk cb (h2.lt (by simp))), h3, h4, h5, fun i x hx => ?_, fun i hi => cell_of (h7 i hi) (hk _ (cell_lt (h7 i hi)))⟩
  exact cell_of (h6 i x hx) (hk _ (cell_lt (h6 i x hx)))
theorem pre_succ {NL : List (List Nat)} {k : Nat} {L : List Nat} (h : NL[k]? = some L) : pre NL (k + 1) = pre NL k + L.length := by
  unfold pre
  obtain ⟨hk, rfl⟩ := List.getElem?_eq_some_iff.1 h
  rw [List.take_succ_eq_append_getElem hk, List.flatten_append, List.length_append, List.flatten_singleton]
theorem pre_le {NL : List (List Nat)} (k : Nat) : pre NL k ≤ NL.flatten.length := by
  unfold pre
  conv => rhs; rw [← List.take_append_drop k NL]
  rw [List.flatten_append, List.length_append]; omega
theorem pre_get {NL : List (List Nat)} {k : Nat} {L : List Nat} (h : NL[k]? = some L) {i x : Nat} (hx : L[i]? = some x) : NL.flatten[pre NL k + i]? = some x := by
  obtain ⟨hk, rfl⟩ := List.getElem?_eq_some_iff.1 h
  have e : NL = NL.take k ++ NL[k] :: NL.drop (k + 1) := by rw [← List.drop_eq_getElem_cons hk, List.take_append_drop]
  have hl := (List.getElem?_eq_some_iff.1 hx).1
  have e2 : NL.flatten = (NL.take k).flatten ++ (NL[k] ++ (NL.drop (k + 1)).flatten) := by
    conv => lhs; rw [e]
    rw [List.flatten_append, List.flatten_cons]
  unfold pre
  rw [e2, List.getElem?_append_right (by omega), Nat.add_sub_cancel_left, List.getElem?_append_left hl]
  exact hx

/-! ### Small functions -/
theorem len_any (w : World) (gb n c : Nat) (x : Addr) (hn : n ≤ 256) (c2 : w.cell? ⟨gb, 2, none⟩ = some (.slice (some x) (n + 1) c)) :
    Calls Yba.prog 12 #[.pointer (some ⟨gb, 0, none⟩)] w fun e w' => e = .returned (.int .i64 (n : Int)) ∧ w' = w := by
  go_enter Yba.func12, Yba.ntmps12
  go_wp2_with fail
  go_ret
  exact ⟨by go_num, rfl⟩
theorem lenOver_any (w : World) (a : Option Addr) (n c : Nat) (hn : n ≤ 65536) :
    Calls Yba.prog 23 #[.slice a n c] w fun e w' => e = .returned (.bool (decide (0 < n))) ∧ w' = w := by
  by_cases h : 0 < n
  · have hd : decide ((0 : Int) < (n : Int)) = true := by simp; exact h
    go_enter Yba.func23, Yba.ntmps23
    go_wp2_with fail
    go_ret
    exact ⟨by simp [h], rfl⟩
  · have hd : decide ((0 : Int) < (n : Int)) = false := by simp; omega
    go_enter Yba.func23, Yba.ntmps23
    go_wp2_with fail
    go_ret
    exact ⟨by simp [h], rfl⟩
end Go.Proofs.Ybulkdxbk
