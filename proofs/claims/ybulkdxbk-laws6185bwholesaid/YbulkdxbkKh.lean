import Derived.Test.YbulkdxbkKg
namespace Go.Proofs.Ybulkdxbk
open Go.RowKit
set_option linter.unusedVariables false
set_option linter.unusedSectionVars false

/-! ### Rows of moves -/
def mcells (L : List (Nat × Nat)) : List Value := L.flatMap fun m => [.int .i64 (m.1 : Int), .int .i64 (m.2 : Int)]
theorem mcells_len (L : List (Nat × Nat)) : (mcells L).length = L.length * 2 := by
  induction L with
  | nil => rfl
  | cons a r ih => simp only [mcells, List.flatMap_cons, List.length_append, List.length_cons, List.length_nil] at *; omega
theorem mcells_app (L M : List (Nat × Nat)) : mcells (L ++ M) = mcells L ++ mcells M := by simp [mcells]
theorem mcells_get {L : List (Nat × Nat)} {i : Nat} {m : Nat × Nat} (h : L[i]? = some m) : (mcells L)[i * 2]? = some (.int .i64 (m.1 : Int)) ∧ (mcells L)[i * 2 + 1]? = some (.int .i64 (m.2 : Int)) := by
  induction L generalizing i with
  | nil => simp at h
  | cons a r ih =>
    have e : mcells (a :: r) = .int .i64 (a.1 : Int) :: .int .i64 (a.2 : Int) :: mcells r := by simp [mcells]
    rw [e]
    cases i with
    | zero => simp at h; subst h; simp
    | succ i =>
      simp at h
      have := ih h
      rw [show (i + 1) * 2 = i * 2 + 1 + 1 by omega]
      simpa using this
theorem own_moves {w : World} {B : Nat} {v : Value} {L : List (Nat × Nat)} (h : w.ownsRow B 56 2 v L.length (mcells L)) : IsMoves w v L := by
  rcases h.2 with ⟨rfl, h2⟩ | ⟨g, cap, cur, rfl, hb, hg, h1, h2, h3, h4⟩
  · obtain rfl := List.eq_nil_of_length_eq_zero h2
    exact ⟨none, 0, 0, 0, rfl, fun h => by simp at h, fun _ => rfl, Nat.le_refl _, MovesAt.nil _ _ _⟩
  · refine ⟨_, cap, g, 0, rfl, fun _ => rfl, (fun h => by cases h), h1, fun i m hm => ?_⟩
    obtain ⟨e1, e2⟩ := mcells_get hm
    rw [Nat.zero_add]
    exact ⟨own_cell h e1, own_cell h e2⟩
theorem IsMoves.fr {w w' : World} {S : List Nat} {v : Value} {L : List (Nat × Nat)} (h : IsMoves w v L) (hf : Fr w w' S) (hb : ∀ b, v.ownBlock = some b → b ∉ S) : IsMoves w' v L := by
  obtain ⟨a, c, b, o, rfl, h1, h2, h3, h4⟩ := h
  rcases Nat.eq_zero_or_pos L.length with h0 | h0
  · obtain rfl := List.eq_nil_of_length_eq_zero h0
    exact ⟨a, c, b, o, rfl, h1, h2, h3, MovesAt.nil _ _ _⟩
  · exact ⟨a, c, b, o, rfl, h1, h2, h3, h4.same (hf.same b (h4.lt h0) (hb b (by rw [h1 h0]; rfl)))⟩
/-- one move, laid by the walk in a block of its own -/
theorem wpList_app2 {ops : Array Oper} {rest : List Oper} {o : Oper} {a : Act} {Q : Exit → Act → World → Prop} (hgd : o.guard = none) (s x : Operand)
    (ho : o.op = .call { callee := .builtin .append, args := #[s, x], argTypes := #[54, 54] }) (w0 : World) (k l : Int) {B n : Nat} {v : Value} {xs : List Value} (hs : a.eval s = v) (own : w0.ownsRow B 56 2 v n xs)
    (hx : a.eval x = .slice (some ⟨w0.heap.size, 0, none⟩) 1 1) (hn : n < 1099511627776) (hB : B ≤ w0.heap.size)
    (h : ∀ g cap w', w'.ownsRow B 56 2 (.slice (some ⟨g, 0, none⟩) (n + 1) cap) (n + 1) (xs ++ [.int .i64 k, .int .i64 l]) → Fr w0 w' (blks v) → Moved w0 v (.slice (some ⟨g, 0, none⟩) (n + 1) cap) → wpList Yba.prog ops Q rest (a.put o.dst (.slice (some ⟨g, 0, none⟩) (n + 1) cap)) w') :
    wpList Yba.prog ops Q (o :: rest) a (w0.alloc (.cells #[.int .i64 k, .int .i64 l] 56)) := by
  obtain ⟨i3, hi3, hz0, hz1, hz2⟩ := info_parts info56
  refine wpList_append_lies _ hgd s x 54 ho B 56 i3 (.agg #[.int .i64 0, .int .i64 0]) 2 16 Yba.underlying54 hi3 hz0 hz1 hz2 rfl (by decide) v n xs hs (own.alloc _) ⟨w0.heap.size, 0, none⟩ 1 1 [.int .i64 k, .int .i64 l] hx rfl
    (World.news_of_block (heap_new w0 _)) (by intro u hu; simp at hu; rcases hu with rfl | rfl <;> rfl) (by omega) (by unfold maxLen; omega) (by omega) (by simp; omega) _ rfl ?_
  intro g cap w' h1 h2 h3 h4
  refine h g cap w' h1 (((Fr.refl w0 _).alloc _).grown h2 fun b hb => .inl (mem_blks.2 hb)) fun b hb => ?_
  rcases h3 with e | e
  · exact .inl (by rw [e]; exact hb)
  · cases hb; exact .inr (by rw [e]; simp)

/-! ### Products -/
theorem prod_le {a b A B : Nat} (h1 : a ≤ A) (h2 : b ≤ B) : a * b ≤ A * B := Nat.mul_le_mul h1 h2
theorem idx_lt {q k s n t : Nat} (hq : q < n) (hs : s < k) (ht : t < n) : (q * k + s) * n + t < n * k * n := by
  have h1 : q * k + s + 1 ≤ n * k := by
    have : (q + 1) * k ≤ n * k := Nat.mul_le_mul_right k hq
    rw [Nat.succ_mul] at this
    omega
  have h2 : (q * k + s + 1) * n ≤ n * k * n := Nat.mul_le_mul_right n h1
  rw [Nat.succ_mul] at h2
  omega
theorem idx2_lt {q n t : Nat} (hq : q < n) (ht : t < n) : q * n + t < n * n := by
  have : (q + 1) * n ≤ n * n := Nat.mul_le_mul_right n hq
  rw [Nat.succ_mul] at this
  omega
theorem index30x {b n c k : Nat} {x : Int} (hx : x = (k : Int)) (hk : k < n) (w : World) : (Instr.indexAt 30 (.slice (some ⟨b, 0, none⟩) n c) (.int .i64 x)).run Yba.prog w = .ok (.pointer (some ⟨b, k, none⟩)) w := by subst hx; exact index30 hk w
/-- moves that came in -/
def In3 (w : World) (b o : Nat) (E : List (Nat × Nat × Nat)) : Prop := ∀ (i : Nat) e, E[i]? = some e → w.cell? ⟨b, o + i * 3, none⟩ = some (.int .u16 (e.1 : Int)) ∧ w.cell? ⟨b, o + i * 3 + 1, none⟩ = some (.int .u16 (e.2.1 : Int)) ∧ w.cell? ⟨b, o + i * 3 + 2, none⟩ = some (.int .u16 (e.2.2 : Int))
def In2 (w : World) (b o : Nat) (E : List (Nat × Nat)) : Prop := ∀ (i : Nat) e, E[i]? = some e → w.cell? ⟨b, o + i * 2, none⟩ = some (.int .u16 (e.1 : Int)) ∧ w.cell? ⟨b, o + i * 2 + 1, none⟩ = some (.int .u16 (e.2 : Int))
end Go.Proofs.Ybulkdxbk
