import Derived.Test.YbulkdxbkDoorK2
namespace Go.Proofs.YbulkdxbkDoor
open Go.RowKit
set_option linter.unusedVariables false
set_option linter.unusedSectionVars false

abbrev cloBlk (gb mk n : Nat) (nf : Bool) (sv rv x5 x6 x7 x8 x9 : Value) : Obj := .cells #[.pointer (some ⟨gb, 0, none⟩), .bool nf, .slice (some ⟨mk, 0, none⟩) n n, sv, rv, x5, x6, x7, x8, x9] 63 (0, 0)
theorem marks_push (out : List Nat) (k : Nat) : (fun i => if i = k then true else decide (i ∈ out)) = fun i => decide (i ∈ out ++ [k]) := by
  funext i
  by_cases h : i = k <;> simp [h]
theorem marks_pop {out : List Nat} {t k : Nat} (hd : out.Nodup) (h : out[t]? = some k) : (fun i => if i = k then false else decide (i ∈ out.drop t)) = fun i => decide (i ∈ out.drop (t + 1)) := by
  obtain ⟨ht, rfl⟩ := List.getElem?_eq_some_iff.1 h
  have e : out.drop t = out[t] :: out.drop (t + 1) := List.drop_eq_getElem_cons ht
  have hn : out[t] ∉ out.drop (t + 1) := by
    have : (out.drop t).Nodup := hd.sublist (List.drop_sublist t out)
    rw [e, List.nodup_cons] at this
    exact this.1
  funext i
  by_cases h : i = out[t]
  · subst h; simp [hn]
  · rw [if_neg h]
    have : i ∈ out.drop t ↔ i ∈ out.drop (t + 1) := by
      constructor
      · intro hm; rw [e] at hm; rcases List.mem_cons.1 hm with h1 | h1
        · exact absurd h1 h
        · exact h1
      · intro hm; rw [e]; exact List.mem_cons_of_mem _ hm
    exact decide_eq_decide.2 this
section
variable {wC w wr : World} {K cb gb mk n : Nat} {nf : Bool} {v0 sv x5 x6 x7 x8 x9 : Value} {ro : Option Addr} {rc : Nat} {out : List Nat} {p : Nat → Bool}
/-- where the closer's blocks lie -/
structure Lie (wC w : World) (K cb mk : Nat) (v0 : Value) : Prop where
  c1 : wC.heap.size ≤ cb
  m1 : wC.heap.size ≤ mk
  c2 : cb < K
  m2 : mk < K
  ne : cb ≠ mk
  kw : K ≤ w.heap.size
  low : ∀ c, c < wC.heap.size → w.heap[c]? = wC.heap[c]?
  vb : ∀ b, v0.ownBlock = some b → K ≤ b
structure RS (wC w : World) (K cb gb mk n : Nat) (nf : Bool) (v0 sv x5 x6 x7 x8 x9 : Value) (wr : World) (ro : Option Addr) (rc : Nat) (out : List Nat) (p : Nat → Bool) : Prop where
  lie : Lie wC w K cb mk v0
  blk : wr.heap[cb]? = some (cloBlk gb mk n nf sv (.slice ro out.length rc) x5 x6 x7 x8 x9)
  mark : wr.ownsRow wC.heap.size 4 1 (.slice (some ⟨mk, 0, none⟩) n n) n (bools n p)
  own : wr.ownsRow K 3 1 (.slice ro out.length rc) out.length (ints out)
  fr : Fr w wr (cb :: mk :: blks v0)
  mv : Moved w v0 (.slice ro out.length rc)
theorem RS.low (h : RS wC w K cb gb mk n nf v0 sv x5 x6 x7 x8 x9 wr ro rc out p) : ∀ c, c < wC.heap.size → wr.heap[c]? = wC.heap[c]? := fun c hc => by
  have l := h.lie
  have hk := l.kw
  have h1 := l.c1
  have h2 := l.c2
  refine (h.fr.same c (by omega) ?_).trans (l.low c hc)
  simp only [List.mem_cons, not_or]
  have h3 := l.m1
  refine ⟨by omega, by omega, fun hm => ?_⟩
  have := l.vb c (mem_blks.1 hm)
  omega
theorem RS.drewN (h : RS wC w K cb gb mk n nf v0 sv x5 x6 x7 x8 x9 wr ro rc out p) (q : Nat) : RS wC w K cb gb mk n nf v0 sv x5 x6 x7 x8 x9 (wr.drewN q) ro rc out p :=
  ⟨h.lie, h.blk, own_same h.mark fun _ _ => rfl, own_same h.own fun _ _ => rfl, h.fr.drewN q, h.mv⟩
theorem RS.cells (h : RS wC w K cb gb mk n nf v0 sv x5 x6 x7 x8 x9 wr ro rc out p) :
    wr.cell? ⟨cb, 0, none⟩ = some (.pointer (some ⟨gb, 0, none⟩)) ∧ wr.cell? ⟨cb, 2, none⟩ = some (.slice (some ⟨mk, 0, none⟩) n n) ∧ wr.cell? ⟨cb, 3, none⟩ = some sv ∧ wr.cell? ⟨cb, 4, none⟩ = some (.slice ro out.length rc) ∧ wr.frozen? ⟨cb, 3, none⟩ = false ∧ wr.frozen? ⟨cb, 4, none⟩ = false := by
  have := h.blk
  refine ⟨?_, ?_, ?_, ?_, ?_, ?_⟩ <;> simp [World.cell?, World.frozen?, this]
theorem RS.at (h : RS wC w K cb gb mk n nf v0 sv x5 x6 x7 x8 x9 wr ro rc out p) {k : Nat} (hk : k < n) : wr.cell? ⟨mk, k, none⟩ = some (.bool (p k)) ∧ wr.frozen? ⟨mk, k, none⟩ = false :=
  ⟨own_cell h.mark (bools_get hk), own_frozen h.mark k⟩
theorem RS.form (h : RS wC w K cb gb mk n nf v0 sv x5 x6 x7 x8 x9 wr ro rc out p) : ∃ g, (0 < out.length → ro = some ⟨g, 0, none⟩) ∧ (ro = none → out.length = 0 ∧ rc = 0) ∧ ∀ (i k : Nat), out[i]? = some k → wr.cell? ⟨g, i, none⟩ = some (.int .i64 (k : Int)) := by
  obtain ⟨vo, cap, g, e, h1, h2, h3⟩ := own_form h.own
  cases e
  refine ⟨g, h1, fun h => ⟨?_, h3 h⟩, fun i k hk => ?_⟩
  · rcases Nat.eq_zero_or_pos out.length with h0 | h0
    · exact h0
    · rw [h1 h0] at h; cases h
  · have hl := (List.getElem?_eq_some_iff.1 hk).1
    have e := h1 (by omega)
    subst e
    exact own_cell h.own (ints_get hk)
/-- a mark turned -/
theorem RS.flip (h : RS wC w K cb gb mk n nf v0 sv x5 x6 x7 x8 x9 wr ro rc out p) (k : Nat) (b : Bool) :
    RS wC w K cb gb mk n nf v0 sv x5 x6 x7 x8 x9 (wr.setCell ⟨mk, k, none⟩ (.bool b)) ro rc out (fun i => if i = k then b else p i) := by
  have l := h.lie
  have hne := l.ne
  refine ⟨l, (setCell_far hne _ _).trans h.blk, ?_, own_same h.own fun b' hb => setCell_far (fun e => ?_) _ _, h.fr.set (.inl (by simp)) _ _, h.mv⟩
  · have := own_set h.mark k (.bool b)
    rwa [bools_set] at this
  · subst e
    have := (h.own.lt b' hb).1
    have := l.m2
    omega
/-- one more reached -/
theorem RS.push (h : RS wC w K cb gb mk n nf v0 sv x5 x6 x7 x8 x9 wr ro rc out p) {k g cap : Nat} {w2 : World}
    (ho : w2.ownsRow K 3 1 (.slice (some ⟨g, 0, none⟩) (out.length + 1) cap) (out.length + 1) (ints out ++ [.int .i64 (k : Int)])) (hf : Fr wr w2 (blks (.slice ro out.length rc))) (hm : Moved wr (.slice ro out.length rc) (.slice (some ⟨g, 0, none⟩) (out.length + 1) cap)) :
    RS wC w K cb gb mk n nf v0 sv x5 x6 x7 x8 x9 (w2.setCell ⟨cb, 4, none⟩ (.slice (some ⟨g, 0, none⟩) (out.length + 1) cap)) (some ⟨g, 0, none⟩) cap (out ++ [k]) p := by
  have l := h.lie
  have hne := l.ne
  have lc := l.c2
  have lm := l.m2
  have hfar : ∀ c, c < K → c ∉ blks (.slice ro out.length rc) := fun c hc hmem => by
    have := (h.own.lt c (mem_blks.1 hmem)).1; omega
  have hg := (ho.lt g rfl).1
  have hlen : (out ++ [k]).length = out.length + 1 := by simp
  refine ⟨l, ?_, ?_, ?_, ?_, ?_⟩
  · rw [hlen]; exact setCell_at (hf.blk h.blk (hfar cb lc)) _ _
  · refine own_same (hf.own h.mark fun b hb => ?_) fun b hb => setCell_far (fun e => ?_) _ _
    · cases hb; exact hfar mk lm
    · cases hb; exact hne e.symm
  · have : w2.ownsRow K 3 1 (.slice (some ⟨g, 0, none⟩) (out ++ [k]).length cap) (out ++ [k]).length (ints (out ++ [k])) := by rw [hlen, ints_app]; exact ho
    refine own_same this fun b hb => setCell_far ?_ _ _
    have hb' : g = b := by cases hb; rfl
    omega
  · refine (h.fr.then hf fun c hc => ?_).set (.inl (by simp)) _ _
    rcases h.mv c (mem_blks.1 hc) with h1 | h1
    · exact .inl (by simp [mem_blks.2 h1])
    · exact .inr h1
  · rw [hlen]; exact h.mv.trans h.fr hm
end
end Go.Proofs.YbulkdxbkDoor
