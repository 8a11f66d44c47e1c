import Derived.Test.YbulkdxbkDoorK9
namespace Go.Proofs.YbulkdxbkDoor
open Go.RowKit
set_option linter.unusedVariables false
set_option linter.unusedSectionVars false

/-- one int appended, in a region that draws -/
theorem step_app1 {ops : Array Oper} {o : Oper} {a : Act} {w1 : World} {K' : Act → World → Prop} {Q : Exit → Act → World → Prop} {E : Prop} (hgd : o.guard = none) (s x : Operand)
    (ho : o.op = .call { callee := .builtin .append, args := #[s, x], argTypes := #[44, 44] }) (H : Nat) (k : Int) {B n : Nat} {v : Value} {xs : List Value} (hs : a.eval s = v) (own : w1.ownsRow B 3 1 v n xs)
    (hx : a.eval x = .slice (some ⟨H, 0, none⟩) 1 1) (hnew : w1.heap[H]? = some (.cells #[.int .i64 k] 3 (0, 0))) (hn : n < 1099511627776) (hB : B ≤ w1.heap.size)
    (h : ∀ g cap w', w'.ownsRow B 3 1 (.slice (some ⟨g, 0, none⟩) (n + 1) cap) (n + 1) (xs ++ [.int .i64 k]) → Fr w1 w' (blks v) → Moved w1 v (.slice (some ⟨g, 0, none⟩) (n + 1) cap) → K' (a.put o.dst (.slice (some ⟨g, 0, none⟩) (n + 1) cap)) w') :
    if Region.wanted o (yielded ops a.tmps) = true then Oper.wp Ybad.prog o a w1 K' Q else E := by
  have hw : Region.wanted o (yielded ops a.tmps) = true := by simp [Region.wanted, hgd]
  rw [if_pos hw]
  obtain ⟨vo, cap, w', hr, ho', hf, hm⟩ := run_app26 w1 o.type own (some ⟨H, 0, none⟩) 1 1 [.int .i64 k] rfl
    (fun _ => ⟨_, rfl, World.news_of_block hnew⟩) (fun h => by cases h) (by intro u hu; simp at hu; subst hu; rfl) (by omega) hB
  obtain ⟨vo', cap', g, e1, e2, _, _⟩ := own_form ho'
  cases e1
  obtain rfl := e2 (by omega)
  have := h g cap w' ho' hf hm
  unfold Oper.wp execOp
  simp only [ho, resolve, invoke, builtin, Sem.run_bind, Sem.run_pure, Result.andThen_ok, List.map_toArray, List.map_cons, List.map_nil, hs, hx, hr]
  exact this

/-- the closer between two walks -/
structure Clo (wC w : World) (K cb gb mk n : Nat) (nf : Bool) (x5 x6 x7 x8 x9 sv rv : Value) (R : List Nat) : Prop where
  c1 : wC.heap.size ≤ cb
  m1 : wC.heap.size ≤ mk
  c2 : cb < K
  m2 : mk < K
  ne : cb ≠ mk
  kw : K ≤ w.heap.size
  low : ∀ c, c < wC.heap.size → w.heap[c]? = wC.heap[c]?
  blk : w.heap[cb]? = some (cloBlk gb mk n nf sv rv x5 x6 x7 x8 x9)
  mark : w.ownsRow wC.heap.size 4 1 (.slice (some ⟨mk, 0, none⟩) n n) n (bools n fun _ => false)
  sown : ∃ sn sx, w.ownsRow K 3 1 sv sn sx
  rown : w.ownsRow K 3 1 rv R.length (ints R)
  dis : ∀ b, sv.ownBlock = some b → rv.ownBlock = some b → False
/-- the blocks that a walk may turn -/
def cloS (cb mk : Nat) (sv rv : Value) : List Nat := cb :: mk :: (blks sv ++ blks rv)
section
variable {wC w w' : World} {K cb gb mk n : Nat} {nf : Bool} {x5 x6 x7 x8 x9 sv rv sv' rv' : Value} {R : List Nat}
theorem Clo.sv_ge (h : Clo wC w K cb gb mk n nf x5 x6 x7 x8 x9 sv rv R) : ∀ b, sv.ownBlock = some b → K ≤ b ∧ b < w.heap.size := fun b hb => by
  obtain ⟨sn, sx, ho⟩ := h.sown; exact ho.lt b hb
theorem Clo.S_ge (h : Clo wC w K cb gb mk n nf x5 x6 x7 x8 x9 sv rv R) : ∀ c ∈ cloS cb mk sv rv, wC.heap.size ≤ c := fun c hc => by
  have := h.c1; have := h.m1; have := h.c2
  simp only [cloS, List.mem_cons, List.mem_append] at hc
  rcases hc with rfl | rfl | hc | hc
  · omega
  · omega
  · have := (h.sv_ge c (mem_blks.1 hc)).1; omega
  · have := (h.rown.lt c (mem_blks.1 hc)).1; omega
/-- what lies elsewhere leaves the closer as it is -/
theorem Clo.keep (h : Clo wC w K cb gb mk n nf x5 x6 x7 x8 x9 sv rv R) {S : List Nat} (hf : Fr w w' S) (hS : ∀ c ∈ S, wC.heap.size ≤ c ∧ c ∉ cloS cb mk sv rv) : Clo wC w' K cb gb mk n nf x5 x6 x7 x8 x9 sv rv R := by
  have hn : ∀ c, c ∈ cloS cb mk sv rv → c ∉ S := fun c hc hs => (hS c hs).2 hc
  have := h.kw
  have := h.c1
  have := h.c2
  refine ⟨h.c1, h.m1, h.c2, h.m2, h.ne, Nat.le_trans h.kw hf.size, fun c hc => (hf.same c (by omega) fun hs => by have := (hS c hs).1; omega).trans (h.low c hc), hf.blk h.blk (hn cb (by simp [cloS])), ?_, ?_, ?_, h.dis⟩
  · exact hf.own h.mark fun b hb => by cases hb; exact hn mk (by simp [cloS])
  · obtain ⟨sn, sx, ho⟩ := h.sown
    exact ⟨sn, sx, hf.own ho fun b hb => hn b (by simp [cloS, mem_blks.2 hb])⟩
  · exact hf.own h.rown fun b hb => hn b (by simp [cloS, mem_blks.2 hb])
theorem cloS_moved (h1 : Moved w sv sv') (h2 : Moved w rv rv') : ∀ c ∈ cloS cb mk sv' rv', c ∈ cloS cb mk sv rv ∨ w.heap.size ≤ c := fun c hc => by
  simp only [cloS, List.mem_cons, List.mem_append] at hc ⊢
  rcases hc with rfl | rfl | hc | hc
  · exact .inl (.inl rfl)
  · exact .inl (.inr (.inl rfl))
  · rcases h1 c (mem_blks.1 hc) with h | h
    · exact .inl (.inr (.inr (.inl (mem_blks.2 h))))
    · exact .inr h
  · rcases h2 c (mem_blks.1 hc) with h | h
    · exact .inl (.inr (.inr (.inr (mem_blks.2 h))))
    · exact .inr h
end
/-- the seeds as they are gathered -/
structure SS (w : World) (K cb gb mk n : Nat) (nf : Bool) (v0 rv x5 x6 x7 x8 x9 : Value) (wr : World) (so : Option Addr) (sc : Nat) (sd : List Nat) : Prop where
  blk : wr.heap[cb]? = some (cloBlk gb mk n nf (.slice so sd.length sc) rv x5 x6 x7 x8 x9)
  own : wr.ownsRow K 3 1 (.slice so sd.length sc) sd.length (ints sd)
  fr : Fr w wr (cb :: blks v0)
  mv : Moved w v0 (.slice so sd.length sc)
section
variable {w wr w2 : World} {K cb gb mk n : Nat} {nf : Bool} {v0 rv x5 x6 x7 x8 x9 : Value} {so : Option Addr} {sc : Nat} {sd : List Nat}
theorem SS.push (h : SS w K cb gb mk n nf v0 rv x5 x6 x7 x8 x9 wr so sc sd) (hK : cb < K) {k g cap : Nat}
    (ho : w2.ownsRow K 3 1 (.slice (some ⟨g, 0, none⟩) (sd.length + 1) cap) (sd.length + 1) (ints sd ++ [.int .i64 (k : Int)])) (hf : Fr wr w2 (blks (.slice so sd.length sc))) (hm : Moved wr (.slice so sd.length sc) (.slice (some ⟨g, 0, none⟩) (sd.length + 1) cap)) :
    SS w K cb gb mk n nf v0 rv x5 x6 x7 x8 x9 (w2.setCell ⟨cb, 3, none⟩ (.slice (some ⟨g, 0, none⟩) (sd.length + 1) cap)) (some ⟨g, 0, none⟩) cap (sd ++ [k]) := by
  have hfar : cb ∉ blks (.slice so sd.length sc) := fun hmem => by have := (h.own.lt cb (mem_blks.1 hmem)).1; omega
  have hg := (ho.lt g rfl).1
  have hlen : (sd ++ [k]).length = sd.length + 1 := by simp
  refine ⟨?_, ?_, ?_, ?_⟩
  · rw [hlen]; exact setCell_at (hf.blk h.blk hfar) _ _
  · have : w2.ownsRow K 3 1 (.slice (some ⟨g, 0, none⟩) (sd ++ [k]).length cap) (sd ++ [k]).length (ints (sd ++ [k])) := by rw [hlen, ints_app]; exact ho
    refine own_same this fun b hb => setCell_far ?_ _ _
    have hb' : g = b := by cases hb; rfl
    omega
  · refine (h.fr.then hf fun c hc => ?_).set (.inl (by simp)) _ _
    rcases h.mv c (mem_blks.1 hc) with h1 | h1
    · exact .inl (by simp [mem_blks.2 h1])
    · exact .inr h1
  · rw [hlen]; exact h.mv.trans h.fr hm
end
end Go.Proofs.YbulkdxbkDoor
