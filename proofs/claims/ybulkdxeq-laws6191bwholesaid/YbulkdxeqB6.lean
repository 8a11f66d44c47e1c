import Derived.Test.YbulkdxeqB5
import Derived.OwnWalk
import Derived.Laws.CopyRow
namespace Go.Proofs.Ybulkdxeq
open Go.RowKit
set_option linter.unusedVariables false

/-! ### What a piece of the walk leaves alone -/
structure Fr (w w' : World) (S : List Nat) : Prop where
  os : w'.os = w.os
  tape : w'.tape = w.tape
  output : w'.output = w.output
  size : w.heap.size ≤ w'.heap.size
  same : ∀ c, c < w.heap.size → c ∉ S → w'.heap[c]? = w.heap[c]?
theorem Fr.refl (w : World) (S : List Nat) : Fr w w S := ⟨rfl, rfl, rfl, Nat.le_refl _, fun _ _ _ => rfl⟩
section
variable {w w1 w2 : World} {S : List Nat}
theorem Fr.trans (h : Fr w w1 S) (h' : Fr w1 w2 S) : Fr w w2 S :=
  ⟨h'.os.trans h.os, h'.tape.trans h.tape, h'.output.trans h.output, Nat.le_trans h.size h'.size, fun c hc hs => (h'.same c (Nat.lt_of_lt_of_le hc h.size) hs).trans (h.same c hc hs)⟩
theorem Fr.then (h : Fr w w1 S) {S' : List Nat} (h' : Fr w1 w2 S') (hS : ∀ c ∈ S', c ∈ S ∨ w.heap.size ≤ c) : Fr w w2 S :=
  ⟨h'.os.trans h.os, h'.tape.trans h.tape, h'.output.trans h.output, Nat.le_trans h.size h'.size, fun c hc hs => (h'.same c (Nat.lt_of_lt_of_le hc h.size) (fun hm => by rcases hS c hm with h | h; exact hs h; omega)).trans (h.same c hc hs)⟩
theorem Fr.alloc (h : Fr w w1 S) (o : Obj) : Fr w (w1.alloc o) S :=
  ⟨h.os, h.tape, h.output, Nat.le_trans h.size (by simp), fun c hc hs => (heap_old w1 o (Nat.lt_of_lt_of_le hc h.size)).trans (h.same c hc hs)⟩
theorem Fr.drewN (h : Fr w w1 S) (n : Nat) : Fr w (w1.drewN n) S := ⟨h.os, h.tape, h.output, h.size, h.same⟩
theorem Fr.drew (h : Fr w w1 S) : Fr w w1.drew S := ⟨h.os, h.tape, h.output, h.size, h.same⟩
theorem Fr.set (h : Fr w w1 S) {b : Nat} (hb : b ∈ S ∨ w.heap.size ≤ b) (o : Nat) (v : Value) : Fr w (w1.setCell ⟨b, o, none⟩ v) S :=
  ⟨h.os, h.tape, h.output, Nat.le_trans h.size (by simp [World.setCell]), fun c hc hs => (setCell_far (fun e => by subst e; rcases hb with h | h; exact hs h; omega) o v).trans (h.same c hc hs)⟩
theorem Fr.grown (h : Fr w w1 S) {row : Option Nat} (hg : w1.grownBy w2 row) (hb : ∀ b, row = some b → b ∈ S ∨ w.heap.size ≤ b) : Fr w w2 S :=
  ⟨hg.os.trans h.os, hg.tape.trans h.tape, hg.output.trans h.output, Nat.le_trans h.size hg.size, fun c hc hs => (hg.block c (Nat.lt_of_lt_of_le hc h.size) (fun e => by rcases hb c e.symm with h | h; exact hs h; omega)).trans (h.same c hc hs)⟩
theorem Fr.below {base : Nat} {w0 : World} (h : Fr w w1 S) (hS : ∀ c ∈ S, base ≤ c) (hb : Below base w0 w) (hle : base ≤ w.heap.size) : Below base w0 w1 :=
  hb.trans ⟨h.os, h.tape, h.output, h.size, fun c hc => h.same c (by omega) (fun hm => by have := hS c hm; omega)⟩
end

theorem info34 : (Yba.prog.info? 34).map (fun i => (i.zero, i.size, i.bytes)) = some (some (.agg #[.int .u32 0, .slice none 0 0, .slice none 0 0, .int .u64 0, .pointer none]), 5, 72) := by kernel_rfl
theorem size34 (w : World) : (sizeOf 34).run Yba.prog w = .ok 5 w := by kernel_rfl
theorem slice29 {g n cap i : Nat} {x : Int} (hx : x = (i : Int)) (hi : i ≤ n) (w : World) :
    (Instr.sliceAt 29 (.slice (some ⟨g, 0, none⟩) n cap) (some (.int .i64 x)) none none).run Yba.prog w = .ok (.slice (some (if cap = i then ⟨g, 0, none⟩ else ⟨g, i * 5, none⟩)) (n - i) (cap - i)) w := by
  subst hx
  simp [Instr.sliceAt, Instr.slice, Instr.sliceBounds, Instr.sliceBound, run_underlying Yba.underlying29, asIntOf]
  rw [if_pos hi]
  by_cases hc : cap = i
  · simp [hc]
  · simp [hc, add0]

/-- copy, the elements of five cells, the two slices wherever they lie. -/
theorem run_copy5 (w : World) (ty : TypeId) (g off : Nat) (da sa : Addr) (dLen dCap sLen sCap : Nat) (cur : Array Value) (t : TypeId) (cs : List Value)
    (hg : w.heap[g]? = some (.cells cur t (0, 0))) (hn : cs.length = Nat.min sLen dLen * 5)
    (hpos : 0 < cs.length → da = ⟨g, off, none⟩ ∧ ∀ j v, cs[j]? = some v → w.cell? (sa.add j) = some v) (hfit : off + cs.length ≤ cur.size) (h1 : ∀ v ∈ cs, v.oneCell' = true) :
    ∃ w', (Builtin.copy_ #[29, 29] ty #[.slice (some da) dLen dCap, .slice (some sa) sLen sCap]).run Yba.prog w = .ok (goInt (Nat.min sLen dLen)) w' ∧
      w'.heap[g]? = some (.cells (cur.toList.take off ++ cs ++ cur.toList.drop (off + cs.length)).toArray t (0, 0)) ∧ Fr w w' [g] := by
  by_cases h0 : 0 < cs.length
  · obtain ⟨rfl, hsrc⟩ := hpos h0
    refine ⟨w.setRow g (cur.toList.take off ++ cs ++ cur.toList.drop (off + cs.length)).toArray, ?_, ?_, ?_⟩
    · have hl := run_firstCells_some (P := Yba.prog) w 5 (Nat.min sLen dLen) sa sLen sCap cs hn hsrc
      have hst := run_storeCells_at Yba.prog g off t cs 0 cur w hg (by simpa using hfit) h1
      simp only [Nat.add_zero] at hst
      simp [Builtin.copy_, run_underlying Yba.underlying29, Builtin.lenOf, hl, hst]
    · exact setRow_heap w g _ _ t _ hg
    · exact ⟨rfl, rfl, rfl, by simp [World.setRow], fun c hc hs => setRow_other w g c _ (by simpa using hs)⟩
  · obtain rfl : cs = [] := List.eq_nil_of_length_eq_zero (by omega)
    have h0' : Nat.min sLen dLen = 0 := by simp at hn; omega
    refine ⟨w, ?_, by simpa using hg, Fr.refl _ _⟩
    have hl := run_firstCells_some (P := Yba.prog) w 5 0 sa sLen sCap [] (by simp) (fun j v h => by simp at h)
    simp [Builtin.copy_, run_underlying Yba.underlying29, Builtin.lenOf, h0', hl, storeCells]
theorem step_copy5 {ops : Array Oper} {o : Oper} {a : Act} {w : World} {K : Act → World → Prop} {Q : Exit → Act → World → Prop} {E : Prop} (hgd : o.guard = none) (d s : Operand)
    (ho : o.op = .call { callee := .builtin .copy, args := #[d, s], argTypes := #[29, 29] }) (da sa : Addr) (dLen dCap sLen sCap : Nat) (hd : a.eval d = .slice (some da) dLen dCap) (hs : a.eval s = .slice (some sa) sLen sCap)
    (g off : Nat) (cur : Array Value) (t : TypeId) (cs : List Value)
    (hg : w.heap[g]? = some (.cells cur t (0, 0))) (hn : cs.length = Nat.min sLen dLen * 5)
    (hpos : 0 < cs.length → da = ⟨g, off, none⟩ ∧ ∀ j v, cs[j]? = some v → w.cell? (sa.add j) = some v) (hfit : off + cs.length ≤ cur.size) (h1 : ∀ v ∈ cs, v.oneCell' = true)
    (h : ∀ w', w'.heap[g]? = some (.cells (cur.toList.take off ++ cs ++ cur.toList.drop (off + cs.length)).toArray t (0, 0)) → Fr w w' [g] → K (a.put o.dst (goInt (Nat.min sLen dLen))) w') :
    if Region.wanted o (yielded ops a.tmps) = true then Oper.wp Yba.prog o a w K Q else E := by
  have hw : Region.wanted o (yielded ops a.tmps) = true := by simp [Region.wanted, hgd]
  rw [if_pos hw]
  obtain ⟨w', hrun, hg', hfr⟩ := run_copy5 w o.type g off da sa dLen dCap sLen sCap cur t cs hg hn hpos hfit h1
  unfold Oper.wp
  simp [execOp, ho, resolve, invoke, builtin, hd, hs, hrun, Result.andThen]
  exact h w' hg' hfr
end Go.Proofs.Ybulkdxeq
