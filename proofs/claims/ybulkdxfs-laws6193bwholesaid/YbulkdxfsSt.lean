import Derived.Test.YbulkdxfsPass
import Derived.Deep.DeepCutAuto
namespace Go.Proofs.Ybulkdxfs
open Go.RowKit Go.MuLone
set_option linter.unusedVariables false

abbrev Ent := Ky × Bool
abbrev Hl := Ky × ByteArray
def foldU (E : List Ent) : List (Ky × Value) := E.foldl (fun l e => putM l e.1 (.bool e.2)) []
def foldD (D : List Hl) : List (Ky × Value) := D.foldl (fun l e => putM l e.1 (.string e.2)) []
def foldH (D : List Hl) : List (ByteArray × Value) := D.foldl (fun l e => putM l e.2 (kv e.1)) []
theorem take_snoc {α : Type} {E : List α} {k : Nat} {e : α} (h : E[k]? = some e) : E.take (k + 1) = E.take k ++ [e] := by
  obtain ⟨hk, rfl⟩ := List.getElem?_eq_some_iff.1 h
  exact List.take_succ_eq_append_getElem hk
theorem foldU_step {E : List Ent} {k : Nat} {e : Ent} (h : E[k]? = some e) : foldU (E.take (k + 1)) = putM (foldU (E.take k)) e.1 (.bool e.2) := by
  rw [take_snoc h]; simp [foldU]
theorem foldD_step {E : List Hl} {k : Nat} {e : Hl} (h : E[k]? = some e) : foldD (E.take (k + 1)) = putM (foldD (E.take k)) e.1 (.string e.2) := by
  rw [take_snoc h]; simp [foldD]
theorem foldH_step {E : List Hl} {k : Nat} {e : Hl} (h : E[k]? = some e) : foldH (E.take (k + 1)) = putM (foldH (E.take k)) e.2 (kv e.1) := by
  rw [take_snoc h]; simp [foldH]

/-- the entries' row -/
def Row38 (w : World) (eb eo : Nat) (E : List Ent) : Prop := ∀ k e, E[k]? = some e →
  w.cell? ⟨eb, eo + k * 4, none⟩ = some (.int .i64 e.1.1) ∧ w.cell? ⟨eb, eo + k * 4 + 1, none⟩ = some (.int .i64 e.1.2.1) ∧
  w.cell? ⟨eb, eo + k * 4 + 2, none⟩ = some (.string e.1.2.2) ∧ w.cell? ⟨eb, eo + k * 4 + 3, none⟩ = some (.bool e.2)
def Row42 (w : World) (eb eo : Nat) (E : List Hl) : Prop := ∀ k e, E[k]? = some e →
  w.cell? ⟨eb, eo + k * 4, none⟩ = some (.int .i64 e.1.1) ∧ w.cell? ⟨eb, eo + k * 4 + 1, none⟩ = some (.int .i64 e.1.2.1) ∧
  w.cell? ⟨eb, eo + k * 4 + 2, none⟩ = some (.string e.1.2.2) ∧ w.cell? ⟨eb, eo + k * 4 + 3, none⟩ = some (.string e.2)

theorem size38 (w : World) : (sizeOf 38).run Yba.prog w = .ok 4 w := by kernel_rfl
theorem size42 (w : World) : (sizeOf 42).run Yba.prog w = .ok 4 w := by kernel_rfl
theorem index22 {a : Option Addr} {n c eb eo k : Nat} (ha : 0 < n → a = some ⟨eb, eo, none⟩) (hk : k < n) (w : World) :
    (Instr.indexAt 22 (.slice a n c) (.int .i64 (k : Int))).run Yba.prog w = .ok (.pointer (some ⟨eb, eo + k * 4, none⟩)) w := by
  rw [ha (by omega)]
  by_cases h0 : k = 0
  · subst h0; simp [Instr.indexAt, run_underlying Yba.underlying22, asIntOf, hk, Addr.add]
  · simp [Instr.indexAt, run_underlying Yba.underlying22, asIntOf, hk, Addr.add, show ¬ k * 4 = 0 by omega]
theorem index23 {a : Option Addr} {n c eb eo k : Nat} (ha : 0 < n → a = some ⟨eb, eo, none⟩) (hk : k < n) (w : World) :
    (Instr.indexAt 23 (.slice a n c) (.int .i64 (k : Int))).run Yba.prog w = .ok (.pointer (some ⟨eb, eo + k * 4, none⟩)) w := by
  rw [ha (by omega)]
  by_cases h0 : k = 0
  · subst h0; simp [Instr.indexAt, run_underlying Yba.underlying23, asIntOf, hk, Addr.add]
  · simp [Instr.indexAt, run_underlying Yba.underlying23, asIntOf, hk, Addr.add, show ¬ k * 4 = 0 by omega]


/-! ### The state of the law's own memory -/
def MapF {κ : Type} (B : Nat) (w : World) (v : Value) (kv : κ → Value) (l : List (κ × Value)) : Prop :=
  (v = .map none ∧ l = []) ∨ ∃ b, v = .map (some b) ∧ B ≤ b ∧ MapIs w b kv l
def apart (v v' : Value) : Prop := ∀ b, v = .map (some b) → v' ≠ .map (some b)
theorem MapF.same {κ : Type} {B : Nat} {w w' : World} {v : Value} {kv : κ → Value} {l : List (κ × Value)} (h : MapF B w v kv l) (hk : ∀ b, v = .map (some b) → b < w.heap.size → w'.heap[b]? = w.heap[b]?) : MapF B w' v kv l := by
  rcases h with h | ⟨b, rfl, hb, hm⟩
  · exact .inl h
  · exact .inr ⟨b, rfl, hb, by
      obtain ⟨es, c, h1, h2⟩ := hm
      exact ⟨es, c, (hk b rfl (blk_lt h1)).trans h1, h2⟩⟩

structure St (w wc : World) (hv dv uv h0 d0 bv : Value) (LH : List (ByteArray × Value)) (LD LU LB : List (Ky × Value)) : Prop where
  blk : wc.heap[w.heap.size]? = some (.cells #[.int .i32 0, .int .u32 0, hv, dv, uv] 36 (0, 0))
  mh : MapF w.heap.size wc hv Value.string LH
  md : MapF w.heap.size wc dv kv LD
  mu : MapF w.heap.size wc uv kv LU
  mh0 : MapF w.heap.size wc h0 Value.string LH
  md0 : MapF w.heap.size wc d0 kv LD
  mb : MapF w.heap.size wc bv kv LB
  ap : [hv, dv, uv, h0, d0, bv].Pairwise apart
  bel : Below w.heap.size w wc

theorem St.keep {w wc w' : World} {hv dv uv h0 d0 bv : Value} {LH : List (ByteArray × Value)} {LD LU LB : List (Ky × Value)} (h : St w wc hv dv uv h0 d0 bv LH LD LU LB)
    (hk : ∀ c, c < wc.heap.size → w'.heap[c]? = wc.heap[c]?) (hz : wc.heap.size ≤ w'.heap.size) (ho : w'.os = wc.os) (ht : w'.tape = wc.tape) (hu : w'.output = wc.output) : St w w' hv dv uv h0 d0 bv LH LD LU LB :=
  ⟨(hk _ (blk_lt h.blk)).trans h.blk, h.mh.same fun b _ hb => hk b hb, h.md.same fun b _ hb => hk b hb, h.mu.same fun b _ hb => hk b hb, h.mh0.same fun b _ hb => hk b hb, h.md0.same fun b _ hb => hk b hb, h.mb.same fun b _ hb => hk b hb, h.ap,
   h.bel.trans ⟨ho, ht, hu, hz, fun c hc => hk c (Nat.lt_of_lt_of_le hc h.bel.size)⟩⟩
theorem St.alloc {w wc : World} {hv dv uv h0 d0 bv : Value} {LH : List (ByteArray × Value)} {LD LU LB : List (Ky × Value)} (h : St w wc hv dv uv h0 d0 bv LH LD LU LB) (o : Obj) : St w (wc.alloc o) hv dv uv h0 d0 bv LH LD LU LB :=
  h.keep (fun _ hc => blk_alloc hc o) (by simp) rfl rfl rfl
theorem St.drew {w wc : World} {hv dv uv h0 d0 bv : Value} {LH : List (ByteArray × Value)} {LD LU LB : List (Ky × Value)} (h : St w wc hv dv uv h0 d0 bv LH LD LU LB) : St w wc.drew hv dv uv h0 d0 bv LH LD LU LB :=
  h.keep (fun _ _ => rfl) (Nat.le_refl _) rfl rfl rfl
theorem St.drewN {w wc : World} {hv dv uv h0 d0 bv : Value} {LH : List (ByteArray × Value)} {LD LU LB : List (Ky × Value)} (h : St w wc hv dv uv h0 d0 bv LH LD LU LB) (n : Nat) : St w (wc.drewN n) hv dv uv h0 d0 bv LH LD LU LB :=
  h.keep (fun _ _ => rfl) (Nat.le_refl _) rfl rfl rfl

/-- a store into one of the maps: the others stand -/
theorem MapF.put_other {κ κ' : Type} {B : Nat} {wc w' : World} {v : Value} {kv : κ → Value} {l : List (κ × Value)} {b : Nat} {kv' : κ' → Value} {l' : List (κ' × Value)} (h : MapF B wc v kv l) (hp : MapPut wc w' b kv' l') (ha : v ≠ .map (some b)) : MapF B w' v kv l :=
  h.same fun c hc _ => hp.other c (fun e => ha (by rw [hc, e]))
theorem MapPut.bel {κ : Type} {w wc w' : World} {b : Nat} {kv : κ → Value} {l' : List (κ × Value)} (hp : MapPut wc w' b kv l') (h : Below w.heap.size w wc) (hb : w.heap.size ≤ b) : Below w.heap.size w w' :=
  h.trans ⟨hp.os, hp.tape, hp.output, Nat.le_of_eq hp.size.symm, fun c hc => hp.other c (by omega)⟩
theorem MapPut.blk {κ : Type} {wc w' : World} {b sb : Nat} {kv : κ → Value} {l' : List (κ × Value)} {cs : Array Value} {t : TypeId} (hp : MapPut wc w' b kv l') (h : wc.heap[sb]? = some (.cells cs t (0, 0))) (hne : sb ≠ b) : w'.heap[sb]? = some (.cells cs t (0, 0)) :=
  (hp.other _ hne).trans h


/-- The state with the four other maps' lists apart (while they are being filled). -/
structure Su (w wc : World) (hv dv uv h0 d0 bv : Value) (LH LH0 : List (ByteArray × Value)) (LD LD0 LU LB : List (Ky × Value)) : Prop where
  blk : wc.heap[w.heap.size]? = some (.cells #[.int .i32 0, .int .u32 0, hv, dv, uv] 36 (0, 0))
  mh : MapF w.heap.size wc hv Value.string LH
  md : MapF w.heap.size wc dv kv LD
  mu : MapF w.heap.size wc uv kv LU
  mh0 : MapF w.heap.size wc h0 Value.string LH0
  md0 : MapF w.heap.size wc d0 kv LD0
  mb : MapF w.heap.size wc bv kv LB
  ap : [hv, dv, uv, h0, d0, bv].Pairwise apart
  bel : Below w.heap.size w wc
theorem Su.st {w wc : World} {hv dv uv h0 d0 bv : Value} {LH : List (ByteArray × Value)} {LD LU LB : List (Ky × Value)} (h : Su w wc hv dv uv h0 d0 bv LH LH LD LD LU LB) : St w wc hv dv uv h0 d0 bv LH LD LU LB := ⟨h.blk, h.mh, h.md, h.mu, h.mh0, h.md0, h.mb, h.ap, h.bel⟩
theorem St.su {w wc : World} {hv dv uv h0 d0 bv : Value} {LH : List (ByteArray × Value)} {LD LU LB : List (Ky × Value)} (h : St w wc hv dv uv h0 d0 bv LH LD LU LB) : Su w wc hv dv uv h0 d0 bv LH LH LD LD LU LB := ⟨h.blk, h.mh, h.md, h.mu, h.mh0, h.md0, h.mb, h.ap, h.bel⟩
theorem Su.keep {w wc w' : World} {hv dv uv h0 d0 bv : Value} {LH LH0 : List (ByteArray × Value)} {LD LD0 LU LB : List (Ky × Value)} (h : Su w wc hv dv uv h0 d0 bv LH LH0 LD LD0 LU LB)
    (hk : ∀ c, c < wc.heap.size → w'.heap[c]? = wc.heap[c]?) (hz : wc.heap.size ≤ w'.heap.size) (ho : w'.os = wc.os) (ht : w'.tape = wc.tape) (hu : w'.output = wc.output) : Su w w' hv dv uv h0 d0 bv LH LH0 LD LD0 LU LB :=
  ⟨(hk _ (blk_lt h.blk)).trans h.blk, h.mh.same fun b _ hb => hk b hb, h.md.same fun b _ hb => hk b hb, h.mu.same fun b _ hb => hk b hb, h.mh0.same fun b _ hb => hk b hb, h.md0.same fun b _ hb => hk b hb, h.mb.same fun b _ hb => hk b hb, h.ap,
   h.bel.trans ⟨ho, ht, hu, hz, fun c hc => hk c (Nat.lt_of_lt_of_le hc h.bel.size)⟩⟩
theorem Su.alloc {w wc : World} {hv dv uv h0 d0 bv : Value} {LH LH0 : List (ByteArray × Value)} {LD LD0 LU LB : List (Ky × Value)} (h : Su w wc hv dv uv h0 d0 bv LH LH0 LD LD0 LU LB) (o : Obj) : Su w (wc.alloc o) hv dv uv h0 d0 bv LH LH0 LD LD0 LU LB :=
  h.keep (fun _ hc => blk_alloc hc o) (by simp) rfl rfl rfl
theorem Su.drewN {w wc : World} {hv dv uv h0 d0 bv : Value} {LH LH0 : List (ByteArray × Value)} {LD LD0 LU LB : List (Ky × Value)} (h : Su w wc hv dv uv h0 d0 bv LH LH0 LD LD0 LU LB) (n : Nat) : Su w (wc.drewN n) hv dv uv h0 d0 bv LH LH0 LD LD0 LU LB :=
  h.keep (fun _ _ => rfl) (Nat.le_refl _) rfl rfl rfl
theorem Su.drew {w wc : World} {hv dv uv h0 d0 bv : Value} {LH LH0 : List (ByteArray × Value)} {LD LD0 LU LB : List (Ky × Value)} (h : Su w wc hv dv uv h0 d0 bv LH LH0 LD LD0 LU LB) : Su w wc.drew hv dv uv h0 d0 bv LH LH0 LD LD0 LU LB :=
  h.keep (fun _ _ => rfl) (Nat.le_refl _) rfl rfl rfl
theorem Su.put_h {w wc w' : World} {dv uv h0 d0 bv : Value} {u : Nat} {LH LH0 : List (ByteArray × Value)} {LD LD0 LU LB : List (Ky × Value)} {X : List (ByteArray × Value)} (h : Su w wc (.map (some u)) dv uv h0 d0 bv LH LH0 LD LD0 LU LB) (hp : MapPut wc w' u Value.string X) : Su w w' (.map (some u)) dv uv h0 d0 bv X LH0 LD LD0 LU LB := by
  have ap := h.ap
  simp only [List.pairwise_cons, List.mem_cons, List.not_mem_nil, or_false, forall_eq_or_imp, forall_eq] at ap
  obtain ⟨⟨a1, a2, a3, a4, a5⟩, ⟨b2, b3, b4, b5⟩, ⟨c3, c4, c5⟩, ⟨d4, d5⟩, e5, _⟩ := ap
  have hu : w.heap.size ≤ u ∧ MapIs wc u Value.string LH := by
    rcases h.mh with ⟨h1, _⟩ | ⟨b, h1, h2, h3⟩
    · cases h1
    · cases h1; exact ⟨h2, h3⟩
  have hsb : w.heap.size ≠ u := by
    intro e; obtain ⟨es, c, h1, _⟩ := hu.2; rw [← e, h.blk] at h1; cases h1
  exact ⟨hp.blk h.blk hsb, .inr ⟨u, rfl, hu.1, hp.is⟩, h.md.put_other hp (a1 u rfl), h.mu.put_other hp (a2 u rfl), h.mh0.put_other hp (a3 u rfl), h.md0.put_other hp (a4 u rfl), h.mb.put_other hp (a5 u rfl), h.ap, hp.bel h.bel hu.1⟩
theorem Su.is_h {w wc : World} {dv uv h0 d0 bv : Value} {u : Nat} {LH LH0 : List (ByteArray × Value)} {LD LD0 LU LB : List (Ky × Value)} (h : Su w wc (.map (some u)) dv uv h0 d0 bv LH LH0 LD LD0 LU LB) : MapIs wc u Value.string LH := by
  rcases h.mh with ⟨h1, _⟩ | ⟨b, h1, h2, h3⟩
  · cases h1
  · cases h1; exact h3
theorem Su.put_d {w wc w' : World} {hv uv h0 d0 bv : Value} {u : Nat} {LH LH0 : List (ByteArray × Value)} {LD LD0 LU LB : List (Ky × Value)} {X : List (Ky × Value)} (h : Su w wc hv (.map (some u)) uv h0 d0 bv LH LH0 LD LD0 LU LB) (hp : MapPut wc w' u kv X) : Su w w' hv (.map (some u)) uv h0 d0 bv LH LH0 X LD0 LU LB := by
  have ap := h.ap
  simp only [List.pairwise_cons, List.mem_cons, List.not_mem_nil, or_false, forall_eq_or_imp, forall_eq] at ap
  obtain ⟨⟨a1, a2, a3, a4, a5⟩, ⟨b2, b3, b4, b5⟩, ⟨c3, c4, c5⟩, ⟨d4, d5⟩, e5, _⟩ := ap
  have hu : w.heap.size ≤ u ∧ MapIs wc u kv LD := by
    rcases h.md with ⟨h1, _⟩ | ⟨b, h1, h2, h3⟩
    · cases h1
    · cases h1; exact ⟨h2, h3⟩
  have hsb : w.heap.size ≠ u := by
    intro e; obtain ⟨es, c, h1, _⟩ := hu.2; rw [← e, h.blk] at h1; cases h1
  exact ⟨hp.blk h.blk hsb, h.mh.put_other hp (fun e => a1 u e rfl), .inr ⟨u, rfl, hu.1, hp.is⟩, h.mu.put_other hp (b2 u rfl), h.mh0.put_other hp (b3 u rfl), h.md0.put_other hp (b4 u rfl), h.mb.put_other hp (b5 u rfl), h.ap, hp.bel h.bel hu.1⟩
theorem Su.is_d {w wc : World} {hv uv h0 d0 bv : Value} {u : Nat} {LH LH0 : List (ByteArray × Value)} {LD LD0 LU LB : List (Ky × Value)} (h : Su w wc hv (.map (some u)) uv h0 d0 bv LH LH0 LD LD0 LU LB) : MapIs wc u kv LD := by
  rcases h.md with ⟨h1, _⟩ | ⟨b, h1, h2, h3⟩
  · cases h1
  · cases h1; exact h3
theorem Su.put_u {w wc w' : World} {hv dv h0 d0 bv : Value} {u : Nat} {LH LH0 : List (ByteArray × Value)} {LD LD0 LU LB : List (Ky × Value)} {X : List (Ky × Value)} (h : Su w wc hv dv (.map (some u)) h0 d0 bv LH LH0 LD LD0 LU LB) (hp : MapPut wc w' u kv X) : Su w w' hv dv (.map (some u)) h0 d0 bv LH LH0 LD LD0 X LB := by
  have ap := h.ap
  simp only [List.pairwise_cons, List.mem_cons, List.not_mem_nil, or_false, forall_eq_or_imp, forall_eq] at ap
  obtain ⟨⟨a1, a2, a3, a4, a5⟩, ⟨b2, b3, b4, b5⟩, ⟨c3, c4, c5⟩, ⟨d4, d5⟩, e5, _⟩ := ap
  have hu : w.heap.size ≤ u ∧ MapIs wc u kv LU := by
    rcases h.mu with ⟨h1, _⟩ | ⟨b, h1, h2, h3⟩
    · cases h1
    · cases h1; exact ⟨h2, h3⟩
  have hsb : w.heap.size ≠ u := by
    intro e; obtain ⟨es, c, h1, _⟩ := hu.2; rw [← e, h.blk] at h1; cases h1
  exact ⟨hp.blk h.blk hsb, h.mh.put_other hp (fun e => a2 u e rfl), h.md.put_other hp (fun e => b2 u e rfl), .inr ⟨u, rfl, hu.1, hp.is⟩, h.mh0.put_other hp (c3 u rfl), h.md0.put_other hp (c4 u rfl), h.mb.put_other hp (c5 u rfl), h.ap, hp.bel h.bel hu.1⟩
theorem Su.is_u {w wc : World} {hv dv h0 d0 bv : Value} {u : Nat} {LH LH0 : List (ByteArray × Value)} {LD LD0 LU LB : List (Ky × Value)} (h : Su w wc hv dv (.map (some u)) h0 d0 bv LH LH0 LD LD0 LU LB) : MapIs wc u kv LU := by
  rcases h.mu with ⟨h1, _⟩ | ⟨b, h1, h2, h3⟩
  · cases h1
  · cases h1; exact h3
theorem Su.put_h0 {w wc w' : World} {hv dv uv d0 bv : Value} {u : Nat} {LH LH0 : List (ByteArray × Value)} {LD LD0 LU LB : List (Ky × Value)} {X : List (ByteArray × Value)} (h : Su w wc hv dv uv (.map (some u)) d0 bv LH LH0 LD LD0 LU LB) (hp : MapPut wc w' u Value.string X) : Su w w' hv dv uv (.map (some u)) d0 bv LH X LD LD0 LU LB := by
  have ap := h.ap
  simp only [List.pairwise_cons, List.mem_cons, List.not_mem_nil, or_false, forall_eq_or_imp, forall_eq] at ap
  obtain ⟨⟨a1, a2, a3, a4, a5⟩, ⟨b2, b3, b4, b5⟩, ⟨c3, c4, c5⟩, ⟨d4, d5⟩, e5, _⟩ := ap
  have hu : w.heap.size ≤ u ∧ MapIs wc u Value.string LH0 := by
    rcases h.mh0 with ⟨h1, _⟩ | ⟨b, h1, h2, h3⟩
    · cases h1
    · cases h1; exact ⟨h2, h3⟩
  have hsb : w.heap.size ≠ u := by
    intro e; obtain ⟨es, c, h1, _⟩ := hu.2; rw [← e, h.blk] at h1; cases h1
  exact ⟨hp.blk h.blk hsb, h.mh.put_other hp (fun e => a3 u e rfl), h.md.put_other hp (fun e => b3 u e rfl), h.mu.put_other hp (fun e => c3 u e rfl), .inr ⟨u, rfl, hu.1, hp.is⟩, h.md0.put_other hp (d4 u rfl), h.mb.put_other hp (d5 u rfl), h.ap, hp.bel h.bel hu.1⟩
theorem Su.is_h0 {w wc : World} {hv dv uv d0 bv : Value} {u : Nat} {LH LH0 : List (ByteArray × Value)} {LD LD0 LU LB : List (Ky × Value)} (h : Su w wc hv dv uv (.map (some u)) d0 bv LH LH0 LD LD0 LU LB) : MapIs wc u Value.string LH0 := by
  rcases h.mh0 with ⟨h1, _⟩ | ⟨b, h1, h2, h3⟩
  · cases h1
  · cases h1; exact h3
theorem Su.put_d0 {w wc w' : World} {hv dv uv h0 bv : Value} {u : Nat} {LH LH0 : List (ByteArray × Value)} {LD LD0 LU LB : List (Ky × Value)} {X : List (Ky × Value)} (h : Su w wc hv dv uv h0 (.map (some u)) bv LH LH0 LD LD0 LU LB) (hp : MapPut wc w' u kv X) : Su w w' hv dv uv h0 (.map (some u)) bv LH LH0 LD X LU LB := by
  have ap := h.ap
  simp only [List.pairwise_cons, List.mem_cons, List.not_mem_nil, or_false, forall_eq_or_imp, forall_eq] at ap
  obtain ⟨⟨a1, a2, a3, a4, a5⟩, ⟨b2, b3, b4, b5⟩, ⟨c3, c4, c5⟩, ⟨d4, d5⟩, e5, _⟩ := ap
  have hu : w.heap.size ≤ u ∧ MapIs wc u kv LD0 := by
    rcases h.md0 with ⟨h1, _⟩ | ⟨b, h1, h2, h3⟩
    · cases h1
    · cases h1; exact ⟨h2, h3⟩
  have hsb : w.heap.size ≠ u := by
    intro e; obtain ⟨es, c, h1, _⟩ := hu.2; rw [← e, h.blk] at h1; cases h1
  exact ⟨hp.blk h.blk hsb, h.mh.put_other hp (fun e => a4 u e rfl), h.md.put_other hp (fun e => b4 u e rfl), h.mu.put_other hp (fun e => c4 u e rfl), h.mh0.put_other hp (fun e => d4 u e rfl), .inr ⟨u, rfl, hu.1, hp.is⟩, h.mb.put_other hp (e5 u rfl), h.ap, hp.bel h.bel hu.1⟩
theorem Su.is_d0 {w wc : World} {hv dv uv h0 bv : Value} {u : Nat} {LH LH0 : List (ByteArray × Value)} {LD LD0 LU LB : List (Ky × Value)} (h : Su w wc hv dv uv h0 (.map (some u)) bv LH LH0 LD LD0 LU LB) : MapIs wc u kv LD0 := by
  rcases h.md0 with ⟨h1, _⟩ | ⟨b, h1, h2, h3⟩
  · cases h1
  · cases h1; exact h3
theorem Su.put_b {w wc w' : World} {hv dv uv h0 d0 : Value} {u : Nat} {LH LH0 : List (ByteArray × Value)} {LD LD0 LU LB : List (Ky × Value)} {X : List (Ky × Value)} (h : Su w wc hv dv uv h0 d0 (.map (some u)) LH LH0 LD LD0 LU LB) (hp : MapPut wc w' u kv X) : Su w w' hv dv uv h0 d0 (.map (some u)) LH LH0 LD LD0 LU X := by
  have ap := h.ap
  simp only [List.pairwise_cons, List.mem_cons, List.not_mem_nil, or_false, forall_eq_or_imp, forall_eq] at ap
  obtain ⟨⟨a1, a2, a3, a4, a5⟩, ⟨b2, b3, b4, b5⟩, ⟨c3, c4, c5⟩, ⟨d4, d5⟩, e5, _⟩ := ap
  have hu : w.heap.size ≤ u ∧ MapIs wc u kv LB := by
    rcases h.mb with ⟨h1, _⟩ | ⟨b, h1, h2, h3⟩
    · cases h1
    · cases h1; exact ⟨h2, h3⟩
  have hsb : w.heap.size ≠ u := by
    intro e; obtain ⟨es, c, h1, _⟩ := hu.2; rw [← e, h.blk] at h1; cases h1
  exact ⟨hp.blk h.blk hsb, h.mh.put_other hp (fun e => a5 u e rfl), h.md.put_other hp (fun e => b5 u e rfl), h.mu.put_other hp (fun e => c5 u e rfl), h.mh0.put_other hp (fun e => d5 u e rfl), h.md0.put_other hp (fun e => e5 u e rfl), .inr ⟨u, rfl, hu.1, hp.is⟩, h.ap, hp.bel h.bel hu.1⟩
theorem Su.is_b {w wc : World} {hv dv uv h0 d0 : Value} {u : Nat} {LH LH0 : List (ByteArray × Value)} {LD LD0 LU LB : List (Ky × Value)} (h : Su w wc hv dv uv h0 d0 (.map (some u)) LH LH0 LD LD0 LU LB) : MapIs wc u kv LB := by
  rcases h.mb with ⟨h1, _⟩ | ⟨b, h1, h2, h3⟩
  · cases h1
  · cases h1; exact h3
end Go.Proofs.Ybulkdxfs
