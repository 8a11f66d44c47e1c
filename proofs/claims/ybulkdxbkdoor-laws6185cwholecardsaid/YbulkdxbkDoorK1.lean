import Derived.Test.YbulkdxbkDoorRows
import Derived.WalkKit
import Derived.WalkSpells
import Derived.Lib.Walk
import Derived.Deep.AppendLies
import Derived.BigQuiet
import Derived.Handy
import Derived.Outline
import Derived.OwnWalk
import Derived.Below
import Derived.Deep.RegionLaw
import Derived.Deep.DeepCutAuto
import Derived.Deep.RegionHeld3
namespace Go.Proofs.YbulkdxbkDoor
open Go.RowKit
set_option linter.unusedVariables false
set_option linter.unusedSectionVars false

/-! ### Blocks and cells -/
theorem add0 (b j : Nat) : (⟨b, 0, none⟩ : Addr).add j = ⟨b, j, none⟩ := by unfold Addr.add; split <;> simp_all
theorem heap_new (w : World) (o : Obj) : (w.alloc o).heap[w.heap.size]? = some o := heap_alloc_new w o
theorem heap_old (w : World) (o : Obj) {c : Nat} (h : c < w.heap.size) : (w.alloc o).heap[c]? = w.heap[c]? := Below.heap_alloc w o c h
theorem blk_lt {w : World} {b : Nat} {o : Obj} (h : w.heap[b]? = some o) : b < w.heap.size := (Array.getElem?_eq_some_iff.1 h).1
theorem cell_of {w w' : World} {b o : Nat} {v : Value} (h : w.cell? ⟨b, o, none⟩ = some v) (hk : w'.heap[b]? = w.heap[b]?) : w'.cell? ⟨b, o, none⟩ = some v := by
  simp only [World.cell?] at *; rw [hk]; exact h
theorem cell_lt {w : World} {b o : Nat} {v : Value} (h : w.cell? ⟨b, o, none⟩ = some v) : b < w.heap.size := by
  simp only [World.cell?] at h
  by_cases hb : b < w.heap.size
  · exact hb
  · rw [Array.getElem?_eq_none (by omega)] at h; simp at h
theorem setCell_at {w : World} {b : Nat} {cs : Array Value} {t : TypeId} {fr : Nat × Nat} (h : w.heap[b]? = some (.cells cs t fr)) (o : Nat) (v : Value) : (w.setCell ⟨b, o, none⟩ v).heap[b]? = some (.cells (cs.setIfInBounds o v) t fr) := by
  simp [World.setCell, Array.getElem?_modify, h]
theorem setCell_far {w : World} {b c : Nat} (h : c ≠ b) (o : Nat) (v : Value) : (w.setCell ⟨b, o, none⟩ v).heap[c]? = w.heap[c]? := by
  simp [World.setCell, Array.getElem?_modify, Ne.symm h]
theorem setCell_size (w : World) (b o : Nat) (v : Value) : (w.setCell ⟨b, o, none⟩ v).heap.size = w.heap.size := by simp [World.setCell]

/-! ### Rows of the call's own -/
section
variable {w : World} {base g n cap s : Nat} {t : TypeId} {xs : List Value}
theorem own_blk (h : w.ownsRow base t s (.slice (some ⟨g, 0, none⟩) n cap) n xs) : ∃ cur, w.heap[g]? = some (.cells cur t (0, 0)) ∧ base ≤ g ∧ n ≤ cap ∧ cap ≤ maxLen ∧ cur.size = cap * s ∧ cur.toList.take (n * s) = xs := by
  rcases h.2 with ⟨h1, _⟩ | ⟨g', cap', cur, hv, hb, hg, h1, h2, h3, h4⟩
  · cases h1
  · cases hv; exact ⟨cur, hg, hb, h1, h2, h3, h4⟩
theorem own_cell (h : w.ownsRow base t s (.slice (some ⟨g, 0, none⟩) n cap) n xs) {j : Nat} {u : Value} (hj : xs[j]? = some u) : w.cell? ⟨g, j, none⟩ = some u := by
  have := h.cells (g := g) rfl j u hj
  rwa [add0] at this
theorem own_frozen (h : w.ownsRow base t s (.slice (some ⟨g, 0, none⟩) n cap) n xs) (j : Nat) : w.frozen? ⟨g, j, none⟩ = false := by
  obtain ⟨cur, hg, _⟩ := own_blk h
  simp [World.frozen?, hg]
theorem own_set (h : w.ownsRow base t s (.slice (some ⟨g, 0, none⟩) n cap) n xs) (j : Nat) (u : Value) : (w.setCell ⟨g, j, none⟩ u).ownsRow base t s (.slice (some ⟨g, 0, none⟩) n cap) n (xs.set j u) := by
  obtain ⟨cur, hg, hb, h1, h2, h3, h4⟩ := own_blk h
  refine ⟨by rw [List.length_set]; exact h.1, .inr ⟨g, cap, cur.setIfInBounds j u, rfl, hb, setCell_at hg j u, h1, h2, by simpa using h3, ?_⟩⟩
  rw [← h4, Array.toList_setIfInBounds, List.take_set]
theorem own_same {w' : World} {v : Value} {n' : Nat} (h : w.ownsRow base t s v n' xs) (hk : ∀ b, v.ownBlock = some b → w'.heap[b]? = w.heap[b]?) : w'.ownsRow base t s v n' xs := by
  refine ⟨h.1, ?_⟩
  rcases h.2 with h1 | ⟨g, cap, cur, rfl, hb, hg, r⟩
  · exact .inl h1
  · exact .inr ⟨g, cap, cur, rfl, hb, (hk g rfl).trans hg, r⟩
/-- xs[:0] -/
theorem own_zero {vo : Option Addr} (h : w.ownsRow base t s (.slice vo n cap) n xs) : w.ownsRow base t s (.slice vo 0 cap) 0 [] := by
  rcases h.2 with ⟨h1, h2⟩ | ⟨g, cap', cur, hv, hb, hg, h1, h2, h3, h4⟩
  · cases h1; exact ⟨by simp, .inl ⟨rfl, rfl⟩⟩
  · cases hv; exact ⟨by simp, .inr ⟨g, _, cur, rfl, hb, hg, Nat.zero_le _, h2, h3, by simp⟩⟩
theorem own_form {v : Value} (h : w.ownsRow base t s v n xs) : ∃ (vo : Option Addr) (cap g : Nat), v = .slice vo n cap ∧ (0 < n → vo = some ⟨g, 0, none⟩) ∧ (vo = none ∨ vo = some ⟨g, 0, none⟩) ∧ (vo = none → cap = 0) := by
  rcases h.2 with ⟨h1, h2⟩ | ⟨g, cap, cur, hv, _⟩
  · exact ⟨none, 0, 0, by rw [h2]; exact h1, fun h => by omega, .inl rfl, fun _ => rfl⟩
  · exact ⟨some ⟨g, 0, none⟩, cap, g, hv, fun _ => rfl, .inr rfl, fun h => by cases h⟩
theorem own_base {b' : Nat} {v : Value} (h : w.ownsRow base t s v n xs) (hb : ∀ g, v.ownBlock = some g → b' ≤ g) : w.ownsRow b' t s v n xs := by
  refine ⟨h.1, ?_⟩
  rcases h.2 with h1 | ⟨g, cap, cur, rfl, _, r⟩
  · exact .inl h1
  · exact .inr ⟨g, cap, cur, rfl, hb g rfl, r⟩
end

/-! ### What a piece of the walk leaves alone -/
structure Fr (w w' : World) (S : List Nat) : Prop where
  os : w'.os = w.os
  tape : w'.tape = w.tape
  output : w'.output = w.output
  size : w.heap.size ≤ w'.heap.size
  same : ∀ c, c < w.heap.size → c ∉ S → w'.heap[c]? = w.heap[c]?
theorem Fr.refl (w : World) (S : List Nat) : Fr w w S := ⟨rfl, rfl, rfl, Nat.le_refl _, fun _ _ _ => rfl⟩
section
variable {w w1 w2 : World} {S : List Nat}
theorem Fr.trans (h : Fr w w1 S) (h' : Fr w1 w2 S) : Fr w w2 S :=
  ⟨h'.os.trans h.os, h'.tape.trans h.tape, h'.output.trans h.output, Nat.le_trans h.size h'.size, fun c hc hs => (h'.same c (Nat.lt_of_lt_of_le hc h.size) hs).trans (h.same c hc hs)⟩
theorem Fr.then (h : Fr w w1 S) {S' : List Nat} (h' : Fr w1 w2 S') (hS : ∀ c ∈ S', c ∈ S ∨ w.heap.size ≤ c) : Fr w w2 S :=
  ⟨h'.os.trans h.os, h'.tape.trans h.tape, h'.output.trans h.output, Nat.le_trans h.size h'.size, fun c hc hs => (h'.same c (Nat.lt_of_lt_of_le hc h.size) (fun hm => by rcases hS c hm with h | h; exact hs h; omega)).trans (h.same c hc hs)⟩
theorem Fr.mono (h : Fr w w1 S) {S' : List Nat} (hS : ∀ c ∈ S, c ∈ S' ∨ w.heap.size ≤ c) : Fr w w1 S' :=
  ⟨h.os, h.tape, h.output, h.size, fun c hc hs => h.same c hc (fun hm => by rcases hS c hm with h | h; exact hs h; omega)⟩
theorem Fr.alloc (h : Fr w w1 S) (o : Obj) : Fr w (w1.alloc o) S :=
  ⟨h.os, h.tape, h.output, Nat.le_trans h.size (by simp), fun c hc hs => (heap_old w1 o (Nat.lt_of_lt_of_le hc h.size)).trans (h.same c hc hs)⟩
theorem Fr.drewN (h : Fr w w1 S) (n : Nat) : Fr w (w1.drewN n) S := ⟨h.os, h.tape, h.output, h.size, h.same⟩
theorem Fr.drew (h : Fr w w1 S) : Fr w w1.drew S := ⟨h.os, h.tape, h.output, h.size, h.same⟩
theorem Fr.set (h : Fr w w1 S) {b : Nat} (hb : b ∈ S ∨ w.heap.size ≤ b) (o : Nat) (v : Value) : Fr w (w1.setCell ⟨b, o, none⟩ v) S :=
  ⟨h.os, h.tape, h.output, Nat.le_trans h.size (by simp [World.setCell]), fun c hc hs => (setCell_far (fun e => by subst e; rcases hb with h | h; exact hs h; omega) o v).trans (h.same c hc hs)⟩
theorem Fr.grown (h : Fr w w1 S) {row : Option Nat} (hg : w1.grownBy w2 row) (hb : ∀ b, row = some b → b ∈ S ∨ w.heap.size ≤ b) : Fr w w2 S :=
  ⟨hg.os.trans h.os, hg.tape.trans h.tape, hg.output.trans h.output, Nat.le_trans h.size hg.size, fun c hc hs => (hg.block c (Nat.lt_of_lt_of_le hc h.size) (fun e => by rcases hb c e.symm with h | h; exact hs h; omega)).trans (h.same c hc hs)⟩
theorem Fr.below {base : Nat} {w0 : World} (h : Fr w w1 S) (hS : ∀ c ∈ S, base ≤ c) (hb : Below base w0 w) (hle : base ≤ w.heap.size) : Below base w0 w1 :=
  hb.trans ⟨h.os, h.tape, h.output, h.size, fun c hc => h.same c (by omega) (fun hm => by have := hS c hm; omega)⟩
theorem Fr.cell {b o : Nat} {v : Value} (h : Fr w w1 S) (hc : w.cell? ⟨b, o, none⟩ = some v) (hb : b ∉ S) : w1.cell? ⟨b, o, none⟩ = some v := cell_of hc (h.same b (cell_lt hc) hb)
theorem Fr.blk {b : Nat} {o : Obj} (h : Fr w w1 S) (hc : w.heap[b]? = some o) (hb : b ∉ S) : w1.heap[b]? = some o := (h.same b (blk_lt hc) hb).trans hc
theorem Fr.own {base n s : Nat} {t : TypeId} {xs : List Value} {v : Value} (h : Fr w w1 S) (ho : w.ownsRow base t s v n xs) (hb : ∀ b, v.ownBlock = some b → b ∉ S) : w1.ownsRow base t s v n xs :=
  own_same ho fun b e => h.same b (ho.lt b e).2 (hb b e)
end
def blks (v : Value) : List Nat := v.ownBlock.toList
theorem mem_blks {v : Value} {b : Nat} : b ∈ blks v ↔ v.ownBlock = some b := by unfold blks; cases v.ownBlock <;> simp [eq_comm]
/-- where a grown row may lie -/
def Moved (w : World) (v v' : Value) : Prop := ∀ b, v'.ownBlock = some b → v.ownBlock = some b ∨ w.heap.size ≤ b
theorem Moved.refl (w : World) (v : Value) : Moved w v v := fun _ h => .inl h
theorem Moved.trans {w w1 : World} {S : List Nat} {v v1 v2 : Value} (h : Moved w v v1) (hf : Fr w w1 S) (h' : Moved w1 v1 v2) : Moved w v v2 := fun b hb => by
  rcases h' b hb with h1 | h1
  · exact h b h1
  · exact .inr (Nat.le_trans hf.size h1)

/-! ### Types -/
theorem info3 : (Ybad.prog.info? 3).map (fun i => (i.zero, i.size, i.bytes)) = some (some (.int .i64 0), 1, 8) := by kernel_rfl
theorem info4 : (Ybad.prog.info? 4).map (fun i => (i.zero, i.size, i.bytes)) = some (some (.bool false), 1, 1) := by kernel_rfl
theorem info9 : (Ybad.prog.info? 9).map (fun i => (i.zero, i.size, i.bytes)) = some (some (.string ⟨#[]⟩), 1, 16) := by kernel_rfl

def ints (L : List Nat) : List Value := L.map fun (x : Nat) => Value.int .i64 (x : Int)
def bools (n : Nat) (p : Nat → Bool) : List Value := (List.range n).map fun i => .bool (p i)
theorem ints_len (L : List Nat) : (ints L).length = L.length := by simp [ints]
theorem ints_get {L : List Nat} {i x : Nat} (h : L[i]? = some x) : (ints L)[i]? = some (.int .i64 (x : Int)) := by simp [ints, h]
theorem ints_one (L : List Nat) : ∀ u ∈ ints L, u.oneCell' = true := by intro u hu; simp [ints] at hu; obtain ⟨x, _, rfl⟩ := hu; rfl
theorem ints_app (L M : List Nat) : ints (L ++ M) = ints L ++ ints M := by simp [ints]
theorem bools_get {n : Nat} {p : Nat → Bool} {i : Nat} (h : i < n) : (bools n p)[i]? = some (.bool (p i)) := by simp [bools, h]
theorem bools_len (n : Nat) (p : Nat → Bool) : (bools n p).length = n := by simp [bools]
theorem bools_set (n : Nat) (p : Nat → Bool) (k : Nat) (b : Bool) : (bools n p).set k (.bool b) = bools n (fun i => if i = k then b else p i) := by
  apply List.ext_getElem?
  intro i
  rw [List.getElem?_set]
  by_cases hi : i < n
  · rw [bools_get hi]
    by_cases e : k = i
    · subst e; rw [if_pos rfl, if_pos (by rw [bools_len]; exact hi), bools_get hi]; simp
    · rw [if_neg e, bools_get hi]; simp [Ne.symm e]
  · rw [List.getElem?_eq_none (l := bools n (fun i => if i = k then b else p i)) (by rw [bools_len]; omega)]
    by_cases e : k = i
    · subst e; simp [bools_len, hi]
    · rw [if_neg e, List.getElem?_eq_none (by rw [bools_len]; omega)]
theorem bools_congr {n : Nat} {p q : Nat → Bool} (h : ∀ i, i < n → p i = q i) : bools n p = bools n q := by
  unfold bools; apply List.map_congr_left; intro i hi; rw [h i (by simpa using hi)]
theorem made_bools (n : Nat) : (madeCells (Value.bool false).cells (n * 1)).toList = bools n (fun _ => false) := by
  apply List.ext_getElem?
  intro i
  by_cases hi : i < n
  · rw [bools_get hi]; simp [madeCells, hi, Value.cells, Nat.mod_one]
  · rw [List.getElem?_eq_none (by simp [madeCells]; omega), List.getElem?_eq_none (by rw [bools_len]; omega)]
theorem made_one (z : Value) (hz : z.cells = #[z]) (n : Nat) : (madeCells z.cells (n * 1)).toList = List.replicate n z := by
  apply List.ext_getElem?
  intro i
  by_cases hi : i < n
  · simp [madeCells, hi, hz, Nat.mod_one]
  · rw [List.getElem?_eq_none (by simp [madeCells]; omega), List.getElem?_eq_none (by simp; omega)]

/-! ### append onto a row of ints -/
theorem run_app26 (w : World) (ty : TypeId) {B n : Nat} {v : Value} {xs : List Value} (own : w.ownsRow B 3 1 v n xs) (sa : Option Addr) (m c : Nat) (news : List Value) (hl : news.length = m)
    (hs : 0 < m → ∃ ad, sa = some ad ∧ ∀ j u, news[j]? = some u → w.cell? (ad.add j) = some u) (hsn : sa = none → c = 0) (h1 : ∀ u ∈ news, u.oneCell' = true) (hb : n + m ≤ 1099511627776) (hB : B ≤ w.heap.size) :
    ∃ vo cap w', (Builtin.append_ #[44, 44] ty #[v, .slice sa m c]).run Ybad.prog w = .ok (.slice vo (n + m) cap) w' ∧ w'.ownsRow B 3 1 (.slice vo (n + m) cap) (n + m) (xs ++ news) ∧ Fr w w' (blks v) ∧ Moved w v (.slice vo (n + m) cap) := by
  obtain ⟨i3, hi3, hz0, hz1, hz2⟩ := info_parts info3
  have main : ∀ ad, sa = some ad → (∀ j u, news[j]? = some u → w.cell? (ad.add j) = some u) → ∃ vo cap w', (Builtin.append_ #[44, 44] ty #[v, .slice sa m c]).run Ybad.prog w = .ok (.slice vo (n + m) cap) w' ∧ w'.ownsRow B 3 1 (.slice vo (n + m) cap) (n + m) (xs ++ news) ∧ Fr w w' (blks v) ∧ Moved w v (.slice vo (n + m) cap) := by
    rintro ad rfl hc
    obtain ⟨v', w', hr, ho, hg, _, hat⟩ := run_append_own_at (P := Ybad.prog) w B 44 ty 3 i3 (.int .i64 0) 1 8 Ybad.underlying44 hi3 hz0 hz1 hz2 rfl (by decide) v n xs own ad m c news (by omega) hc h1 (by unfold maxLen; omega) (by omega) hB
    obtain ⟨vo, cap, g, rfl, _⟩ := own_form ho
    refine ⟨vo, cap, w', hr, ho, (Fr.refl w _).grown hg (fun b hb => .inl (mem_blks.2 hb)), fun b hb => ?_⟩
    rcases hat with h | h
    · exact .inl (h ▸ hb)
    · rw [h] at hb; cases hb; exact .inr (Nat.le_refl _)
  by_cases hm : 0 < m
  · obtain ⟨ad, h2, h3⟩ := hs hm; exact main ad h2 h3
  · obtain rfl : m = 0 := by omega
    obtain rfl : news = [] := List.eq_nil_of_length_eq_zero hl
    cases sa with
    | some ad => exact main ad rfl (fun j u h => by simp at h)
    | none =>
      obtain rfl := hsn rfl
      obtain ⟨vo, cap, g, rfl, h2, h3, h4⟩ := own_form own
      have hle : n ≤ cap := by
        rcases h3 with rfl | rfl
        · have : n = 0 := by rcases Nat.eq_zero_or_pos n with h | h; exact h; cases h2 h
          omega
        · obtain ⟨_, _, _, h, _⟩ := own_blk own; exact h
      refine ⟨vo, cap, w, ?_, by simpa using own, Fr.refl _ _, Moved.refl _ _⟩
      cases vo <;> simp [Builtin.append_, run_underlying Ybad.underlying44, sizeOf, typeInfo, hi3, Builtin.lenOf, Builtin.firstCells, storeCells, hle]
/-- one int, laid by the walk in a block of its own -/
theorem wpList_app1 {ops : Array Oper} {rest : List Oper} {o : Oper} {a : Act} {Q : Exit → Act → World → Prop} (hgd : o.guard = none) (s x : Operand)
    (ho : o.op = .call { callee := .builtin .append, args := #[s, x], argTypes := #[44, 44] }) (w0 : World) (k : Int) {B n : Nat} {v : Value} {xs : List Value} (hs : a.eval s = v) (own : w0.ownsRow B 3 1 v n xs)
    (hx : a.eval x = .slice (some ⟨w0.heap.size, 0, none⟩) 1 1) (hn : n < 1099511627776) (hB : B ≤ w0.heap.size)
    (h : ∀ g cap w', w'.ownsRow B 3 1 (.slice (some ⟨g, 0, none⟩) (n + 1) cap) (n + 1) (xs ++ [.int .i64 k]) → Fr w0 w' (blks v) → Moved w0 v (.slice (some ⟨g, 0, none⟩) (n + 1) cap) → wpList Ybad.prog ops Q rest (a.put o.dst (.slice (some ⟨g, 0, none⟩) (n + 1) cap)) w') :
    wpList Ybad.prog ops Q (o :: rest) a (w0.alloc (.cells #[.int .i64 k] 3)) := by
  refine wpList_plain hgd fun K hK => ?_
  obtain ⟨vo, cap, w', hr, ho', hf, hm⟩ := run_app26 (w0.alloc (.cells #[.int .i64 k] 3)) o.type (own.alloc _) (some ⟨w0.heap.size, 0, none⟩) 1 1 [.int .i64 k] rfl
    (fun _ => ⟨_, rfl, World.news_of_block (heap_new w0 _)⟩) (fun h => by cases h) (by intro u hu; simp at hu; subst hu; rfl) (by omega) (by simp; omega)
  obtain ⟨vo', cap', g, e1, e2, _, _⟩ := own_form ho'
  cases e1
  obtain rfl := e2 (by omega)
  have hm' : Moved w0 v (.slice (some ⟨g, 0, none⟩) (n + 1) cap) := fun b hb => by
    rcases hm b hb with h | h
    · exact .inl h
    · exact .inr (by simp at h; omega)
  have := hK _ _ (h g cap w' ho' (((Fr.refl w0 _).alloc _).then hf (fun c hc => .inl hc)) hm')
  unfold Oper.wp execOp
  simp only [ho, resolve, invoke, builtin, Sem.run_bind, Sem.run_pure, Result.andThen_ok, List.map_toArray, List.map_cons, List.map_nil, hs, hx, hr]
  exact this
/-- a whole slice appended -/
theorem wpList_app {ops : Array Oper} {rest : List Oper} {o : Oper} {a : Act} {w : World} {Q : Exit → Act → World → Prop} (hgd : o.guard = none) (s x : Operand)
    (ho : o.op = .call { callee := .builtin .append, args := #[s, x], argTypes := #[44, 44] }) {B n : Nat} {v : Value} {xs : List Value} (hs : a.eval s = v) (own : w.ownsRow B 3 1 v n xs)
    (sa : Option Addr) (m c : Nat) (news : List Value) (hx : a.eval x = .slice sa m c) (hl : news.length = m)
    (hsrc : 0 < m → ∃ ad, sa = some ad ∧ ∀ j u, news[j]? = some u → w.cell? (ad.add j) = some u) (hsn : sa = none → c = 0) (h1 : ∀ u ∈ news, u.oneCell' = true) (hb : n + m ≤ 1099511627776) (hB : B ≤ w.heap.size)
    (h : ∀ vo cap w', w'.ownsRow B 3 1 (.slice vo (n + m) cap) (n + m) (xs ++ news) → Fr w w' (blks v) → Moved w v (.slice vo (n + m) cap) → wpList Ybad.prog ops Q rest (a.put o.dst (.slice vo (n + m) cap)) w') :
    wpList Ybad.prog ops Q (o :: rest) a w := by
  refine wpList_plain hgd fun K hK => ?_
  obtain ⟨vo, cap, w', hr, ho', hf, hm⟩ := run_app26 w o.type own sa m c news hl hsrc hsn h1 hb hB
  have := hK _ _ (h vo cap w' ho' hf hm)
  unfold Oper.wp execOp
  simp only [ho, resolve, invoke, builtin, Sem.run_bind, Sem.run_pure, Result.andThen_ok, List.map_toArray, List.map_cons, List.map_nil, hs, hx, hr]
  exact this

/-! ### Index and slice expressions -/
section
variable {a : Option Addr} {n c b o k : Nat}
theorem index26 (ha : 0 < n → a = some ⟨b, o, none⟩) (hk : k < n) (w : World) : (Instr.indexAt 44 (.slice a n c) (.int .i64 (k : Int))).run Ybad.prog w = .ok (.pointer (some ⟨b, o + k, none⟩)) w := by
  rw [ha (by omega)]
  by_cases h0 : k = 0
  · subst h0; simp [Instr.indexAt, run_underlying Ybad.underlying44, asIntOf, hk, Addr.add]
  · simp [Instr.indexAt, run_underlying Ybad.underlying44, asIntOf, hk, Addr.add, h0]
theorem index30 (hk : k < n) (w : World) : (Instr.indexAt 61 (.slice (some ⟨b, 0, none⟩) n c) (.int .i64 (k : Int))).run Ybad.prog w = .ok (.pointer (some ⟨b, k, none⟩)) w := by
  by_cases h0 : k = 0
  · subst h0; simp [Instr.indexAt, run_underlying Ybad.underlying61, asIntOf, hk, Addr.add]
  · simp [Instr.indexAt, run_underlying Ybad.underlying61, asIntOf, hk, Addr.add, h0]
theorem index26z (hk : k < n) (w : World) : (Instr.indexAt 44 (.slice (some ⟨b, 0, none⟩) n c) (.int .i64 (k : Int))).run Ybad.prog w = .ok (.pointer (some ⟨b, k, none⟩)) w := by
  have := index26 (a := some ⟨b, 0, none⟩) (c := c) (o := 0) (fun _ => rfl) hk w
  rwa [Nat.zero_add] at this
/-- xs[:0] -/
theorem slice0 (ha : a = none → n = 0 ∧ c = 0) (w : World) : (Instr.sliceAt 44 (.slice a n c) none (some (.int .i64 0)) none).run Ybad.prog w = .ok (.slice a 0 c) w := by
  cases a with
  | none => obtain ⟨rfl, rfl⟩ := ha rfl; simp [Instr.sliceAt, Instr.slice, Instr.sliceBounds, Instr.sliceBound, run_underlying Ybad.underlying44, asIntOf]
  | some x => simp [Instr.sliceAt, Instr.slice, Instr.sliceBounds, Instr.sliceBound, run_underlying Ybad.underlying44, asIntOf, Addr.add]
end
section
variable {a : Option Addr} {n c b o i j : Nat}
theorem slice26 (ha : 0 < n → a = some ⟨b, o, none⟩) (hn : a = none → n = 0 ∧ c = 0) (hij : i ≤ j) (hj : j ≤ n) (hc : n ≤ c) :
    ∃ a', (0 < j - i → a' = some ⟨b, o + i, none⟩) ∧ (a' = none → c - i = 0) ∧ ∀ w, (Instr.sliceAt 44 (.slice a n c) (some (.int .i64 (i : Int))) (some (.int .i64 (j : Int))) none).run Ybad.prog w = .ok (.slice a' (j - i) (c - i)) w := by
  have hjc : j ≤ c := by omega
  cases a with
  | none =>
    obtain ⟨rfl, rfl⟩ := hn rfl
    obtain rfl : j = 0 := by omega
    obtain rfl : i = 0 := by omega
    exact ⟨none, fun h => by omega, fun _ => rfl, fun w => by simp [Instr.sliceAt, Instr.slice, Instr.sliceBounds, Instr.sliceBound, run_underlying Ybad.underlying44, asIntOf]⟩
  | some x =>
    by_cases h0 : c = i
    · subst h0
      obtain rfl : j = c := by omega
      exact ⟨some x, fun h => by omega, (fun h => by cases h), fun w => by simp [Instr.sliceAt, Instr.slice, Instr.sliceBounds, Instr.sliceBound, run_underlying Ybad.underlying44, asIntOf]⟩
    · refine ⟨some (x.add i), fun h => ?_, (fun h => by cases h), fun w => by simp [Instr.sliceAt, Instr.slice, Instr.sliceBounds, Instr.sliceBound, run_underlying Ybad.underlying44, asIntOf, hij, hjc, h0]⟩
      have := ha (by omega)
      cases this
      by_cases hi : i = 0
      · subst hi; simp [Addr.add]
      · simp [Addr.add, hi]
theorem slice26f (ha : 0 < n → a = some ⟨b, o, none⟩) (hn : a = none → n = 0 ∧ c = 0) (hi : i ≤ n) (hc : n ≤ c) :
    ∃ a', (0 < n - i → a' = some ⟨b, o + i, none⟩) ∧ (a' = none → c - i = 0) ∧ ∀ w, (Instr.sliceAt 44 (.slice a n c) (some (.int .i64 (i : Int))) none none).run Ybad.prog w = .ok (.slice a' (n - i) (c - i)) w := by
  cases a with
  | none =>
    obtain ⟨rfl, rfl⟩ := hn rfl
    obtain rfl : i = 0 := by omega
    exact ⟨none, fun h => by omega, fun _ => rfl, fun w => by simp [Instr.sliceAt, Instr.slice, Instr.sliceBounds, Instr.sliceBound, run_underlying Ybad.underlying44, asIntOf]⟩
  | some x =>
    by_cases h0 : c = i
    · exact ⟨some x, fun h => by omega, (fun h => by cases h), fun w => by simp [Instr.sliceAt, Instr.slice, Instr.sliceBounds, Instr.sliceBound, run_underlying Ybad.underlying44, asIntOf, hi, h0]⟩
    · refine ⟨some (x.add i), fun h => ?_, (fun h => by cases h), fun w => by simp [Instr.sliceAt, Instr.slice, Instr.sliceBounds, Instr.sliceBound, run_underlying Ybad.underlying44, asIntOf, hi, h0]⟩
      have := ha (by omega)
      cases this
      by_cases hi : i = 0
      · subst hi; simp [Addr.add]
      · simp [Addr.add, hi]
theorem slice26t {x : Addr} (hj : j ≤ c) (w : World) : (Instr.sliceAt 44 (.slice (some x) n c) none (some (.int .i64 (j : Int))) none).run Ybad.prog w = .ok (.slice (some x) j c) w := by
  simp [Instr.sliceAt, Instr.slice, Instr.sliceBounds, Instr.sliceBound, run_underlying Ybad.underlying44, asIntOf, hj, Addr.add]
end

/-! ### Plain -/
def addNew (out xs : List Nat) : List Nat := xs.foldl (fun o x => if x ∈ o then o else o ++ [x]) out
theorem addNew_nil (out : List Nat) : addNew out [] = out := rfl
theorem addNew_cons (out : List Nat) (x : Nat) (xs : List Nat) : addNew out (x :: xs) = addNew (if x ∈ out then out else out ++ [x]) xs := rfl
theorem addNew_app (out xs ys : List Nat) : addNew out (xs ++ ys) = addNew (addNew out xs) ys := by simp [addNew, List.foldl_append]
theorem addNew_snoc_in {out xs : List Nat} {x : Nat} (h : x ∈ addNew out xs) : addNew out (xs ++ [x]) = addNew out xs := by rw [addNew_app, addNew_cons, if_pos h, addNew_nil]
theorem addNew_snoc_out {out xs : List Nat} {x : Nat} (h : x ∉ addNew out xs) : addNew out (xs ++ [x]) = addNew out xs ++ [x] := by rw [addNew_app, addNew_cons, if_neg h, addNew_nil]
theorem addNew_mem {out xs : List Nat} {y : Nat} : y ∈ addNew out xs ↔ y ∈ out ∨ y ∈ xs := by
  induction xs generalizing out with
  | nil => simp [addNew_nil]
  | cons x xs ih =>
    rw [addNew_cons, ih]
    split
    · rename_i h
      constructor
      · rintro (h | h)
        · exact .inl h
        · exact .inr (List.mem_cons_of_mem _ h)
      · rintro (h1 | h1)
        · exact .inl h1
        · rcases List.mem_cons.1 h1 with rfl | h1
          · exact .inl h
          · exact .inr h1
    · simp [or_assoc]
theorem addNew_nodup {out : List Nat} (h : out.Nodup) (xs : List Nat) : (addNew out xs).Nodup := by
  induction xs generalizing out with
  | nil => exact h
  | cons x xs ih =>
    rw [addNew_cons]
    split
    · exact ih h
    · rename_i hx
      refine ih ?_
      rw [List.nodup_append]
      refine ⟨h, by simp, fun a ha b hb => ?_⟩
      simp at hb; subst hb
      exact fun e => hx (e ▸ ha)
theorem addNew_fresh {out xs : List Nat} (h : xs.Nodup) (hd : ∀ x ∈ xs, x ∉ out) : addNew out xs = out ++ xs := by
  induction xs generalizing out with
  | nil => simp [addNew_nil]
  | cons x xs ih =>
    rw [addNew_cons, if_neg (hd x (by simp))]
    rw [List.nodup_cons] at h
    rw [ih h.2 (fun y hy hm => ?_)]
    · simp
    · rcases List.mem_append.1 hm with h1 | h1
      · exact hd y (List.mem_cons_of_mem _ hy) h1
      · simp at h1; subst h1; exact h.1 hy
theorem len_le_of_nodup (n : Nat) : ∀ L : List Nat, L.Nodup → (∀ x ∈ L, x < n) → L.length ≤ n := by
  induction n with
  | zero => intro L _ h; cases L with | nil => simp | cons x r => exact absurd (h x (by simp)) (by omega)
  | succ n ih =>
    intro L hd h
    by_cases hm : n ∈ L
    · have h1 := List.length_erase_of_mem hm
      have h2 := ih (L.erase n) (hd.erase n) (fun x hx => by
        have h3 := h x (List.mem_of_mem_erase hx)
        have h4 : x ≠ n := fun e => by subst e; exact (List.Nodup.not_mem_erase hd) hx
        omega)
      omega
    · have := ih L hd (fun x hx => by
        have h3 := h x hx
        have h4 : x ≠ n := fun e => hm (e ▸ hx)
        omega)
      omega
def bfs (S : Nat → List Nat) : Nat → List Nat → Nat → List Nat
  | 0, out, _ => out
  | f + 1, out, i => match out[i]? with
    | none => out
    | some k => bfs S f (addNew out (S k)) (i + 1)
theorem bfs_done {S : Nat → List Nat} {f i : Nat} {out : List Nat} (h : out.length ≤ i) : bfs S f out i = out := by
  cases f with
  | zero => rfl
  | succ f => simp only [bfs]; rw [List.getElem?_eq_none h]
theorem bfs_step {S : Nat → List Nat} {f i k : Nat} {out : List Nat} (h : out[i]? = some k) : bfs S (f + 1) out i = bfs S f (addNew out (S k)) (i + 1) := by
  simp only [bfs]; rw [h]
theorem bfs_none {S : Nat → List Nat} (hS : ∀ k, S k = []) (f i : Nat) (out : List Nat) : bfs S f out i = out := by
  induction f generalizing i with
  | zero => rfl
  | succ f ih =>
    simp only [bfs]
    split
    · rfl
    · rw [hS, addNew_nil]; exact ih (i + 1)
end Go.Proofs.YbulkdxbkDoor
