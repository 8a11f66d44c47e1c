import Derived.Test.YbulkdxbkKh
namespace Go.Proofs.Ybulkdxbk
open Go.RowKit
set_option linter.unusedVariables false
set_option linter.unusedSectionVars false

/-- what a list of moves must be -/
structure MGood (n : Nat) (L : List (Nat × Nat)) : Prop where
  sort : L.Pairwise (fun a b => a.1 < b.1 ∨ (a.1 = b.1 ∧ a.2 < b.2))
  tgt : ∀ m ∈ L, m.2 < n
  len : L.length ≤ 1024
/-- .. while it grows: all its moves come before (s, t) -/
structure LG (n s t : Nat) (L : List (Nat × Nat)) : Prop where
  sort : L.Pairwise (fun a b => a.1 < b.1 ∨ (a.1 = b.1 ∧ a.2 < b.2))
  tgt : ∀ m ∈ L, m.2 < n ∧ (m.1 < s ∨ (m.1 = s ∧ m.2 < t))
  len : L.length ≤ s * n + t
theorem LG.nil (n : Nat) : LG n 0 0 [] := ⟨List.Pairwise.nil, fun m h => by simp at h, by simp⟩
theorem LG.skip {n s t : Nat} {L : List (Nat × Nat)} (h : LG n s t L) : LG n s (t + 1) L := ⟨h.sort, fun m hm => ⟨(h.tgt m hm).1, by rcases (h.tgt m hm).2 with h | h <;> omega⟩, by have := h.len; omega⟩
theorem LG.push {n s t : Nat} {L : List (Nat × Nat)} (h : LG n s t L) (ht : t < n) : LG n s (t + 1) (L ++ [(s, t)]) := by
  refine ⟨?_, fun m hm => ?_, by have := h.len; simp; omega⟩
  · rw [List.pairwise_append]
    refine ⟨h.sort, by simp, fun a ha b hb => ?_⟩
    simp at hb; subst hb
    rcases (h.tgt a ha).2 with h1 | h1
    · exact .inl h1
    · exact .inr h1
  · rcases List.mem_append.1 hm with h1 | h1
    · exact ⟨(h.tgt m h1).1, by rcases (h.tgt m h1).2 with h | h <;> omega⟩
    · simp at h1; subst h1; exact ⟨ht, by simp⟩
theorem LG.line {n s : Nat} {L : List (Nat × Nat)} (h : LG n s n L) : LG n (s + 1) 0 L := ⟨h.sort, fun m hm => ⟨(h.tgt m hm).1, by rcases (h.tgt m hm).2 with h | h <;> omega⟩, by have := h.len; rw [Nat.succ_mul]; omega⟩
theorem LG.done {n k : Nat} {L : List (Nat × Nat)} (h : LG n k 0 L) (hk : k ≤ 4) (hn : n ≤ 256) : MGood n L := ⟨h.sort, fun m hm => (h.tgt m hm).1, by
  have h1 := h.len
  have h2 : k * n ≤ 4 * 256 := Nat.mul_le_mul hk hn
  omega⟩
/-- the moves, q rows of them done -/
structure PM (w : World) (hb N mb n : Nat) (p : Nat → Bool) (wr : World) (q : Nat) (VS : List Value) (MVs : List (List (Nat × Nat))) : Prop where
  hs : wr.ownsRow w.heap.size 4 1 (.slice (some ⟨hb, 0, none⟩) N N) N (bools N p)
  hm : hb < mb
  own : wr.ownsRow w.heap.size 54 1 (.slice (some ⟨mb, 0, none⟩) n n) n VS
  len : MVs.length = q
  done : ∀ (i : Nat) L, MVs[i]? = some L → MGood n L ∧ ∃ v, VS[i]? = some v ∧ IsMoves wr v L ∧ ∀ b, v.ownBlock = some b → mb < b ∧ b < wr.heap.size
  rest : ∀ i, q ≤ i → i < n → VS[i]? = some (.slice none 0 0)
  fr : Fr w wr []
/-- .. a row on the way -/
structure PC (w : World) (hb N mb n : Nat) (p : Nat → Bool) (H : Nat) (wr : World) (q : Nat) (VS : List Value) (MVs : List (List (Nat × Nat))) (vo : Option Addr) (cap : Nat) (L : List (Nat × Nat)) : Prop where
  hs : wr.ownsRow w.heap.size 4 1 (.slice (some ⟨hb, 0, none⟩) N N) N (bools N p)
  hm : hb < mb
  own : wr.ownsRow w.heap.size 54 1 (.slice (some ⟨mb, 0, none⟩) n n) n VS
  len : MVs.length = q
  done : ∀ (i : Nat) L, MVs[i]? = some L → MGood n L ∧ ∃ v, VS[i]? = some v ∧ IsMoves wr v L ∧ ∀ b, v.ownBlock = some b → mb < b ∧ b < H
  rest : ∀ i, q < i → i < n → VS[i]? = some (.slice none 0 0)
  fr : Fr w wr []
  mH : mb < H
  Hw : H ≤ wr.heap.size
  at_ : VS[q]? = some (.slice vo L.length cap)
  cur : wr.ownsRow H 56 2 (.slice vo L.length cap) L.length (mcells L)
section
variable {w wr w2 : World} {hb N mb n q H cap : Nat} {p : Nat → Bool} {VS : List Value} {MVs : List (List (Nat × Nat))} {vo : Option Addr} {L : List (Nat × Nat)}
theorem PM.start (h : PM w hb N mb n p wr q VS MVs) (hq : q < n) : PC w hb N mb n p wr.heap.size wr q VS MVs none 0 [] :=
  ⟨h.hs, h.hm, h.own, h.len, h.done, fun i h1 h2 => h.rest i (by omega) h2, h.fr, (h.own.lt mb rfl).2, Nat.le_refl _, h.rest q (Nat.le_refl _) hq, World.ownsRow_nil _ _ _ _⟩
theorem PC.finish (h : PC w hb N mb n p H wr q VS MVs vo cap L) (hL : MGood n L) : PM w hb N mb n p wr (q + 1) VS (MVs ++ [L]) := by
  have hH := h.Hw
  refine ⟨h.hs, h.hm, h.own, by simp [h.len], fun i L' hi => ?_, fun i h1 h2 => h.rest i (by omega) h2, h.fr⟩
  rcases Nat.lt_or_ge i MVs.length with hlt | hge
  · rw [List.getElem?_append_left hlt] at hi
    obtain ⟨h1, v, h2, h3, h4⟩ := h.done i L' hi
    exact ⟨h1, v, h2, h3, fun b hb => ⟨(h4 b hb).1, by have := (h4 b hb).2; omega⟩⟩
  · have hl := (List.getElem?_eq_some_iff.1 hi).1
    have e : i = MVs.length := by simp at hl; omega
    subst e
    rw [List.getElem?_append_right (Nat.le_refl _), Nat.sub_self] at hi
    simp at hi; subst hi
    refine ⟨hL, _, by rw [h.len]; exact h.at_, own_moves h.cur, fun b hb' => ?_⟩
    have := h.cur.lt b hb'
    have := h.mH
    omega
theorem PC.push (h : PC w hb N mb n p H wr q VS MVs vo cap L) (hq : q < n) {s t g cap' : Nat}
    (ho : w2.ownsRow H 56 2 (.slice (some ⟨g, 0, none⟩) (L.length + 1) cap') (L.length + 1) (mcells L ++ [.int .i64 (s : Int), .int .i64 (t : Int)])) (hf : Fr wr w2 (blks (.slice vo L.length cap))) :
    PC w hb N mb n p H (w2.setCell ⟨mb, q, none⟩ (.slice (some ⟨g, 0, none⟩) (L.length + 1) cap')) q (VS.set q (.slice (some ⟨g, 0, none⟩) (L.length + 1) cap')) MVs (some ⟨g, 0, none⟩) cap' (L ++ [(s, t)]) := by
  have hmH := h.mH
  have hhm := h.hm
  have hge : ∀ b, b ∈ blks (.slice vo L.length cap) → H ≤ b := fun b hb' => (h.cur.lt b (mem_blks.1 hb')).1
  have hlen : (L ++ [(s, t)]).length = L.length + 1 := by simp
  have hg := (ho.lt g rfl).1
  have hVl : VS.length = n := by have := h.own.1; omega
  have hwH : w.heap.size ≤ mb := (h.own.lt mb rfl).1
  refine ⟨?_, h.hm, ?_, h.len, fun i L' hi => ?_, fun i h1 h2 => ?_, ?_, h.mH, ?_, ?_, ?_⟩
  · refine own_same (hf.own h.hs fun b hb' hm' => ?_) fun b hb' => setCell_far ?_ _ _
    · cases hb'; have := hge hb hm'; omega
    · have e : hb = b := by cases hb'; rfl
      omega
  · exact own_set (hf.own h.own fun b hb' hm' => by cases hb'; have := hge mb hm'; omega) q _
  · obtain ⟨h1, v, h2, h3, h4⟩ := h.done i L' hi
    have hiq : i < q := by have := (List.getElem?_eq_some_iff.1 hi).1; rw [h.len] at this; exact this
    refine ⟨h1, v, by rw [List.getElem?_set_ne (by omega)]; exact h2, ?_, h4⟩
    refine (h3.fr hf fun b hb' hm' => ?_).fr (S := [mb]) ((Fr.refl w2 _).set (.inl (by simp)) _ _) fun b hb' hm' => ?_
    · have := hge b hm'; have := (h4 b hb').2; omega
    · simp at hm'; have := (h4 b hb').1; omega
  · rw [List.getElem?_set_ne (by omega)]; exact h.rest i h1 h2
  · refine (h.fr.then hf fun c hc => .inr ?_).set (.inr (by omega)) _ _
    have := hge c hc; omega
  · rw [setCell_size]; exact Nat.le_trans h.Hw hf.size
  · rw [List.getElem?_set_self (by omega), hlen]
  · rw [hlen, mcells_app]
    refine own_same ho fun b hb' => setCell_far ?_ _ _
    have hb'' : g = b := by cases hb'; rfl
    omega
end
end Go.Proofs.Ybulkdxbk
