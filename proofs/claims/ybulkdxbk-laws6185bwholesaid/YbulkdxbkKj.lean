import Derived.Test.YbulkdxbkKi
namespace Go.Proofs.Ybulkdxbk
open Go.RowKit
set_option linter.unusedVariables false
set_option linter.unusedSectionVars false

/-- what a list of null moves must be -/
structure NGood (n q : Nat) (L : List Nat) : Prop where
  nd : L.Nodup
  tgt : ∀ r ∈ L, q < r ∧ r < n
structure NG (q t : Nat) (L : List Nat) : Prop where
  nd : L.Nodup
  tgt : ∀ r ∈ L, q < r ∧ r < t
theorem NG.nil (q t : Nat) : NG q t [] := ⟨List.nodup_nil, fun m h => by simp at h⟩
theorem NG.skip {q t : Nat} {L : List Nat} (h : NG q t L) : NG q (t + 1) L := ⟨h.nd, fun m hm => ⟨(h.tgt m hm).1, by have := (h.tgt m hm).2; omega⟩⟩
theorem NG.push {q t : Nat} {L : List Nat} (h : NG q t L) (hq : q < t) : NG q (t + 1) (L ++ [t]) := by
  refine ⟨?_, fun m hm => ?_⟩
  · rw [List.nodup_append]
    refine ⟨h.nd, by simp, fun a ha b hb => ?_⟩
    simp at hb; subst hb
    have := (h.tgt a ha).2; omega
  · rcases List.mem_append.1 hm with h1 | h1
    · exact ⟨(h.tgt m h1).1, by have := (h.tgt m h1).2; omega⟩
    · simp at h1; subst h1; exact ⟨hq, by omega⟩
theorem NG.done {n q : Nat} {L : List Nat} (h : NG q n L) : NGood n q L := ⟨h.nd, h.tgt⟩
theorem NG.len {n q t : Nat} {L : List Nat} (h : NG q t L) (ht : t ≤ n) : L.length ≤ n := len_le_of_nodup n L h.nd fun r hr => by have := (h.tgt r hr).2; omega
structure PN (w : World) (hb N mb n : Nat) (p : Nat → Bool) (wr : World) (q : Nat) (VS : List Value) (MVs : List (List Nat)) : Prop where
  hs : wr.ownsRow w.heap.size 4 1 (.slice (some ⟨hb, 0, none⟩) N N) N (bools N p)
  hm : hb < mb
  own : wr.ownsRow w.heap.size 26 1 (.slice (some ⟨mb, 0, none⟩) n n) n VS
  len : MVs.length = q
  done : ∀ (i : Nat) L, MVs[i]? = some L → NGood n i L ∧ ∃ v, VS[i]? = some v ∧ IsNats wr v L ∧ ∀ b, v.ownBlock = some b → mb < b ∧ b < wr.heap.size
  rest : ∀ i, q ≤ i → i < n → VS[i]? = some (.slice none 0 0)
  fr : Fr w wr []
structure QN (w : World) (hb N mb n : Nat) (p : Nat → Bool) (H : Nat) (wr : World) (q : Nat) (VS : List Value) (MVs : List (List Nat)) (vo : Option Addr) (cap : Nat) (L : List Nat) : Prop where
  hs : wr.ownsRow w.heap.size 4 1 (.slice (some ⟨hb, 0, none⟩) N N) N (bools N p)
  hm : hb < mb
  own : wr.ownsRow w.heap.size 26 1 (.slice (some ⟨mb, 0, none⟩) n n) n VS
  len : MVs.length = q
  done : ∀ (i : Nat) L, MVs[i]? = some L → NGood n i L ∧ ∃ v, VS[i]? = some v ∧ IsNats wr v L ∧ ∀ b, v.ownBlock = some b → mb < b ∧ b < H
  rest : ∀ i, q < i → i < n → VS[i]? = some (.slice none 0 0)
  fr : Fr w wr []
  mH : mb < H
  Hw : H ≤ wr.heap.size
  at_ : VS[q]? = some (.slice vo L.length cap)
  cur : wr.ownsRow H 3 1 (.slice vo L.length cap) L.length (ints L)
section
variable {w wr w2 : World} {hb N mb n q H cap : Nat} {p : Nat → Bool} {VS : List Value} {MVs : List (List Nat)} {vo : Option Addr} {L : List Nat}
theorem PN.start (h : PN w hb N mb n p wr q VS MVs) (hq : q < n) : QN w hb N mb n p wr.heap.size wr q VS MVs none 0 [] :=
  ⟨h.hs, h.hm, h.own, h.len, h.done, fun i h1 h2 => h.rest i (by omega) h2, h.fr, (h.own.lt mb rfl).2, Nat.le_refl _, h.rest q (Nat.le_refl _) hq, World.ownsRow_nil _ _ _ _⟩
theorem QN.finish (h : QN w hb N mb n p H wr q VS MVs vo cap L) (hL : NGood n q L) : PN w hb N mb n p wr (q + 1) VS (MVs ++ [L]) := by
  have hH := h.Hw
  refine ⟨h.hs, h.hm, h.own, by simp [h.len], fun i L' hi => ?_, fun i h1 h2 => h.rest i (by omega) h2, h.fr⟩
  rcases Nat.lt_or_ge i MVs.length with hlt | hge
  · rw [List.getElem?_append_left hlt] at hi
    obtain ⟨h1, v, h2, h3, h4⟩ := h.done i L' hi
    exact ⟨h1, v, h2, h3, fun b hb => ⟨(h4 b hb).1, by have := (h4 b hb).2; omega⟩⟩
  · have hl := (List.getElem?_eq_some_iff.1 hi).1
    have e : i = MVs.length := by simp at hl; omega
    subst e
    rw [List.getElem?_append_right (Nat.le_refl _), Nat.sub_self] at hi
    simp at hi; subst hi
    refine ⟨by rw [h.len]; exact hL, _, by rw [h.len]; exact h.at_, own_nats h.cur, fun b hb' => ?_⟩
    have := h.cur.lt b hb'
    have := h.mH
    omega
theorem QN.push (h : QN w hb N mb n p H wr q VS MVs vo cap L) (hq : q < n) {t g cap' : Nat}
    (ho : w2.ownsRow H 3 1 (.slice (some ⟨g, 0, none⟩) (L.length + 1) cap') (L.length + 1) (ints L ++ [.int .i64 (t : Int)])) (hf : Fr wr w2 (blks (.slice vo L.length cap))) :
    QN w hb N mb n p H (w2.setCell ⟨mb, q, none⟩ (.slice (some ⟨g, 0, none⟩) (L.length + 1) cap')) q (VS.set q (.slice (some ⟨g, 0, none⟩) (L.length + 1) cap')) MVs (some ⟨g, 0, none⟩) cap' (L ++ [t]) := by
  have hmH := h.mH
  have hhm := h.hm
  have hge : ∀ b, b ∈ blks (.slice vo L.length cap) → H ≤ b := fun b hb' => (h.cur.lt b (mem_blks.1 hb')).1
  have hlen : (L ++ [t]).length = L.length + 1 := by simp
  have hg := (ho.lt g rfl).1
  have hVl : VS.length = n := by have := h.own.1; omega
  have hwH : w.heap.size ≤ mb := (h.own.lt mb rfl).1
  refine ⟨?_, h.hm, ?_, h.len, fun i L' hi => ?_, fun i h1 h2 => ?_, ?_, h.mH, ?_, ?_, ?_⟩
  · refine own_same (hf.own h.hs fun b hb' hm' => ?_) fun b hb' => setCell_far ?_ _ _
    · cases hb'; have := hge hb hm'; omega
    · have e : hb = b := by cases hb'; rfl
      omega
  · exact own_set (hf.own h.own fun b hb' hm' => by cases hb'; have := hge mb hm'; omega) q _
  · obtain ⟨h1, v, h2, h3, h4⟩ := h.done i L' hi
    have hiq : i < q := by have := (List.getElem?_eq_some_iff.1 hi).1; rw [h.len] at this; exact this
    refine ⟨h1, v, by rw [List.getElem?_set_ne (by omega)]; exact h2, ?_, h4⟩
    refine (h3.fr hf fun b hb' hm' => ?_).fr (S := [mb]) ((Fr.refl w2 _).set (.inl (by simp)) _ _) fun b hb' hm' => ?_
    · have := hge b hm'; have := (h4 b hb').2; omega
    · simp at hm'; have := (h4 b hb').1; omega
  · rw [List.getElem?_set_ne (by omega)]; exact h.rest i h1 h2
  · refine (h.fr.then hf fun c hc => .inr ?_).set (.inr (by omega)) _ _
    have := hge c hc; omega
  · rw [setCell_size]; exact Nat.le_trans h.Hw hf.size
  · rw [List.getElem?_set_self (by omega), hlen]
  · rw [hlen, ints_app]
    refine own_same ho fun b hb' => setCell_far ?_ _ _
    have hb'' : g = b := by cases hb'; rfl
    omega
end
/-- make([]T, n), its cells a letter -/
theorem make_ex (T E : TypeId) {z : Value} {bytes : Nat} (hT : Yba.prog.underlying T = some (.slice E)) (hE : (Yba.prog.info? E).map (fun i => (i.zero, i.size, i.bytes)) = some (some z, 1, bytes)) (hz : z.cells = #[z]) (hb : bytes ≤ 64) (n : Nat) (hn : n ≤ 1048576) :
    ∃ C : Array Value, C.toList = List.replicate n z ∧ ∀ w, (Instr.makeSlice T (.int .i64 (n : Int)) (.int .i64 (n : Int))).run Yba.prog w = .ok (.slice (some ⟨w.heap.size, 0, none⟩) n n) (w.alloc (.cells C E)) := by
  obtain ⟨i, hi, h0, h1, h2⟩ := info_parts hE
  refine ⟨madeCells z.cells (n * 1), made_one z hz n, fun w => ?_⟩
  have h3 : (i.bytes : Int) * (n : Int) ≤ 281474976710656 := by
    have : i.bytes * n ≤ 64 * 1048576 := Nat.mul_le_mul (by omega) hn
    have h4 : ((i.bytes * n : Nat) : Int) ≤ 281474976710656 := by omega
    rwa [Int.natCast_mul] at h4
  have := run_makeSlice (P := Yba.prog) w T E i z hT hi h0 .i64 .i64 (n : Int) (n : Int) (by omega) (Int.le_refl _) (by rw [h1]; simp; omega) h3 (by omega)
  rw [h1] at this
  simpa using this
theorem made_own {w : World} {n : Nat} {z : Value} {E : TypeId} {C : Array Value} (hC : C.toList = List.replicate n z) (hn : n ≤ 1048576) {B : Nat} (hB : B ≤ w.heap.size) :
    (w.alloc (.cells C E)).ownsRow B E 1 (.slice (some ⟨w.heap.size, 0, none⟩) n n) n (List.replicate n z) := by
  refine ⟨by simp, .inr ⟨w.heap.size, n, C, rfl, hB, heap_new _ _, Nat.le_refl _, by unfold maxLen; omega, ?_, ?_⟩⟩
  · have : C.toList.length = n := by rw [hC]; simp
    simpa using this
  · rw [hC, Nat.mul_one, List.take_of_length_le (by simp)]
theorem replicate_bools (n : Nat) : List.replicate n (Value.bool false) = bools n fun _ => false := by
  apply List.ext_getElem?
  intro i
  by_cases hi : i < n
  · rw [bools_get hi, List.getElem?_replicate, if_pos hi]
  · rw [List.getElem?_eq_none (by simp; omega), List.getElem?_eq_none (by rw [bools_len]; omega)]
end Go.Proofs.Ybulkdxbk
