import Derived.Test.YbulkdxbkKl
namespace Go.Proofs.Ybulkdxbk
open Go.RowKit
set_option linter.unusedVariables false

theorem Good.flat {n : Nat} {MV : List (List (Nat × Nat))} {NL : List (List Nat)} (h : Good n MV NL) : NL.flatten.length ≤ 65536 := by
  have : ∀ M : List (List Nat), (∀ L ∈ M, L.length ≤ 256) → M.flatten.length ≤ M.length * 256 := by
    intro M
    induction M with
    | nil => simp
    | cons a r ih =>
      intro hM
      have h1 := hM a (by simp)
      have h2 := ih fun L hL => hM L (List.mem_cons_of_mem _ hL)
      rw [List.flatten_cons, List.length_append, List.length_cons]
      omega
  have h1 := this NL fun L hL => by
    obtain ⟨i, hi, rfl⟩ := List.getElem_of_mem hL
    exact Nat.le_trans (h.nlen (List.getElem?_eq_getElem hi)) h.n2
  have h2 := h.nl
  have h3 := h.n2
  omega
theorem pre_zero (NL : List (List Nat)) : pre NL 0 = 0 := by simp [pre]
theorem flat_none {NL : List (List Nat)} (h : hasNull NL = false) : NL.flatten = [] := by
  rw [List.flatten_eq_nil_iff]
  intro L hL
  obtain ⟨i, hi, rfl⟩ := List.getElem_of_mem hL
  exact hasNull_false_iff h (List.getElem?_eq_getElem hi)
theorem pre_none {NL : List (List Nat)} (h : hasNull NL = false) (i : Nat) : pre NL i = 0 := by
  have := pre_le (NL := NL) i
  rw [flat_none h] at this
  simpa using this

/-- make([]int, 1, n) -/
theorem make1_ex (n : Nat) (hn1 : 1 ≤ n) (hn : n ≤ 1048576) : ∃ C : Array Value, C.toList = List.replicate n (.int .i64 0) ∧ ∀ w, (Instr.makeSlice 26 (.int .i64 1) (.int .i64 (n : Int))).run Yba.prog w = .ok (.slice (some ⟨w.heap.size, 0, none⟩) 1 n) (w.alloc (.cells C 3)) := by
  obtain ⟨i, hi, h0, h1, h2⟩ := info_parts info3
  refine ⟨madeCells (Value.int .i64 0).cells (n * 1), made_one _ rfl n, fun w => ?_⟩
  have h3 : (i.bytes : Int) * (n : Int) ≤ 281474976710656 := by rw [h2]; omega
  have := run_makeSlice (P := Yba.prog) w 26 3 i (.int .i64 0) Yba.underlying26 hi h0 .i64 .i64 1 (n : Int) (by omega) (by omega) (by rw [h1]; simp; omega) h3 (by omega)
  rw [h1] at this
  simpa using this
theorem made1_own {w : World} {n : Nat} {C : Array Value} (hC : C.toList = List.replicate n (.int .i64 0)) (hn1 : 1 ≤ n) (hn : n ≤ 1048576) {B : Nat} (hB : B ≤ w.heap.size) :
    (w.alloc (.cells C 3)).ownsRow B 3 1 (.slice (some ⟨w.heap.size, 0, none⟩) 1 n) 1 (ints [0]) := by
  refine ⟨by simp [ints], .inr ⟨w.heap.size, n, C, rfl, hB, heap_new _ _, hn1, by unfold maxLen; omega, ?_, ?_⟩⟩
  · have : C.toList.length = n := by rw [hC]; simp
    simpa using this
  · obtain ⟨m, rfl⟩ : ∃ m, n = m + 1 := ⟨n - 1, by omega⟩
    rw [hC, List.replicate_succ]; simp [ints]
theorem own_natsAt {w : World} {B g n cap : Nat} {L : List Nat} (h : w.ownsRow B 3 1 (.slice (some ⟨g, 0, none⟩) n cap) n (ints L)) : NatsAt w g 0 L := fun i x hx => by rw [Nat.zero_add]; exact own_cell h (ints_get hx)
theorem cond_none {W : World} {ck gb n : Nat} {NL : List (List Nat)} {C1 : Array Value} (hn : hasNull NL = false) (hb : W.heap[gb]? = some (conBlk ck n (.slice none 0 0) (.slice none 0 0))) (ho : W.ownsRow ck 3 1 (.slice (some ⟨ck, 0, none⟩) (n + 1) (n + 1)) (n + 1) (ints (List.range (n + 1)))) (hc : ck < gb) (hC : C1.toList = List.replicate (n + 1) (.int .i64 0)) :
    Cond ((W.setCell ⟨gb, 4, none⟩ (.slice (some ⟨W.heap.size, 0, none⟩) (n + 1) (n + 1))).alloc (.cells C1 3)) gb n NL := by
  have hz := setCell_size W gb 4 (.slice (some ⟨W.heap.size, 0, none⟩) (n + 1) (n + 1))
  have hg := blk_lt hb
  have hk := (ho.lt ck rfl).2
  refine ⟨ck, none, 0, 0, W.heap.size, n + 1, ?_, ?_, ?_, fun _ => rfl, ?_, ?_, fun i hi => ?_⟩
  · rw [flat_none hn]
    exact (heap_old _ _ (by omega)).trans (setCell_at hb _ _)
  · exact ((own_natsAt ho).same (setCell_far (by omega) _ _)).same (heap_old _ _ (by omega))
  · rw [flat_none hn]; intro h; simp at h
  · rw [flat_none hn]; simp
  · rw [flat_none hn]; exact NatsAt.nil _ _ _
  · have hnew := heap_new (W.setCell ⟨gb, 4, none⟩ (.slice (some ⟨W.heap.size, 0, none⟩) (n + 1) (n + 1))) (.cells C1 3)
    rw [hz] at hnew
    have e : C1[i]? = some (.int .i64 0) := by rw [← Array.getElem?_toList, hC, List.getElem?_replicate, if_pos (by omega)]
    rw [pre_none hn]
    simp only [World.cell?]; rw [hnew]; exact e
theorem members_raw (w : World) (gb cb n k : Nat) (hn : n ≤ 256) (hk : k < n) (c1 : w.cell? ⟨gb, 1, none⟩ = some (.slice (some ⟨cb, 0, none⟩) n (n + 1))) (c2 : w.cell? ⟨gb, 2, none⟩ = some (.slice (some ⟨cb, 0, none⟩) (n + 1) (n + 1))) (h2 : NatsAt w cb 0 (List.range (n + 1))) :
    Calls Yba.prog 20 #[.pointer (some ⟨gb, 0, none⟩), .int .i64 (k : Int)] w fun e w' => ∃ q, e = .returned (.slice (some ⟨cb, k, none⟩) 1 (n + 1 - k)) ∧ w' = w.drewN q := by
  have d1 : w.cell? ⟨cb, k, none⟩ = some (.int .i64 (k : Int)) := by have := h2 k k (by rw [List.getElem?_range (by omega)]); simpa using this
  have d2 : w.cell? ⟨cb, k + 1, none⟩ = some (.int .i64 ((k : Int) + 1)) := by have := h2 (k + 1) (k + 1) (by rw [List.getElem?_range (by omega)]); simpa using this
  have x1 := index26z (b := cb) (c := n + 1) (show k < n + 1 by omega)
  have x2 := index26z (b := cb) (c := n + 1) (show k + 1 < n + 1 by omega)
  rw [show ((k + 1 : Nat) : Int) = (k : Int) + 1 by omega] at x2
  have x3 := sliceMem (b := cb) hk
  clear h2
  go_enter Yba.func20, Yba.ntmps20
  go_wp2_with fail
  go_quiet (fail)
  go_wp2_with fail
  go_ret
  exact ⟨_, rfl, rfl⟩
theorem flat_succ {NL : List (List Nat)} {k : Nat} {L : List Nat} (h : NL[k]? = some L) : (NL.take (k + 1)).flatten = (NL.take k).flatten ++ L := by rw [take_snoc h]; simp
theorem cs_start {w W : World} {ck gb n : Nat} {C2 C3 : Array Value} (hb : W.heap[gb]? = some (conBlk ck n (.slice none 0 0) (.slice none 0 0))) (ho : W.ownsRow ck 3 1 (.slice (some ⟨ck, 0, none⟩) (n + 1) (n + 1)) (n + 1) (ints (List.range (n + 1)))) (hc : ck < gb) (hw : w.heap.size ≤ ck) (hf : Fr w W []) (hn : n ≤ 256)
    (hC2 : C2.toList = List.replicate n (.bool false)) (hC3 : C3.toList = List.replicate (n + 1) (.int .i64 0)) :
    CS w ck gb (W.heap.size + 1) n (((W.setCell ⟨gb, 4, none⟩ (.slice (some ⟨W.heap.size, 0, none⟩) 1 (n + 1))).alloc (.cells C3 3)).alloc (.cells C2 4)) none 0 [] (some ⟨W.heap.size, 0, none⟩) (n + 1) [0] (fun _ => false) := by
  have hz := setCell_size W gb 4 (.slice (some ⟨W.heap.size, 0, none⟩) 1 (n + 1))
  have hg := blk_lt hb
  have hk := (ho.lt ck rfl).2
  have hfr : Fr w (W.setCell ⟨gb, 4, none⟩ (.slice (some ⟨W.heap.size, 0, none⟩) 1 (n + 1))) [] := hf.set (.inr (by omega)) _ _
  have hs3 : ((W.setCell ⟨gb, 4, none⟩ (.slice (some ⟨W.heap.size, 0, none⟩) 1 (n + 1))).alloc (.cells C3 3)).heap.size = W.heap.size + 1 := by simp [hz]
  have hm := made_own (w := (W.setCell ⟨gb, 4, none⟩ (.slice (some ⟨W.heap.size, 0, none⟩) 1 (n + 1))).alloc (.cells C3 3)) (E := 4) (B := w.heap.size) hC2 (by omega) (by omega)
  rw [hs3, replicate_bools] at hm
  have hf3 := made1_own (w := W.setCell ⟨gb, 4, none⟩ (.slice (some ⟨W.heap.size, 0, none⟩) 1 (n + 1))) (B := w.heap.size) hC3 (by omega) (by omega) (by omega)
  rw [hz] at hf3
  refine ⟨?_, ?_, hm, World.ownsRow_nil _ _ _ _, hf3.alloc _, by omega, (fun b h => by cases h), fun b h => ?_, (fun b h => by cases h), by omega, (hfr.alloc _).alloc _⟩
  · exact (heap_old _ _ (by omega)).trans ((heap_old _ _ (by omega)).trans (setCell_at hb _ _))
  · exact (((own_natsAt ho).same (setCell_far (by omega) _ _)).same (heap_old _ _ (by omega))).same (heap_old _ _ (by omega))
  · have e : W.heap.size = b := by cases h; rfl
    omega
set_option maxRecDepth 100000 in
set_option maxHeartbeats 8000000 in
theorem condense_any (w : World) (ab n ns st : Nat) (MV : List (List (Nat × Nat))) (NL : List (List Nat)) (hG : Good n MV NL) (hA : Aut w ab n ns st MV NL) :
    Calls Yba.prog 10 #[.pointer (some ⟨ab, 0, none⟩)] w fun e w' => ∃ gb, e = .returned (.pointer (some ⟨gb, 0, none⟩)) ∧ Cond w' gb n NL ∧ w.heap.size ≤ gb ∧ Fr w w' [] := by
  have HG : Hid (Good n MV NL) := hG
  have hn1 := hG.n1
  have hn2 := hG.n2
  have hfl := hG.flat
  obtain ⟨sb, yb, fb, mb, nb, a1, a2, a3, a4⟩ := hA
  have c5 : w.cell? ⟨ab, 5, none⟩ = some (.slice (some ⟨nb, 0, none⟩) n n) := by simp [World.cell?, a1]
  have HC5 : Hid (w.cell? ⟨ab, 5, none⟩ = some (.slice (some ⟨nb, 0, none⟩) n n)) := c5
  have HNV : Hid (NullsAt w nb NL) := a4
  have HLL : Hid (∀ (q : Nat) L, NL[q]? = some L → L.length ≤ 256) := fun q L hq => Nat.le_trans (hG.nlen hq) hn2
  have HTO : Hid (∀ (q : Nat) L r, NL[q]? = some L → r ∈ L → q < r) := fun q L r hq hr => (hG.nto q L r hq hr).1
  have HNL : Hid (NL.length = n) := hG.nl
  obtain ⟨C1, hC1, mk1⟩ := make_ex 26 3 Yba.underlying26 info3 rfl (by omega) (n + 1) (by omega)
  obtain ⟨C2, hC2, mk2⟩ := make_ex 30 4 Yba.underlying30 info4 rfl (by omega) n (by omega)
  obtain ⟨C3, hC3, mk3⟩ := make1_ex (n + 1) (by omega) (by omega)
  have HC3 : Hid (C3.toList = List.replicate (n + 1) (.int .i64 0)) := hC3
  rw [show (((n + 1 : Nat)) : Int) = (n : Int) + 1 by omega] at mk3
  clear hC3
  have HC1 : Hid (C1.toList = List.replicate (n + 1) (.int .i64 0)) := hC1
  have HC2 : Hid (C2.toList = List.replicate n (.bool false)) := hC2
  rw [show (((n + 1 : Nat)) : Int) = (n : Int) + 1 by omega] at mk1
  clear hG a1 a2 a3 a4 hC1 hC2
  go_enter Yba.func10, Yba.ntmps10
  go_wp2_with fail
  go_quiet (fail)
  clear c5
  have hNq : NullsAt (w.drewN nq) nb NL := HNV.out
  have c5q : (w.drewN nq).cell? ⟨ab, 5, none⟩ = some (.slice (some ⟨nb, 0, none⟩) n n) := HC5.out
  have HF0 : Hid (Fr w (w.drewN nq) []) := (Fr.refl w []).drewN nq
  generalize w.drewN nq = w0 at *
  have hc17 := leadOn_any w0 ab nb n NL hn2 HNL.out HLL.out HTO.out hNq c5q
  have hc18 := countTo_any w0 (n + 1) (by omega)
  rw [show (((n + 1 : Nat)) : Int) = (n : Int) + 1 by omega] at hc18
  have HC18 : Hid (Calls Yba.prog 18 #[.int .i64 ((n : Int) + 1)] w0 fun e w' => e = .returned (.slice (some ⟨w0.heap.size, 0, none⟩) (n + 1) (n + 1)) ∧ w'.ownsRow w0.heap.size 3 1 (.slice (some ⟨w0.heap.size, 0, none⟩) (n + 1) (n + 1)) (n + 1) (ints (List.range (n + 1))) ∧ Fr w0 w' []) := hc18
  have HN0 : Hid (NullsAt w0 nb NL) := hNq
  have HC50 : Hid (w0.cell? ⟨ab, 5, none⟩ = some (.slice (some ⟨nb, 0, none⟩) n n)) := c5q
  clear hc18 hNq c5q
  go_wp2_with (first | (go_at_call 17; refine hc17.mono ?_; rintro e w' ⟨rfl, rfl⟩) | (go_at_call 18; refine HC18.out.mono ?_; rintro e w1 ⟨rfl, ho1, hf1⟩; have HO1 : Hid (w1.ownsRow w'.heap.size 3 1 (.slice (some ⟨w'.heap.size, 0, none⟩) (n + 1) (n + 1)) (n + 1) (ints (List.range (n + 1)))) := ho1; have HF1 : Hid (Fr w' w1 []) := hf1; clear ho1 hf1))
  obtain ⟨ck, hck⟩ : ∃ ck, ck = w'.heap.size := ⟨_, rfl⟩
  rw [← hck] at HO1 ⊢
  have hwck : w'.heap.size ≤ ck := by omega
  clear hck
  have hsl := slice26t (n := n + 1) (c := n + 1) (j := n) (x := ⟨ck, 0, none⟩) (by omega)
  go_region
  have hbk : ((w1.alloc (conBlk ck n (.slice none 0 0) (.slice none 0 0))).drew).heap[w1.heap.size]? = some (conBlk ck n (.slice none 0 0) (.slice none 0 0)) := heap_new _ _
  have ho2 : ((w1.alloc (conBlk ck n (.slice none 0 0) (.slice none 0 0))).drew).ownsRow ck 3 1 (.slice (some ⟨ck, 0, none⟩) (n + 1) (n + 1)) (n + 1) (ints (List.range (n + 1))) := by
    have := own_same (w' := (w1.alloc (conBlk ck n (.slice none 0 0) (.slice none 0 0))).drew) HO1.out fun b hb => heap_old _ _ (HO1.out.lt b hb).2
    exact this
  have hf2 : Fr w' ((w1.alloc (conBlk ck n (.slice none 0 0) (.slice none 0 0))).drew) [] := (HF1.out.alloc _).drew
  have hcg : ck < w1.heap.size := (HO1.out.lt ck rfl).2
  obtain ⟨gb, hgb⟩ : ∃ gb, gb = w1.heap.size := ⟨_, rfl⟩
  have hsz : gb < ((w1.alloc (conBlk ck n (.slice none 0 0) (.slice none 0 0))).drew).heap.size := by rw [hgb]; exact blk_lt hbk
  rw [← hgb] at hbk hcg ⊢
  generalize (w1.alloc (conBlk ck n (.slice none 0 0) (.slice none 0 0))).drew = W at *
  have hNW : NullsAt W nb NL := fun q L hq => by
    obtain ⟨v, h1, h2⟩ := HN0.out q L hq
    exact ⟨v, hf2.cell h1 (by simp), h2.grown fun c hc => hf2.same c hc (by simp)⟩
  have c5W : W.cell? ⟨ab, 5, none⟩ = some (.slice (some ⟨nb, 0, none⟩) n n) := hf2.cell HC50.out (by simp)
  have hc13 := hasNullMoves_any W ab nb n NL hn2 HNL.out HLL.out hNW c5W
  have HBK : Hid (W.heap[gb]? = some (conBlk ck n (.slice none 0 0) (.slice none 0 0))) := hbk
  have HO2 : Hid (W.ownsRow ck 3 1 (.slice (some ⟨ck, 0, none⟩) (n + 1) (n + 1)) (n + 1) (ints (List.range (n + 1)))) := ho2
  have HF2 : Hid (Fr w W []) := HF0.out.trans hf2
  have HNW : Hid (NullsAt W nb NL) := hNW
  have HWW : Hid (w.heap.size ≤ w'.heap.size) := HF0.out.size
  clear hbk ho2 hf2 hNW c5W hsl HO1 HF1 hc17 HC18 hgb
  cases hnull : hasNull NL with
  | false =>
    rw [hnull] at hc13
    have k4 : (W.alloc (.cells C1 3)).cell? ⟨gb, 4, none⟩ = some (.slice none 0 0) := by
      have := (heap_old W (.cells C1 3) hsz).trans HBK.out
      simp [World.cell?, this]
    have f4 : (W.alloc (.cells C1 3)).frozen? ⟨gb, 4, none⟩ = false := by
      have := (heap_old W (.cells C1 3) hsz).trans HBK.out
      simp [World.frozen?, this]
    have HNULL : Hid (hasNull NL = false) := hnull
    clear hnull mk2 mk3
    go_wp2_with (go_at_call 13; refine hc13.mono ?_; rintro e w2 ⟨rfl, rfl⟩)
    go_ret
    exact ⟨gb, rfl, cond_none HNULL.out HBK.out HO2.out hcg HC1.out, by have := HWW.out; omega, (HF2.out.set (.inr (by have := HWW.out; omega)) _ _).alloc _⟩
  | true =>
    rw [hnull] at hc13
    clear hnull mk1
    have g2 : W.cell? ⟨gb, 2, none⟩ = some (.slice (some ⟨ck, 0, none⟩) (n + 1) (n + 1)) := by simp [World.cell?, HBK.out]
    have hc12 := len_any W gb n (n + 1) ⟨ck, 0, none⟩ hn2 g2
    have k4 : (W.alloc (.cells C3 3)).cell? ⟨gb, 4, none⟩ = some (.slice none 0 0) := by
      have := (heap_old W (.cells C3 3) hsz).trans HBK.out
      simp [World.cell?, this]
    have f4 : (W.alloc (.cells C3 3)).frozen? ⟨gb, 4, none⟩ = false := by
      have := (heap_old W (.cells C3 3) hsz).trans HBK.out
      simp [World.frozen?, this]
    go_upto_region 11 with (first | (go_at_call 13; refine hc13.mono ?_; rintro e w2 ⟨rfl, rfl⟩) | (go_at_call 12; refine hc12.mono ?_; rintro e w2 ⟨rfl, rfl⟩))
    have hcs := cs_start (w := w) HBK.out HO2.out hcg (by have := HWW.out; omega) HF2.out hn2 HC2.out HC3.out
    have HCS : Hid (CS w ck gb (w2.heap.size + 1) n (((w2.setCell ⟨gb, 4, none⟩ (.slice (some ⟨w2.heap.size, 0, none⟩) 1 (n + 1))).alloc (.cells C3 3)).alloc (.cells C2 4)) none 0 [] (some ⟨w2.heap.size, 0, none⟩) (n + 1) [0] (fun _ => false)) := hcs
    have h3 : ((w2.setCell ⟨gb, 4, none⟩ (.slice (some ⟨w2.heap.size, 0, none⟩) 1 (n + 1))).alloc (.cells C3 3)).heap[gb]? = some (conBlk ck n (.slice none 0 0) (.slice (some ⟨w2.heap.size, 0, none⟩) 1 (n + 1))) := (heap_old _ _ (by rw [setCell_size]; omega)).trans (setCell_at HBK.out _ _)
    have hs3 : ((w2.setCell ⟨gb, 4, none⟩ (.slice (some ⟨w2.heap.size, 0, none⟩) 1 (n + 1))).alloc (.cells C3 3)).heap.size = w2.heap.size + 1 := by have := setCell_size w2 gb 4 (.slice (some ⟨w2.heap.size, 0, none⟩) 1 (n + 1)); simp [this]
    have HNULLS : Hid (∀ wr, Fr w wr [] → NullsAt wr nb NL) := fun wr hf q L hq => by
      obtain ⟨v, h1, h2⟩ := HNV.out q L hq
      exact ⟨v, hf.cell h1 (by simp), h2.grown fun c hc => hf.same c hc (by simp)⟩
    clear hcs k4 f4 g2 hc12 hc13 mk3
    obtain ⟨fb0, hfb0⟩ : ∃ fb0, fb0 = w2.heap.size := ⟨_, rfl⟩
    obtain ⟨sk, hsk⟩ : ∃ sk, sk = w2.heap.size + 1 := ⟨_, rfl⟩
    rw [← hsk] at hs3 HCS
    rw [← hfb0] at hs3 h3 HCS ⊢
    generalize (w2.setCell ⟨gb, 4, none⟩ (.slice (some ⟨fb0, 0, none⟩) 1 (n + 1))).alloc (.cells C3 3) = W3 at *
    clear hfb0 hsk
    have g2 : W3.cell? ⟨gb, 2, none⟩ = some (.slice (some ⟨ck, 0, none⟩) (n + 1) (n + 1)) := by simp [World.cell?, h3]
    have hc12 := len_any W3 gb n (n + 1) ⟨ck, 0, none⟩ hn2 g2
    have g2b : (W3.alloc (.cells C2 4)).cell? ⟨gb, 2, none⟩ = some (.slice (some ⟨ck, 0, none⟩) (n + 1) (n + 1)) := HCS.out.cells.2.2.1
    have hc12b := len_any (W3.alloc (.cells C2 4)) gb n (n + 1) ⟨ck, 0, none⟩ hn2 g2b
    clear h3 g2 g2b
    go_wp2_with (first | (go_at_call 12; refine hc12.mono ?_; rintro e w3 ⟨rfl, rfl⟩) | (go_at_call 12; refine hc12b.mono ?_; rintro e w4 ⟨rfl, rfl⟩))
    have HI : Hid (CS w ck gb sk n (w3.alloc (.cells C2 4)) none 0 ((NL.take 0).flatten) (some ⟨fb0, 0, none⟩) (n + 1) ((List.range (0 + 1)).map (pre NL)) (fun _ => false)) := HCS.out
    clear HCS hc12 hc12b mk2 hs3
    go_loopw [64] (fun s64 wr => ∃ (k : Nat) (so : Option Addr) (sc : Nat) (fo : Option Addr) (fc : Nat), k ≤ n ∧ s64 = .int .i64 k ∧ CS w ck gb sk n wr so sc ((NL.take k).flatten) fo fc ((List.range (k + 1)).map (pre NL)) (fun _ => false)) (fun s64 _ => n - (intOf s64).toNat)
    case atStart => exact ⟨0, none, 0, some ⟨fb0, 0, none⟩, n + 1, Nat.zero_le _, rfl, HI.out⟩
    case round =>
      clear HI
      obtain ⟨k, so, sc, fo, fc, hkn', rfl, hcs⟩ := hrel
      rename World => wk
      by_cases hk : k < n
      · have hd : decide ((k : Int) < (n : Int)) = true := by simp; exact hk
        obtain ⟨L, hL⟩ : ∃ L, NL[k]? = some L := ⟨_, List.getElem?_eq_getElem (by rw [HNL.out]; exact hk)⟩
        have hLn : L.length ≤ 256 := HLL.out k L hL
        have HLR : Hid (∀ r ∈ L, k < r ∧ r < n) := fun r hr => HG.out.nto k L r hL hr
        have HLD : Hid (L.Nodup) := HG.out.nnd k L hL
        have HL : Hid (NL[k]? = some L) := hL
        obtain ⟨SL, hSL⟩ : ∃ SL, SL = (NL.take k).flatten := ⟨_, rfl⟩
        have hpre : SL.length + L.length ≤ 65536 := by
          have h1 := pre_succ hL
          have h2 := pre_le (NL := NL) (k + 1)
          have h3 : SL.length = pre NL k := by rw [hSL]; rfl
          omega
        have HSL : Hid (SL = (NL.take k).flatten) := hSL
        obtain ⟨FL, hFL⟩ : ∃ FL, FL = (List.range (k + 1)).map (pre NL) := ⟨_, rfl⟩
        have hFl : FL.length = k + 1 := by rw [hFL]; simp
        have HFL : Hid (FL = (List.range (k + 1)).map (pre NL)) := hFL
        rw [← hSL, ← hFL] at hcs
        obtain ⟨c0, c1, c2, c3, c4, f3, f4⟩ := hcs.cells
        have hc20 := members_raw wk gb ck n k hn2 hk c1 c2 hcs.cnt
        have HCS : Hid (CS w ck gb sk n wk so sc SL fo fc FL (fun _ => false)) := hcs
        have HFL2 : Hid (FL.length = k + 1) := hFl
        clear hcs hL hSL hFL c0 c1 c2 c4 f3 f4 hFl
        go_wp2_with (go_at_call 20; refine hc20.mono ?_; rintro e w5 ⟨q5, rfl, rfl⟩)
        have HCS2 : Hid (CS w ck gb sk n (wk.drewN q5) so sc (SL ++ (if (0 : Nat) = 0 then [] else L)) fo fc FL (fun y => decide (y ∈ (if (0 : Nat) = 0 then [] else L)))) := (by
          have := HCS.out.drewN q5
          simpa using this : CS w ck gb sk n (wk.drewN q5) so sc (SL ++ (if (0 : Nat) = 0 then [] else L)) fo fc FL (fun y => decide (y ∈ (if (0 : Nat) = 0 then [] else L))))
        clear HCS hc20 c3 hd
        go_loopw [76] (fun s76 wr => ∃ (j : Nat) (so : Option Addr) (sc : Nat), j ≤ 1 ∧ s76 = .int .i64 j ∧ CS w ck gb sk n wr so sc (SL ++ (if j = 0 then [] else L)) fo fc FL (fun y => decide (y ∈ (if j = 0 then [] else L)))) (fun s76 _ => 1 - (intOf s76).toNat)
        case atStart => exact ⟨0, so, sc, Nat.zero_le _, rfl, HCS2.out⟩
        case round =>
          clear HCS2
          obtain ⟨j, so, sc, hj, rfl, hcs⟩ := hrel
          rename World => wj
          by_cases hj0 : j = 0
          · subst hj0
            simp only [if_true, List.append_nil] at hcs
            rw [show (((0 : Nat) : Int)) = 0 from rfl]
            have y1 : wj.cell? ⟨ck, k, none⟩ = some (.int .i64 (k : Int)) := by have := hcs.cnt k k (by rw [List.getElem?_range (by omega)]); simpa using this
            have x1 := index26c (a := some ⟨ck, k, none⟩) (n := 1) (c := n + 1 - k) (b := ck) (o := k) (fun _ => rfl) (by omega)
            have x2 := index32 (b := nb) (c := n) hk
            obtain ⟨na, nc, nb', no, hv, r1, r2, r3, r4⟩ := (HNULLS.out wj hcs.fr).get HL.out
            have HR1 : Hid (0 < L.length → na = some ⟨nb', no, none⟩) := r1
            have HR4 : Hid (∀ wr, Fr w wr [] → ∀ (i x : Nat), L[i]? = some x → wr.cell? ⟨nb', no + i, none⟩ = some (.int .i64 (x : Int))) := by
              obtain ⟨na0, nc0, nb0, no0, hv0, r10, _, _, r40⟩ := HNV.out.get HL.out
              have hv1 := hcs.fr.cell hv0 (by simp)
              rw [hv] at hv1
              injection hv1 with hv2
              cases hv2
              intro wr hf i x hx
              have hl := (List.getElem?_eq_some_iff.1 hx).1
              have e1 := r1 (by omega)
              have e2 := r10 (by omega)
              rw [e1] at e2
              injection e2 with e3
              injection e3 with e4 e5 e6
              subst e4 e5
              exact hf.cell (r40 i x hx) (by simp)
            have HCS : Hid (CS w ck gb sk n wj so sc (SL ++ L.take 0) fo fc FL (fun y => decide (y ∈ L.take 0))) := (by simpa using hcs : CS w ck gb sk n wj so sc (SL ++ L.take 0) fo fc FL (fun y => decide (y ∈ L.take 0)))
            clear hcs r1 r2 r3 r4
            go_wp2_with fail
            clear y1 x1 x2 hv
            go_loopw [85] (fun s85 wr => ∃ (t : Nat) (so : Option Addr) (sc : Nat), t ≤ L.length ∧ s85 = .int .i64 t ∧ CS w ck gb sk n wr so sc (SL ++ L.take t) fo fc FL (fun y => decide (y ∈ L.take t))) (fun s85 _ => L.length - (intOf s85).toNat)
            case atStart => exact ⟨0, so, sc, Nat.zero_le _, rfl, HCS.out⟩
            case round =>
              clear HCS
              obtain ⟨t, so, sc, ht, rfl, hcs⟩ := hrel
              rename World => wt
              have HCS : Hid (CS w ck gb sk n wt so sc (SL ++ L.take t) fo fc FL (fun y => decide (y ∈ L.take t))) := hcs
              by_cases htl : t < L.length
              · have hd : decide ((t : Int) < (L.length : Int)) = true := by simp; exact htl
                obtain ⟨r, hr⟩ : ∃ r, L[t]? = some r := ⟨_, List.getElem?_eq_getElem htl⟩
                obtain ⟨hkr, hrn⟩ := HLR.out r (List.mem_of_getElem? hr)
                have hnm : r ∉ L.take t := by
                  intro hm
                  obtain ⟨i, hi, e⟩ := List.getElem_of_mem hm
                  rw [List.length_take] at hi
                  rw [List.getElem_take] at e
                  obtain ⟨ht', e'⟩ := List.getElem?_eq_some_iff.1 hr
                  have := (List.pairwise_iff_getElem.1 (List.nodup_iff_pairwise_ne.1 HLD.out)) i t (by omega) ht' (by omega)
                  exact this (e.trans e'.symm)
                have y1 := HR4.out wt hcs.fr t r hr
                have x1 := index26 (c := nc) HR1.out htl
                obtain ⟨c0, c1, c2, c3, c4, f3, f4⟩ := hcs.cells
                have y2 : wt.cell? ⟨ck, r, none⟩ = some (.int .i64 (r : Int)) := by have := hcs.cnt r r (by rw [List.getElem?_range (by omega)]); simpa using this
                have x2 := index26z (b := ck) (c := n + 1) hrn
                have x3 := index30 (b := sk) (c := n) hrn
                obtain ⟨ek, fk⟩ := hcs.at hrn
                rw [show decide (r ∈ L.take t) = false from decide_eq_false hnm] at ek
                have hne : ((r : Int) == (k : Int)) = false := by simp; omega
                have hne' : ¬ ((r : Int) = (k : Int)) := by omega
                have HRT : Hid (L[t]? = some r) := hr
                clear hcs hr c1 c2 c4 f4
                go_upto_region 25 with fail
                have hfl2 := HCS.out.flip r true
                rw [marks_push] at hfl2
                clear ek fk y1 y2 c0 c3 f3
                generalize wt.setCell ⟨sk, r, none⟩ (.bool true) = X at *
                obtain ⟨c0, c1, c2, c3, c4, f3, f4⟩ := hfl2.cells
                have hlen : (SL ++ L.take t).length ≤ 70000 := by rw [List.length_append, List.length_take]; omega
                have hwX : w.heap.size ≤ X.heap.size := hfl2.fr.size
                have HX : Hid (CS w ck gb sk n X so sc (SL ++ L.take t) fo fc FL (fun y => decide (y ∈ L.take t ++ [r]))) := hfl2
                have HKEEP : Hid (∀ w2, Fr X w2 (blks (.slice so (SL ++ L.take t).length sc)) → w2.cell? ⟨gb, 3, none⟩ = some (.slice so (SL ++ L.take t).length sc) ∧ w2.frozen? ⟨gb, 3, none⟩ = false) := fun w2 hf => by
                  have := hf.blk hfl2.gblk (fun hm => (hfl2.d1 gb (mem_blks.1 hm)).2.1 rfl)
                  exact ⟨by simp [World.cell?, this], by simp [World.frozen?, this]⟩
                have HOW : Hid (X.ownsRow w.heap.size 3 1 (.slice so (SL ++ L.take t).length sc) (SL ++ L.take t).length (ints (SL ++ L.take t))) := hfl2.sown
                clear hfl2 HCS c0 c1 c2 c4 f4
                generalize hT3 : SL ++ L.take t = T3 at *
                have HT3 : Hid (SL ++ L.take t = T3) := hT3
                clear hT3
                go_wp2_with (first | (at_builtin; refine wpList_app1 rfl _ _ rfl X (r : Int) rfl HOW.out rfl (by omega) hwX ?_; intro g cap w9 e1 e2 e3; obtain ⟨v1, v2⟩ := HKEEP.out w9 e2; have E1 : Hid (w9.ownsRow w.heap.size 3 1 (.slice (some ⟨g, 0, none⟩) (T3.length + 1) cap) (T3.length + 1) (ints T3 ++ [.int .i64 (r : Int)])) := e1; have E2 : Hid (Fr X w9 (blks (.slice so T3.length sc))) := e2; have E3 : Hid (Moved X (.slice so T3.length sc) (.slice (some ⟨g, 0, none⟩) (T3.length + 1) cap)) := e3; clear e1 e2 e3))
                go_roundw
                case rel =>
                  refine ⟨t + 1, some ⟨g, 0, none⟩, cap, by omega, by go_num, ?_⟩
                  have e9 : SL ++ L.take (t + 1) = T3 ++ [r] := by rw [take_snoc HRT.out, ← List.append_assoc, HT3.out]
                  rw [e9, take_snoc HRT.out]
                  exact HX.out.pushS E1.out E2.out E3.out
                case measure => simp [intOf]; omega
              · have hd : decide ((t : Int) < (L.length : Int)) = false := by simp; omega
                have htk : L.take t = L := List.take_of_length_le (by omega)
                rw [htk] at hcs
                have HE : Hid (CS w ck gb sk n wt so sc (SL ++ L) fo fc FL (fun y => decide (y ∈ L))) := hcs
                clear hcs HCS htk
                go_wp2_with fail
                go_roundw
                case rel => exact ⟨1, so, sc, Nat.le_refl _, by go_num, HE.out⟩
                case measure => simp [intOf]
          · obtain rfl : j = 1 := by omega
            have e7 : (if (1 : Nat) = 0 then ([] : List Nat) else L) = L := by simp
            rw [e7] at hcs
            obtain ⟨c0, c1, c2, c3, c4, f3, f4⟩ := hcs.cells
            obtain ⟨vo', cap', g, e1, e2, e3, e4⟩ := own_form hcs.sown
            cases e1
            have hlen : (SL ++ L).length = SL.length + L.length := List.length_append
            have hc : (SL ++ L).length ≤ sc := by
              rcases e3 with h | h
              · subst h
                have h0 : (SL ++ L).length = 0 := by rcases Nat.eq_zero_or_pos (SL ++ L).length with h | h; exact h; cases e2 h
                omega
              · subst h; obtain ⟨_, _, _, h, _⟩ := own_blk hcs.sown; exact h
            obtain ⟨a', s1, s2, s3⟩ := slice26f (a := so) (n := (SL ++ L).length) (c := sc) (b := g) (o := 0) (i := SL.length) e2 (fun h => ⟨by have := e4 h; omega, e4 h⟩) (by omega) hc
            rw [show (SL ++ L).length - SL.length = L.length by omega, Nat.zero_add] at s1
            rw [show (SL ++ L).length - SL.length = L.length by omega] at s3
            have HS1 : Hid (0 < L.length → a' = some ⟨g, SL.length, none⟩) := s1
            have HVO : Hid (0 < (SL ++ L).length → so = some ⟨g, 0, none⟩) := e2
            have HCS : Hid (CS w ck gb sk n wj so sc (SL ++ L) fo fc FL (fun y => decide (y ∈ L.drop 0))) := hcs
            have HLEN : Hid ((SL ++ L).length = SL.length + L.length) := hlen
            clear hcs e2 e3 e4 s1 s2 hc c0 c1 c2 c4 f3 f4
            rw [hlen] at c3 s3
            clear hlen
            go_wp2_with fail
            clear c3 s3
            go_loopw [128] (fun s128 wr => ∃ (i : Nat), i ≤ L.length ∧ s128 = .int .i64 i ∧ CS w ck gb sk n wr so sc (SL ++ L) fo fc FL (fun y => decide (y ∈ L.drop i))) (fun s128 _ => L.length - (intOf s128).toNat)
            case atStart => exact ⟨0, Nat.zero_le _, rfl, HCS.out⟩
            case round =>
              clear HCS
              obtain ⟨i, hi, rfl, hcs⟩ := hrel
              rename World => wp
              have HCS : Hid (CS w ck gb sk n wp so sc (SL ++ L) fo fc FL (fun y => decide (y ∈ L.drop i))) := hcs
              by_cases hil : i < L.length
              · have hd2 : decide ((i : Int) < (L.length : Int)) = true := by simp; exact hil
                obtain ⟨r, hr⟩ : ∃ r, L[i]? = some r := ⟨_, List.getElem?_eq_getElem hil⟩
                obtain ⟨_, hrn⟩ := HLR.out r (List.mem_of_getElem? hr)
                have hvo := HVO.out (by have := HLEN.out; omega)
                subst hvo
                have y1 : wp.cell? ⟨g, SL.length + i, none⟩ = some (.int .i64 (r : Int)) := own_cell hcs.sown (ints_get (by rw [List.getElem?_append_right (by omega), Nat.add_sub_cancel_left]; exact hr))
                have x1 := index26 (c := sc - SL.length) HS1.out hil
                have x2 := index30 (b := sk) (c := n) hrn
                obtain ⟨ek, fk⟩ := hcs.at hrn
                generalize decide (r ∈ L.drop i) = bb at ek
                have HR : Hid (L[i]? = some r) := hr
                clear hr hcs
                go_wp2_with fail
                go_roundw
                case rel =>
                  refine ⟨i + 1, by omega, by go_num, ?_⟩
                  have := HCS.out.flip r false
                  rw [marks_pop HLD.out HR.out] at this
                  exact this
                case measure => simp [intOf]; omega
              · have hd2 : decide ((i : Int) < (L.length : Int)) = false := by simp; omega
                have e : (fun y => decide (y ∈ L.drop i)) = fun _ => false := by
                  funext y
                  rw [List.drop_of_length_le (by omega)]
                  simp
                rw [e] at hcs
                obtain ⟨c0, c1, c2, c3, c4, f3, f4⟩ := hcs.cells
                have hfl2 := HFL2.out
                obtain ⟨pn, hpn⟩ : ∃ pn, pn = (SL ++ L).length := ⟨_, rfl⟩
                have HPN : Hid (pn = pre NL (k + 1)) := by
                  show pn = pre NL (k + 1)
                  rw [hpn, pre_succ HL.out, HLEN.out, HSL.out]; rfl
                rw [← hpn] at c3
                have HPN2 : Hid (pn = (SL ++ L).length) := hpn
                have hKA : w.heap.size ≤ ((wp.alloc (.cells #[.int .i64 (pn : Int)] 3)).drew).heap.size := by have := hcs.fr.size; simp; omega
                have hbg : gb ∉ blks (.slice fo FL.length fc) := fun hm => (hcs.d2 gb (mem_blks.1 hm)).2.1 rfl
                have HKEEP : Hid (∀ w9, Fr ((wp.alloc (.cells #[.int .i64 (pn : Int)] 3)).drew) w9 (blks (.slice fo FL.length fc)) → w9.cell? ⟨gb, 3, none⟩ = some (.slice so pn sc) ∧ w9.cell? ⟨gb, 4, none⟩ = some (.slice fo FL.length fc) ∧ w9.frozen? ⟨gb, 4, none⟩ = false) := fun w9 hf => by
                  have hf' : Fr wp w9 (blks (.slice fo FL.length fc)) := (((Fr.refl wp _).alloc _).drew).then hf fun c hc => .inl hc
                  have := hf'.blk hcs.gblk hbg
                  exact ⟨by rw [hpn]; simp [World.cell?, this], by simp [World.cell?, this], by simp [World.frozen?, this]⟩
                have HOA : Hid (((wp.alloc (.cells #[.int .i64 (pn : Int)] 3)).drew).ownsRow w.heap.size 3 1 (.slice fo FL.length fc) FL.length (ints FL)) := own_same hcs.fown fun b hb => heap_old _ _ (hcs.fown.lt b hb).2
                have HNA : Hid (((wp.alloc (.cells #[.int .i64 (pn : Int)] 3)).drew).heap[wp.heap.size]? = some (.cells #[.int .i64 (pn : Int)] 3 (0, 0))) := heap_new wp _
                have c4A : (wp.alloc (.cells #[.int .i64 (pn : Int)] 3)).cell? ⟨gb, 4, none⟩ = some (.slice fo FL.length fc) := cell_of c4 (heap_old _ _ (cell_lt c4))
                have HE : Hid (CS w ck gb sk n wp so sc (SL ++ L) fo fc FL (fun _ => false)) := hcs
                have HP6 : pn ≤ 70000 := by have := HLEN.out; omega
                have HSLL : Hid (SL ++ L = (NL.take (k + 1)).flatten) := (by rw [flat_succ HL.out, HSL.out] : SL ++ L = (NL.take (k + 1)).flatten)
                have HFLL : Hid (FL ++ [pn] = (List.range (k + 1 + 1)).map (pre NL)) := (by rw [List.range_succ, List.map_append, ← HFL.out, HPN.out]; rfl : FL ++ [pn] = (List.range (k + 1 + 1)).map (pre NL))
                clear hcs HCS e c0 c1 c2 f3 f4 hbg hpn HFL2
                rw [hfl2] at c4 c4A HKEEP HOA
                have HFE : Hid (FL.length = k + 1) := hfl2
                clear hfl2
                go_wp2_with fail
                go_region_law (first | (refine step_app1 rfl _ _ rfl wp.heap.size (pn : Int) rfl HOA.out rfl HNA.out (by omega) hKA ?_; intro g cap w9 h1 h2 h3; obtain ⟨v0, v1, v2⟩ := HKEEP.out w9 h2; have H1 : Hid (w9.ownsRow w.heap.size 3 1 (.slice (some ⟨g, 0, none⟩) (k + 1 + 1) cap) (k + 1 + 1) (ints FL ++ [.int .i64 (pn : Int)])) := h1; have H2 : Hid (Fr ((wp.alloc (.cells #[.int .i64 (pn : Int)] 3)).drew) w9 (blks (.slice fo (k + 1) fc))) := h2; have H3 : Hid (Moved ((wp.alloc (.cells #[.int .i64 (pn : Int)] 3)).drew) (.slice fo (k + 1) fc) (.slice (some ⟨g, 0, none⟩) (k + 1 + 1) cap)) := h3; clear h1 h2 h3))
                all_goals
                  go_wp2_with fail
                  go_roundw
                  case rel =>
                    refine ⟨k + 1, so, sc, some ⟨g, 0, none⟩, cap, by omega, by go_num, ?_⟩
                    rw [← HSLL.out, ← HFLL.out]
                    have a1 := H1.out
                    have a2 : Fr wp w9 (blks (.slice fo (k + 1) fc)) := (((Fr.refl wp _).alloc _).drew).then H2.out fun c hc => .inl hc
                    have a3 : Moved wp (.slice fo (k + 1) fc) (.slice (some ⟨g, 0, none⟩) (k + 1 + 1) cap) := fun b hb => by
                      rcases H3.out b hb with h | h
                      · exact .inl h
                      · exact .inr (by simp at h; omega)
                    rw [← HFE.out] at a1 a2 a3 ⊢
                    exact HE.out.pushF a1 a2 a3
                  case measure => simp [intOf]; omega
      · have hd : decide ((k : Int) < (n : Int)) = false := by simp; omega
        have ekn : n = k := by omega
        subst ekn
        have htk : NL.take n = NL := List.take_of_length_le (by rw [HNL.out]; exact Nat.le_refl _)
        have HE : Hid (Cond wk gb n NL ∧ Fr w wk []) := by
          obtain ⟨vo1, cap1, g1, e1, e2, e3, e4⟩ := own_form hcs.sown
          cases e1
          obtain ⟨vo2, cap2, g2, f1, f2, _, _⟩ := own_form hcs.fown
          cases f1
          have hfl3 : ((List.range (n + 1)).map (pre NL)).length = n + 1 := by simp
          have hfo := f2 (by omega)
          subst hfo
          have hblk := hcs.gblk
          have hso := hcs.sown
          rw [htk] at hblk hso e2
          rw [hfl3] at hblk
          have hc : NL.flatten.length ≤ sc := by
            rcases e3 with h | h
            · subst h
              have h0 : NL.flatten.length = 0 := by rcases Nat.eq_zero_or_pos NL.flatten.length with h | h; exact h; cases e2 h
              omega
            · subst h; obtain ⟨_, _, _, h, _⟩ := own_blk hso; exact h
          refine ⟨⟨ck, so, sc, g1, g2, fc, hblk, hcs.cnt, e2, e4, hc, fun i x hx => ?_, fun i hi => ?_⟩, hcs.fr⟩
          · have hl := (List.getElem?_eq_some_iff.1 hx).1
            have h5 := e2 (by omega)
            subst h5
            rw [Nat.zero_add]
            exact own_cell hso (ints_get hx)
          · exact own_cell hcs.fown (ints_get (by rw [List.getElem?_map, List.getElem?_range (by omega)]; rfl))
        have hgw := hcs.gw
        clear hcs htk
        go_wp2_with fail
        go_ret
        exact ⟨gb, rfl, HE.out.1, hgw, HE.out.2⟩
end Go.Proofs.Ybulkdxbk
