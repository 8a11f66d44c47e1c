import Derived.Test.YbulkdxeqB6
namespace Go.Proofs.Ybulkdxeq
open Go.RowKit
set_option linter.unusedVariables false

abbrev Z5 : EE := ⟨0, .slice none 0 0, .slice none 0 0, 0⟩
theorem blk_lt' {w : World} {b : Nat} {o : Obj} (h : w.heap[b]? = some o) : b < w.heap.size := (Array.getElem?_eq_some_iff.1 h).1
theorem insert_eq {α : Type} (E : List α) (z a : α) (j : Nat) (h : j ≤ E.length) : ((E ++ [z]).take (j + 1) ++ E.drop j).set j a = E.take j ++ a :: E.drop j := by
  induction E generalizing j with
  | nil => have : j = 0 := by simpa using h
           subst this; simp
  | cons x r ih =>
    cases j with
    | zero => simp
    | succ j => simp at h; have := ih j h; simp only [List.cons_append, List.take_succ_cons, List.drop_succ_cons, List.set_cons_succ]; rw [this]
/-- what put leaves -/
structure PutDone (w w' : World) (nb g base : Nat) (br ub : Bool) (id : Int) (ES : List EE) (KS : List ByteArray) (key : ByteArray) (new : EE) : Prop where
  ex : ∃ (j g' n' cap' : Nat) (ES' : List EE), Spot KS key j ∧ ((KS[j]? = some key ∧ ES' = ES.set j new) ∨ (KS[j]? ≠ some key ∧ ES' = ES.take j ++ new :: ES.drop j)) ∧
    w'.heap[nb]? = some (.cells #[.bool br, .int .u64 id, .slice (some ⟨g', 0, none⟩) n' cap', .bool ub] 31 (0, 0)) ∧ w'.ownsRow base 34 5 (.slice (some ⟨g', 0, none⟩) n' cap') n' (ES'.flatMap cells5) ∧ ES'.length = n'
  fr : Fr w w' [nb, g]

set_option maxHeartbeats 4000000 in
theorem put_any (w : World) (nb g n cap base : Nat) (br ub : Bool) (id flags : Int) (ES : List EE) (KS : List ByteArray) (kb kcap vb vlen vcap : Nat) (key : ByteArray)
    (hblk : w.heap[nb]? = some (.cells #[.bool br, .int .u64 id, .slice (some ⟨g, 0, none⟩) n cap, .bool ub] 31 (0, 0))) (hng : nb ≠ g)
    (own : w.ownsRow base 34 5 (.slice (some ⟨g, 0, none⟩) n cap) n (ES.flatMap cells5)) (hn : ES.length = n)
    (hK : KeyRow w ES KS) (asc : Asc KS) (hkv : BytesAt w (.slice (some ⟨kb, 0, none⟩) key.size kcap) key) (hsz : n ≤ 4096) (hbase : base ≤ w.heap.size) (hone : ∀ e ∈ ES, e.k.oneCell' = true ∧ e.v.oneCell' = true) :
    Calls Yba.prog 6 #[.pointer (some ⟨nb, 0, none⟩), .int .u32 flags, .slice (some ⟨kb, 0, none⟩) key.size kcap, .slice (some ⟨vb, 0, none⟩) vlen vcap] w fun e w' =>
      e = .returned (.tuple #[]) ∧ PutDone w w' nb g base br ub id ES KS key ⟨flags, .slice (some ⟨kb, 0, none⟩) key.size kcap, .slice (some ⟨vb, 0, none⟩) vlen vcap, 0⟩ := by
  have c2 : w.cell? ⟨nb, 2, none⟩ = some (.slice (some ⟨g, 0, none⟩) n cap) := by simp [World.cell?, hblk]
  have hS := search_node w nb g n cap base ES KS _ key c2 own hn hK asc hkv hsz
  have hKl : KS.length = n := by rw [← hK.1, hn]
  have HB : Hid (w.heap[nb]? = some (.cells #[.bool br, .int .u64 id, .slice (some ⟨g, 0, none⟩) n cap, .bool ub] 31 (0, 0))) := hblk
  have HO : Hid (w.ownsRow base 34 5 (.slice (some ⟨g, 0, none⟩) n cap) n (ES.flatMap cells5)) := own
  have HN : Hid (ES.length = n) := hn
  have HKL : Hid (KS.length = n) := hKl
  have HONE : Hid (∀ e ∈ ES, e.k.oneCell' = true ∧ e.v.oneCell' = true) := hone
  clear hblk own hn hK asc hkv hKl hone
  generalize hks : key.size = ks at *
  clear hks
  go_enter Yba.func6, Yba.ntmps6
  go_wp2_with fail
  refine hS.mono ?_
  rintro e w1 ⟨j, q, fnd, rfl, rfl, hsp, hfnd⟩
  clear hS
  have hnz : nb < w.heap.size := cell_lt c2
  have hgz : g < w.heap.size := (HO.out.lt g rfl).2
  have hfr : Fr w (((w.alloc (.cells #[.pointer (some ⟨nb, 0, none⟩)] 28)).alloc (.cells #[.slice (some ⟨kb, 0, none⟩) ks kcap] 32)).drewN q) [nb, g] := (((Fr.refl w _).alloc _).alloc _).drewN q
  have hsame : ∀ c, c < w.heap.size → (((w.alloc (.cells #[.pointer (some ⟨nb, 0, none⟩)] 28)).alloc (.cells #[.slice (some ⟨kb, 0, none⟩) ks kcap] 32)).drewN q).heap[c]? = w.heap[c]? := fun c hc => (heap_old _ _ (by simp; omega)).trans (heap_old _ _ hc)
  generalize ((w.alloc (.cells #[.pointer (some ⟨nb, 0, none⟩)] 28)).alloc (.cells #[.slice (some ⟨kb, 0, none⟩) ks kcap] 32)).drewN q = w1 at *
  have HF1 : Hid (Fr w w1 [nb, g]) := hfr
  have HB1 : Hid (w1.heap[nb]? = some (.cells #[.bool br, .int .u64 id, .slice (some ⟨g, 0, none⟩) n cap, .bool ub] 31 (0, 0))) := (hsame nb hnz).trans HB.out
  have HO1 : Hid (w1.ownsRow base 34 5 (.slice (some ⟨g, 0, none⟩) n cap) n (ES.flatMap cells5)) := own_same HO.out fun b hb => hsame b (HO.out.lt b hb).2
  have HSP : Hid (Spot KS key j) := hsp
  have c2 : w1.cell? ⟨nb, 2, none⟩ = some (.slice (some ⟨g, 0, none⟩) n cap) := by simp [World.cell?, HB1.out]
  have f2 : w1.frozen? ⟨nb, 2, none⟩ = false := by simp [World.frozen?, HB1.out]
  have hz1 := hfr.size
  clear hfr hsame hsp HB HO
  cases fnd with
  | true =>
    have hk : KS[j]? = some key := hfnd.1 rfl
    have hjn : j < n := by rw [← HKL.out]; exact (List.getElem?_eq_some_iff.1 hk).1
    have hx := index29 (g := g) (cap := cap) hjn
    obtain ⟨ej, he⟩ : ∃ e, ES[j]? = some e := ⟨_, List.getElem?_eq_getElem (by rw [HN.out]; exact hjn)⟩
    have d : ∀ r, r < 5 → w1.cell? ⟨g, j * 5 + r, none⟩ = (cells5 ej)[r]? := fun r hr => by
      have : (cells5 ej)[r]? = some ((cells5 ej)[r]'(by simpa [cells5] using hr)) := List.getElem?_eq_getElem _
      rw [this]
      exact own_cell HO1.out (by rw [flat_get len5 ES j r _ he hr]; exact this)
    have d0 := d 0 (by omega); have d1 := d 1 (by omega); have d2 := d 2 (by omega); have d3 := d 3 (by omega); have d4 := d 4 (by omega)
    simp only [cells5, Nat.add_zero, List.getElem?_cons_zero, List.getElem?_cons_succ] at d0 d1 d2 d3 d4
    have e0 := own_frozen HO1.out (j * 5); have e1 := own_frozen HO1.out (j * 5 + 1); have e2 := own_frozen HO1.out (j * 5 + 2); have e3 := own_frozen HO1.out (j * 5 + 3); have e4 := own_frozen HO1.out (j * 5 + 4)
    have HE : Hid (ES[j]? = some ej) := he
    have HKJ : Hid (KS[j]? = some key) := hk
    clear d he hk hfnd
    go_wp2_with fail
    go_end0
    refine ⟨rfl, ⟨⟨j, g, n, cap, _, HSP.out, .inl ⟨HKJ.out, rfl⟩, ?_, ?_, by rw [List.length_set]; exact HN.out⟩, ?_⟩⟩
    · exact (setCell_far hng _ _).trans ((setCell_far hng _ _).trans ((setCell_far hng _ _).trans ((setCell_far hng _ _).trans ((setCell_far hng _ _).trans HB1.out))))
    · have := own_set (own_set (own_set (own_set (own_set HO1.out (j * 5) (.int .u32 flags)) (j * 5 + 1) (.slice (some ⟨kb, 0, none⟩) ks kcap)) (j * 5 + 2) (.slice (some ⟨vb, 0, none⟩) vlen vcap)) (j * 5 + 3) (.int .u64 0)) (j * 5 + 4) (.pointer none)
      rw [set5 _ _ _ _ _ _ _ (by rw [flat_len len5, HN.out]; omega)] at this
      rw [flat_set len5 ES j _ (by rw [HN.out]; exact hjn)]
      exact this
    · have hg : g ∈ [nb, g] ∨ w.heap.size ≤ g := .inl (by simp)
      exact ((((HF1.out.set hg _ _).set hg _ _).set hg _ _).set hg _ _).set hg _ _
  | false =>
    have hk : KS[j]? ≠ some key := fun h => by have := hfnd.2 h; cases this
    have HKJ : Hid (KS[j]? ≠ some key) := hk
    clear hk hfnd
    obtain ⟨i0, hi, hz0, hz1', hz2⟩ := info_parts info34
    have hbase1 : base ≤ w1.heap.size := by omega
    have hn1 : ∀ j u, (cells5 Z5)[j]? = some u → (w1.alloc (.cells (cells5 Z5).toArray 34)).cell? ((⟨w1.heap.size, 0, none⟩ : Addr).add j) = some u := fun j u hu => World.news_of_block (heap_new w1 _) j u hu
    have hn2 : ∀ u ∈ cells5 Z5, u.oneCell' = true := by intro u hu; simp [cells5] at hu; rcases hu with rfl | rfl | rfl | rfl <;> rfl
    have hn3 : n + 1 ≤ maxLen := by unfold maxLen; omega
    have hn4 : (n + 1) * 72 ≤ 140737488355328 := by omega
    have hn5 : base ≤ (w1.alloc (.cells (cells5 Z5).toArray 34)).heap.size := by simp; omega
    have hn6 : (w1.alloc (.cells (cells5 Z5).toArray 34)).heap.size = w1.heap.size + 1 := by simp
    have HNK : Hid (∀ (w2 : World), (w1.alloc (.cells (cells5 Z5).toArray 34)).grownBy w2 (some g) → w2.heap[nb]? = some (.cells #[.bool br, .int .u64 id, .slice (some ⟨g, 0, none⟩) n cap, .bool ub] 31 (0, 0))) :=
      fun w2 hg => (hg.block nb (by simp; omega) (by simpa using hng)).trans ((heap_old _ _ (by omega)).trans HB1.out)
    go_wp2_with (first | (at_builtin; refine wpList_append_lies _ rfl _ _ 29 rfl base 34 i0 (.agg #[.int .u32 0, .slice none 0 0, .slice none 0 0, .int .u64 0, .pointer none]) 5 72 Yba.underlying29 hi hz0 hz1' hz2 rfl (by decide) (.slice (some ⟨g, 0, none⟩) n cap) n (ES.flatMap cells5) rfl (HO1.out.alloc _) ⟨w1.heap.size, 0, none⟩ 1 1 (cells5 Z5) rfl rfl hn1 hn2 (by omega) hn3 hn4 hn5 (w1.heap.size + 1) hn6 ?_; intro g1 cap1 w2 hown hgrow hat hlt; have hb2 := HNK.out w2 hgrow; have HB2 : Hid (w2.heap[nb]? = some (.cells #[.bool br, .int .u64 id, .slice (some ⟨g, 0, none⟩) n cap, .bool ub] 31 (0, 0))) := hb2; have c2b : w2.cell? ⟨nb, 2, none⟩ = some (.slice (some ⟨g, 0, none⟩) n cap) := (by simp [World.cell?, hb2]); have f2b : w2.frozen? ⟨nb, 2, none⟩ = false := (by simp [World.frozen?, hb2]); have HOWN : Hid _ := hown; have HGROW : Hid _ := hgrow; have HAT : Hid _ := hat; clear hown hgrow hat hb2))
    have hown3 := own_same (w' := w2.setCell ⟨nb, 2, none⟩ (.slice (some ⟨g1, 0, none⟩) (n + 1) cap1)) HOWN.out (fun b hb => setCell_far (fun e => by
      subst e
      rcases HAT.out with h | h
      · simp [Value.ownBlock] at h hb; omega
      · simp [Value.ownBlock] at hb; omega) _ _)
    have hb3 : (w2.setCell ⟨nb, 2, none⟩ (.slice (some ⟨g1, 0, none⟩) (n + 1) cap1)).heap[nb]? = some (.cells #[.bool br, .int .u64 id, .slice (some ⟨g1, 0, none⟩) (n + 1) cap1, .bool ub] 31 (0, 0)) := setCell_at HB2.out 2 _
    have hf3 : Fr w (w2.setCell ⟨nb, 2, none⟩ (.slice (some ⟨g1, 0, none⟩) (n + 1) cap1)) [nb, g] := ((HF1.out.alloc _).grown HGROW.out (fun b hb => by simp [Value.ownBlock] at hb; subst hb; exact .inl (by simp))).set (.inl (by simp)) _ _
    have hg1 : g1 ∈ [nb, g] ∨ w.heap.size ≤ g1 := by
      rcases HAT.out with h | h
      · simp [Value.ownBlock] at h; subst h; exact .inl (by simp)
      · exact .inr (by omega)
    have hng1 : nb ≠ g1 := by
      rcases HAT.out with h | h
      · simp [Value.ownBlock] at h; omega
      · omega
    rw [show ES.flatMap cells5 ++ cells5 Z5 = (ES ++ [Z5]).flatMap cells5 by simp] at hown3
    generalize w2.setCell ⟨nb, 2, none⟩ (.slice (some ⟨g1, 0, none⟩) (n + 1) cap1) = w3 at *
    have HO3 : Hid (w3.ownsRow base 34 5 (.slice (some ⟨g1, 0, none⟩) (n + 1) cap1) (n + 1) ((ES ++ [Z5]).flatMap cells5)) := hown3
    have HB3 : Hid (w3.heap[nb]? = some (.cells #[.bool br, .int .u64 id, .slice (some ⟨g1, 0, none⟩) (n + 1) cap1, .bool ub] 31 (0, 0))) := hb3
    have HF3 : Hid (Fr w w3 [nb, g]) := hf3
    have HG1 : Hid (g1 ∈ [nb, g] ∨ w.heap.size ≤ g1) := hg1
    have c3 : w3.cell? ⟨nb, 2, none⟩ = some (.slice (some ⟨g1, 0, none⟩) (n + 1) cap1) := by simp [World.cell?, hb3]
    have hjn : j ≤ n := by have := HSP.out.le; rw [HKL.out] at this; exact this
    obtain ⟨cur, hcur, hbg, hcap, hcm, hcs, hct⟩ := own_blk hown3
    have HCUR : Hid (w3.heap[g1]? = some (.cells cur 34 (0, 0)) ∧ cur.size = cap1 * 5 ∧ cur.toList.take ((n + 1) * 5) = (ES ++ [Z5]).flatMap cells5) := ⟨hcur, hcs, hct⟩
    have hs1 := slice29 (g := g1) (n := n + 1) (cap := cap1) (i := j) (x := (j : Int)) rfl (by omega)
    rw [if_neg (by omega)] at hs1
    have hs2 := slice29 (g := g1) (n := n + 1) (cap := cap1) (i := j + 1) (x := (j : Int) + 1) (by omega) (by omega)
    obtain ⟨da, hda⟩ : ∃ da, da = (if cap1 = j + 1 then (⟨g1, 0, none⟩ : Addr) else ⟨g1, (j + 1) * 5, none⟩) := ⟨_, rfl⟩
    rw [← hda] at hs2
    have HDA : Hid (da = (if cap1 = j + 1 then (⟨g1, 0, none⟩ : Addr) else ⟨g1, (j + 1) * 5, none⟩)) := hda
    have hdl : ((ES.drop j).flatMap cells5).length = (n - j) * 5 := by rw [flat_len len5, List.length_drop, HN.out]
    have hk1 : w3.drew.heap[g1]? = some (.cells cur 34 (0, 0)) := hcur
    have hk2 : ((ES.drop j).flatMap cells5).length = Nat.min (n + 1 - j) (n - j) * 5 := by
      rw [hdl]; congr 1; exact (Nat.min_eq_right (by omega)).symm
    have hk3 : 0 < ((ES.drop j).flatMap cells5).length → da = ⟨g1, (j + 1) * 5, none⟩ ∧ ∀ jj v, ((ES.drop j).flatMap cells5)[jj]? = some v → w3.drew.cell? ((⟨g1, j * 5, none⟩ : Addr).add jj) = some v := by
      intro hpos
      rw [hdl] at hpos
      refine ⟨by rw [hda, if_neg (by omega)], fun jj v hv => ?_⟩
      have hlt : jj < (n - j) * 5 := by have := (List.getElem?_eq_some_iff.1 hv).1; rw [hdl] at this; exact this
      have e : (⟨g1, j * 5, none⟩ : Addr).add jj = ⟨g1, j * 5 + jj, none⟩ := by unfold Addr.add; split <;> simp_all
      rw [e]
      refine own_cell (w := w3) HO3.out ?_
      rw [List.flatMap_append, List.getElem?_append_left (by rw [flat_len len5, HN.out]; omega), ← List.getElem?_drop, flat_drop len5]
      exact hv
    have hk4 : (j + 1) * 5 + ((ES.drop j).flatMap cells5).length ≤ cur.size := by rw [hdl, hcs]; omega
    have hk5 : ∀ v ∈ (ES.drop j).flatMap cells5, v.oneCell' = true := by
      intro v hv
      obtain ⟨e, he, hv⟩ := List.mem_flatMap.1 hv
      have ho := HONE.out e (List.mem_of_mem_drop he)
      simp only [cells5, List.mem_cons, List.not_mem_nil, or_false] at hv
      rcases hv with rfl | rfl | rfl | rfl | rfl
      · rfl
      · exact ho.1
      · exact ho.2
      · rfl
      · rfl
    have HAFT : Hid (∀ w4 : World, w4.heap[g1]? = some (.cells (cur.toList.take ((j + 1) * 5) ++ (ES.drop j).flatMap cells5 ++ cur.toList.drop ((j + 1) * 5 + ((ES.drop j).flatMap cells5).length)).toArray 34 (0, 0)) → Fr w3.drew w4 [g1] →
        w4.ownsRow base 34 5 (.slice (some ⟨g1, 0, none⟩) (n + 1) cap1) (n + 1) (((ES ++ [Z5]).take (j + 1) ++ ES.drop j).flatMap cells5) ∧ w4.heap[nb]? = some (.cells #[.bool br, .int .u64 id, .slice (some ⟨g1, 0, none⟩) (n + 1) cap1, .bool ub] 31 (0, 0)) ∧ Fr w w4 [nb, g]) := by
      intro w4 hw4 hf4
      have e1 : (cur.toList.take ((j + 1) * 5)).length = (j + 1) * 5 := by rw [List.length_take, Array.length_toList, hcs]; omega
      have e2 : cur.toList.take ((j + 1) * 5) = ((ES ++ [Z5]).take (j + 1)).flatMap cells5 := by
        rw [← flat_take len5, ← hct, List.take_take, Nat.min_eq_left (by omega)]
      refine ⟨⟨?_, .inr ⟨g1, cap1, _, rfl, hbg, hw4, hcap, hcm, ?_, ?_⟩⟩, ?_, ?_⟩
      · rw [flat_len len5]; congr 1; simp [HN.out]; omega
      · simp only [List.size_toArray, List.length_append, e1, List.length_drop, Array.length_toList, hdl, hcs]; omega
      · rw [List.flatMap_append, ← e2]
        simp only [List.append_assoc]
        rw [← List.append_assoc, List.take_left' (by rw [List.length_append, e1, hdl]; omega)]
      · exact (hf4.same nb (blk_lt' hb3) (by simpa using hng1)).trans hb3
      · exact (HF3.out.drew).then hf4 (fun c hc => by simp at hc; subst hc; exact HG1.out)
    clear hdl hown3 hb3 hf3 hg1 hcur hcs hct hda HOWN HGROW HAT HB2 HO1 HB1 HF1 HNK hn1 hn2 hn3 hn4 hn5 hn6 c2b f2b c2 f2
    have hw1 : IntKind.i64.wrap ((j : Int) + 1) = (j : Int) + 1 := by rw [IntKind.wrap_i64]; omega
    have hw2 : (0 : Int) ≤ (j : Int) + 1 := by omega
    have hw3 : ((j : Int) + 1).toNat = j + 1 := by omega
    have hw4 : (j : Int) + 1 ≤ (n : Int) + 1 := by omega
    have hw5 : (j : Int) ≤ (n : Int) + 1 := by omega
    go_region_law (refine step_copy5 rfl _ _ rfl da ⟨g1, j * 5, none⟩ (n - j) _ (n + 1 - j) _ rfl rfl g1 ((j + 1) * 5) cur 34 ((ES.drop j).flatMap cells5) hk1 hk2 hk3 hk4 hk5 ?_; intro w4 hw4 hfr4)
    all_goals
      obtain ⟨ho4, hb4, hf4⟩ := HAFT.out w4 hw4 hfr4
      have HO4 : Hid (w4.ownsRow base 34 5 (.slice (some ⟨g1, 0, none⟩) (n + 1) cap1) (n + 1) (((ES ++ [Z5]).take (j + 1) ++ ES.drop j).flatMap cells5)) := ho4
      have HB4 : Hid (w4.heap[nb]? = some (.cells #[.bool br, .int .u64 id, .slice (some ⟨g1, 0, none⟩) (n + 1) cap1, .bool ub] 31 (0, 0))) := hb4
      have HF4 : Hid (Fr w w4 [nb, g]) := hf4
      have c4 : w4.cell? ⟨nb, 2, none⟩ = some (.slice (some ⟨g1, 0, none⟩) (n + 1) cap1) := by simp [World.cell?, hb4]
      have hx := index29 (g := g1) (n := n + 1) (cap := cap1) (i := j) (by omega)
      have hlen4 : ((ES ++ [Z5]).take (j + 1) ++ ES.drop j).length = n + 1 := by simp [HN.out]; omega
      obtain ⟨ej, he⟩ : ∃ e, ((ES ++ [Z5]).take (j + 1) ++ ES.drop j)[j]? = some e := ⟨_, List.getElem?_eq_getElem (by rw [hlen4]; omega)⟩
      have d : ∀ r, r < 5 → w4.cell? ⟨g1, j * 5 + r, none⟩ = (cells5 ej)[r]? := fun r hr => by
        have : (cells5 ej)[r]? = some ((cells5 ej)[r]'(by simpa [cells5] using hr)) := List.getElem?_eq_getElem _
        rw [this]
        exact own_cell ho4 (by rw [flat_get len5 _ j r _ he hr]; exact this)
      have d0 := d 0 (by omega); have d1 := d 1 (by omega); have d2 := d 2 (by omega); have d3 := d 3 (by omega); have d4 := d 4 (by omega)
      simp only [cells5, Nat.add_zero, List.getElem?_cons_zero, List.getElem?_cons_succ] at d0 d1 d2 d3 d4
      have e0 := own_frozen ho4 (j * 5); have e1 := own_frozen ho4 (j * 5 + 1); have e2 := own_frozen ho4 (j * 5 + 2); have e3 := own_frozen ho4 (j * 5 + 3); have e4 := own_frozen ho4 (j * 5 + 4)
      have HL4 : Hid (((ES ++ [Z5]).take (j + 1) ++ ES.drop j).length = n + 1) := hlen4
      clear d he ho4 hb4 hf4 hw4 hfr4 hk1 hk2 hk3 hk4 hk5 hlen4 hs1 hs2
      go_wp2_with fail
      go_end0
      refine ⟨rfl, ⟨⟨j, g1, n + 1, cap1, _, HSP.out, .inr ⟨HKJ.out, rfl⟩, ?_, ?_, ?_⟩, ?_⟩⟩
      · exact (setCell_far hng1 _ _).trans ((setCell_far hng1 _ _).trans ((setCell_far hng1 _ _).trans ((setCell_far hng1 _ _).trans ((setCell_far hng1 _ _).trans HB4.out))))
      · have := own_set (own_set (own_set (own_set (own_set HO4.out (j * 5) (.int .u32 flags)) (j * 5 + 1) (.slice (some ⟨kb, 0, none⟩) ks kcap)) (j * 5 + 2) (.slice (some ⟨vb, 0, none⟩) vlen vcap)) (j * 5 + 3) (.int .u64 0)) (j * 5 + 4) (.pointer none)
        rw [set5 _ _ _ _ _ _ _ (by rw [flat_len len5, HL4.out]; omega)] at this
        have e := flat_set len5 ((ES ++ [Z5]).take (j + 1) ++ ES.drop j) j ⟨flags, .slice (some ⟨kb, 0, none⟩) ks kcap, .slice (some ⟨vb, 0, none⟩) vlen vcap, 0⟩ (by rw [HL4.out]; omega)
        rw [insert_eq ES Z5 _ j (by rw [HN.out]; exact hjn)] at e
        rw [e]
        exact this
      · simp [HN.out]; omega
      · exact ((((HF4.out.set HG1.out _ _).set HG1.out _ _).set HG1.out _ _).set HG1.out _ _).set HG1.out _ _
end Go.Proofs.Ybulkdxeq
