import Derived.Test.YbulkdxbkDoorKu
namespace Go.Proofs.YbulkdxbkDoor
open Go.RowKit
set_option linter.unusedVariables false

/-! ### Lists of lists, by place -/
theorem pre_step_le (NL : List (List Nat)) (k : Nat) : pre NL k ≤ pre NL (k + 1) := by
  unfold pre
  rcases Nat.lt_or_ge k NL.length with h | h
  · rw [List.take_succ_eq_append_getElem h, List.flatten_append, List.length_append]; omega
  · rw [List.take_of_length_le h, List.take_of_length_le (by omega)]; exact Nat.le_refl _
theorem pre_mono (NL : List (List Nat)) {k k' : Nat} (h : k ≤ k') : pre NL k ≤ pre NL k' := by
  induction h with
  | refl => exact Nat.le_refl _
  | step _ ih => exact Nat.le_trans ih (pre_step_le NL _)
theorem pre_inj {NL : List (List Nat)} {k k' j j' : Nat} {L L' : List Nat} (h : NL[k]? = some L) (h' : NL[k']? = some L') (hj : j < L.length) (hj' : j' < L'.length) (e : pre NL k + j = pre NL k' + j') : k = k' ∧ j = j' := by
  have p := pre_succ h
  have p' := pre_succ h'
  rcases Nat.lt_trichotomy k k' with h1 | h1 | h1
  · have := pre_mono NL (show k + 1 ≤ k' by omega); omega
  · subst h1; omega
  · have := pre_mono NL (show k' + 1 ≤ k by omega); omega
theorem pre_loc : ∀ (NL : List (List Nat)) (i : Nat), i < NL.flatten.length → ∃ k L j, NL[k]? = some L ∧ j < L.length ∧ i = pre NL k + j := by
  intro NL
  induction NL with
  | nil => intro i h; simp at h
  | cons L NL ih =>
    intro i h
    rw [List.flatten_cons, List.length_append] at h
    by_cases hi : i < L.length
    · exact ⟨0, L, i, rfl, hi, by simp [pre]⟩
    · obtain ⟨k, L', j, h1, h2, h3⟩ := ih (i - L.length) (by omega)
      refine ⟨k + 1, L', j, by simpa using h1, h2, ?_⟩
      have : pre (L :: NL) (k + 1) = L.length + pre NL k := by simp [pre]
      omega
theorem pre_all (NL : List (List Nat)) : pre NL NL.length = NL.flatten.length := by simp [pre]
theorem pre_zero (NL : List (List Nat)) : pre NL 0 = 0 := by simp [pre]
/-! ### The components -/
def sz (x : Nat) : Nat := 1 + x % 3
def sumTo (SZ : List Nat) (k : Nat) : Nat := ((SZ.take k).map sz).sum
theorem sumTo_succ {SZ : List Nat} {k x : Nat} (h : SZ[k]? = some x) : sumTo SZ (k + 1) = sumTo SZ k + sz x := by
  unfold sumTo
  rw [take_snoc h]
  simp
theorem sumTo_zero (SZ : List Nat) : sumTo SZ 0 = 0 := by simp [sumTo]
theorem sumTo_le (SZ : List Nat) : ∀ k, k ≤ SZ.length → sumTo SZ k ≤ 3 * k ∧ k ≤ sumTo SZ k := by
  intro k
  induction k with
  | zero => intro _; simp [sumTo]
  | succ k ih =>
    intro h
    have h1 := ih (by omega)
    have h2 := sumTo_succ (List.getElem?_eq_getElem (show k < SZ.length by omega))
    unfold sz at h2
    omega
def mems (n : Nat) (SZ : List Nat) : List (List Nat) := (List.range SZ.length).map fun k => (List.range (sz ((SZ[k]?).getD 0))).map fun j => n - 1 - (sumTo SZ k + j)
section
variable {n k x : Nat} {SZ : List Nat}
theorem mems_len : (mems n SZ).length = SZ.length := by simp [mems]
theorem mems_at (h : SZ[k]? = some x) : (mems n SZ)[k]? = some ((List.range (sz x)).map fun j => n - 1 - (sumTo SZ k + j)) := by
  have hk := (List.getElem?_eq_some_iff.1 h).1
  unfold mems
  rw [List.getElem?_map, List.getElem?_range hk]
  simp [h]
theorem pre_mems : ∀ k, k ≤ SZ.length → pre (mems n SZ) k = sumTo SZ k := by
  intro k
  induction k with
  | zero => intro _; rw [pre_zero, sumTo_zero]
  | succ k ih =>
    intro h
    have hx : SZ[k]? = some (SZ[k]'(by omega)) := List.getElem?_eq_getElem (by omega)
    rw [pre_succ (mems_at hx), sumTo_succ hx, ih (by omega)]
    simp
theorem mems_flat_len : (mems n SZ).flatten.length = sumTo SZ SZ.length := by
  rw [← pre_all, mems_len, pre_mems _ (Nat.le_refl _)]
theorem mems_form {L : List Nat} (h : (mems n SZ)[k]? = some L) : k < SZ.length ∧ ∃ x, SZ[k]? = some x ∧ L = (List.range (sz x)).map fun j => n - 1 - (sumTo SZ k + j) := by
  have hk := (List.getElem?_eq_some_iff.1 h).1
  rw [mems_len] at hk
  have hx : SZ[k]? = some (SZ[k]'hk) := List.getElem?_eq_getElem hk
  refine ⟨hk, _, hx, ?_⟩
  rw [mems_at hx] at h
  cases h; rfl
theorem mems_flat (hn : n = sumTo SZ SZ.length) {i : Nat} (hi : i < n) : (mems n SZ).flatten[i]? = some (n - 1 - i) := by
  obtain ⟨k, L, j, h1, h2, h3⟩ := pre_loc (mems n SZ) i (by rw [mems_flat_len]; omega)
  obtain ⟨hk, x, hx, rfl⟩ := mems_form h1
  rw [h3]
  rw [pre_mems k (by omega)]
  rw [← pre_mems (n := n) k (by omega)]
  refine pre_get h1 ?_
  simp at h2
  rw [List.getElem?_map, List.getElem?_range h2, pre_mems k (by omega)]
  rfl
theorem mems_lt (hn : n = sumTo SZ SZ.length) : ∀ (q : Nat) L r, (mems n SZ)[q]? = some L → r ∈ L → r < n := by
  intro q L r h hr
  obtain ⟨hk, x, hx, rfl⟩ := mems_form h
  have h1 := (sumTo_le SZ SZ.length (Nat.le_refl _)).2
  obtain ⟨j, hj, rfl⟩ := List.mem_map.1 hr
  omega
/-- what the comp list says -/
def CompOk (n : Nat) (SZ C : List Nat) (pos : Nat) : Prop := C.length = n ∧ ∀ (k : Nat) L (j : Nat), (mems n SZ)[k]? = some L → j < L.length → pre (mems n SZ) k + j < pos → C[n - 1 - (pre (mems n SZ) k + j)]? = some k
theorem CompOk.step {C : List Nat} {pos j : Nat} (h : CompOk n SZ C pos) (hx : SZ[k]? = some x) (hp : pos = sumTo SZ k + j) (hj : j < sz x) (hpn : pos < n) : CompOk n SZ (C.set (n - 1 - pos) k) (pos + 1) := by
  refine ⟨by simp [h.1], fun k' L j' h1 h2 h3 => ?_⟩
  have hk := (List.getElem?_eq_some_iff.1 hx).1
  rw [List.getElem?_set]
  by_cases e : pre (mems n SZ) k' + j' = pos
  · rw [e, if_pos rfl, if_pos (by rw [h.1]; omega)]
    have := (pre_inj (k := k) (j := j) (mems_at hx) h1 (by simp; exact hj) h2 (by rw [pre_mems k (by omega)]; omega)).1
    rw [this]
  · rw [if_neg (by omega)]
    exact h.2 k' L j' h1 h2 (by omega)
theorem CompOk.mem {C : List Nat} (h : CompOk n SZ C n) (hn : n = sumTo SZ SZ.length) {q : Nat} (hq : q < n) : compOf C q < SZ.length ∧ ∀ k, q ∈ nullOf (mems n SZ) k ↔ compOf C q = k := by
  obtain ⟨k, L, j, h1, h2, h3⟩ := pre_loc (mems n SZ) (n - 1 - q) (by rw [mems_flat_len]; omega)
  have h4 := h.2 k L j h1 h2 (by omega)
  rw [← h3, show n - 1 - (n - 1 - q) = q by omega] at h4
  have hc : compOf C q = k := by simp [compOf, h4]
  obtain ⟨hk, x, hx, hL⟩ := mems_form h1
  rw [hc]
  refine ⟨hk, fun k' => ⟨fun hm => ?_, fun e => ?_⟩⟩
  · unfold nullOf at hm
    cases hk' : (mems n SZ)[k']? with
    | none => rw [hk'] at hm; simp at hm
    | some L' =>
      rw [hk'] at hm
      obtain ⟨hk2, x', hx', rfl⟩ := mems_form hk'
      simp only [Option.getD_some] at hm
      obtain ⟨j', hj', e⟩ := List.mem_map.1 hm
      have hj2 := List.mem_range.1 hj'
      have h5 := sumTo_succ hx'
      have h6 : sumTo SZ (k' + 1) ≤ n := by
        have g1 := pre_mems (n := n) (k' + 1) (show k' + 1 ≤ SZ.length by omega)
        have g2 := pre_le (NL := mems n SZ) (k' + 1)
        rw [mems_flat_len] at g2
        omega
      refine (pre_inj h1 hk' h2 (j' := j') (by simp; exact hj2) ?_).1
      rw [pre_mems k' (by omega)]
      omega
  · subst e
    rw [nullOf_at h1, hL]
    refine List.mem_map.2 ⟨j, List.mem_range.2 (by rw [hL] at h2; simpa using h2), ?_⟩
    have := pre_mems (n := n) k (show k ≤ SZ.length by omega)
    omega
/-- where every component is one state, comp is one to one -/
theorem comp_inj {C : List Nat} (h : CompOk n SZ C n) (hn : n = sumTo SZ SZ.length) (hm : SZ.length = n) {q q' : Nat} (hq : q < n) (hq' : q' < n) (e : compOf C q = compOf C q') : q = q' := by
  have hone : ∀ k x, SZ[k]? = some x → sz x = 1 := fun k x hx => by
    have hk := (List.getElem?_eq_some_iff.1 hx).1
    have h1 := sumTo_succ hx
    have h2 := (sumTo_le SZ k (by omega)).2
    have h3 : ∀ d, k + 1 + d ≤ SZ.length → sumTo SZ (k + 1) + d ≤ sumTo SZ (k + 1 + d) := by
      intro d
      induction d with
      | zero => intro _; exact Nat.le_refl _
      | succ d ih =>
        intro hd
        have h4 := ih (by omega)
        have h5 := sumTo_succ (List.getElem?_eq_getElem (show k + 1 + d < SZ.length by omega))
        unfold sz at h5
        rw [show k + 1 + (d + 1) = k + 1 + d + 1 by omega]
        omega
    have h6 := h3 (SZ.length - (k + 1)) (by omega)
    rw [show k + 1 + (SZ.length - (k + 1)) = SZ.length by omega] at h6
    have h7 : 1 ≤ sz x := by unfold sz; omega
    omega
  have h1 := (h.mem hn hq).2 (compOf C q) |>.2 rfl
  have h2 := (h.mem hn hq').2 (compOf C q) |>.2 e.symm
  have hk := (h.mem hn hq).1
  have hx : SZ[compOf C q]? = some (SZ[compOf C q]'hk) := List.getElem?_eq_getElem hk
  rw [nullOf_at (mems_at hx), hone _ _ hx] at h1 h2
  simp at h1 h2
  omega
end
/-! ### The moves between components -/
def ne1 (m : Nat) (e : Nat × Nat) : Option (Nat × Nat) := if e.1 % m = e.2 % m then none else some (min (e.1 % m) (e.2 % m), max (e.1 % m) (e.2 % m))
def sucOf (m : Nat) (E : List (Nat × Nat)) (k : Nat) : List Nat := ((E.filterMap (ne1 m)).filter fun p => p.1 == k).map Prod.snd
def sucs (m : Nat) (E : List (Nat × Nat)) : List (List Nat) := (List.range m).map (sucOf m E)
section
variable {m t k a b : Nat} {E : List (Nat × Nat)} {e : Nat × Nat}
theorem sucs_len : (sucs m E).length = m := by simp [sucs]
theorem sucs_at (hk : k < m) : (sucs m E)[k]? = some (sucOf m E k) := by unfold sucs; rw [List.getElem?_map, List.getElem?_range hk]; rfl
theorem sucOf_skip (h : E[t]? = some e) (he : ne1 m e = none) (k : Nat) : sucOf m (E.take (t + 1)) k = sucOf m (E.take t) k := by
  unfold sucOf; rw [take_snoc h, List.filterMap_append]; simp [he]
theorem sucOf_add (h : E[t]? = some e) (he : ne1 m e = some (a, b)) (k : Nat) : sucOf m (E.take (t + 1)) k = if k = a then sucOf m (E.take t) k ++ [b] else sucOf m (E.take t) k := by
  unfold sucOf; rw [take_snoc h, List.filterMap_append, List.filter_append, List.map_append]
  by_cases e : k = a
  · subst e; simp [he]
  · have : ¬ a = k := fun h => e h.symm
    simp [he, e, this]
theorem sucOf_pre (t k : Nat) : ∃ r, sucOf m E k = sucOf m (E.take t) k ++ r := by
  refine ⟨sucOf m (E.drop t) k, ?_⟩
  unfold sucOf
  rw [← List.map_append, ← List.filter_append, ← List.filterMap_append, List.take_append_drop]
theorem sucOf_lt (hm : 0 < m) {x : Nat} (hx : x ∈ sucOf m E k) : x < m := by
  unfold sucOf at hx
  obtain ⟨p, hp, rfl⟩ := List.mem_map.1 hx
  have hp2 := (List.mem_filter.1 hp).1
  obtain ⟨e, _, he⟩ := List.mem_filterMap.1 hp2
  unfold ne1 at he
  split at he
  · cases he
  · cases he
    have := Nat.mod_lt e.1 hm
    have := Nat.mod_lt e.2 hm
    simp only
    omega
theorem sum_if (m a : Nat) : ((List.range m).map fun k => if k = a then 1 else 0).sum ≤ 1 := by
  have : ∀ m, (((List.range m).map fun k => if k = a then 1 else 0).sum = if a < m then 1 else 0) := by
    intro m
    induction m with
    | zero => simp
    | succ m ih =>
      rw [List.range_succ, List.map_append, List.sum_append, ih]
      by_cases h : a < m
      · have h1 : ¬ m = a := by omega
        have h2 : a < m + 1 := by omega
        simp [h, h1, h2]
      · by_cases h3 : m = a
        · subst h3; simp
        · have h2 : ¬ a < m + 1 := by omega
          simp [h, h3, h2]
  rw [this]; split <;> omega
theorem sum_add (m : Nat) (f g : Nat → Nat) : ((List.range m).map fun k => f k + g k).sum = ((List.range m).map f).sum + ((List.range m).map g).sum := by
  induction m with
  | zero => simp
  | succ m ih => rw [List.range_succ, List.map_append, List.map_append, List.map_append, List.sum_append, List.sum_append, List.sum_append, ih]; simp; omega
theorem tot_le (m : Nat) : ∀ X : List (Nat × Nat), ((List.range m).map fun k => (X.filter fun p => p.1 == k).length).sum ≤ X.length := by
  intro X
  induction X with
  | nil =>
    have : ∀ m, ((List.range m).map fun _ : Nat => 0).sum = 0 := by
      intro m
      induction m with
      | zero => rfl
      | succ m ih => rw [List.range_succ, List.map_append, List.sum_append, ih]; rfl
    simp [this]
  | cons p X ih =>
    have e : (fun k => ((p :: X).filter fun q => q.1 == k).length) = fun k => (X.filter fun q => q.1 == k).length + (if k = p.1 then 1 else 0) := by
      funext k
      by_cases h : p.1 = k
      · subst h; simp
      · have h2 : ¬ k = p.1 := fun h' => h h'.symm
        simp [h, h2]
    rw [e, sum_add]
    have := sum_if m p.1
    simp only [List.length_cons]
    omega
theorem sucs_flat (m : Nat) (E : List (Nat × Nat)) : (sucs m E).flatten.length ≤ E.length := by
  have h1 := tot_le m (E.filterMap (ne1 m))
  have h2 := List.length_filterMap_le (ne1 m) E
  rw [List.length_flatten]
  unfold sucs
  rw [List.map_map]
  have e : (List.length ∘ sucOf m E) = fun k => ((E.filterMap (ne1 m)).filter fun p => p.1 == k).length := by
    funext k; simp [sucOf]
  rw [e]; omega
end
/-- rows by a function -/
theorem map_set (n : Nat) (f : Nat → Nat) (a v : Nat) : ((List.range n).map f).set a v = (List.range n).map fun k => if k = a then v else f k := by
  apply List.ext_getElem?
  intro i
  rw [List.getElem?_set]
  by_cases hi : i < n
  · by_cases e : a = i
    · subst e; simp [hi]
    · have : ¬ i = a := fun h => e h.symm
      simp [e, this, hi]
  · rw [List.getElem?_eq_none (l := (List.range n).map fun k => if k = a then v else f k) (by simp; omega)]
    by_cases e : a = i
    · subst e; simp [hi]
    · rw [if_neg e, List.getElem?_eq_none (by simp; omega)]
theorem map_at {n i : Nat} (f : Nat → Nat) (h : i < n) : ((List.range n).map f)[i]? = some (f i) := by rw [List.getElem?_map, List.getElem?_range h]; rfl
/-! ### The answers agree -/
theorem filter_range {p : Nat → Bool} {n N : Nat} (h : n ≤ N) (hp : ∀ q, n ≤ q → p q = false) : (List.range N).filter p = (List.range n).filter p := by
  apply asc_ext _ _ (asc_range_filter _ _) (asc_range_filter _ _)
  intro q
  simp only [List.mem_filter, List.mem_range]
  constructor
  · rintro ⟨h1, h2⟩
    refine ⟨?_, h2⟩
    rcases Nat.lt_or_ge q n with h3 | h3
    · exact h3
    · rw [hp q h3] at h2; cases h2
  · rintro ⟨h1, h2⟩; exact ⟨by omega, h2⟩
theorem answers {nf : Bool} {m n N : Nat} {SZ C : List Nat} {SL : List (List Nat)} {SQ : List Nat} {P : Nat → Bool} (hC : CompOk n SZ C n) (hn : n = sumTo SZ SZ.length) (hm : m = SZ.length) (hN : n ≤ N) (hSm : ∀ (q : Nat) L r, SL[q]? = some L → r ∈ L → r < m) (hsq : ∀ x ∈ SQ, x < n)
    (hnf : nf = true ↔ m = n ∧ SL.flatten.length = 0) (hP : Least (nullOf SL) (SQ.map (compOf C)) (fun x => P x = true)) :
    (List.range N).filter (addAll (fun _ => false) (found nf m C (mems n SZ) SL SQ)) = (List.range n).filter fun q => P (compOf C q) := by
  have hsd : ∀ x ∈ SQ.map (compOf C), x < m := fun x hx => by
    obtain ⟨q, hq, rfl⟩ := List.mem_map.1 hx
    rw [hm]; exact (hC.mem hn (hsq q hq)).1
  have hlt : ∀ q ∈ found nf m C (mems n SZ) SL SQ, q < n := fun q hq => by
    unfold found at hq
    split at hq
    · exact hsq q hq
    · obtain ⟨k, _, hk⟩ := List.mem_flatMap.1 hq
      unfold nullOf at hk
      cases hk' : (mems n SZ)[k]? with
      | none => rw [hk'] at hk; simp at hk
      | some L => rw [hk'] at hk; exact mems_lt hn k L q hk' hk
  rw [filter_range hN fun q hq => by
    have : q ∉ found nf m C (mems n SZ) SL SQ := fun hm' => by have := hlt q hm'; omega
    simp [addAll, this]]
  apply List.filter_congr
  intro q hq
  have hqn := List.mem_range.1 hq
  have key : q ∈ found nf m C (mems n SZ) SL SQ ↔ P (compOf C q) = true := by
    unfold found
    by_cases hb : nf = true
    · rw [if_pos hb]
      obtain ⟨h1, h2⟩ := hnf.1 hb
      have hnil : ∀ k, nullOf SL k = [] := fun k => by
        unfold nullOf
        cases hk : SL[k]? with
        | none => rfl
        | some L =>
          have h3 := pre_succ hk
          have h4 := pre_le (NL := SL) (k + 1)
          have h5 : L.length = 0 := by omega
          simp [List.eq_nil_of_length_eq_zero h5]
      constructor
      · intro hm'; exact hP.seed _ (List.mem_map.2 ⟨q, hm', rfl⟩)
      · intro hp
        have := hP.least (fun x => x ∈ SQ.map (compOf C)) (fun x hx => hx) (fun k _ x hx => by rw [hnil] at hx; simp at hx) _ hp
        obtain ⟨q', hq', e⟩ := List.mem_map.1 this
        have := comp_inj hC hn (by omega) (hsq q' hq') hqn e
        rw [← this]; exact hq'
    · rw [if_neg hb]
      have hl := bfs_Least (nullOf_lt hSm) hsd
      have heq := hl.eq hP
      rw [← heq, List.mem_flatMap]
      constructor
      · rintro ⟨k, hk, hk2⟩
        rw [((hC.mem hn hqn).2 k).1 hk2]; exact hk
      · intro hk
        exact ⟨_, hk, ((hC.mem hn hqn).2 _).2 rfl⟩
  by_cases hb : q ∈ found nf m C (mems n SZ) SL SQ
  · have := key.1 hb
    rw [this]; simp [addAll, hb]
  · have h1 : P (compOf C q) = false := by
      cases h : P (compOf C q) with
      | false => rfl
      | true => exact absurd (key.2 h) hb
    rw [h1]; simp [addAll, hb]
end Go.Proofs.YbulkdxbkDoor
