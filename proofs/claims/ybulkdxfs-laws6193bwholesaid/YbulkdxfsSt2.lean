import Derived.Test.YbulkdxfsSt
namespace Go.Proofs.Ybulkdxfs
open Go.RowKit Go.MuLone
set_option linter.unusedVariables false
set_option linter.unusedSectionVars false

/-- every value is a bool -/
def AllB (l : List (Ky × Value)) : Prop := ∀ k v, getM l k = some v → ∃ b, v = .bool b
theorem allB_nil : AllB [] := fun k v h => by simp [getM] at h
theorem AllB.put {l : List (Ky × Value)} (h : AllB l) (k : Ky) (b : Bool) : AllB (putM l k (.bool b)) := by
  intro k' v hv
  rw [getM_put] at hv
  split at hv
  · injection hv with hv; exact ⟨b, hv.symm⟩
  · exact h k' v hv
theorem allB_fold (E : List Ent) : ∀ l, AllB l → AllB (E.foldl (fun l e => putM l e.1 (.bool e.2)) l) := by
  induction E with
  | nil => exact fun l h => h
  | cons e r ih => exact fun l h => ih _ (h.put _ _)
theorem allB_foldU (E : List Ent) : AllB (foldU E) := allB_fold E [] allB_nil
theorem AllB.t {l : List (Ky × Value)} (h : AllB l) (k : Ky) : ∃ t : Bool, (getM l k).getD (.bool false) = .bool t ∧ (t = true → getM l k = some (.bool true)) := by
  cases hq : getM l k with
  | none => exact ⟨false, rfl, fun h => by cases h⟩
  | some v =>
    obtain ⟨b, rfl⟩ := h k v hq
    exact ⟨b, rfl, fun hb => by rw [hb]⟩
theorem length_foldU (E : List Ent) : ∀ l : List (Ky × Value), (E.foldl (fun l e => putM l e.1 (.bool e.2)) l).length ≤ l.length + E.length := by
  induction E with
  | nil => exact fun l => Nat.le_refl _
  | cons e r ih =>
    intro l
    have h1 := ih (putM l e.1 (.bool e.2))
    have h2 := length_put l e.1 (.bool e.2)
    have h3 : (putM l e.1 (.bool e.2)).length ≤ l.length + 1 := by rw [h2]; split <;> omega
    simp only [List.foldl_cons, List.length_cons]
    omega
theorem some_foldU (E : List Ent) (k : Nat) (e : Ent) (h : E[k]? = some e) : (getM (foldU E) e.1).isSome = true := by
  have main : ∀ (E : List Ent) (l : List (Ky × Value)), (∃ x ∈ E, x.1 = e.1) ∨ (getM l e.1).isSome = true → (getM (E.foldl (fun l e => putM l e.1 (.bool e.2)) l) e.1).isSome = true := by
    intro E
    induction E with
    | nil => intro l h; rcases h with ⟨x, hx, _⟩ | h; · cases hx
             · exact h
    | cons x r ih =>
      intro l h
      refine ih _ ?_
      rw [getM_put]
      by_cases hx : x.1 = e.1
      · right; simp [hx]
      · rw [if_neg hx]
        rcases h with ⟨y, hy, hye⟩ | h
        · left
          cases hy with
          | head => exact absurd hye hx
          | tail _ hy => exact ⟨y, hy, hye⟩
        · exact .inr h
  exact main E [] (.inl ⟨e, List.mem_of_getElem? h, rfl⟩)

/-- what 'pass' makes of the list -/
def passL (l : List (Ky × Value)) (k : Ky) (t : Bool) : List (Ky × Value) := if t then l else putM l k (.bool true)

section
variable {w wc : World} {hv dv uv h0 d0 bv : Value} {LH LH0 : List (ByteArray × Value)} {LD LD0 LU LB : List (Ky × Value)}
theorem su_passed {w' : World} {b : Nat} {l' : List (Ky × Value)} (h : Su w wc hv dv uv h0 d0 bv LH LH0 LD LD0 LU LB) (hp : Passed wc w' w.heap.size b (.int .u32 0) hv dv l')
    (hb : uv = .map (some b) ∨ (uv = .map none ∧ wc.heap.size ≤ b)) : Su w w' hv dv (.map (some b)) h0 d0 bv LH LH0 LD LD0 l' LB := by
  have ap := h.ap
  simp only [List.pairwise_cons, List.mem_cons, List.not_mem_nil, or_false, forall_eq_or_imp, forall_eq] at ap
  obtain ⟨⟨a1, a2, a3, a4, a5⟩, ⟨b2, b3, b4, b5⟩, ⟨c3, c4, c5⟩, ⟨d4, d5⟩, e5, _⟩ := ap
  have hge : w.heap.size ≤ b := by
    rcases hb with rfl | ⟨_, hb⟩
    · rcases h.mu with ⟨h1, _⟩ | ⟨x, h1, h2, _⟩
      · cases h1
      · cases h1; exact h2
    · exact Nat.le_trans h.bel.size hb
  have hsb : b ≠ w.heap.size := by
    intro e; obtain ⟨es, c, h1, _⟩ := hp.map; rw [e, hp.blk] at h1; cases h1
  -- a map other than uv is not at b
  have far : ∀ {κ : Type} {v : Value} {kv : κ → Value} {l : List (κ × Value)}, MapF w.heap.size wc v kv l → (∀ x, uv = .map (some x) → v ≠ .map (some x)) → v ≠ .map (some b) := by
    intro κ v kv l hm hx e
    rcases hb with hb | ⟨_, hb⟩
    · exact hx b hb e
    · rcases hm with ⟨h1, _⟩ | ⟨c, h1, _, es, cl, h2, _⟩
      · rw [h1] at e; cases e
      · rw [h1] at e; cases e; have := blk_lt h2; omega
  have keep : ∀ {κ : Type} {v : Value} {kv : κ → Value} {l : List (κ × Value)}, MapF w.heap.size wc v kv l → (∀ x, uv = .map (some x) → v ≠ .map (some x)) → MapF w.heap.size w' v kv l := by
    intro κ v kv l hm hx
    have hf := far hm hx
    refine hm.same fun c hc hlt => hp.other c hlt ?_ ?_
    · intro e
      rcases hm with ⟨h1, _⟩ | ⟨x, h1, _, es, cl, h2, _⟩
      · rw [h1] at hc; cases hc
      · rw [h1] at hc; cases hc; rw [e, h.blk] at h2; cases h2
    · intro e; exact hf (by rw [hc, e])
  have sym : ∀ {v : Value}, apart v uv → ∀ x, uv = .map (some x) → v ≠ .map (some x) := fun ha x hx hv => ha x hv hx
  refine ⟨hp.blk, keep h.mh (sym a2), keep h.md (sym b2), .inr ⟨b, rfl, hge, hp.map⟩, keep h.mh0 (fun x hx => c3 x hx), keep h.md0 (fun x hx => c4 x hx), keep h.mb (fun x hx => c5 x hx), ?_, ?_⟩
  · simp only [List.pairwise_cons, List.mem_cons, List.not_mem_nil, or_false, forall_eq_or_imp, forall_eq, List.Pairwise.nil, and_true]
    refine ⟨⟨a1, ?_, a3, a4, a5⟩, ⟨?_, b3, b4, b5⟩, ⟨?_, ?_, ?_⟩, ⟨d4, d5⟩, e5, by simp⟩
    · intro x hx e; cases e; exact far h.mh (sym a2) hx
    · intro x hx e; cases e; exact far h.md (sym b2) hx
    · intro x hx; cases hx; exact far h.mh0 (fun x hx => c3 x hx)
    · intro x hx; cases hx; exact far h.md0 (fun x hx => c4 x hx)
    · intro x hx; cases hx; exact far h.mb (fun x hx => c5 x hx)
  · exact h.bel.trans ⟨hp.os, hp.tape, hp.output, hp.size, fun c hc => hp.other c (Nat.lt_of_lt_of_le hc h.bel.size) (by omega) (by omega)⟩

theorem Su.len_u (h : Su w wc hv dv uv h0 d0 bv LH LH0 LD LD0 LU LB) : (Builtin.len_ #[34] 3 #[uv]).run Yba.prog wc = .ok (.int .i64 (LU.length : Int)) wc := by
  rcases h.mu with ⟨rfl, rfl⟩ | ⟨b, rfl, _, hm⟩
  · exact len_nilmap Yba.underlying34 3 wc
  · exact hm.length Yba.underlying34 3
theorem Su.len_b (h : Su w wc hv dv uv h0 d0 bv LH LH0 LD LD0 LU LB) : (Builtin.len_ #[34] 3 #[bv]).run Yba.prog wc = .ok (.int .i64 (LB.length : Int)) wc := by
  rcases h.mb with ⟨rfl, rfl⟩ | ⟨b, rfl, _, hm⟩
  · exact len_nilmap Yba.underlying34 3 wc
  · exact hm.length Yba.underlying34 3
theorem Su.len_h (h : Su w wc hv dv uv h0 d0 bv LH LH0 LD LD0 LU LB) : (Builtin.len_ #[32] 3 #[hv]).run Yba.prog wc = .ok (.int .i64 (LH.length : Int)) wc := by
  rcases h.mh with ⟨rfl, rfl⟩ | ⟨b, rfl, _, hm⟩
  · exact len_nilmap Yba.underlying32 3 wc
  · exact hm.length Yba.underlying32 3
theorem Su.len_d (h : Su w wc hv dv uv h0 d0 bv LH LH0 LD LD0 LU LB) : (Builtin.len_ #[33] 3 #[dv]).run Yba.prog wc = .ok (.int .i64 (LD.length : Int)) wc := by
  rcases h.md with ⟨rfl, rfl⟩ | ⟨b, rfl, _, hm⟩
  · exact len_nilmap Yba.underlying33 3 wc
  · exact hm.length Yba.underlying33 3
theorem look_any {κ : Type} [DecidableEq κ] {kv : κ → Value} {v : Value} {l : List (κ × Value)} {B T kt et : TypeId} (hk : KeyOk Yba.prog kt kv) (hT : Yba.prog.underlying T = some (.map kt et)) {z : Value} (hz : ∀ w, (zeroValue et).run Yba.prog w = .ok z w)
    (h : MapF B wc v kv l) (k : κ) (ok : Bool) : (Instr.lookup T v (kv k) ok).run Yba.prog wc = .ok (if ok then .tuple #[(getM l k).getD z, .bool (getM l k).isSome] else (getM l k).getD z) wc := by
  rcases h with ⟨rfl, rfl⟩ | ⟨b, rfl, _, hm⟩
  · exact run_lookup_nil hk hT (hz _) k ok
  · exact run_lookup hk hT (hz _) hm k ok

theorem pass_any (h : Su w wc hv dv uv h0 d0 bv LH LH0 LD LD0 LU LB) (k1 k2 : Int) (k3 : ByteArray) (t : Bool) (ht : (getM LU (k1, k2, k3)).getD (.bool false) = .bool t) (ht2 : t = true → getM LU (k1, k2, k3) = some (.bool true)) :
    Calls Yba.prog 4 #[.pointer (some ⟨w.heap.size, 0, none⟩), .agg #[.int .i64 k1, .int .i64 k2, .string k3]] wc fun e w' => e = .returned (.bool (!t)) ∧ (∃ b, Su w w' hv dv (.map (some b)) h0 d0 bv LH LH0 LD LD0 (passL LU (k1, k2, k3) t) LB) ∧
      ∀ c cs ty fr, wc.heap[c]? = some (.cells cs ty fr) → c ≠ w.heap.size → w'.heap[c]? = some (.cells cs ty fr) := by
  have other : ∀ {w' : World} {b : Nat} {l' : List (Ky × Value)}, Passed wc w' w.heap.size b (.int .u32 0) hv dv l' → (uv = .map (some b) ∨ (uv = .map none ∧ wc.heap.size ≤ b)) →
      ∀ c cs ty fr, wc.heap[c]? = some (.cells cs ty fr) → c ≠ w.heap.size → w'.heap[c]? = some (.cells cs ty fr) := by
    intro w' b l' hp hb c cs ty fr hc hne
    refine (hp.other c (blk_lt hc) hne ?_).trans hc
    intro e
    rcases hb with hb | ⟨_, hb⟩
    · rcases h.mu with ⟨h1, _⟩ | ⟨x, h1, _, es, cl, h2, _⟩
      · rw [h1] at hb; cases hb
      · rw [h1] at hb; cases hb; rw [← e, hc] at h2; cases h2
    · have := blk_lt hc; omega
  rcases h.mu with ⟨rfl, rfl⟩ | ⟨b, rfl, hge, hm⟩
  · have hf : t = false := by simp [getM] at ht; exact ht
    subst hf
    refine (pass_nil w.heap.size (.int .u32 0) hv dv k1 k2 k3 wc h.blk).mono ?_
    rintro e w' ⟨rfl, b, hb, hp⟩
    exact ⟨rfl, ⟨b, su_passed h hp (.inr ⟨rfl, hb⟩)⟩, other hp (.inr ⟨rfl, hb⟩)⟩
  · cases t with
    | true =>
      refine (pass_true w.heap.size b (.int .u32 0) hv dv k1 k2 k3 LU wc h.blk hm (ht2 rfl)).mono ?_
      rintro e w' ⟨rfl, hp⟩
      exact ⟨rfl, ⟨b, su_passed h hp (.inl rfl)⟩, other hp (.inl rfl)⟩
    | false =>
      refine (pass_false w.heap.size b (.int .u32 0) hv dv k1 k2 k3 LU wc h.blk hm ht).mono ?_
      rintro e w' ⟨rfl, hp⟩
      exact ⟨rfl, ⟨b, su_passed h hp (.inl rfl)⟩, other hp (.inl rfl)⟩
end
theorem passL_get (l : List (Ky × Value)) (k : Ky) (t : Bool) (ht2 : t = true → getM l k = some (.bool true)) : getM (passL l k t) k = some (.bool true) := by
  unfold passL; cases t
  · simp [getM_put_same]
  · simpa using ht2 rfl
theorem passL_len (l : List (Ky × Value)) (k : Ky) (t : Bool) (ht2 : t = true → getM l k = some (.bool true)) : (passL l k t).length = l.length + (if (getM l k).isSome then 0 else 1) := by
  unfold passL; cases t
  · simp [length_put]; split <;> simp
  · simp [ht2 rfl]
theorem passL_look {l : List (Ky × Value)} {k k' : Ky} {t x : Bool} (ht2 : t = true → getM l k = some (.bool true)) (hx : (getM l k').getD (.bool false) = .bool x) (hs : (getM l k').isSome = true) :
    (getM (passL l k t) k').getD (.bool false) = .bool (x || decide (k' = k)) ∧ (getM (passL l k t) k').isSome = true := by
  obtain ⟨v, hv⟩ := Option.isSome_iff_exists.1 hs
  rw [hv] at hx
  simp only [Option.getD_some] at hx
  unfold passL
  cases t with
  | true =>
    simp only [if_true]
    rw [hv]
    refine ⟨?_, rfl⟩
    simp only [Option.getD_some, hx]
    by_cases h : k' = k
    · rw [h, ht2 rfl] at hv
      injection hv with hv
      rw [← hv] at hx
      injection hx with hx
      simp [← hx]
    · simp [h]
  | false =>
    simp only [Bool.false_eq_true, if_false]
    rw [getM_put]
    by_cases h : k' = k
    · simp [h]
    · have h' : k ≠ k' := fun e => h e.symm
      simp [h, h', hv, hx]
theorem eq40b (a b : Ky) (w : World) : (binOp .eql 40 (kv a) (kv b)).run Yba.prog w = .ok (.bool (decide (a = b))) w := by
  have := eq40 a b w
  unfold kv at *
  rw [run_eql_struct]
  have e : (Op.equalIn 10000 40 (.agg #[.int .i64 a.1, .int .i64 a.2.1, .string a.2.2]) (.agg #[.int .i64 b.1, .int .i64 b.2.1, .string b.2.2])).run Yba.prog w = .ok (decide (a = b)) w := this
  rw [e]; rfl

/-- what is filled in stays of its make, and every key that was put is there -/
theorem fold_get {κ α : Type} [DecidableEq κ] (D : List α) (kf : α → κ) (vf : α → Value) (C : Value → Prop) (hC : ∀ a, C (vf a)) : ∀ (l : List (κ × Value)), (∀ k v, getM l k = some v → C v) →
    ∀ k v, getM (D.foldl (fun l e => putM l (kf e) (vf e)) l) k = some v → C v := by
  induction D with
  | nil => exact fun l h => h
  | cons e r ih =>
    intro l h
    refine ih _ (fun k v hv => ?_)
    rw [getM_put] at hv
    split at hv
    · injection hv with hv; rw [← hv]; exact hC e
    · exact h k v hv
theorem fold_some {κ α : Type} [DecidableEq κ] (D : List α) (kf : α → κ) (vf : α → Value) (k : κ) : ∀ (l : List (κ × Value)), (∃ x ∈ D, kf x = k) ∨ (getM l k).isSome = true → (getM (D.foldl (fun l e => putM l (kf e) (vf e)) l) k).isSome = true := by
  induction D with
  | nil => intro l h; rcases h with ⟨x, hx, _⟩ | h
           · cases hx
           · exact h
  | cons x r ih =>
    intro l h
    refine ih _ ?_
    rw [getM_put]
    by_cases hx : kf x = k
    · right; simp [hx]
    · rw [if_neg hx]
      rcases h with ⟨y, hy, hye⟩ | h
      · left
        cases hy with
        | head => exact absurd hye hx
        | tail _ hy => exact ⟨y, hy, hye⟩
      · exact .inr h
theorem some_foldD (D : List Hl) (k : Nat) (e : Hl) (h : D[k]? = some e) : ∃ s, getM (foldD D) e.1 = some (.string s) := by
  have h1 := fold_some D (fun e => e.1) (fun e => .string e.2) e.1 [] (.inl ⟨e, List.mem_of_getElem? h, rfl⟩)
  obtain ⟨v, hv⟩ := Option.isSome_iff_exists.1 h1
  obtain ⟨s, rfl⟩ := fold_get D (fun e => e.1) (fun e => .string e.2) (fun v => ∃ s, v = .string s) (fun a => ⟨_, rfl⟩) [] (fun k v h => by simp [getM] at h) _ _ hv
  exact ⟨s, hv⟩
theorem some_foldH (D : List Hl) (k : Nat) (e : Hl) (h : D[k]? = some e) : ∃ x, getM (foldH D) e.2 = some (kv x) := by
  have h1 := fold_some D (fun e => e.2) (fun e => kv e.1) e.2 [] (.inl ⟨e, List.mem_of_getElem? h, rfl⟩)
  obtain ⟨v, hv⟩ := Option.isSome_iff_exists.1 h1
  obtain ⟨s, rfl⟩ := fold_get D (fun e => e.2) (fun e => kv e.1) (fun v => ∃ s, v = kv s) (fun a => ⟨_, rfl⟩) [] (fun k v h => by simp [getM] at h) _ _ hv
  exact ⟨s, hv⟩
theorem neq40b (a : Ky) (w : World) : (binOp .neq 40 (kv a) (kv a)).run Yba.prog w = .ok (.bool false) w := by
  have := eq40 a a w
  unfold kv at *
  rw [run_neq_struct]
  have e : (Op.equalIn 10000 40 (.agg #[.int .i64 a.1, .int .i64 a.2.1, .string a.2.2]) (.agg #[.int .i64 a.1, .int .i64 a.2.1, .string a.2.2])).run Yba.prog w = .ok (decide (a = a)) w := this
  rw [e]; simp
theorem zero9 (w : World) : (zeroValue 9).run Yba.prog w = .ok (.string ⟨#[]⟩) w := by kernel_rfl
theorem zero40 (w : World) : (zeroValue 40).run Yba.prog w = .ok (.agg #[.int .i64 0, .int .i64 0, .string ⟨#[]⟩]) w := by kernel_rfl
theorem nil_eq {κ : Type} {kv : κ → Value} {B : Nat} {wc : World} {v : Value} {l : List (κ × Value)} {T kt et : TypeId} {n : Nat} (hT : Yba.prog.underlying T = some (.map kt et)) (h : MapF B wc v kv l) (hn : v = .map none ↔ n = 0) (w : World) :
    (binOp .eql T v (.map none)).run Yba.prog w = .ok (.bool ((n : Int) == 0)) w := by
  rcases h with ⟨rfl, _⟩ | ⟨b, rfl, _, _⟩
  · have h0 := hn.1 rfl
    subst h0
    exact run_eql_map_nil w T kt et none hT
  · have h0 : n ≠ 0 := fun e => by have := hn.2 e; cases this
    rw [run_eql_map_nil w T kt et (some b) hT]
    have : ((n : Int) == 0) = false := by simp; exact h0
    rw [this]; rfl
end Go.Proofs.Ybulkdxfs
