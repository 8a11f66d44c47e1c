import Derived.Test.YbulkdxfsFmtClaim
namespace Go.Proofs.YbulkdxfsFmt
open Go.RowKit Go.MuLone
set_option linter.unusedVariables false

/-! ### The twelve marks -/
def aOf (j : Nat) : ByteArray := if j % 2 = 0 then ⟨#[97]⟩ else ⟨#[98]⟩
def keyOf (j : Nat) : Ky := (((j / 4 : Nat) : Int), (((j % 4) / 2 : Nat) : Int), aOf j)
theorem keyOf_inj {i j : Nat} (h : keyOf i = keyOf j) : i = j := by
  simp only [keyOf, Prod.mk.injEq] at h
  obtain ⟨h1, h2, h3⟩ := h
  have h3' : i % 2 = j % 2 := by
    unfold aOf at h3
    by_cases a : i % 2 = 0 <;> by_cases b : j % 2 = 0
    · omega
    · rw [if_pos a, if_neg b] at h3; simp at h3
    · rw [if_neg a, if_pos b] at h3; simp at h3
    · omega
  omega
def cntT : List Bool → Nat
  | [] => 0
  | b :: r => (if b then 1 else 0) + cntT r
theorem cntT_true (M : List Bool) (j : Nat) (h : M[j]? = some false) : cntT (M.set j true) = cntT M + 1 := by
  induction M generalizing j with
  | nil => simp at h
  | cons b r ih =>
    cases j with
    | zero => simp at h; subst h; simp [cntT]; omega
    | succ j => simp at h; simp [cntT, ih j h]; omega
theorem cntT_false (M : List Bool) (j : Nat) (h : M[j]? = some true) : cntT (M.set j false) + 1 = cntT M := by
  induction M generalizing j with
  | nil => simp at h
  | cons b r ih =>
    cases j with
    | zero => simp at h; subst h; simp [cntT]; omega
    | succ j => simp at h; have := ih j h; simp [cntT]; omega
theorem set_same (M : List Bool) (j : Nat) (b : Bool) (h : M[j]? = some b) : M.set j b = M := by
  apply List.ext_getElem?
  intro i
  rw [List.getElem?_set]
  split
  · subst_vars
    split
    · exact h.symm
    · have := (List.getElem?_eq_some_iff.1 h).1; omega
  · rfl
theorem cntT_take (M : List Bool) (k : Nat) (b : Bool) (h : M[k]? = some b) : cntT (M.take (k + 1)) = cntT (M.take k) + (if b then 1 else 0) := by
  induction M generalizing k with
  | nil => simp at h
  | cons c r ih =>
    cases k with
    | zero => simp at h; subst h; simp [cntT]
    | succ k => simp at h; have := ih k h; simp only [List.take_succ_cons, cntT, this]; omega

structure Lk (LU : List (Ky × Value)) (M : List Bool) : Prop where
  nod : NoD LU
  len : M.length = 12
  get : ∀ j b, M[j]? = some b → getM LU (keyOf j) = if b then some (.bool true) else none
  cnt : LU.length = cntT M
theorem Lk.put {LU : List (Ky × Value)} {M : List Bool} (h : Lk LU M) {j : Nat} (hj : M[j]? = some false) : Lk (putM LU (keyOf j) (.bool true)) (M.set j true) := by
  have hg := h.get j false hj
  refine ⟨h.nod.put _ _, by simp [h.len], fun i b hi => ?_, ?_⟩
  · rw [getM_put]
    rw [List.getElem?_set] at hi
    by_cases e : j = i
    · subst e
      rw [if_pos rfl] at hi
      rw [if_pos rfl]
      split at hi
      · cases hi; rfl
      · cases hi
    · rw [if_neg e] at hi
      rw [if_neg (fun x => e (keyOf_inj x))]
      exact h.get i b hi
  · rw [length_put, cntT_true M j hj, hg, h.cnt]; simp
theorem Lk.del {LU : List (Ky × Value)} {M : List Bool} (h : Lk LU M) {j : Nat} (hj : j < 12) : Lk (delM LU (keyOf j)) (M.set j false) := by
  obtain ⟨b, hb⟩ : ∃ b, M[j]? = some b := ⟨_, List.getElem?_eq_getElem (by rw [h.len]; exact hj)⟩
  have hg := h.get j b hb
  refine ⟨h.nod.del _, by simp [h.len], fun i c hi => ?_, ?_⟩
  · rw [getM_del h.nod]
    rw [List.getElem?_set] at hi
    by_cases e : j = i
    · subst e
      rw [if_pos rfl] at hi
      rw [if_pos rfl]
      split at hi
      · cases hi; rfl
      · cases hi
    · rw [if_neg e] at hi
      rw [if_neg (fun x => e (keyOf_inj x))]
      exact h.get i c hi
  · rw [length_del, hg, h.cnt]
    cases b with
    | false => rw [set_same M j false hb]; simp
    | true => have := cntT_false M j hb; simp; omega
theorem lk_nil : Lk [] (List.replicate 12 false) := by
  refine ⟨by simp [NoD], by simp, fun j b h => ?_, by decide⟩
  have : b = false := by
    rw [List.getElem?_replicate] at h
    split at h
    · cases h; rfl
    · cases h
  subst this; rfl
theorem Lk.nil_false {M : List Bool} (h : Lk [] M) {j : Nat} {b : Bool} (hj : M[j]? = some b) : b = false := by
  have := h.get j b hj
  cases b
  · rfl
  · simp [getM] at this

/-! ### pass, whatever the map -/
section
variable {w0 w w' : World} {sb b : Nat} {hv dv uv : Value} {LH : List (ByteArray × Value)} {LD LU X : List (Ky × Value)}
theorem Sv.passed (h : Sv w0 w sb (.int .i32 0) hv dv (.map (some b)) LH LD LU) (hp : Passed w w' sb b (.int .u32 0) hv dv X) :
    Sv w0 w' sb (.int .i32 0) hv dv (.map (some b)) LH LD X ∧ Kp w w' sb := by
  have ap := h.ap
  simp only [List.pairwise_cons, List.mem_cons, List.not_mem_nil, or_false, forall_eq_or_imp, forall_eq] at ap
  obtain ⟨⟨a1, a2⟩, b2, _⟩ := ap
  have hu : w0.heap.size ≤ b ∧ MapIs w b kv LU := by
    rcases h.mu with ⟨h1, _⟩ | ⟨b, h1, h2, h3⟩
    · cases h1
    · cases h1; exact ⟨h2, h3⟩
  have k : ∀ {κ : Type} {v : Value} {kv : κ → Value} {l : List (κ × Value)}, v ≠ .map (some b) → MapF w0.heap.size w v kv l → MapF w0.heap.size w' v kv l := fun hne hm =>
    hm.same fun c es cl hc hb => hp.other c (blk_lt hb) (fun e => by subst e; rw [h.blk] at hb; cases hb) (fun e => hne (by rw [hc, e]))
  refine ⟨⟨hp.blk, h.ge, k (fun e => a2 b e rfl) h.mh, k (fun e => b2 b e rfl) h.md, .inr ⟨b, rfl, hu.1, hp.map⟩, h.ap, h.ah, h.ad, h.bel.trans ⟨hp.os, hp.tape, hp.output, hp.size, fun c hc => ?_⟩⟩, fun c cs t fr hc hcc => ?_⟩
  · have := h.ge
    have := h.bel.size
    exact hp.other c (by omega) (by omega) (by omega)
  · refine (hp.other c (blk_lt hcc) hc (fun e => ?_)).trans hcc
    subst e; obtain ⟨es, cl, h1, _⟩ := hu.2; rw [hcc] at h1; cases h1
theorem Sv.passed_nil (h : Sv w0 w sb (.int .i32 0) hv dv (.map none) LH LD LU) (hb : w.heap.size ≤ b) (hp : Passed w w' sb b (.int .u32 0) hv dv X) :
    Sv w0 w' sb (.int .i32 0) hv dv (.map (some b)) LH LD X ∧ Kp w w' sb := by
  have ap := h.ap
  simp only [List.pairwise_cons, List.mem_cons, List.not_mem_nil, or_false, forall_eq_or_imp, forall_eq] at ap
  obtain ⟨⟨a1, a2⟩, b2, _⟩ := ap
  have hge := h.ge
  have hbz := h.bel.size
  have fresh : ∀ {κ : Type} {v : Value} {kv : κ → Value} {l : List (κ × Value)}, MapF w0.heap.size w v kv l → v ≠ .map (some b) := by
    intro κ v kv l hm e
    rcases hm with ⟨h1, _⟩ | ⟨b', h1, _, es, cl, h2, _⟩
    · rw [h1] at e; cases e
    · rw [h1] at e; cases e; have := blk_lt h2; omega
  have k : ∀ {κ : Type} {v : Value} {kv : κ → Value} {l : List (κ × Value)}, MapF w0.heap.size w v kv l → MapF w0.heap.size w' v kv l := fun hm =>
    hm.same fun c es cl hc hb' => hp.other c (blk_lt hb') (fun e => by subst e; rw [h.blk] at hb'; cases hb') (fun e => fresh hm (by rw [hc, e]))
  refine ⟨⟨hp.blk, h.ge, k h.mh, k h.md, .inr ⟨b, rfl, by omega, hp.map⟩, ?_, h.ah, h.ad, h.bel.trans ⟨hp.os, hp.tape, hp.output, hp.size, fun c hc => hp.other c (by omega) (by omega) (by omega)⟩⟩, fun c cs t fr hc hcc => (hp.other c (blk_lt hcc) hc (by have := blk_lt hcc; omega)).trans hcc⟩
  simp only [List.pairwise_cons, List.mem_cons, List.not_mem_nil, or_false, forall_eq_or_imp, forall_eq, List.Pairwise.nil, and_true]
  refine ⟨⟨a1, ?_⟩, ?_, by simp⟩
  · intro c hc e; cases e; exact fresh h.mh hc
  · intro c hc e; cases e; exact fresh h.md hc
end

theorem pass_any (w0 w : World) (sb : Nat) (hv dv uv : Value) (LH : List (ByteArray × Value)) (LD LU : List (Ky × Value)) (k1 k2 : Int) (k3 : ByteArray) (m : Bool)
    (hsv : Sv w0 w sb (.int .i32 0) hv dv uv LH LD LU) (hg : getM LU (k1, k2, k3) = if m then some (.bool true) else none) :
    Calls Ybaf.prog 5 #[.pointer (some ⟨sb, 0, none⟩), .agg #[.int .i64 k1, .int .i64 k2, .string k3]] w fun e w' => e = .returned (.bool (!m)) ∧
      (∃ uv', Sv w0 w' sb (.int .i32 0) hv dv uv' LH LD (if m then LU else putM LU (k1, k2, k3) (.bool true))) ∧ Kp w w' sb := by
  rcases hsv.mu with ⟨rfl, rfl⟩ | ⟨b, rfl, hb, hm⟩
  · cases m with
    | true => simp [getM] at hg
    | false =>
      refine (pass_nil sb (.int .u32 0) hv dv k1 k2 k3 w hsv.blk).mono ?_
      rintro e w' ⟨rfl, b, hb, hp⟩
      obtain ⟨h1, h2⟩ := hsv.passed_nil hb hp
      exact ⟨rfl, ⟨_, h1⟩, h2⟩
  · cases m with
    | true =>
      refine (pass_true sb b (.int .u32 0) hv dv k1 k2 k3 LU w hsv.blk hm hg).mono ?_
      rintro e w' ⟨rfl, hp⟩
      obtain ⟨h1, h2⟩ := hsv.passed hp
      exact ⟨rfl, ⟨_, h1⟩, h2⟩
    | false =>
      refine (pass_false sb b (.int .u32 0) hv dv k1 k2 k3 LU w hsv.blk hm (by rw [hg]; rfl)).mono ?_
      rintro e w' ⟨rfl, hp⟩
      obtain ⟨h1, h2⟩ := hsv.passed hp
      exact ⟨rfl, ⟨_, h1⟩, h2⟩

/-! ### The law's state -/
structure Ls (w0 w : World) (sb mb : Nat) (M : List Bool) : Prop where
  sv : ∃ (rh rd : Option Nat) (uv : Value) (LH : List (ByteArray × Value)) (LD LU : List (Ky × Value)), Sv w0 w sb (.int .i32 0) (.map rh) (.map rd) uv LH LD LU ∧ (rh = none ↔ rd = none) ∧ Lk LU M
  mrk : w.heap[mb]? = some (.cells (M.map Value.bool).toArray 36 (0, 0))
  ne : mb ≠ sb
  ge : w0.heap.size ≤ mb
theorem Ls.alloc {w0 w : World} {sb mb : Nat} {M : List Bool} (h : Ls w0 w sb mb M) (o : Obj) : Ls w0 (w.alloc o) sb mb M := by
  obtain ⟨rh, rd, uv, LH, LD, LU, h1, h2, h3⟩ := h.sv
  exact ⟨⟨rh, rd, uv, LH, LD, LU, h1.alloc o, h2, h3⟩, (blk_alloc (blk_lt h.mrk) o).trans h.mrk, h.ne, h.ge⟩
theorem Ls.drewN {w0 w : World} {sb mb : Nat} {M : List Bool} (h : Ls w0 w sb mb M) (n : Nat) : Ls w0 (w.drewN n) sb mb M := by
  obtain ⟨rh, rd, uv, LH, LD, LU, h1, h2, h3⟩ := h.sv
  exact ⟨⟨rh, rd, uv, LH, LD, LU, h1.drewN n, h2, h3⟩, h.mrk, h.ne, h.ge⟩
theorem Ls.drew {w0 w : World} {sb mb : Nat} {M : List Bool} (h : Ls w0 w sb mb M) : Ls w0 w.drew sb mb M := by
  obtain ⟨rh, rd, uv, LH, LD, LU, h1, h2, h3⟩ := h.sv
  exact ⟨⟨rh, rd, uv, LH, LD, LU, h1.drew, h2, h3⟩, h.mrk, h.ne, h.ge⟩
theorem Sv.setCell {w0 w : World} {sb mb : Nat} {q0 hv dv uv : Value} {LH : List (ByteArray × Value)} {LD LU : List (Ky × Value)} (h : Sv w0 w sb q0 hv dv uv LH LD LU) {cs : Array Value} {t : TypeId} {fr : Nat × Nat} (hb : w.heap[mb]? = some (.cells cs t fr)) (hne : mb ≠ sb) (hge : w0.heap.size ≤ mb) (o : Nat) (v : Value) :
    Sv w0 (w.setCell ⟨mb, o, none⟩ v) sb q0 hv dv uv LH LD LU := by
  have k : ∀ {κ : Type} {x : Value} {kv : κ → Value} {l : List (κ × Value)}, MapF w0.heap.size w x kv l → MapF w0.heap.size (w.setCell ⟨mb, o, none⟩ v) x kv l := fun hm =>
    hm.same fun b es c _ hbb => blk_set_other (fun e => by subst e; rw [hb] at hbb; cases hbb) _ _
  exact ⟨(blk_set_other (Ne.symm hne) _ _).trans h.blk, h.ge, k h.mh, k h.md, k h.mu, h.ap, h.ah, h.ad, h.bel.setCell hge _⟩
theorem set_map (M : List Bool) (j : Nat) (b : Bool) : ((M.map Value.bool).toArray.setIfInBounds j (.bool b)) = ((M.set j b).map Value.bool).toArray := by
  simp [List.map_set]
/-- 'pass' and the mark -/
theorem ls_pass {w0 w : World} {sb mb : Nat} {M : List Bool} (h : Ls w0 w sb mb M) {j : Nat} {m : Bool} (hj : M[j]? = some m) :
    Calls Ybaf.prog 5 #[.pointer (some ⟨sb, 0, none⟩), .agg #[.int .i64 (keyOf j).1, .int .i64 (keyOf j).2.1, .string (keyOf j).2.2]] w fun e w' => e = .returned (.bool (!m)) ∧
      w'.heap[mb]? = some (.cells (M.map Value.bool).toArray 36 (0, 0)) ∧ Ls w0 (w'.setCell ⟨mb, j, none⟩ (.bool true)) sb mb (M.set j true) ∧ Kp w w' sb := by
  obtain ⟨rh, rd, uv, LH, LD, LU, h1, h2, h3⟩ := h.sv
  refine (pass_any w0 w sb _ _ _ _ _ _ _ _ _ m h1 (h3.get j m hj)).mono ?_
  rintro e w' ⟨rfl, ⟨uv', hs⟩, hk⟩
  have hm := hk _ _ _ _ h.ne h.mrk
  refine ⟨rfl, hm, ⟨⟨_, _, _, _, _, _, hs.setCell hm h.ne h.ge _ _, h2, ?_⟩, ?_, h.ne, h.ge⟩, hk⟩
  · cases m with
    | true => rw [set_same M j true hj]; exact h3
    | false => exact h3.put hj
  · rw [blk_set hm, set_map]
theorem ls_claim {w0 w : World} {sb mb : Nat} {M : List Bool} (h : Ls w0 w sb mb M) {j : Nat} (hj : j < 12) (id : ByteArray) :
    Calls Ybaf.prog 6 #[.pointer (some ⟨sb, 0, none⟩), .agg #[.int .i64 (keyOf j).1, .int .i64 (keyOf j).2.1, .string (keyOf j).2.2], .string id] w fun e w' => (∃ v, e = .returned v) ∧
      w'.heap[mb]? = some (.cells (M.map Value.bool).toArray 36 (0, 0)) ∧ Ls w0 (w'.setCell ⟨mb, j, none⟩ (.bool false)) sb mb (M.set j false) ∧ Kp w w' sb := by
  obtain ⟨rh, rd, uv, LH, LD, LU, h1, h2, h3⟩ := h.sv
  refine (claim_any w0 w sb rh rd uv LH LD LU _ _ _ id h1 h2).mono ?_
  rintro e w' ⟨hv, ⟨rh', rd', LH', LD', hs, h2'⟩, hk⟩
  have hm := hk _ _ _ _ h.ne h.mrk
  refine ⟨hv, hm, ⟨⟨_, _, _, _, _, _, hs.setCell hm h.ne h.ge _ _, h2', h3.del hj⟩, ?_, h.ne, h.ge⟩, hk⟩
  rw [blk_set hm, set_map]
end Go.Proofs.YbulkdxfsFmt
