import Derived.Test.YbulkdxfsFmtPass
namespace Go.Proofs.YbulkdxfsFmt
open Go.RowKit Go.MuLone
set_option linter.unusedVariables false
set_option linter.unusedSectionVars false

theorem heap_new_at {w : World} {c : Nat} (h : c = w.heap.size) (o : Obj) : (w.alloc o).heap[c]? = some o := by subst h; exact heap_alloc_new w o
def MapF {κ : Type} (B : Nat) (w : World) (v : Value) (kv : κ → Value) (l : List (κ × Value)) : Prop :=
  (v = .map none ∧ l = []) ∨ ∃ b, v = .map (some b) ∧ B ≤ b ∧ MapIs w b kv l
def apart (v v' : Value) : Prop := ∀ b, v = .map (some b) → v' ≠ .map (some b)
theorem MapF.same {κ : Type} {B : Nat} {w w' : World} {v : Value} {kv : κ → Value} {l : List (κ × Value)} (h : MapF B w v kv l) (hk : ∀ b es c, v = .map (some b) → w.heap[b]? = some (.map es c) → w'.heap[b]? = w.heap[b]?) : MapF B w' v kv l := by
  rcases h with h | ⟨b, rfl, hb, hm⟩
  · exact .inl h
  · exact .inr ⟨b, rfl, hb, by
      obtain ⟨es, c, h1, h2⟩ := hm
      exact ⟨es, c, (hk b es c rfl h1).trans h1, h2⟩⟩
theorem MapF.put_other {κ κ' : Type} {B : Nat} {wc w' : World} {v : Value} {kv : κ → Value} {l : List (κ × Value)} {b : Nat} {kv' : κ' → Value} {l' : List (κ' × Value)} (h : MapF B wc v kv l) (hp : MapPut wc w' b kv' l') (ha : v ≠ .map (some b)) : MapF B w' v kv l :=
  h.same fun c _ _ hc _ => hp.other c (fun e => ha (by rw [hc, e]))

/-- The servers' state in memory: block sb whole, its three maps, all of them from block B on; old memory as it was. -/
structure Sv (w0 w : World) (sb : Nat) (q0 hv dv uv : Value) (LH : List (ByteArray × Value)) (LD LU : List (Ky × Value)) : Prop where
  blk : w.heap[sb]? = some (.cells #[q0, .int .u32 0, hv, dv, uv] 35 (0, 0))
  ge : w0.heap.size ≤ sb
  mh : MapF w0.heap.size w hv Value.string LH
  md : MapF w0.heap.size w dv kv LD
  mu : MapF w0.heap.size w uv kv LU
  ap : [hv, dv, uv].Pairwise apart
  ah : ∀ p ∈ LH, ∃ x, p.2 = kv x
  ad : ∀ p ∈ LD, ∃ s, p.2 = .string s
  bel : Below w0.heap.size w0 w

section
variable {w0 w w' : World} {sb : Nat} {q0 hv dv uv : Value} {LH : List (ByteArray × Value)} {LD LU : List (Ky × Value)}
theorem Sv.keep (h : Sv w0 w sb q0 hv dv uv LH LD LU) (hk : ∀ c, c < w.heap.size → w'.heap[c]? = w.heap[c]?) (hz : w.heap.size ≤ w'.heap.size) (ho : w'.os = w.os) (ht : w'.tape = w.tape) (hu : w'.output = w.output) : Sv w0 w' sb q0 hv dv uv LH LD LU :=
  ⟨(hk _ (blk_lt h.blk)).trans h.blk, h.ge, h.mh.same fun b _ _ _ hb => hk b (blk_lt hb), h.md.same fun b _ _ _ hb => hk b (blk_lt hb), h.mu.same fun b _ _ _ hb => hk b (blk_lt hb), h.ap, h.ah, h.ad,
   h.bel.trans ⟨ho, ht, hu, hz, fun c hc => hk c (Nat.lt_of_lt_of_le hc h.bel.size)⟩⟩
theorem Sv.alloc (h : Sv w0 w sb q0 hv dv uv LH LD LU) (o : Obj) : Sv w0 (w.alloc o) sb q0 hv dv uv LH LD LU := h.keep (fun _ hc => blk_alloc hc o) (by simp) rfl rfl rfl
theorem Sv.drewN (h : Sv w0 w sb q0 hv dv uv LH LD LU) (n : Nat) : Sv w0 (w.drewN n) sb q0 hv dv uv LH LD LU := h.keep (fun _ _ => rfl) (Nat.le_refl _) rfl rfl rfl
theorem Sv.drew (h : Sv w0 w sb q0 hv dv uv LH LD LU) : Sv w0 w.drew sb q0 hv dv uv LH LD LU := h.keep (fun _ _ => rfl) (Nat.le_refl _) rfl rfl rfl
/-- the lock's cell turned -/
theorem Sv.lock {q1 : Value} (h : Sv w0 w sb q0 hv dv uv LH LD LU) (hs : SetB w w' sb #[q1, .int .u32 0, hv, dv, uv] 35) : Sv w0 w' sb q1 hv dv uv LH LD LU := by
  have k : ∀ {κ : Type} {v : Value} {kv : κ → Value} {l : List (κ × Value)}, MapF w0.heap.size w v kv l → MapF w0.heap.size w' v kv l := fun hm =>
    hm.same fun b es c _ hb => hs.other b (fun e => by subst e; rw [h.blk] at hb; cases hb)
  exact ⟨hs.blk, h.ge, k h.mh, k h.md, k h.mu, h.ap, h.ah, h.ad, h.bel.trans ⟨hs.os, hs.tape, hs.output, Nat.le_of_eq hs.size.symm, fun c hc => hs.other c (by have := h.ge; omega)⟩⟩
theorem Sv.map_ne {κ : Type} {kv : κ → Value} {l : List (κ × Value)} {b : Nat} (h : Sv w0 w sb q0 hv dv uv LH LD LU) (hm : MapIs w b kv l) : sb ≠ b := by
  intro e; obtain ⟨es, c, h1, _⟩ := hm; rw [← e, h.blk] at h1; cases h1
theorem Sv.put_h {b : Nat} {X : List (ByteArray × Value)} (h : Sv w0 w sb q0 (.map (some b)) dv uv LH LD LU) (hp : MapPut w w' b Value.string X) (hx : ∀ p ∈ X, ∃ x, p.2 = kv x) : Sv w0 w' sb q0 (.map (some b)) dv uv X LD LU := by
  have ap := h.ap
  simp only [List.pairwise_cons, List.mem_cons, List.not_mem_nil, or_false, forall_eq_or_imp, forall_eq] at ap
  obtain ⟨⟨a1, a2⟩, b2, _⟩ := ap
  have hu : w0.heap.size ≤ b ∧ MapIs w b Value.string LH := by
    rcases h.mh with ⟨h1, _⟩ | ⟨b, h1, h2, h3⟩
    · cases h1
    · cases h1; exact ⟨h2, h3⟩
  exact ⟨(hp.other _ (h.map_ne hu.2)).trans h.blk, h.ge, .inr ⟨b, rfl, hu.1, hp.is⟩, h.md.put_other hp (a1 b rfl), h.mu.put_other hp (a2 b rfl), h.ap, hx, h.ad, h.bel.trans ⟨hp.os, hp.tape, hp.output, Nat.le_of_eq hp.size.symm, fun c hc => hp.other c (by have := hu.1; omega)⟩⟩
theorem Sv.put_d {b : Nat} {X : List (Ky × Value)} (h : Sv w0 w sb q0 hv (.map (some b)) uv LH LD LU) (hp : MapPut w w' b kv X) (hx : ∀ p ∈ X, ∃ x, p.2 = .string x) : Sv w0 w' sb q0 hv (.map (some b)) uv LH X LU := by
  have ap := h.ap
  simp only [List.pairwise_cons, List.mem_cons, List.not_mem_nil, or_false, forall_eq_or_imp, forall_eq] at ap
  obtain ⟨⟨a1, a2⟩, b2, _⟩ := ap
  have hu : w0.heap.size ≤ b ∧ MapIs w b kv LD := by
    rcases h.md with ⟨h1, _⟩ | ⟨b, h1, h2, h3⟩
    · cases h1
    · cases h1; exact ⟨h2, h3⟩
  exact ⟨(hp.other _ (h.map_ne hu.2)).trans h.blk, h.ge, h.mh.put_other hp (fun e => a1 b e rfl), .inr ⟨b, rfl, hu.1, hp.is⟩, h.mu.put_other hp (b2 b rfl), h.ap, h.ah, hx, h.bel.trans ⟨hp.os, hp.tape, hp.output, Nat.le_of_eq hp.size.symm, fun c hc => hp.other c (by have := hu.1; omega)⟩⟩
theorem Sv.put_u {b : Nat} {X : List (Ky × Value)} (h : Sv w0 w sb q0 hv dv (.map (some b)) LH LD LU) (hp : MapPut w w' b kv X) : Sv w0 w' sb q0 hv dv (.map (some b)) LH LD X := by
  have ap := h.ap
  simp only [List.pairwise_cons, List.mem_cons, List.not_mem_nil, or_false, forall_eq_or_imp, forall_eq] at ap
  obtain ⟨⟨a1, a2⟩, b2, _⟩ := ap
  have hu : w0.heap.size ≤ b ∧ MapIs w b kv LU := by
    rcases h.mu with ⟨h1, _⟩ | ⟨b, h1, h2, h3⟩
    · cases h1
    · cases h1; exact ⟨h2, h3⟩
  exact ⟨(hp.other _ (h.map_ne hu.2)).trans h.blk, h.ge, h.mh.put_other hp (fun e => a2 b e rfl), h.md.put_other hp (fun e => b2 b e rfl), .inr ⟨b, rfl, hu.1, hp.is⟩, h.ap, h.ah, h.ad, h.bel.trans ⟨hp.os, hp.tape, hp.output, Nat.le_of_eq hp.size.symm, fun c hc => hp.other c (by have := hu.1; omega)⟩⟩
theorem Sv.is_h {b : Nat} (h : Sv w0 w sb q0 (.map (some b)) dv uv LH LD LU) : MapIs w b Value.string LH := by
  rcases h.mh with ⟨h1, _⟩ | ⟨b, h1, h2, h3⟩
  · cases h1
  · cases h1; exact h3
theorem Sv.is_d {b : Nat} (h : Sv w0 w sb q0 hv (.map (some b)) uv LH LD LU) : MapIs w b kv LD := by
  rcases h.md with ⟨h1, _⟩ | ⟨b, h1, h2, h3⟩
  · cases h1
  · cases h1; exact h3
/-- 'delete(s.unchecked, here)', nil or not -/
theorem Sv.del_u (h : Sv w0 w sb q0 hv dv uv LH LD LU) (k : Ky) (ty : TypeId) : ∃ w', (Builtin.delete_ #[33, 41] ty #[uv, kv k]).run Ybaf.prog w = .ok (.tuple #[]) w' ∧ Sv w0 w' sb q0 hv dv uv LH LD (delM LU k) ∧
    ∀ (c : Nat) (cs : Array Value) (t : TypeId) (fr : Nat × Nat), w.heap[c]? = some (Obj.cells cs t fr) → w'.heap[c]? = some (Obj.cells cs t fr) := by
  rcases h.mu with ⟨rfl, rfl⟩ | ⟨b, rfl, hb, hm⟩
  · exact ⟨w, del_nilmap key41 Ybaf.underlying33 k w, h, fun _ _ _ _ hc => hc⟩
  · obtain ⟨w', h1, hp⟩ := run_del (ty := ty) (kT := 41) key41 Ybaf.underlying33 hm k
    exact ⟨w', h1, h.put_u hp, fun c cs t fr hc => (hp.other c (fun e => by subst e; obtain ⟨es, cl, h2, _⟩ := hm; rw [hc] at h2; cases h2)).trans hc⟩
/-- a block of cells is untouched by a store into a map -/
theorem MapPut.cells {κ : Type} {kv : κ → Value} {l l' : List (κ × Value)} {b c : Nat} {cs : Array Value} {t : TypeId} {fr : Nat × Nat} (hp : MapPut w w' b kv l') (hm : MapIs w b kv l) (hc : w.heap[c]? = some (.cells cs t fr)) : w'.heap[c]? = some (.cells cs t fr) :=
  (hp.other c (fun e => by subst e; obtain ⟨es, cl, h2, _⟩ := hm; rw [hc] at h2; cases h2)).trans hc
end
theorem look_any {κ : Type} [DecidableEq κ] {kv : κ → Value} {v : Value} {l : List (κ × Value)} {wc : World} {B T kt et : TypeId} (hk : KeyOk Ybaf.prog kt kv) (hT : Ybaf.prog.underlying T = some (.map kt et)) {z : Value} (hz : ∀ w, (zeroValue et).run Ybaf.prog w = .ok z w)
    (h : MapF B wc v kv l) (k : κ) (ok : Bool) : (Instr.lookup T v (kv k) ok).run Ybaf.prog wc = .ok (if ok then .tuple #[(getM l k).getD z, .bool (getM l k).isSome] else (getM l k).getD z) wc := by
  rcases h with ⟨rfl, rfl⟩ | ⟨b, rfl, _, hm⟩
  · exact run_lookup_nil hk hT (hz _) k ok
  · exact run_lookup hk hT (hz _) hm k ok
theorem zero9 (w : World) : (zeroValue 9).run Ybaf.prog w = .ok (.string ⟨#[]⟩) w := by kernel_rfl
theorem zero41 (w : World) : (zeroValue 41).run Ybaf.prog w = .ok (kv (0, 0, ⟨#[]⟩)) w := by kernel_rfl
theorem eq41b (a b : Ky) (w : World) : (binOp .eql 41 (kv a) (kv b)).run Ybaf.prog w = .ok (.bool (decide (a = b))) w := by
  have := eq41 a b w
  unfold kv at *
  rw [run_eql_struct]
  have e : (Op.equalIn 10000 41 (.agg #[.int .i64 a.1, .int .i64 a.2.1, .string a.2.2]) (.agg #[.int .i64 b.1, .int .i64 b.2.1, .string b.2.2])).run Ybaf.prog w = .ok (decide (a = b)) w := this
  rw [e]; rfl
theorem neq41b (a b : Ky) (w : World) : (binOp .neq 41 (kv a) (kv b)).run Ybaf.prog w = .ok (.bool (!decide (a = b))) w := by
  have := eq41 a b w
  unfold kv at *
  rw [run_neq_struct]
  have e : (Op.equalIn 10000 41 (.agg #[.int .i64 a.1, .int .i64 a.2.1, .string a.2.2]) (.agg #[.int .i64 b.1, .int .i64 b.2.1, .string b.2.2])).run Ybaf.prog w = .ok (decide (a = b)) w := this
  rw [e]; rfl
theorem all_put {κ : Type} [DecidableEq κ] {C : Value → Prop} {l : List (κ × Value)} (h : ∀ p ∈ l, C p.2) (k : κ) {v : Value} (hv : C v) : ∀ p ∈ putM l k v, C p.2 := by
  induction l with
  | nil => intro p hp; simp only [putM, List.mem_singleton] at hp; rw [hp]; exact hv
  | cons q r ih =>
    intro p hp
    simp only [putM] at hp
    split at hp
    · cases hp with
      | head => exact hv
      | tail _ hp => exact h p (.tail _ hp)
    · cases hp with
      | head => exact h _ (.head _)
      | tail _ hp => exact ih (fun p hp => h p (.tail _ hp)) p hp
theorem all_get {κ : Type} [DecidableEq κ] {C : Value → Prop} {l : List (κ × Value)} (h : ∀ p ∈ l, C p.2) {k : κ} {v : Value} (hg : getM l k = some v) : C v := by
  induction l with
  | nil => simp [getM] at hg
  | cons q r ih =>
    rw [getM_cons] at hg
    split at hg
    · injection hg with hg; rw [← hg]; exact h q (.head _)
    · exact ih (fun p hp => h p (.tail _ hp)) hg
theorem all_del {κ : Type} [DecidableEq κ] {C : Value → Prop} {l : List (κ × Value)} (h : ∀ p ∈ l, C p.2) (k : κ) : ∀ p ∈ delM l k, C p.2 := by
  induction l with
  | nil => intro p hp; cases hp
  | cons q r ih =>
    intro p hp
    simp only [delM] at hp
    split at hp
    · exact h p (.tail _ hp)
    · cases hp with
      | head => exact h _ (.head _)
      | tail _ hp => exact ih (fun p hp => h p (.tail _ hp)) p hp
end Go.Proofs.YbulkdxfsFmt
