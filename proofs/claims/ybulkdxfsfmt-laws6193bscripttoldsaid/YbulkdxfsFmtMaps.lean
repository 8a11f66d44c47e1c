import Derived.Test.YbulkdxfsFmtRows
import Derived.WalkKit
import Derived.WalkSpells
import Derived.MapKept
namespace Go.Proofs.YbulkdxfsFmt
open Go.RowKit Go.MapKept
set_option linter.unusedSectionVars false

/-! ### Maps as association lists: plain part -/
section Plain
variable {κ : Type} [DecidableEq κ]
def getM (l : List (κ × Value)) (k : κ) : Option Value := (l.find? (fun p => decide (p.1 = k))).map (·.2)
def putM : List (κ × Value) → κ → Value → List (κ × Value)
  | [], k, v => [(k, v)]
  | p :: r, k, v => if p.1 = k then (k, v) :: r else p :: putM r k v
def delM : List (κ × Value) → κ → List (κ × Value)
  | [], _ => []
  | p :: r, k => if p.1 = k then r else p :: delM r k
def findM : List (κ × Value) → κ → Nat → Option (Nat × Value)
  | [], _, _ => none
  | p :: r, k, i => if k = p.1 then some (i, p.2) else findM r k (i + 1)

theorem getM_nil (k : κ) : getM ([] : List (κ × Value)) k = none := rfl
theorem getM_cons (p : κ × Value) (r : List (κ × Value)) (k : κ) : getM (p :: r) k = if p.1 = k then some p.2 else getM r k := by
  by_cases h : p.1 = k <;> simp [getM, h]
theorem getM_put (l : List (κ × Value)) (k k' : κ) (v : Value) : getM (putM l k v) k' = if k = k' then some v else getM l k' := by
  induction l with
  | nil => by_cases h : k = k' <;> simp [putM, getM, h]
  | cons p r ih =>
    simp only [putM]
    by_cases hp : p.1 = k
    · rw [if_pos hp]
      simp only [getM_cons]
      by_cases h : k = k'
      · simp [h]
      · simp [h, hp]
    · rw [if_neg hp]
      simp only [getM_cons, ih]
      by_cases h : p.1 = k'
      · have : k ≠ k' := fun e => hp (h.trans e.symm)
        simp [h, this]
      · simp [h]
theorem getM_put_same (l : List (κ × Value)) (k : κ) (v : Value) : getM (putM l k v) k = some v := by simp [getM_put]
theorem length_put (l : List (κ × Value)) (k : κ) (v : Value) : (putM l k v).length = if (getM l k).isSome then l.length else l.length + 1 := by
  induction l with
  | nil => simp [putM, getM]
  | cons p r ih =>
    simp only [putM, getM_cons]
    by_cases hp : p.1 = k
    · simp [hp]
    · simp only [hp, if_false]
      simp only [List.length_cons, ih]
      by_cases hq : (getM r k).isSome <;> simp [hq]
theorem findM_none {l : List (κ × Value)} {k : κ} (h : getM l k = none) (i : Nat) : findM l k i = none := by
  induction l generalizing i with
  | nil => rfl
  | cons p r ih =>
    rw [getM_cons] at h
    by_cases hp : p.1 = k
    · simp [hp] at h
    · rw [if_neg hp] at h
      rw [findM, if_neg (fun e => hp e.symm), ih h]
theorem findM_some {l : List (κ × Value)} {k : κ} {v : Value} (h : getM l k = some v) (i : Nat) : ∃ j, findM l k i = some (i + j, v) ∧ j < l.length ∧ (l.getD j (k, v)).1 = k := by
  induction l generalizing i with
  | nil => simp [getM] at h
  | cons p r ih =>
    rw [getM_cons] at h
    by_cases hp : p.1 = k
    · rw [if_pos hp] at h
      injection h with h
      exact ⟨0, by rw [findM, if_pos hp.symm, h]; rfl, by simp, by simpa using hp⟩
    · rw [if_neg hp] at h
      obtain ⟨j, h1, h2, h3⟩ := ih h (i + 1)
      refine ⟨j + 1, ?_, by simpa using h2, by simpa using h3⟩
      rw [findM, if_neg (fun e => hp e.symm), h1]
      congr 2; omega
end Plain

/-! ### A map in memory -/
section Mem
variable {P : Program} {κ : Type} [DecidableEq κ] {kv : κ → Value}

structure KeyOk (P : Program) (t : TypeId) (kv : κ → Value) : Prop where
  check : ∀ (em : Bool) (k : κ) (w : World), (Instr.checkKey em 10000 t (kv k)).run P w = .ok () w
  find : ∀ (k : κ) (l : List (κ × Value)) (es : List MapEntry) (w : World), es.map (fun e => (e.key, e.val)) = l.map (fun p => (kv p.1, p.2)) → (Instr.findKey t (kv k) es).run P w = .ok (findM l k 0) w
  bits : ∀ k : κ, Instr.sameBits 10000 (kv k) (kv k) = true

def MapIs (w : World) (b : Nat) (kv : κ → Value) (l : List (κ × Value)) : Prop :=
  ∃ es clock, w.heap[b]? = some (.map es clock) ∧ es.toList.map (fun e => (e.key, e.val)) = l.map (fun p => (kv p.1, p.2))

/-- a map value: nil, or a block -/
def MapV (w : World) (v : Value) (kv : κ → Value) (l : List (κ × Value)) : Prop :=
  (v = .map none ∧ l = []) ∨ ∃ b, v = .map (some b) ∧ MapIs w b kv l

theorem MapIs.size {w : World} {b : Nat} {l : List (κ × Value)} (h : MapIs w b kv l) : b < w.heap.size := by
  obtain ⟨es, c, h, _⟩ := h
  exact (Array.getElem?_eq_some_iff.1 h).1
theorem MapIs.same {w w' : World} {b : Nat} {l : List (κ × Value)} (h : MapIs w b kv l) (e : w'.heap[b]? = w.heap[b]?) : MapIs w' b kv l := by
  obtain ⟨es, c, h, h2⟩ := h
  exact ⟨es, c, e.trans h, h2⟩

theorem run_lookup {w : World} {b : Nat} {l : List (κ × Value)} {T kt et : TypeId} (hk : KeyOk P kt kv) (hT : P.underlying T = some (.map kt et)) {z : Value} (hz : (zeroValue et).run P w = .ok z w)
    (h : MapIs w b kv l) (k : κ) (ok : Bool) :
    (Instr.lookup T (.map (some b)) (kv k) ok).run P w = .ok (if ok then .tuple #[(getM l k).getD z, .bool (getM l k).isSome] else (getM l k).getD z) w := by
  obtain ⟨es, clock, h1, h2⟩ := h
  have hf := hk.find k l es.toList w h2
  simp only [Instr.lookup, Sem.run_bind, run_underlying hT, Result.andThen_ok]
  have hg : (getObj b).run P w = .ok (.map es clock) w := by simp [getObj, Sem.run, h1]
  simp only [hg, Result.andThen_ok, Sem.run_pure, hk.check, Sem.run_bind, hf]
  cases hq : getM l k with
  | none => rw [findM_none hq]; cases ok <;> simp [hz]
  | some v =>
    obtain ⟨j, hj, _, _⟩ := findM_some hq 0
    rw [hj]; cases ok <;> simp

theorem run_lookup_nil {w : World} {T kt et : TypeId} (hk : KeyOk P kt kv) (hT : P.underlying T = some (.map kt et)) {z : Value} (hz : (zeroValue et).run P w = .ok z w) (k : κ) (ok : Bool) :
    (Instr.lookup T (.map none) (kv k) ok).run P w = .ok (if ok then .tuple #[z, .bool false] else z) w := by
  have hf := hk.find k [] [] w rfl
  simp only [Instr.lookup, Sem.run_bind, run_underlying hT, Result.andThen_ok, Sem.run_pure, hk.check]
  simp only [hf, findM, Result.andThen_ok]
  cases ok <;> simp [hz]

theorem modify_keys (es : List MapEntry) (l : List (κ × Value)) (h : es.map (fun e => (e.key, e.val)) = l.map (fun p => (kv p.1, p.2))) (k : κ) (v : Value) (i j : Nat) (u : Value)
    (hf : findM l k i = some (i + j, u)) : (es.modify j fun e => { e with key := kv k, val := v }).map (fun e => (e.key, e.val)) = (putM l k v).map (fun p => (kv p.1, p.2)) := by
  induction l generalizing es i j with
  | nil => simp [findM] at hf
  | cons p r ih =>
    match es, h with
    | e :: es', h =>
    simp only [List.map_cons, List.cons.injEq] at h
    rw [findM] at hf
    by_cases hp : k = p.1
    · rw [if_pos hp] at hf
      simp only [Option.some.injEq, Prod.mk.injEq] at hf
      have : j = 0 := by omega
      subst this
      simp only [putM, if_pos hp.symm, List.modify_zero_cons, List.map_cons, h.2]
    · rw [if_neg hp] at hf
      match j, hf with
      | 0, hf =>
        exfalso
        have : ∀ (r : List (κ × Value)) (m : Nat) (x : Nat × Value), findM r k m = some x → m ≤ x.1 := by
          intro r
          induction r with
          | nil => intro m x h; simp [findM] at h
          | cons q s ihs =>
            intro m x h
            rw [findM] at h
            split at h
            · injection h with h; subst h; exact Nat.le_refl _
            · have := ihs (m + 1) x h; omega
        have := this r (i + 1) _ hf
        simp at this
        omega
      | j + 1, hf =>
        have hf' : findM r k (i + 1) = some (i + 1 + j, u) := by rw [hf]; congr 2; omega
        simp only [putM, if_neg (fun e => hp e.symm : ¬ p.1 = k), List.modify_succ_cons, List.map_cons, h.1, ih es' h.2 (i + 1) j hf']
theorem push_keys (es : List MapEntry) (l : List (κ × Value)) (h : es.map (fun e => (e.key, e.val)) = l.map (fun p => (kv p.1, p.2))) (k : κ) (v : Value) (c : Nat)
    (hf : getM l k = none) : (es ++ [({ key := kv k, val := v, born := c } : MapEntry)]).map (fun e => (e.key, e.val)) = (putM l k v).map (fun p => (kv p.1, p.2)) := by
  have : putM l k v = l ++ [(k, v)] := by
    clear h
    induction l with
    | nil => rfl
    | cons p r ih =>
      rw [getM_cons] at hf
      by_cases hp : p.1 = k
      · simp [hp] at hf
      · rw [if_neg hp] at hf
        simp [putM, hp, ih hf]
  rw [this]
  simp [h]

/-- what a store leaves: that block a map that reads so; every other block as it was. -/
structure MapPut (w w' : World) (b : Nat) (kv : κ → Value) (l' : List (κ × Value)) : Prop where
  is : MapIs w' b kv l'
  other : ∀ c, c ≠ b → w'.heap[c]? = w.heap[c]?
  size : w'.heap.size = w.heap.size
  os : w'.os = w.os
  tape : w'.tape = w.tape
  output : w'.output = w.output

theorem run_put {w : World} {b : Nat} {l : List (κ × Value)} {T kt et : TypeId} (hk : KeyOk P kt kv) (hT : P.underlying T = some (.map kt et))
    (h : MapIs w b kv l) (k : κ) (v : Value) :
    ∃ w', (Instr.mapUpdate T (.map (some b)) (kv k) v).run P w = .ok () w' ∧ MapPut w w' b kv (putM l k v) := by
  obtain ⟨es, clock, h1, h2⟩ := h
  have hb : b < w.heap.size := (Array.getElem?_eq_some_iff.1 h1).1
  have hf := hk.find k l es.toList w h2
  have hg : (getObj b).run P w = .ok (.map es clock) w := by simp [getObj, Sem.run, h1]
  have hset : ∀ o, (setObj b o).run P w = .ok () { w with heap := w.heap.setIfInBounds b o } := by
    intro o; simp [setObj, Sem.run, h1]
  cases hq : getM l k with
  | none =>
    rw [findM_none hq] at hf
    refine ⟨{ w with heap := w.heap.setIfInBounds b (.map (es.push { key := kv k, val := v, born := clock }) (clock + 1)) }, ?_, ⟨⟨es.push { key := kv k, val := v, born := clock }, clock + 1, ?_, ?_⟩, ?_, ?_, rfl, rfl, rfl⟩⟩
    · simp only [Instr.mapUpdate, Sem.run_bind, run_underlying hT, Result.andThen_ok, hg, hk.check, hf, hset]
    · show (w.heap.setIfInBounds b _)[b]? = _
      simp [hb]
    · rw [Array.toList_push]; exact push_keys _ _ h2 k v clock hq
    · intro c hc; show (w.heap.setIfInBounds b _)[c]? = _; simp [Ne.symm hc]
    · show (w.heap.setIfInBounds b _).size = _; simp
  | some u =>
    obtain ⟨j, hj, hjl, hjk⟩ := findM_some hq 0
    rw [hj] at hf
    have hlen : es.toList.length = l.length := by have := congrArg List.length h2; simpa using this
    have hjs : j < es.size := by rw [← Array.length_toList, hlen]; exact hjl
    have hkey : ((es[0 + j]?).map (·.key)).getD (kv k) = kv k := by
      have := congrArg (fun x => x[j]?) h2
      simp only [List.getElem?_map, Array.getElem?_toList] at this
      rw [Nat.zero_add]
      cases he : es[j]? with
      | none => rfl
      | some e =>
        rw [he, List.getElem?_eq_getElem hjl] at this
        simp only [Option.map_some, Option.some.injEq, Prod.mk.injEq] at this
        rw [List.getD_eq_getElem?_getD, List.getElem?_eq_getElem hjl] at hjk
        simp only [Option.getD_some] at hjk
        simp only [Option.map_some, Option.getD_some, this.1, hjk]
    rw [Nat.zero_add] at hkey hf
    refine ⟨{ w with heap := w.heap.setIfInBounds b (.map (es.modify j fun e => { e with key := kv k, val := v }) clock) }, ?_, ⟨⟨es.modify j fun e => { e with key := kv k, val := v }, clock, ?_, ?_⟩, ?_, ?_, rfl, rfl, rfl⟩⟩
    · simp only [Instr.mapUpdate, Sem.run_bind, run_underlying hT, Result.andThen_ok, hg, hk.check, hf, hkey, Instr.keyThatStays, hk.bits, if_true, Sem.run_pure, hset]
    · show (w.heap.setIfInBounds b _)[b]? = _
      simp [hb]
    · rw [Array.toList_modify]; exact modify_keys _ _ h2 k v 0 j u hj
    · intro c hc; show (w.heap.setIfInBounds b _)[c]? = _; simp [Ne.symm hc]
    · show (w.heap.setIfInBounds b _).size = _; simp

theorem MapIs.length {w : World} {b : Nat} {l : List (κ × Value)} (h : MapIs w b kv l) {T kt et : TypeId} (hT : P.underlying T = some (.map kt et)) (ty : TypeId) :
    (Builtin.len_ #[T] ty #[.map (some b)]).run P w = .ok (.int .i64 (l.length : Int)) w := by
  obtain ⟨es, clock, h1, h2⟩ := h
  have hlen : es.size = l.length := by have := congrArg List.length h2; simpa using this
  have hg : (getObj b).run P w = .ok (.map es clock) w := by simp [getObj, Sem.run, h1]
  simp [Builtin.len_, run_underlying hT, hg, hlen, goInt]
theorem len_nilmap {T kt et : TypeId} (hT : P.underlying T = some (.map kt et)) (ty : TypeId) (w : World) :
    (Builtin.len_ #[T] ty #[.map none]).run P w = .ok (.int .i64 0) w := by
  simp [Builtin.len_, run_underlying hT, goInt]

theorem mem_keys_get {l : List (κ × Value)} {k : κ} : (getM l k).isSome = true ↔ k ∈ l.map (·.1) := by
  induction l with
  | nil => simp [getM]
  | cons p r ih =>
    rw [getM_cons]
    by_cases h : p.1 = k
    · simp [h]
    · simp [h, ih, Ne.symm h]
def NoD (l : List (κ × Value)) : Prop := (l.map (·.1)).Nodup
theorem keys_put (l : List (κ × Value)) (k : κ) (v : Value) (x : κ) (hx : x ∈ (putM l k v).map (·.1)) : x = k ∨ x ∈ l.map (·.1) := by
  rw [← mem_keys_get, getM_put] at hx
  by_cases h : k = x
  · exact .inl h.symm
  · rw [if_neg h] at hx; exact .inr (mem_keys_get.1 hx)
theorem NoD.put {l : List (κ × Value)} (h : NoD l) (k : κ) (v : Value) : NoD (putM l k v) := by
  induction l with
  | nil => simp [NoD, putM]
  | cons p r ih =>
    simp only [NoD, List.map_cons, List.nodup_cons] at h
    simp only [putM]
    by_cases hp : p.1 = k
    · rw [if_pos hp]; subst hp; simpa [NoD] using h
    · rw [if_neg hp]
      simp only [NoD, List.map_cons, List.nodup_cons]
      refine ⟨fun hm => ?_, ih h.2⟩
      rcases keys_put r k v p.1 hm with h1 | h1
      · exact hp h1
      · exact h.1 h1
theorem keys_del (l : List (κ × Value)) (k : κ) : (delM l k).map (·.1) = (l.map (·.1)).erase k := by
  induction l with
  | nil => rfl
  | cons p r ih =>
    simp only [delM]
    by_cases hp : p.1 = k
    · rw [if_pos hp]; subst hp; simp
    · rw [if_neg hp]
      simp only [List.map_cons, ih]
      rw [List.erase_cons_tail (by simpa using hp)]
theorem NoD.del {l : List (κ × Value)} (h : NoD l) (k : κ) : NoD (delM l k) := by
  unfold NoD; rw [keys_del]; exact List.Nodup.erase _ h
theorem getM_del {l : List (κ × Value)} (h : NoD l) (k k' : κ) : getM (delM l k) k' = if k = k' then none else getM l k' := by
  induction l with
  | nil => simp [delM, getM]
  | cons p r ih =>
    simp only [NoD, List.map_cons, List.nodup_cons] at h
    simp only [delM]
    by_cases hp : p.1 = k
    · rw [if_pos hp]
      by_cases hk : k = k'
      · rw [if_pos hk, ← hk, ← hp]
        cases hq : getM r p.1 with
        | none => rfl
        | some v => exact absurd (mem_keys_get.1 (by rw [hq]; rfl)) h.1
      · rw [if_neg hk, getM_cons, if_neg (by rw [hp]; exact hk)]
    · rw [if_neg hp, getM_cons, getM_cons, ih h.2]
      by_cases hk : k = k'
      · rw [if_pos hk, if_pos hk, if_neg (fun e => hp (e.trans hk.symm))]
      · rw [if_neg hk, if_neg hk]
theorem length_del (l : List (κ × Value)) (k : κ) : (delM l k).length = if (getM l k).isSome then l.length - 1 else l.length := by
  induction l with
  | nil => simp [delM, getM]
  | cons p r ih =>
    simp only [delM, getM_cons]
    by_cases hp : p.1 = k
    · simp [hp]
    · simp only [hp, if_false, List.length_cons, ih]
      by_cases hq : (getM r k).isSome = true
      · have : 0 < r.length := by
          have := mem_keys_get.1 hq
          cases r with
          | nil => cases this
          | cons _ _ => simp
        simp [hq]; omega
      · simp [hq]
theorem del_none {l : List (κ × Value)} {k : κ} (h : getM l k = none) : delM l k = l := by
  induction l with
  | nil => rfl
  | cons p r ih =>
    rw [getM_cons] at h
    by_cases hp : p.1 = k
    · rw [if_pos hp] at h; cases h
    · rw [if_neg hp] at h
      rw [delM, if_neg hp, ih h]
theorem erase_keys (es : List MapEntry) (l : List (κ × Value)) (h : es.map (fun e => (e.key, e.val)) = l.map (fun p => (kv p.1, p.2))) (k : κ) (i j : Nat) (u : Value)
    (hf : findM l k i = some (i + j, u)) : (es.eraseIdx j).map (fun e => (e.key, e.val)) = (delM l k).map (fun p => (kv p.1, p.2)) := by
  induction l generalizing es i j with
  | nil => simp [findM] at hf
  | cons p r ih =>
    match es, h with
    | e :: es', h =>
    simp only [List.map_cons, List.cons.injEq] at h
    rw [findM] at hf
    by_cases hp : k = p.1
    · rw [if_pos hp] at hf
      simp only [Option.some.injEq, Prod.mk.injEq] at hf
      have : j = 0 := by omega
      subst this
      simp only [delM, if_pos hp.symm, List.eraseIdx_zero, List.tail_cons, h.2]
    · rw [if_neg hp] at hf
      match j, hf with
      | 0, hf =>
        exfalso
        have : ∀ (r : List (κ × Value)) (m : Nat) (x : Nat × Value), findM r k m = some x → m ≤ x.1 := by
          intro r
          induction r with
          | nil => intro m x h; simp [findM] at h
          | cons q s ihs =>
            intro m x h
            rw [findM] at h
            split at h
            · injection h with h; subst h; exact Nat.le_refl _
            · have := ihs (m + 1) x h; omega
        have := this r (i + 1) _ hf
        simp at this
        omega
      | j + 1, hf =>
        have hf' : findM r k (i + 1) = some (i + 1 + j, u) := by rw [hf]; congr 2; omega
        simp only [delM, if_neg (fun e => hp e.symm : ¬ p.1 = k), List.eraseIdx_cons_succ, List.map_cons, h.1, ih es' h.2 (i + 1) j hf']
theorem run_del {w : World} {b : Nat} {l : List (κ × Value)} {T kt et ty kT : TypeId} (hk : KeyOk P kt kv) (hT : P.underlying T = some (.map kt et))
    (h : MapIs w b kv l) (k : κ) :
    ∃ w', (Builtin.delete_ #[T, kT] ty #[.map (some b), kv k]).run P w = .ok (.tuple #[]) w' ∧ MapPut w w' b kv (delM l k) := by
  obtain ⟨es, clock, h1, h2⟩ := h
  have hb : b < w.heap.size := (Array.getElem?_eq_some_iff.1 h1).1
  have hf := hk.find k l es.toList w h2
  have hg : (getObj b).run P w = .ok (.map es clock) w := by simp [getObj, Sem.run, h1]
  have hset : ∀ o, (setObj b o).run P w = .ok () { w with heap := w.heap.setIfInBounds b o } := by
    intro o; simp [setObj, Sem.run, h1]
  cases hq : getM l k with
  | none =>
    rw [findM_none hq] at hf
    refine ⟨{ w with heap := w.heap.setIfInBounds b (.map es clock) }, ?_, ⟨⟨es, clock, ?_, ?_⟩, ?_, ?_, rfl, rfl, rfl⟩⟩
    · simp [Builtin.delete_, run_underlying hT, hg, hk.check, hf, hset]
    · show (w.heap.setIfInBounds b _)[b]? = _
      simp [hb]
    · rw [del_none hq]; exact h2
    · intro c hc; show (w.heap.setIfInBounds b _)[c]? = _; simp [Ne.symm hc]
    · show (w.heap.setIfInBounds b _).size = _; simp
  | some u =>
    obtain ⟨j, hj, hjl, hjk⟩ := findM_some hq 0
    rw [hj] at hf
    rw [Nat.zero_add] at hf
    have hlen : es.toList.length = l.length := by have := congrArg List.length h2; simpa using this
    have hjs : j < es.size := by rw [← Array.length_toList, hlen]; exact hjl
    refine ⟨{ w with heap := w.heap.setIfInBounds b (.map (es.eraseIdxIfInBounds j) clock) }, ?_, ⟨⟨es.eraseIdxIfInBounds j, clock, ?_, ?_⟩, ?_, ?_, rfl, rfl, rfl⟩⟩
    · simp [Builtin.delete_, run_underlying hT, hg, hk.check, hf, hset]
    · show (w.heap.setIfInBounds b _)[b]? = _
      simp [hb]
    · have : (es.eraseIdxIfInBounds j).toList = es.toList.eraseIdx j := by simp [Array.eraseIdxIfInBounds, hjs]
      rw [this]; exact erase_keys _ _ h2 k 0 j u hj
    · intro c hc; show (w.heap.setIfInBounds b _)[c]? = _; simp [Ne.symm hc]
    · show (w.heap.setIfInBounds b _).size = _; simp
theorem del_nilmap {T kt et ty kT : TypeId} (hk : KeyOk P kt kv) (hT : P.underlying T = some (.map kt et)) (k : κ) (w : World) :
    (Builtin.delete_ #[T, kT] ty #[.map none, kv k]).run P w = .ok (.tuple #[]) w := by
  simp [Builtin.delete_, run_underlying hT, hk.check]
end Mem

/-! ### The two key types of this program -/
theorem str_find (k : ByteArray) (l : List (ByteArray × Value)) (es : List MapEntry) (h : es.map (fun e => (e.key, e.val)) = l.map (fun p => (Value.string p.1, p.2))) (i : Nat) :
    Instr.findNow .string (.string k) es i = some (findM l k i) := by
  induction l generalizing es i with
  | nil => match es, h with | [], _ => rfl
  | cons p r ih =>
    match es, h with
    | e :: es', h =>
    simp only [List.map_cons, List.cons.injEq, Prod.mk.injEq] at h
    obtain ⟨⟨h1, h2⟩, h3⟩ := h
    rw [Instr.findNow, h1, findM]
    by_cases hp : k = p.1
    · subst hp
      have : (p.1 == p.1) = true := (bytes_beq _ _).2 rfl
      simp [Instr.sameNow, h2, this]
    · have : (k == p.1) = false := by
        cases hq : k == p.1
        · rfl
        · exact absurd ((bytes_beq _ _).1 hq) hp
      simp only [Instr.sameNow, this, if_neg hp]
      exact ih es' h3 (i + 1)
theorem keyStr : KeyOk Ybaf.prog 9 Value.string where
  check em k w := run_checkKey Ybaf.underlying9 (by simp [IsKey]) em 9999
  find k l es w h := by simp [Instr.findKey, run_underlying Ybaf.underlying9, str_find k l es h 0]
  bits k := by rw [Instr.sameBits]; exact (bytes_beq _ _).2 rfl

abbrev Ky := Int × Int × ByteArray
def kv (k : Ky) : Value := .agg #[.int .i64 k.1, .int .i64 k.2.1, .string k.2.2]
theorem stood41 : Ybaf.prog.stoodInHeld 41 = false := by kernel_rfl
theorem eq41 (a b : Ky) (w : World) : (Op.equal 41 (kv a) (kv b)).run Ybaf.prog w = .ok (decide (a = b)) w := by
  obtain ⟨a1, a2, a3⟩ := a
  obtain ⟨b1, b2, b3⟩ := b
  have h : (Op.equalIn 10000 41 (kv (a1, a2, a3)) (kv (b1, b2, b3))).run Ybaf.prog w = .ok (decide (a1 = b1) && (decide (a2 = b2) && decide (a3 = b3))) w := by
    unfold kv
    rw [run_equalIn_struct w 9999 41 _ _ Ybaf.underlying41 stood41]
    simp [go_sem]
    have h3 : (a3.toList = b3.toList) ↔ a3 = b3 := by
      constructor
      · intro h; exact (bytes_beq a3 b3).1 (by rw [beq_toListBytes]; simp [h])
      · intro h; rw [h]
    by_cases e1 : a1 = b1 <;> by_cases e2 : a2 = b2 <;> by_cases e3 : a3 = b3 <;> simp [h3, e1, e2, e3]
  show (Op.equalIn 10000 41 (kv (a1, a2, a3)) (kv (b1, b2, b3))).run Ybaf.prog w = _
  rw [h]
  congr 1
  by_cases e1 : a1 = b1 <;> by_cases e2 : a2 = b2 <;> by_cases e3 : a3 = b3 <;> simp [e1, e2, e3]
theorem ask41 (k : Ky) (l : List (Ky × Value)) (es : List MapEntry) (w : World) (h : es.map (fun e => (e.key, e.val)) = l.map (fun p => (kv p.1, p.2))) (i : Nat) :
    (Instr.findAsking 41 (kv k) es i).run Ybaf.prog w = .ok (findM l k i) w := by
  induction l generalizing es i with
  | nil => match es, h with | [], _ => rfl
  | cons p r ih =>
    match es, h with
    | e :: es', h =>
    simp only [List.map_cons, List.cons.injEq, Prod.mk.injEq] at h
    obtain ⟨⟨h1, h2⟩, h3⟩ := h
    rw [Instr.findAsking, h1]
    simp only [Sem.run_bind, eq41, Result.andThen_ok, findM]
    by_cases hp : k = p.1
    · simp [hp, h2]
    · simp [hp, ih es' h3 (i + 1)]
theorem key41 : KeyOk Ybaf.prog 41 kv where
  check em k w := by
    obtain ⟨a, b, c⟩ := k
    cases em <;> kernel_rfl
  find k l es w h := by
    match l, es, h with
    | [], [], _ => rfl
    | p :: r, e :: es', h =>
      have h' := h
      simp only [List.map_cons, List.cons.injEq, Prod.mk.injEq] at h
      have hn : Instr.findNow (.struct #[{ name := "cluster", type := 3, offset := 0, embedded := false, tag := "", pkgPath := "example.com/tidemark/tidemark/farm", byteOffset := 0 }, { name := "index", type := 3, offset := 1, embedded := false, tag := "", pkgPath := "example.com/tidemark/tidemark/farm", byteOffset := 8 }, { name := "addr", type := 9, offset := 2, embedded := false, tag := "", pkgPath := "example.com/tidemark/tidemark/farm", byteOffset := 16 }]) (kv k) (e :: es') 0 = none := by
        rw [Instr.findNow, h.1.1]
        rfl
      simp only [Instr.findKey, Sem.run_bind, run_underlying Ybaf.underlying41, Result.andThen_ok, hn]
      exact ask41 k _ _ w h' 0
  bits k := by
    have : ∀ b : ByteArray, (b == b) = true := fun b => (bytes_beq _ _).2 rfl
    simp [kv, Instr.sameBits, this]
end Go.Proofs.YbulkdxfsFmt
