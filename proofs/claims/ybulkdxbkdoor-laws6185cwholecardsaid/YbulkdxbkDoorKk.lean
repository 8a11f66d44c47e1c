import Derived.Test.YbulkdxbkDoorKi
namespace Go.Proofs.YbulkdxbkDoor
open Go.RowKit
set_option linter.unusedVariables false

/-! ### Closures, plain -/
theorem addNew_pre (out xs : List Nat) : ∃ t, addNew out xs = out ++ t := by
  induction xs generalizing out with
  | nil => exact ⟨[], by simp [addNew_nil]⟩
  | cons x xs ih =>
    rw [addNew_cons]
    obtain ⟨t, ht⟩ := ih (if x ∈ out then out else out ++ [x])
    rw [ht]
    split
    · exact ⟨t, rfl⟩
    · exact ⟨x :: t, by simp⟩
structure Least (S : Nat → List Nat) (SD : List Nat) (V : Nat → Prop) : Prop where
  seed : ∀ x ∈ SD, V x
  closed : ∀ k, V k → ∀ x ∈ S k, V x
  least : ∀ C : Nat → Prop, (∀ x ∈ SD, C x) → (∀ k, C k → ∀ x ∈ S k, C x) → ∀ x, V x → C x
theorem Least.eq {S : Nat → List Nat} {SD : List Nat} {V V' : Nat → Prop} (h : Least S SD V) (h' : Least S SD V') (x : Nat) : V x ↔ V' x :=
  ⟨h.least V' h'.seed h'.closed x, h'.least V h.seed h.closed x⟩
theorem bfs_sub (S : Nat → List Nat) (f : Nat) : ∀ (out : List Nat) (i x : Nat), x ∈ out → x ∈ bfs S f out i := by
  induction f with
  | zero => intro out i x h; exact h
  | succ f ih =>
    intro out i x h
    simp only [bfs]
    split
    · exact h
    · exact ih _ _ _ (addNew_mem.2 (.inl h))
theorem bfs_least {S : Nat → List Nat} (C : Nat → Prop) (hC : ∀ k, C k → ∀ x ∈ S k, C x) (f : Nat) : ∀ (out : List Nat) (i : Nat), (∀ x ∈ out, C x) → ∀ x ∈ bfs S f out i, C x := by
  induction f with
  | zero => intro out i h x hx; exact h x hx
  | succ f ih =>
    intro out i h x hx
    simp only [bfs] at hx
    split at hx
    · exact h x hx
    · rename_i k hk
      refine ih _ _ (fun y hy => ?_) x hx
      rcases addNew_mem.1 hy with h1 | h1
      · exact h y h1
      · exact hC k (h k (List.mem_of_getElem? hk)) y h1
theorem bfs_good {S : Nat → List Nat} {n : Nat} (hS : ∀ k x, x ∈ S k → x < n) (f : Nat) : ∀ (out : List Nat) (i : Nat), out.Nodup → (∀ x ∈ out, x < n) → (bfs S f out i).Nodup ∧ ∀ x ∈ bfs S f out i, x < n := by
  induction f with
  | zero => intro out i h1 h2; exact ⟨h1, h2⟩
  | succ f ih =>
    intro out i h1 h2
    simp only [bfs]
    split
    · exact ⟨h1, h2⟩
    · refine ih _ _ (addNew_nodup h1 _) fun x hx => ?_
      rcases addNew_mem.1 hx with h | h
      · exact h2 x h
      · exact hS _ x h
theorem bfs_closed {S : Nat → List Nat} {n : Nat} (hS : ∀ k x, x ∈ S k → x < n) (f : Nat) : ∀ (out : List Nat) (i : Nat), out.Nodup → (∀ x ∈ out, x < n) → (∀ (j k : Nat), j < i → out[j]? = some k → ∀ x ∈ S k, x ∈ out) → n ≤ f + i → ∀ k ∈ bfs S f out i, ∀ x ∈ S k, x ∈ bfs S f out i := by
  induction f with
  | zero =>
    intro out i h1 h2 h3 h4 k hk
    have hk' : k ∈ out := hk
    have hl := len_le_of_nodup n out h1 h2
    obtain ⟨j, hj, e⟩ := List.getElem_of_mem hk'
    exact h3 j k (by omega) (by rw [List.getElem?_eq_getElem hj, e])
  | succ f ih =>
    intro out i h1 h2 h3 h4
    simp only [bfs]
    split
    · rename_i hn
      intro k hk
      have hl := List.getElem?_eq_none_iff.1 hn
      obtain ⟨j, hj, e⟩ := List.getElem_of_mem hk
      exact h3 j k (by omega) (by rw [List.getElem?_eq_getElem hj, e])
    · rename_i k hk
      refine ih _ _ (addNew_nodup h1 _) (fun x hx => ?_) (fun j k' hj hk' x hx => ?_) (by omega)
      · rcases addNew_mem.1 hx with h | h
        · exact h2 x h
        · exact hS _ x h
      · obtain ⟨t, ht⟩ := addNew_pre out (S k)
        have hil := (List.getElem?_eq_some_iff.1 hk).1
        rw [ht, List.getElem?_append_left (by omega)] at hk'
        by_cases e : j = i
        · subst e
          rw [hk] at hk'; cases hk'
          exact addNew_mem.2 (.inr hx)
        · exact addNew_mem.2 (.inl (h3 j k' (by omega) hk' x hx))
theorem bfs_Least {S : Nat → List Nat} {n : Nat} (hS : ∀ k x, x ∈ S k → x < n) {SD : List Nat} (hsd : ∀ x ∈ SD, x < n) : Least S SD (fun x => x ∈ bfs S n (addNew [] SD) 0) := by
  have h1 : (addNew [] SD).Nodup := addNew_nodup (by simp) SD
  have h2 : ∀ x ∈ addNew [] SD, x < n := fun x hx => by
    rcases addNew_mem.1 hx with h | h
    · simp at h
    · exact hsd x h
  refine ⟨fun x hx => bfs_sub _ _ _ _ _ (addNew_mem.2 (.inr hx)), bfs_closed hS n _ 0 h1 h2 (fun j k hj => by omega) (by omega), fun C h3 h4 x hx => bfs_least C h4 n _ 0 (fun y hy => ?_) x hx⟩
  rcases addNew_mem.1 hy with h | h
  · simp at h
  · exact h3 y h
theorem nullOf_lt {NL : List (List Nat)} {n : Nat} (h : ∀ (q : Nat) L r, NL[q]? = some L → r ∈ L → r < n) : ∀ k x, x ∈ nullOf NL k → x < n := fun k x hx => by
  unfold nullOf at hx
  cases hk : NL[k]? with
  | none => rw [hk] at hx; simp at hx
  | some L => rw [hk] at hx; exact h k L x hk hx
/-- the stack walk -/
structure DF (S : Nat → List Nat) (SD : List Nat) (p : Nat → Bool) (T : List Nat) : Prop where
  seed : ∀ x ∈ SD, p x = true
  stk : ∀ x ∈ T, p x = true
  closed : ∀ k, p k = true → k ∉ T → ∀ x ∈ S k, p x = true
  least : ∀ C : Nat → Prop, (∀ x ∈ SD, C x) → (∀ k, C k → ∀ x ∈ S k, C x) → ∀ x, p x = true → C x
theorem DF.done {S : Nat → List Nat} {SD : List Nat} {p : Nat → Bool} (h : DF S SD p []) : Least S SD (fun x => p x = true) :=
  ⟨h.seed, fun k hk => h.closed k hk (by simp), h.least⟩
end Go.Proofs.YbulkdxbkDoor
