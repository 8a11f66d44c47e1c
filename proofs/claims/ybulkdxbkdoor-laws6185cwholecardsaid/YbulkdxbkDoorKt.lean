import Derived.Test.YbulkdxbkDoorKs
namespace Go.Proofs.YbulkdxbkDoor
open Go.RowKit
set_option linter.unusedVariables false
set_option linter.unusedSectionVars false

/-! ### The stack walk, plain -/
structure DG (S : Nat → List Nat) (SD0 SD : List Nat) (p : Nat → Bool) (T : List Nat) (ex : Option Nat) : Prop where
  seed : ∀ x ∈ SD0, p x = true
  stk : ∀ x ∈ T, p x = true
  closed : ∀ k, p k = true → k ∉ T → ex ≠ some k → ∀ x ∈ S k, p x = true
  least : ∀ C : Nat → Prop, (∀ x ∈ SD, C x) → (∀ k, C k → ∀ x ∈ S k, C x) → ∀ x, p x = true → C x
section
variable {S : Nat → List Nat} {SD0 SD : List Nat} {p : Nat → Bool} {T : List Nat} {ex : Option Nat} {x k : Nat}
theorem DG.mark (h : DG S SD0 SD p T ex) (hx : ∀ C : Nat → Prop, (∀ x ∈ SD, C x) → (∀ k, C k → ∀ x ∈ S k, C x) → C x) : DG S SD0 SD (fun i => if i = x then true else p i) (T ++ [x]) ex := by
  refine ⟨fun y hy => ?_, fun y hy => ?_, fun k hk hT he y hy => ?_, fun C h1 h2 y hy => ?_⟩
  · by_cases e : y = x
    · simp [e]
    · simp [e, h.seed y hy]
  · by_cases e : y = x
    · simp [e]
    · have : y ∈ T := by rcases List.mem_append.1 hy with h1 | h1; exact h1; simp at h1; exact absurd h1 e
      simp [e, h.stk y this]
  · have hne : k ≠ x := fun e => hT (by simp [e])
    have hkp : p k = true := by simpa [hne] using hk
    have := h.closed k hkp (fun hm => hT (List.mem_append_left _ hm)) he y hy
    by_cases e : y = x
    · simp [e]
    · simp [e, this]
  · by_cases e : y = x
    · subst e; exact hx C h1 h2
    · exact h.least C h1 h2 y (by simpa [e] using hy)
theorem DG.seedStep (h : DG S SD0 SD p T ex) (hx : p x = true) : DG S (SD0 ++ [x]) SD p T ex :=
  ⟨fun y hy => by rcases List.mem_append.1 hy with h1 | h1; exact h.seed y h1; simp at h1; subst h1; exact hx, h.stk, h.closed, h.least⟩
theorem DG.pop (h : DG S SD0 SD p (T ++ [k]) none) : DG S SD0 SD p T (some k) :=
  ⟨h.seed, fun y hy => h.stk y (List.mem_append_left _ hy), fun j hj hT he => h.closed j hj (fun hm => by
    rcases List.mem_append.1 hm with h1 | h1
    · exact hT h1
    · simp at h1; subst h1; exact he rfl) (by simp), h.least⟩
theorem DG.fin (h : DG S SD0 SD p T (some k)) (hk : ∀ x ∈ S k, p x = true) : DG S SD0 SD p T none :=
  ⟨h.seed, h.stk, fun j hj hT _ => by
    by_cases e : j = k
    · subst e; exact hk
    · exact h.closed j hj hT (fun e2 => e (by cases e2; rfl)), h.least⟩
theorem DG.done (h : DG S SD SD p [] none) : Least S SD (fun x => p x = true) :=
  ⟨h.seed, fun k hk => h.closed k hk (by simp) (by simp), h.least⟩
end
/-! ### What is not visited yet -/
def unv (m : Nat) (p : Nat → Bool) : Nat := (List.range m).countP fun i => !p i
theorem unv_flip {m : Nat} {p : Nat → Bool} {k : Nat} (hk : k < m) (hp : p k = false) : unv m (fun i => if i = k then true else p i) + 1 = unv m p := by
  unfold unv
  induction m with
  | zero => omega
  | succ m ih =>
    rw [List.range_succ, List.countP_append, List.countP_append]
    by_cases e : k = m
    · subst e
      have h1 : (List.range k).countP (fun i => !(if i = k then true else p i)) = (List.range k).countP fun i => !p i := by
        apply List.countP_congr
        intro x hx
        have : x ≠ k := by have := List.mem_range.1 hx; omega
        simp [this]
      rw [h1]
      simp [hp]
    · have h1 := ih (by omega)
      have h2 : m ≠ k := fun h => e h.symm
      have e1 : List.countP (fun i => !(if i = k then true else p i)) [m] = List.countP (fun i => !p i) [m] := by simp [h2]
      rw [e1]
      omega
theorem unv_start (m : Nat) : unv m (fun _ => false) = m := by simp [unv]
def isF : Value → Bool
  | .bool false => true
  | _ => false
def unvis (w : World) (H : Nat) : Nat := match w.heap[H]? with
  | some (.cells cs _ _) => cs.toList.countP isF
  | _ => 0
def vlen : Value → Nat
  | .slice _ n _ => n
  | _ => 0
theorem unvis_eq {w : World} {B H m : Nat} {p : Nat → Bool} (h : w.ownsRow B 4 1 (.slice (some ⟨H, 0, none⟩) m m) m (bools m p)) : unvis w H = unv m p := by
  obtain ⟨cur, hg, _, _, _, h3, h4⟩ := own_blk h
  unfold unvis
  rw [hg]
  simp only
  have : cur.toList = bools m p := by
    rw [← h4, List.take_of_length_le (by simp; omega)]
  rw [this]
  unfold bools unv
  rw [List.countP_map]
  apply List.countP_congr
  intro x _
  simp only [Function.comp]
  cases p x <;> simp [isF]
/-! ### Rows -/
theorem own_take {w : World} {base s g n cap k : Nat} {t : TypeId} {xs : List Value} (h : w.ownsRow base t 1 (.slice (some ⟨g, 0, none⟩) n cap) n xs) (hk : k ≤ n) : w.ownsRow base t 1 (.slice (some ⟨g, 0, none⟩) k cap) k (xs.take k) := by
  obtain ⟨cur, hg, hb, h1, h2, h3, h4⟩ := own_blk h
  have hl : xs.length = n * 1 := by rw [← h4, List.length_take]; simp; omega
  refine ⟨by rw [List.length_take]; omega, .inr ⟨g, cap, cur, rfl, hb, hg, by omega, h2, h3, ?_⟩⟩
  rw [← h4, List.take_take]
  congr 1
  omega
theorem make_cap (m : Nat) (hm : m ≤ 65536) : ∃ C : Array Value, C.size = m ∧ ∀ w, (Instr.makeSlice 44 (.int .i64 0) (.int .i64 (m : Int))).run Ybad.prog w = .ok (.slice (some ⟨w.heap.size, 0, none⟩) 0 m) (w.alloc (.cells C 3)) := by
  obtain ⟨i, hi, h0, h1, h2⟩ := info_parts info3
  refine ⟨madeCells (Value.int .i64 0).cells (m * 1), by simp [madeCells], fun w => ?_⟩
  have h3 : (i.bytes : Int) * (m : Int) ≤ 281474976710656 := by rw [h2]; omega
  have := run_makeSlice (P := Ybad.prog) w 44 3 i (.int .i64 0) Ybad.underlying44 hi h0 .i64 .i64 0 (m : Int) (by omega) (by omega) (by rw [h1]; simp; omega) h3 (by omega)
  rw [h1] at this
  simpa using this
/-- the marks and the stack -/
structure VS (w : World) (H m : Nat) (wr : World) (p : Nat → Bool) (vo : Option Addr) (cap : Nat) (T : List Nat) : Prop where
  vis : wr.ownsRow H 4 1 (.slice (some ⟨H, 0, none⟩) m m) m (bools m p)
  stk : wr.ownsRow (H + 1) 3 1 (.slice vo T.length cap) T.length (ints T)
  fr : Fr w wr []
  hw : w.heap.size ≤ H
  h2 : H + 1 ≤ wr.heap.size
  tot : unv m p + T.length ≤ m
section
variable {w wr w2 : World} {H m : Nat} {p : Nat → Bool} {vo : Option Addr} {cap : Nat} {T : List Nat}
theorem VS.flip (h : VS w H m wr p vo cap T) {k : Nat} (hk : k < m) (hp : p k = false) :
    (wr.setCell ⟨H, k, none⟩ (.bool true)).ownsRow H 4 1 (.slice (some ⟨H, 0, none⟩) m m) m (bools m fun i => if i = k then true else p i) ∧ (wr.setCell ⟨H, k, none⟩ (.bool true)).ownsRow (H + 1) 3 1 (.slice vo T.length cap) T.length (ints T) ∧ Fr w (wr.setCell ⟨H, k, none⟩ (.bool true)) [] ∧ H + 1 ≤ (wr.setCell ⟨H, k, none⟩ (.bool true)).heap.size := by
  refine ⟨?_, own_same h.stk fun b hb => setCell_far (fun e => ?_) _ _, h.fr.set (.inr h.hw) _ _, by rw [setCell_size]; exact h.h2⟩
  · have := own_set h.vis k (.bool true)
    rwa [bools_set] at this
  · have := (h.stk.lt b hb).1; omega
end
end Go.Proofs.YbulkdxbkDoor
