import Derived.Test.YbulkdxeqB3
namespace Go.Proofs.Ybulkdxeq
open Go.RowKit
set_option linter.unusedVariables false

/-! ### The order of the keys -/
theorem cb_self : ∀ a : List UInt8, Lib.compareBytes a a = 0
  | [] => rfl
  | x :: a => by simp [Lib.compareBytes, UInt8.lt_irrefl, cb_self a]
theorem cb_cases : ∀ a b : List UInt8, (Lib.compareBytes a b = 0 ∧ a = b) ∨ (Lib.compareBytes a b = -1 ∧ a ≠ b) ∨ (Lib.compareBytes a b = 1 ∧ a ≠ b)
  | [], [] => .inl ⟨rfl, rfl⟩
  | [], _ :: _ => .inr (.inl ⟨rfl, by simp⟩)
  | _ :: _, [] => .inr (.inr ⟨rfl, by simp⟩)
  | x :: a, y :: b => by
    unfold Lib.compareBytes
    by_cases h1 : x < y
    · rw [if_pos h1]; exact .inr (.inl ⟨rfl, fun e => by injection e with e _; subst e; exact UInt8.lt_irrefl _ h1⟩)
    · rw [if_neg h1]
      by_cases h2 : y < x
      · rw [if_pos h2]; exact .inr (.inr ⟨rfl, fun e => by injection e with e _; subst e; exact UInt8.lt_irrefl _ h2⟩)
      · rw [if_neg h2]
        have e : x = y := UInt8.le_antisymm (UInt8.not_lt.1 h2) (UInt8.not_lt.1 h1)
        subst e
        rcases cb_cases a b with ⟨h, h'⟩ | ⟨h, h'⟩ | ⟨h, h'⟩
        · exact .inl ⟨h, by rw [h']⟩
        · exact .inr (.inl ⟨h, fun e => h' (by injection e)⟩)
        · exact .inr (.inr ⟨h, fun e => h' (by injection e)⟩)
theorem cb_anti : ∀ a b : List UInt8, Lib.compareBytes a b = - Lib.compareBytes b a
  | [], [] => rfl
  | [], _ :: _ => rfl
  | _ :: _, [] => rfl
  | x :: a, y :: b => by
    unfold Lib.compareBytes
    by_cases h1 : x < y
    · rw [if_pos h1, if_neg (fun h => UInt8.lt_asymm h1 h), if_pos h1]
    · rw [if_neg h1]
      by_cases h2 : y < x
      · rw [if_pos h2, if_pos h2]; rfl
      · rw [if_neg h2, if_neg h2, if_neg h1]; exact cb_anti a b
theorem cb_trans : ∀ a b c : List UInt8, Lib.compareBytes a b < 0 → Lib.compareBytes b c < 0 → Lib.compareBytes a c < 0
  | [], [], _, h, _ => by simp [Lib.compareBytes] at h
  | [], _ :: _, [], _, h => by simp [Lib.compareBytes] at h
  | [], _ :: _, _ :: _, _, _ => by simp [Lib.compareBytes]
  | _ :: _, [], _, h, _ => by simp [Lib.compareBytes] at h
  | _ :: _, _ :: _, [], _, h => by simp [Lib.compareBytes] at h
  | x :: a, y :: b, z :: c, h1, h2 => by
    unfold Lib.compareBytes at h1 h2 ⊢
    by_cases xy : x < y
    · by_cases yz : y < z
      · rw [if_pos (UInt8.lt_trans xy yz)]; decide
      · rw [if_neg yz] at h2
        by_cases zy : z < y
        · rw [if_pos zy] at h2; simp at h2
        · have e : y = z := UInt8.le_antisymm (UInt8.not_lt.1 zy) (UInt8.not_lt.1 yz)
          subst e
          rw [if_pos xy]; decide
    · rw [if_neg xy] at h1
      by_cases yx : y < x
      · rw [if_pos yx] at h1; simp at h1
      · rw [if_neg yx] at h1
        have e : x = y := UInt8.le_antisymm (UInt8.not_lt.1 yx) (UInt8.not_lt.1 xy)
        subst e
        by_cases xz : x < z
        · rw [if_pos xz]; decide
        · rw [if_neg xz] at h2 ⊢
          by_cases zx : z < x
          · rw [if_pos zx] at h2; simp at h2
          · rw [if_neg zx] at h2 ⊢
            exact cb_trans a b c h1 h2
/-- a comes ahead of b -/
def Lt (a b : ByteArray) : Prop := Lib.compareBytes a.data.toList b.data.toList < 0
theorem ba_ext {a b : ByteArray} (h : a.data.toList = b.data.toList) : a = b := by
  obtain ⟨⟨x⟩⟩ := a; obtain ⟨⟨y⟩⟩ := b; simpa using h
theorem Lt.trans {a b c : ByteArray} (h : Lt a b) (h' : Lt b c) : Lt a c := cb_trans _ _ _ h h'
theorem Lt.irrefl (a : ByteArray) : ¬ Lt a a := by unfold Lt; rw [cb_self]; decide
theorem Lt.total {a b : ByteArray} (h : ¬ Lt a b) (hne : a ≠ b) : Lt b a := by
  unfold Lt at *
  rcases cb_cases a.data.toList b.data.toList with ⟨h1, h2⟩ | ⟨h1, h2⟩ | ⟨h1, h2⟩
  · exact absurd (ba_ext h2) hne
  · rw [h1] at h; exact absurd (by decide) h
  · rw [cb_anti, h1]; decide
def Asc (K : List ByteArray) : Prop := K.Pairwise Lt
/-- where the key lies or would lie: all before it come ahead of it, none from it on -/
structure Spot (K : List ByteArray) (key : ByteArray) (j : Nat) : Prop where
  le : j ≤ K.length
  lo : ∀ t k, t < j → K[t]? = some k → Lt k key
  hi : ∀ t k, j ≤ t → K[t]? = some k → ¬ Lt k key
theorem Spot.uniq {K : List ByteArray} {key : ByteArray} {i j : Nat} (h : Spot K key i) (h' : Spot K key j) : i = j := by
  have a : ∀ {i j : Nat}, Spot K key i → Spot K key j → ¬ i < j := by
    intro i j h h' hl
    have := h'.le
    have hk : K[i]? = some K[i] := List.getElem?_eq_getElem (by omega)
    exact h.hi i _ (Nat.le_refl _) hk (h'.lo i _ hl hk)
  have := a h h'; have := a h' h; omega
theorem asc_insert {K : List ByteArray} (h : Asc K) {key : ByteArray} {j : Nat} (hs : Spot K key j) (hne : K[j]? ≠ some key) : Asc (K.take j ++ key :: K.drop j) := by
  unfold Asc at *
  have hp := h
  rw [← List.take_append_drop j K, List.pairwise_append] at hp
  obtain ⟨p1, p2, p3⟩ := hp
  rw [List.pairwise_append]
  refine ⟨p1, ?_, ?_⟩
  · rw [List.pairwise_cons]
    refine ⟨fun b hb => ?_, p2⟩
    obtain ⟨i, hi, rfl⟩ := List.getElem_of_mem hb
    have hk : K[j + i]? = some (K.drop j)[i] := by
      rw [← List.getElem?_drop]; exact List.getElem?_eq_getElem hi
    have hn := hs.hi (j + i) _ (by omega) hk
    by_cases e : (K.drop j)[i] = key
    · exfalso
      by_cases h0 : i = 0
      · subst h0; rw [Nat.add_zero] at hk; exact hne (by rw [hk, e])
      · have hi' : i < (K.drop j).length := hi
        have hlt : j < K.length := by simp at hi'; omega
        have hkj : K[j]? = some K[j] := List.getElem?_eq_getElem hlt
        have hl2 : j + i < K.length := by simp at hi'; omega
        have := (List.pairwise_iff_getElem.1 h) j (j + i) hlt hl2 (by omega)
        have e' : K[j + i] = key := by
          have : K[j + i]? = some K[j + i] := List.getElem?_eq_getElem hl2
          rw [hk] at this; injection this with this; rw [← this, e]
        rw [e'] at this
        exact hs.hi j _ (Nat.le_refl _) hkj this
    · exact Lt.total hn e
  · intro a ha b hb
    rcases List.mem_cons.1 hb with rfl | hb
    · obtain ⟨i, hi, rfl⟩ := List.getElem_of_mem ha
      have hij : i < j := by simp at hi; omega
      refine hs.lo i _ hij ?_
      rw [← List.getElem?_take_of_lt hij]; exact List.getElem?_eq_getElem hi
    · exact p3 a ha b hb
end Go.Proofs.Ybulkdxeq
