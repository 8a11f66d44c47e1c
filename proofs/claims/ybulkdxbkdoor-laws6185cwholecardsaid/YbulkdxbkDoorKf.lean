import Derived.Test.YbulkdxbkDoorKe
namespace Go.Proofs.YbulkdxbkDoor
open Go.RowKit
set_option linter.unusedVariables false

/-! ### Ascending lists -/
abbrev Asc (L : List Nat) : Prop := L.Pairwise (· < ·)
theorem asc_ext : ∀ (L M : List Nat), Asc L → Asc M → (∀ x, x ∈ L ↔ x ∈ M) → L = M := by
  intro L
  induction L with
  | nil =>
    intro M _ _ h
    cases M with
    | nil => rfl
    | cons y M => exact absurd ((h y).2 (by simp)) (by simp)
  | cons x L ih =>
    intro M hL hM h
    cases M with
    | nil => exact absurd ((h x).1 (by simp)) (by simp)
    | cons y M =>
      rw [Asc, List.pairwise_cons] at hL hM
      have hxy : x = y := by
        have h1 := (h x).1 (by simp)
        have h2 := (h y).2 (by simp)
        rcases List.mem_cons.1 h1 with e | e
        · exact e
        · rcases List.mem_cons.1 h2 with e2 | e2
          · exact e2.symm
          · have := hM.1 x e; have := hL.1 y e2; omega
      subst hxy
      rw [ih M hL.2 hM.2 fun z => ?_]
      constructor
      · intro hz
        rcases List.mem_cons.1 ((h z).1 (List.mem_cons_of_mem _ hz)) with e | e
        · have := hL.1 z hz; omega
        · exact e
      · intro hz
        rcases List.mem_cons.1 ((h z).2 (List.mem_cons_of_mem _ hz)) with e | e
        · have := hM.1 z hz; omega
        · exact e
theorem asc_range_filter (n : Nat) (p : Nat → Bool) : Asc ((List.range n).filter p) := by
  have : Asc (List.range n) := List.pairwise_lt_range
  exact this.sublist List.filter_sublist
def bitsOf (x : Nat) : List Nat := (List.range 64).filter x.testBit
theorem bitsOf_asc (x : Nat) : Asc (bitsOf x) := asc_range_filter _ _
theorem mem_bitsOf {x b : Nat} : b ∈ bitsOf x ↔ b < 64 ∧ x.testBit b = true := by simp [bitsOf]
theorem bitsOf_zero : bitsOf 0 = [] := by simp [bitsOf]
theorem bits_low {k m j : Nat} : (2 ^ k * (2 * m)).testBit j = true → k < j := by
  have h0 := Nat.testBit_two_pow_mul_add (2 * m) (Nat.two_pow_pos k) j
  simp only [Nat.add_zero] at h0
  rw [h0]
  split
  · simp
  · rw [bit_even]
    intro h
    by_cases e : j - k = 0
    · simp [e] at h
    · omega
theorem bits_low_iff {k m j : Nat} : (2 ^ k * (2 * m + 1)).testBit j = true ↔ j = k ∨ (2 ^ k * (2 * m)).testBit j = true := by
  have h0 := Nat.testBit_two_pow_mul_add (2 * m) (Nat.two_pow_pos k) j
  simp only [Nat.add_zero] at h0
  rw [h0, bit_x]
  by_cases h : j < k
  · have : ¬ j = k := by omega
    simp [h, this]
  · simp only [h, if_false]
    rw [bit_odd, bit_even]
    by_cases e : j - k = 0
    · have : j = k := by omega
      simp [this]
    · have : ¬ j = k := by omega
      simp [e, this]
theorem bitsOf_step {k m : Nat} (hx : 2 ^ k * (2 * m + 1) < 18446744073709551616) : bitsOf (2 ^ k * (2 * m + 1)) = k :: bitsOf (2 ^ k * (2 * m)) := by
  have hk := low_lt hx
  apply asc_ext _ _ (bitsOf_asc _)
  · rw [Asc, List.pairwise_cons]
    exact ⟨fun b hb => bits_low (mem_bitsOf.1 hb).2, bitsOf_asc _⟩
  · intro b
    rw [List.mem_cons, mem_bitsOf, mem_bitsOf, bits_low_iff]
    constructor
    · rintro ⟨h1, h2 | h2⟩
      · exact .inl h2
      · exact .inr ⟨h1, h2⟩
    · rintro (h | ⟨h1, h2⟩)
      · exact ⟨by omega, .inl h⟩
      · exact ⟨h1, .inr h2⟩
/-- the members that words stand for -/
def put64 (j x : Nat) : List Nat := (bitsOf x).map fun b => j * 64 + b
def spread (f : Nat → Nat) (L : List Nat) : List Nat := L.flatMap fun j => put64 j (f j)
theorem put64_zero (j : Nat) : put64 j 0 = [] := by simp [put64, bitsOf_zero]
theorem put64_step {j k m : Nat} (hx : 2 ^ k * (2 * m + 1) < 18446744073709551616) : put64 j (2 ^ k * (2 * m + 1)) = (j * 64 + k) :: put64 j (2 ^ k * (2 * m)) := by
  unfold put64; rw [bitsOf_step hx]; rfl
theorem mem_put64 {j x q : Nat} : q ∈ put64 j x ↔ q / 64 = j ∧ x.testBit (q % 64) = true := by
  unfold put64
  simp only [List.mem_map]
  constructor
  · rintro ⟨b, hb, rfl⟩
    have := mem_bitsOf.1 hb
    refine ⟨by omega, ?_⟩
    rw [show (j * 64 + b) % 64 = b by omega]; exact this.2
  · rintro ⟨h1, h2⟩
    exact ⟨q % 64, mem_bitsOf.2 ⟨by omega, h2⟩, by omega⟩
theorem mem_spread {f : Nat → Nat} {L : List Nat} {q : Nat} : q ∈ spread f L ↔ q / 64 ∈ L ∧ (f (q / 64)).testBit (q % 64) = true := by
  unfold spread
  simp only [List.mem_flatMap, mem_put64]
  constructor
  · rintro ⟨j, hj, rfl, h⟩; exact ⟨hj, h⟩
  · rintro ⟨h1, h2⟩; exact ⟨_, h1, rfl, h2⟩
theorem put64_asc (j x : Nat) : Asc (put64 j x) := by
  unfold put64
  rw [Asc, List.pairwise_map]
  exact (bitsOf_asc x).imp fun h => by omega
theorem spread_asc {f : Nat → Nat} : ∀ {L : List Nat}, Asc L → Asc (spread f L) := by
  intro L
  induction L with
  | nil => intro _; simp [spread]
  | cons j L ih =>
    intro h
    rw [Asc, List.pairwise_cons] at h
    have e : spread f (j :: L) = put64 j (f j) ++ spread f L := by simp [spread]
    rw [e, Asc, List.pairwise_append]
    refine ⟨put64_asc _ _, ih h.2, fun a ha b hb => ?_⟩
    have h1 := (mem_put64.1 ha).1
    have h2 := h.1 _ (mem_spread.1 hb).1
    omega
theorem spread_snoc (f : Nat → Nat) (L : List Nat) (j : Nat) : spread f (L ++ [j]) = spread f L ++ put64 j (f j) := by simp [spread]
theorem asc_nodup {L : List Nat} (h : Asc L) : L.Nodup := h.imp fun h => by omega
theorem asc_short {L : List Nat} (h : L.length < 2) : Asc L := by
  match L, h with
  | [], _ => simp
  | [a], _ => simp

/-! ### What a set builder holds -/
def at64 (L : List Nat) (i : Nat) : Nat := (L[i]?).getD 0
theorem at64_get {L : List Nat} {i : Nat} (h : i < L.length) : L[i]? = some (at64 L i) := by simp [at64, h]
theorem at64_set {L : List Nat} {i x : Nat} (h : i < L.length) (j : Nat) : at64 (L.set i x) j = if j = i then x else at64 L j := by
  unfold at64
  rw [List.getElem?_set]
  by_cases e : i = j
  · subst e; simp [h]
  · rw [if_neg e, if_neg (fun h => e h.symm)]
structure BI (nw nu : Nat) (p : Nat → Bool) (od : Bool) (BL UL WL KL : List Nat) : Prop where
  bl : BL.length = nw
  ul : UL.length = nu
  nu1 : nw ≤ nu * 64
  nu3 : nu ≤ 3
  bb : ∀ i, at64 BL i < 18446744073709551616
  ub : ∀ i, at64 UL i < 18446744073709551616
  bits : ∀ q, q < nw * 64 → (at64 BL (q / 64)).testBit (q % 64) = p q
  wmem : ∀ i, i ∈ WL ↔ i < nw ∧ at64 BL i ≠ 0
  use : ∀ i, i < nu * 64 → ((at64 UL (i / 64)).testBit (i % 64) = true ↔ i ∈ WL)
  kmem : ∀ j, j ∈ KL ↔ j < nu ∧ at64 UL j ≠ 0
  wd : WL.Nodup
  kd : KL.Nodup
  ord : od = true → Asc WL
theorem or_ne_zero {a b : Nat} (h : b ≠ 0) : a ||| b ≠ 0 := by
  intro e
  apply h
  apply Nat.eq_of_testBit_eq
  intro i
  have := congrArg (fun x => Nat.testBit x i) e
  simp only [Nat.testBit_or, Nat.zero_testBit, Bool.or_eq_false_iff] at this
  rw [this.2, Nat.zero_testBit]
theorem nz_bit {x : Nat} (h : x ≠ 0) (hx : x < 18446744073709551616) : ∃ b, b < 64 ∧ x.testBit b = true := by
  obtain ⟨b, hb⟩ := Nat.exists_testBit_of_ne_zero h
  refine ⟨b, ?_, hb⟩
  rcases Nat.lt_or_ge b 64 with h1 | h1
  · exact h1
  · have := Nat.testBit_lt_two_pow (x := x) (i := b) (Nat.lt_of_lt_of_le hx (Nat.pow_le_pow_right (n := 2) (by omega) h1 : 2 ^ 64 ≤ 2 ^ b))
    rw [this] at hb; cases hb
theorem or_bit_lt {x b : Nat} (hx : x < 18446744073709551616) (hb : b < 64) : x ||| 2 ^ b < 18446744073709551616 := by
  have : x ||| 2 ^ b < 2 ^ 64 := Nat.or_lt_two_pow (by simpa using hx) (Nat.pow_lt_pow_right (by omega) hb)
  simpa using this
section
variable {nw nu : Nat} {p : Nat → Bool} {od : Bool} {BL UL WL KL : List Nat} {q : Nat}
theorem BI.kml (h : BI nw nu p od BL UL WL KL) : KL.length ≤ 3 := Nat.le_trans (len_le_of_nodup nu KL h.kd fun x hx => ((h.kmem x).1 hx).1) h.nu3
theorem BI.wml (h : BI nw nu p od BL UL WL KL) : WL.length ≤ nw := len_le_of_nodup nw WL h.wd fun x hx => ((h.wmem x).1 hx).1
theorem bits_add (h : BI nw nu p od BL UL WL KL) (hq : q < nw * 64) : ∀ r, r < nw * 64 → (at64 (BL.set (q / 64) (at64 BL (q / 64) ||| 2 ^ (q % 64))) (r / 64)).testBit (r % 64) = (if r = q then true else p r) := by
  intro r hr
  have hl : q / 64 < BL.length := by rw [h.bl]; omega
  rw [at64_set hl]
  by_cases e : r / 64 = q / 64
  · rw [if_pos e, Nat.testBit_or, Nat.testBit_two_pow, ← e, h.bits r hr]
    by_cases e2 : r = q
    · subst e2; simp
    · have : ¬ (q % 64 = r % 64) := by omega
      simp [e2, this]
  · rw [if_neg e, h.bits r hr]
    have : r ≠ q := fun e2 => e (by rw [e2])
    simp [this]
/-- a member whose word is there -/
theorem BI.addOld (h : BI nw nu p od BL UL WL KL) (hq : q < nw * 64) (hz : at64 BL (q / 64) ≠ 0) :
    BI nw nu (fun r => if r = q then true else p r) od (BL.set (q / 64) (at64 BL (q / 64) ||| 2 ^ (q % 64))) UL WL KL := by
  have hl : q / 64 < BL.length := by rw [h.bl]; omega
  refine ⟨by simp [h.bl], h.ul, h.nu1, h.nu3, fun i => ?_, h.ub, bits_add h hq, fun i => ?_, h.use, h.kmem, h.wd, h.kd, h.ord⟩
  · rw [at64_set hl]; split
    · exact or_bit_lt (h.bb _) (by omega)
    · exact h.bb i
  · rw [h.wmem, at64_set hl]
    split
    · rename_i e; subst e
      have := or_ne_zero (a := at64 BL (q / 64)) (b := 2 ^ (q % 64)) (Nat.pos_iff_ne_zero.1 (Nat.two_pow_pos _))
      simp [hz, this]
    · rfl
/-- a member whose word is new -/
theorem BI.addNewW (h : BI nw nu p od BL UL WL KL) (hq : q < nw * 64) (hz : at64 BL (q / 64) = 0) :
    BI nw nu (fun r => if r = q then true else p r) false (BL.set (q / 64) (at64 BL (q / 64) ||| 2 ^ (q % 64))) (UL.set (q / 64 / 64) (at64 UL (q / 64 / 64) ||| 2 ^ (q / 64 % 64))) (WL ++ [q / 64]) (if at64 UL (q / 64 / 64) = 0 then KL ++ [q / 64 / 64] else KL) := by
  have hl : q / 64 < BL.length := by rw [h.bl]; omega
  have hn := h.nu1
  have hlu : q / 64 / 64 < UL.length := by rw [h.ul]; omega
  have hnz : ∀ a b : Nat, a ||| 2 ^ b ≠ 0 := fun a b => or_ne_zero (Nat.pos_iff_ne_zero.1 (Nat.two_pow_pos _))
  have hnw : q / 64 ∉ WL := fun hm => ((h.wmem _).1 hm).2 hz
  refine ⟨by simp [h.bl], by simp [h.ul], h.nu1, h.nu3, fun i => ?_, fun i => ?_, bits_add h hq, fun i => ?_, fun i hi => ?_, fun j => ?_, ?_, ?_, fun h => by cases h⟩
  · rw [at64_set hl]; split
    · exact or_bit_lt (h.bb _) (by omega)
    · exact h.bb i
  · rw [at64_set hlu]; split
    · exact or_bit_lt (h.ub _) (by omega)
    · exact h.ub i
  · rw [List.mem_append, h.wmem, at64_set hl, List.mem_singleton]
    split
    · rename_i e; subst e; simp [hnz]; omega
    · rename_i e; simp [e]
  · rw [at64_set hlu, List.mem_append, List.mem_singleton]
    by_cases e : i / 64 = q / 64 / 64
    · rw [if_pos e, Nat.testBit_or, Nat.testBit_two_pow, ← e, Bool.or_eq_true, h.use i hi]
      have : (decide (q / 64 % 64 = i % 64) = true) ↔ i = q / 64 := by
        rw [decide_eq_true_iff]; omega
      rw [this]
    · rw [if_neg e, h.use i hi]
      have : i ≠ q / 64 := fun e2 => e (by rw [e2])
      simp [this]
  · rw [at64_set hlu]
    split
    · rename_i hu
      rw [List.mem_append, List.mem_singleton, h.kmem]
      split
      · rename_i e; subst e; simp [hnz]; rw [h.ul] at hlu; exact hlu
      · rename_i e; simp [e]
    · rename_i hu
      rw [h.kmem]
      split
      · rename_i e; subst e; simp [hnz, hu]
      · rfl
  · rw [List.nodup_append]
    refine ⟨h.wd, by simp, fun a ha b hb e => ?_⟩
    simp at hb; subst hb; subst e; exact hnw ha
  · split
    · rename_i hu
      rw [List.nodup_append]
      refine ⟨h.kd, by simp, fun a ha b hb e => ?_⟩
      simp at hb; subst hb; subst e; exact ((h.kmem _).1 ha).2 hu
    · exact h.kd
/-- the words anew, out of the sorted blocks -/
theorem BI.words (h : BI nw nu p od BL UL WL KL) {K2 : List Nat} (hs : Asc K2) (hm : ∀ j, j ∈ K2 ↔ j ∈ KL) : BI nw nu p true BL UL (spread (at64 UL) K2) K2 := by
  have hmem : ∀ i, i ∈ spread (at64 UL) K2 ↔ i ∈ WL := by
    intro i
    rw [mem_spread, hm, h.kmem]
    constructor
    · rintro ⟨⟨h1, h2⟩, h3⟩; exact (h.use i (by omega)).1 h3
    · intro hi
      have h1 := ((h.wmem i).1 hi).1
      have h2 := h.nu1
      have h3 := (h.use i (by omega)).2 hi
      refine ⟨⟨by omega, fun e => ?_⟩, h3⟩
      rw [e] at h3; simp at h3
  exact ⟨h.bl, h.ul, h.nu1, h.nu3, h.bb, h.ub, h.bits, fun i => by rw [hmem, h.wmem], fun i hi => by rw [hmem, h.use i hi], fun j => by rw [hm, h.kmem], asc_nodup (spread_asc hs), asc_nodup hs, fun _ => spread_asc hs⟩
theorem BI.sortedWords (h : BI nw nu p od BL UL WL KL) (hs : Asc WL) : BI nw nu p true BL UL WL KL :=
  ⟨h.bl, h.ul, h.nu1, h.nu3, h.bb, h.ub, h.bits, h.wmem, h.use, h.kmem, h.wd, h.kd, fun _ => hs⟩
/-- the members, in order -/
theorem BI.states (h : BI nw nu p od BL UL WL KL) (hs : Asc WL) : spread (at64 BL) WL = (List.range (nw * 64)).filter p := by
  apply asc_ext _ _ (spread_asc hs) (asc_range_filter _ _)
  intro q
  rw [mem_spread, h.wmem, List.mem_filter, List.mem_range]
  constructor
  · rintro ⟨⟨h1, h2⟩, h3⟩
    have hq : q < nw * 64 := by omega
    exact ⟨hq, by rw [← h.bits q hq]; exact h3⟩
  · rintro ⟨h1, h2⟩
    have h3 := h.bits q h1
    rw [h2] at h3
    refine ⟨⟨by omega, fun e => ?_⟩, h3⟩
    rw [e] at h3; simp at h3
end
theorem at64_rep (n i : Nat) : at64 (List.replicate n 0) i = 0 := by
  unfold at64
  rw [List.getElem?_replicate]
  split <;> rfl
theorem BI.empty (nw nu : Nat) (od : Bool) (hn : nw ≤ nu * 64) (h3 : nu ≤ 3) : BI nw nu (fun _ => false) od (List.replicate nw 0) (List.replicate nu 0) [] [] :=
  ⟨by simp, by simp, hn, h3, fun i => by rw [at64_rep]; omega, fun i => by rw [at64_rep]; omega, fun q _ => by rw [at64_rep]; simp, fun i => by rw [at64_rep]; simp, fun i _ => by rw [at64_rep]; simp, fun j => by rw [at64_rep]; simp, by simp, by simp, fun _ => by simp⟩
end Go.Proofs.YbulkdxbkDoor
