import Derived.Test.YbulkdxbkK2
namespace Go.Proofs.Ybulkdxbk
open Go.RowKit
set_option linter.unusedVariables false

def hasNull (NL : List (List Nat)) : Bool := NL.any fun L => decide (0 < L.length)
theorem hasNull_false {NL : List (List Nat)} (h : ∀ (q : Nat) L, NL[q]? = some L → L.length = 0) : hasNull NL = false := by
  unfold hasNull
  rw [List.any_eq_false]
  intro L hL
  obtain ⟨i, hi, rfl⟩ := List.getElem_of_mem hL
  have := h i _ (List.getElem?_eq_getElem hi)
  simp [this]
theorem hasNull_true {NL : List (List Nat)} {q : Nat} {L : List Nat} (h : NL[q]? = some L) (hl : 0 < L.length) : hasNull NL = true := by
  unfold hasNull
  rw [List.any_eq_true]
  exact ⟨L, List.mem_of_getElem? h, by simp [hl]⟩
theorem hasNull_false_iff {NL : List (List Nat)} (h : hasNull NL = false) {q : Nat} {L : List Nat} (hq : NL[q]? = some L) : L = [] := by
  rcases Nat.eq_zero_or_pos L.length with h0 | h0
  · exact List.eq_nil_of_length_eq_zero h0
  · rw [hasNull_true hq h0] at h; cases h
theorem index26c {a : Option Addr} {n c b o : Nat} (ha : 0 < n → a = some ⟨b, o, none⟩) (hk : 0 < n) (w : World) : (Instr.indexAt 26 (.slice a n c) (.int .i64 0)).run Yba.prog w = .ok (.pointer (some ⟨b, o, none⟩)) w := by
  have := index26 (a := a) (c := c) (b := b) (o := o) (k := 0) ha hk w
  simpa using this
/-- the lists that a slice of slices holds -/
def NullsAt (w : World) (nb : Nat) (NL : List (List Nat)) : Prop := ∀ (q : Nat) L, NL[q]? = some L → ∃ v, w.cell? ⟨nb, q, none⟩ = some v ∧ IsNats w v L
theorem NullsAt.get {w : World} {nb q : Nat} {NL : List (List Nat)} {L : List Nat} (h : NullsAt w nb NL) (hq : NL[q]? = some L) :
    ∃ (a : Option Addr) (c b o : Nat), w.cell? ⟨nb, q, none⟩ = some (.slice a L.length c) ∧ (0 < L.length → a = some ⟨b, o, none⟩) ∧ (a = none → c = 0) ∧ L.length ≤ c ∧ NatsAt w b o L := by
  obtain ⟨v, hc, a, c, b, o, rfl, h1, h2, h3, h4⟩ := h q L hq
  exact ⟨a, c, b, o, hc, h1, h2, h3, h4⟩

set_option maxHeartbeats 1000000 in
theorem indexFunc_any (w : World) (nb n : Nat) (NL : List (List Nat)) (hn : n ≤ 256) (hl : NL.length = n) (hll : ∀ (q : Nat) L, NL[q]? = some L → L.length ≤ 256) (hN : NullsAt w nb NL) :
    Calls Yba.prog 28 #[.slice (some ⟨nb, 0, none⟩) n n, .func (.func 23) #[] #[]] w fun e w' => ∃ r : Int, e = .returned (.int .i64 r) ∧ decide (0 ≤ r) = hasNull NL ∧ w' = w := by
  have HN : Hid (NullsAt w nb NL) := hN
  have HL : Hid (NL.length = n) := hl
  have HLL : Hid (∀ (q : Nat) L, NL[q]? = some L → L.length ≤ 256) := hll
  clear hN hl hll
  go_enter Yba.func28, Yba.ntmps28
  go_wp2_with fail
  go_loopw [8] (fun s wr => ∃ k : Nat, k ≤ n ∧ s = .int .i64 k ∧ w = wr ∧ Hid (∀ (q : Nat) L, q < k → NL[q]? = some L → L.length = 0)) (fun s _ => n - (intOf s).toNat)
  case atStart => exact ⟨0, Nat.zero_le _, rfl, rfl, (fun q L hq => absurd hq (Nat.not_lt_zero _) : ∀ (q : Nat) L, q < 0 → NL[q]? = some L → L.length = 0)⟩
  case round =>
    obtain ⟨k, hk, rfl, rfl, I⟩ := hrel
    by_cases hlt : k < n
    · have hd : decide ((k : Int) < (n : Int)) = true := by simp; exact hlt
      obtain ⟨L, hL⟩ : ∃ L, NL[k]? = some L := ⟨_, List.getElem?_eq_getElem (by rw [HL.out]; exact hlt)⟩
      obtain ⟨a, c, b, o, hc, _⟩ := HN.out.get hL
      have hx := index32 (b := nb) (c := n) hlt
      have hc23 := lenOver_any w a L.length c (by have := HLL.out k L hL; omega)
      have HLk : Hid (NL[k]? = some L) := hL
      clear hL
      by_cases h0 : 0 < L.length
      · rw [show decide (0 < L.length) = true by simp [h0]] at hc23
        have HT : Hid (hasNull NL = true) := hasNull_true HLk.out h0
        clear h0
        generalize L.length = ln at *
        go_wp2_with (go_at_call 23; refine hc23.mono ?_; rintro e w' ⟨rfl, rfl⟩)
        go_ret
        refine ⟨_, rfl, ?_, rfl⟩
        rw [HT.out]; simp
      · rw [show decide (0 < L.length) = false from decide_eq_false h0] at hc23
        have HZ : Hid (L.length = 0) := (by omega : L.length = 0)
        clear h0
        go_wp2_with (go_at_call 23; refine hc23.mono ?_; rintro e w' ⟨rfl, rfl⟩)
        go_roundw
        case rel =>
          refine ⟨k + 1, by omega, by go_num, trivial, ?_⟩
          refine (fun q L' hq hx => ?_ : ∀ (q : Nat) L, q < k + 1 → NL[q]? = some L → L.length = 0)
          by_cases hq' : q < k
          · exact I.out q L' hq' hx
          · rw [show q = k by omega, HLk.out] at hx; cases hx; exact HZ.out
        case measure => simp [intOf]; omega
    · have hd : decide ((k : Int) < (n : Int)) = false := by simp; omega
      have HF : Hid (hasNull NL = false) := hasNull_false fun q L hq => I.out q L (by have := (List.getElem?_eq_some_iff.1 hq).1; rw [HL.out] at this; omega) hq
      go_wp2_with fail
      go_ret
      exact ⟨_, rfl, by rw [HF.out]; decide, rfl⟩
theorem containsFunc_any (w : World) (nb n : Nat) (NL : List (List Nat)) (hn : n ≤ 256) (hl : NL.length = n) (hll : ∀ (q : Nat) L, NL[q]? = some L → L.length ≤ 256) (hN : NullsAt w nb NL) :
    Calls Yba.prog 22 #[.slice (some ⟨nb, 0, none⟩) n n, .func (.func 23) #[] #[]] w fun e w' => e = .returned (.bool (hasNull NL)) ∧ w' = w := by
  have hc := indexFunc_any w nb n NL hn hl hll hN
  clear hN hl hll
  go_enter Yba.func22, Yba.ntmps22
  go_wp2_with fail
  refine hc.mono ?_
  rintro e w' ⟨r, rfl, hr, rfl⟩
  go_wp2_with fail
  go_ret
  exact ⟨rfl, rfl⟩
theorem hasNullMoves_any (w : World) (ab nb n : Nat) (NL : List (List Nat)) (hn : n ≤ 256) (hl : NL.length = n) (hll : ∀ (q : Nat) L, NL[q]? = some L → L.length ≤ 256) (hN : NullsAt w nb NL) (c5 : w.cell? ⟨ab, 5, none⟩ = some (.slice (some ⟨nb, 0, none⟩) n n)) :
    Calls Yba.prog 13 #[.pointer (some ⟨ab, 0, none⟩)] w fun e w' => e = .returned (.bool (hasNull NL)) ∧ w' = w := by
  have hc := containsFunc_any w nb n NL hn hl hll hN
  clear hN hl hll
  go_enter Yba.func13, Yba.ntmps13
  go_wp2_with fail
  refine hc.mono ?_
  rintro e w' ⟨rfl, rfl⟩
  go_wp2_with fail
  go_ret
  exact ⟨rfl, rfl⟩
set_option maxHeartbeats 1000000 in
theorem leadOn_any (w : World) (ab nb n : Nat) (NL : List (List Nat)) (hn : n ≤ 256) (hl : NL.length = n) (hll : ∀ (q : Nat) L, NL[q]? = some L → L.length ≤ 256) (hto : ∀ (q : Nat) L r, NL[q]? = some L → r ∈ L → q < r) (hN : NullsAt w nb NL) (c5 : w.cell? ⟨ab, 5, none⟩ = some (.slice (some ⟨nb, 0, none⟩) n n)) :
    Calls Yba.prog 17 #[.pointer (some ⟨ab, 0, none⟩)] w fun e w' => e = .returned (.bool true) ∧ w' = w := by
  have HN : Hid (NullsAt w nb NL) := hN
  have HL : Hid (NL.length = n) := hl
  have HLL : Hid (∀ (q : Nat) L, NL[q]? = some L → L.length ≤ 256) := hll
  have HTO : Hid (∀ (q : Nat) L r, NL[q]? = some L → r ∈ L → q < r) := hto
  clear hN hl hll hto
  go_enter Yba.func17, Yba.ntmps17
  go_wp2_with fail
  go_loopw [10] (fun s wr => ∃ k : Nat, k ≤ n ∧ s = .int .i64 k ∧ w = wr) (fun s _ => n - (intOf s).toNat)
  case atStart => exact ⟨0, Nat.zero_le _, rfl, rfl⟩
  case round =>
    obtain ⟨k, hk, rfl, rfl⟩ := hrel
    by_cases hlt : k < n
    · have hd : decide ((k : Int) < (n : Int)) = true := by simp; exact hlt
      obtain ⟨L, hL⟩ : ∃ L, NL[k]? = some L := ⟨_, List.getElem?_eq_getElem (by rw [HL.out]; exact hlt)⟩
      obtain ⟨a, c, b, o, hc, h1, _, _, h4⟩ := HN.out.get hL
      have hx := index32 (b := nb) (c := n) hlt
      by_cases h0 : 0 < L.length
      · have hd2 : decide ((0 : Int) < (L.length : Int)) = true := by simp; exact h0
        have e0 : L[0]? = some L[0] := List.getElem?_eq_getElem h0
        have hc0 := h4 0 _ e0
        have hlt0 := HTO.out k L L[0] hL (List.getElem_mem h0)
        have hx2 := index26c (a := a) (c := c) (b := b) (o := o) h1 h0
        rw [Nat.add_zero] at hc0
        have hd3 : decide (((L[0] : Nat) : Int) ≤ (k : Int)) = false := by simp; omega
        clear h1 h4 hL e0
        generalize L[0] = r at *
        generalize L.length = ln at *
        go_wp2_with fail
        go_roundw
        case rel => exact ⟨k + 1, by omega, by go_num, trivial⟩
        case measure => simp [intOf]; omega
      · have hd2 : decide ((0 : Int) < (L.length : Int)) = false := decide_eq_false (by omega)
        clear h1 h4 hL
        generalize L.length = ln at *
        go_wp2_with fail
        go_roundw
        case rel => exact ⟨k + 1, by omega, by go_num, trivial⟩
        case measure => simp [intOf]; omega
    · have hd : decide ((k : Int) < (n : Int)) = false := by simp; omega
      go_wp2_with fail
      go_ret
      exact ⟨rfl, rfl⟩
end Go.Proofs.Ybulkdxbk
