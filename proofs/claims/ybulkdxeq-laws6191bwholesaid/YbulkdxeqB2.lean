import Derived.Test.YbulkdxeqB1
namespace Go.Proofs.Ybulkdxeq
open Go.RowKit
set_option linter.unusedVariables false

theorem BytesAt.drewN {w : World} {v : Value} {s : ByteArray} (h : BytesAt w v s) (n : Nat) : BytesAt (w.drewN n) v s := h.same fun _ _ _ _ => rfl
theorem index29 {g n cap i : Nat} (hi : i < n) (w : World) :
    (Instr.indexAt 29 (.slice (some ⟨g, 0, none⟩) n cap) (.int .i64 (i : Int))).run Yba.prog w = .ok (.pointer (some ⟨g, i * 5, none⟩)) w := by
  by_cases h0 : i = 0
  · subst h0; simp [Instr.indexAt, run_underlying Yba.underlying29, asIntOf, hi, Addr.add]
  · simp [Instr.indexAt, run_underlying Yba.underlying29, asIntOf, hi, Addr.add, show ¬ i * 5 = 0 by omega]

set_option maxHeartbeats 1000000 in
theorem closure_any (w : World) (nbx kbx nb g n cap i : Nat) (kvi kv : Value) (a b : ByteArray) (hi : i < n)
    (c1 : w.cell? ⟨nbx, 0, none⟩ = some (.pointer (some ⟨nb, 0, none⟩))) (c2 : w.cell? ⟨nb, 2, none⟩ = some (.slice (some ⟨g, 0, none⟩) n cap))
    (c3 : w.cell? ⟨g, i * 5 + 1, none⟩ = some kvi) (c4 : w.cell? ⟨kbx, 0, none⟩ = some kv) (h1 : BytesAt w kvi a) (h2 : BytesAt w kv b) :
    Calls Yba.prog 14 #[.int .i64 (i : Int), .pointer (some ⟨nbx, 0, none⟩), .pointer (some ⟨kbx, 0, none⟩)] w fun e w' => e = .returned (.bool (decide (0 ≤ Lib.compareBytes a.data.toList b.data.toList))) ∧ ∃ q, w' = w.drewN q := by
  have H1 : Hid (BytesAt w kvi a) := h1
  have H2 : Hid (BytesAt w kv b) := h2
  have hx := index29 (g := g) (cap := cap) hi
  clear h1 h2
  go_enter Yba.func14, Yba.ntmps14
  go_wp2_with fail
  go_quiet ((go_at_call 15; refine Calls.quiet_of_same (bytesCompare kvi kv a b _ (H1.out.drewN _) (H2.out.drewN _))))
  go_wp2_with fail
  go_ret
  exact ⟨rfl, _, rfl⟩

/-- sort.Search, of a closure that draws at most. -/
theorem search_any (cb : Array Value) (n : Nat) (p : Nat → Bool) (w : World) (hsz : n < 4611686018427387904)
    (hf : ∀ (m i : Nat), i < n → Calls Yba.prog 14 (#[.int .i64 (i : Int)] ++ cb) (w.drewN m) fun e w' => e = .returned (.bool (p i)) ∧ ∃ q, w' = (w.drewN m).drewN q)
    (hmono : ∀ a b, a ≤ b → b < n → p a = true → p b = true) :
    Calls Yba.prog 13 #[.int .i64 (n : Int), .func (.func 14) #[] cb] w fun e w' => ∃ j q : Nat, e = .returned (.int .i64 (j : Int)) ∧ w' = w.drewN q ∧ j ≤ n ∧ (∀ t, t < j → p t = false) ∧ (∀ t, j ≤ t → t < n → p t = true) := by
  have HF : Hid (∀ (m i : Nat), i < n → Calls Yba.prog 14 (#[.int .i64 (i : Int)] ++ cb) (w.drewN m) fun e w' => e = .returned (.bool (p i)) ∧ ∃ q, w' = (w.drewN m).drewN q) := hf
  have HM : Hid (∀ a b, a ≤ b → b < n → p a = true → p b = true) := hmono
  clear hf hmono
  go_enter Yba.func13, Yba.ntmps13
  go_wp2_with fail
  go_loopw [5, 6] (fun s5 s6 wr => ∃ (lo hi q : Nat), s5 = .int .i64 lo ∧ s6 = .int .i64 hi ∧ lo ≤ hi ∧ hi ≤ n ∧ wr = w.drewN q ∧ Hid ((∀ t, t < lo → p t = false) ∧ (∀ t, hi ≤ t → t < n → p t = true))) (fun s5 s6 _ => (intOf s6).toNat - (intOf s5).toNat)
  case atStart =>
    refine ⟨0, n, 0, rfl, rfl, Nat.zero_le _, Nat.le_refl _, rfl, ?_⟩
    exact (⟨fun t ht => absurd ht (Nat.not_lt_zero _), fun t h1 h2 => by omega⟩ : (∀ t, t < 0 → p t = false) ∧ (∀ t, n ≤ t → t < n → p t = true))
  case round =>
    obtain ⟨lo, hi, q, rfl, rfl, hlh, hin, rfl, I⟩ := hrel
    by_cases hlt : lo < hi
    · have hc := HF.out q ((lo + hi) / 2) (by omega)
      rw [show (((lo + hi) / 2 : Nat) : Int) = ((lo : Int) + (hi : Int)) / 2 by omega] at hc
      cases hp : p ((lo + hi) / 2) <;> rw [hp] at hc
      · have HP : Hid (p ((lo + hi) / 2) = false) := hp
        clear hp
        go_wp2_with (go_at_call 14; refine hc.mono ?_; rintro e w' ⟨rfl, nq, rfl⟩)
        go_roundw
        case rel =>
          refine ⟨(lo + hi) / 2 + 1, hi, q + nq, by go_num, rfl, by omega, hin, by simp, ?_⟩
          refine (⟨fun t ht => ?_, I.out.2⟩ : (∀ t, t < (lo + hi) / 2 + 1 → p t = false) ∧ (∀ t, hi ≤ t → t < n → p t = true))
          cases hpt : p t with
          | false => rfl
          | true =>
            have := HM.out t ((lo + hi) / 2) (by omega) (by omega) hpt
            rw [HP.out] at this; cases this
        case measure => simp [intOf]; omega
      · have HP : Hid (p ((lo + hi) / 2) = true) := hp
        clear hp
        go_wp2_with (go_at_call 14; refine hc.mono ?_; rintro e w' ⟨rfl, nq, rfl⟩)
        go_roundw
        case rel =>
          refine ⟨lo, (lo + hi) / 2, q + nq, rfl, by go_num, by omega, by omega, by simp, ?_⟩
          exact (⟨I.out.1, fun t h1 h2 => HM.out _ t h1 h2 HP.out⟩ : (∀ t, t < lo → p t = false) ∧ (∀ t, (lo + hi) / 2 ≤ t → t < n → p t = true))
        case measure => simp [intOf]; omega
    · go_wp2_with fail
      go_ret
      have e : hi = lo := by omega
      subst e
      exact ⟨_, _, rfl, rfl, hin, I.out.1, I.out.2⟩
end Go.Proofs.Ybulkdxeq
