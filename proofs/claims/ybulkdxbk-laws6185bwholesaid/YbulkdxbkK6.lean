import Derived.Test.YbulkdxbkK5
import Derived.Lib.SliceRun
namespace Go.Proofs.Ybulkdxbk
open Go.RowKit
set_option linter.unusedVariables false

def zints (D : List Int) : List Value := D.map fun x => Value.int .i64 x
def casts (L : List Nat) : List Int := L.map fun (x : Nat) => (x : Int)
theorem zints_casts (L : List Nat) : zints (casts L) = ints L := by simp [zints, casts, ints]
theorem zints_len (D : List Int) : (zints D).length = D.length := by simp [zints]
theorem casts_len (D : List Nat) : (casts D).length = D.length := by simp [casts]
theorem zints_get {D : List Int} {i : Nat} {x : Int} (h : D[i]? = some x) : (zints D)[i]? = some (.int .i64 x) := by simp [zints, h]
theorem zints_app (D E : List Int) : zints (D ++ E) = zints D ++ zints E := by simp [zints]
theorem zints_one (L : List Int) : ∀ u ∈ zints L, u.oneCell' = true := by intro u hu; simp [zints] at hu; obtain ⟨x, _, rfl⟩ := hu; rfl
/-- whole numbers that can be read -/
def ZAt (w : World) (b o : Nat) (D : List Int) : Prop := ∀ (i : Nat) (x : Int), D[i]? = some x → w.cell? ⟨b, o + i, none⟩ = some (.int .i64 x)
theorem ZAt.of_nats {w : World} {b o : Nat} {L : List Nat} (h : NatsAt w b o L) : ZAt w b o (casts L) := fun i x hx => by
  simp [casts] at hx
  obtain ⟨y, hy, rfl⟩ := hx
  exact h i y hy
theorem add_plain (b o j : Nat) : (⟨b, o, none⟩ : Addr).add j = ⟨b, o + j, none⟩ := by unfold Addr.add; split <;> simp_all
set_option maxHeartbeats 1000000 in
theorem clone_any (w : World) (a : Option Addr) (n c b o : Nat) (D : List Int) (hn : n = D.length) (hn2 : n ≤ 65536) (ha : 0 < n → a = some ⟨b, o, none⟩) (hnil : a = none → c = 0) (hD : ZAt w b o D) :
    Calls Yba.prog 5 #[.slice a n c] w fun e w' => ∃ (vo : Option Addr) (cap : Nat), e = .returned (.slice vo n cap) ∧ w'.ownsRow w.heap.size 3 1 (.slice vo n cap) n (zints D) ∧ Fr w w' [] := by
  have q26 : ∀ (w : World) (a : Option Addr) (n c n' c' : Nat), (binOp .eql 26 (.slice a n c) (.slice none n' c')).run Yba.prog w = .ok (.bool a.isNone) w := fun w a n c n' c' => Lib.run_eql_slice_nil w _ _ a n c n' c' Yba.underlying26
  cases a with
  | none =>
    obtain rfl : n = 0 := by rcases Nat.eq_zero_or_pos n with h | h; exact h; cases ha h
    obtain rfl : D = [] := List.eq_nil_of_length_eq_zero hn.symm
    obtain rfl := hnil rfl
    clear hD ha hnil hn
    go_enter Yba.func5, Yba.ntmps5
    go_wp2_with fail
    go_ret
    exact ⟨none, 0, rfl, World.ownsRow_nil _ _ _ _, Fr.refl _ _⟩
  | some ad =>
    have ho : (w.alloc (.cells #[] 3)).ownsRow w.heap.size 3 1 (.slice (some ⟨w.heap.size, 0, none⟩) 0 0) 0 [] := ⟨rfl, .inr ⟨w.heap.size, 0, #[], rfl, Nat.le_refl _, heap_new _ _, Nat.le_refl _, Nat.zero_le _, rfl, rfl⟩⟩
    have HO : Hid ((w.alloc (.cells #[] 3)).ownsRow w.heap.size 3 1 (.slice (some ⟨w.heap.size, 0, none⟩) 0 0) 0 []) := ho
    have hsrc : 0 < n → ∃ ad', some ad = some ad' ∧ ∀ j u, (zints D)[j]? = some u → (w.alloc (.cells #[] 3)).cell? (ad'.add j) = some u := fun h => ⟨ad, rfl, fun j u hu => by
      have e := ha h
      cases e
      rw [add_plain]
      simp [zints] at hu
      obtain ⟨x, hx, rfl⟩ := hu
      exact cell_of (hD j x hx) (heap_old _ _ (cell_lt (hD j x hx)))⟩
    have HSRC : Hid (0 < n → ∃ ad', some ad = some ad' ∧ ∀ j u, (zints D)[j]? = some u → (w.alloc (.cells #[] 3)).cell? (ad'.add j) = some u) := hsrc
    have hlz : (zints D).length = n := by rw [zints_len, hn]
    clear ho hsrc hD ha hn hnil
    go_enter Yba.func5, Yba.ntmps5
    go_wp2_with (first | (at_builtin; refine wpList_app rfl _ _ rfl rfl HO.out (some ad) n c (zints D) rfl hlz HSRC.out (fun h => by cases h) (zints_one D) (by omega) (by simp) ?_; intro vo cap w' h1 h2 h3; have H1 : Hid (w'.ownsRow w.heap.size 3 1 (.slice vo (0 + n) cap) (0 + n) ([] ++ zints D)) := h1; have H2 : Hid (Fr (w.alloc (.cells #[] 3)) w' [w.heap.size]) := h2; clear h1 h2 h3))
    go_ret
    refine ⟨vo, cap, by simp, ?_, ((Fr.refl w []).alloc _).then H2.out (fun c hc => by simp at hc; subst hc; exact .inr (Nat.le_refl _))⟩
    have := H1.out
    simpa using this
set_option maxHeartbeats 1000000 in
theorem equal_any (w : World) (a1 a2 : Option Addr) (n c1 c2 b1 o1 b2 o2 : Nat) (D : List Int) (hn : n = D.length) (hn2 : n ≤ 65536) (ha1 : 0 < n → a1 = some ⟨b1, o1, none⟩) (ha2 : 0 < n → a2 = some ⟨b2, o2, none⟩) (h1 : ZAt w b1 o1 D) (h2 : ZAt w b2 o2 D) :
    Calls Yba.prog 9 #[.slice a1 n c1, .slice a2 n c2] w fun e w' => e = .returned (.bool true) ∧ ∃ q, w' = w.drewN q := by
  have H1 : Hid (ZAt w b1 o1 D) := h1
  have H2 : Hid (ZAt w b2 o2 D) := h2
  have HN : Hid (n = D.length) := hn
  have HA1 : Hid (0 < n → a1 = some ⟨b1, o1, none⟩) := ha1
  have HA2 : Hid (0 < n → a2 = some ⟨b2, o2, none⟩) := ha2
  clear h1 h2 hn ha1 ha2
  go_enter Yba.func9, Yba.ntmps9
  go_wp2_with fail
  go_loopw [13] (fun s wr => ∃ k q : Nat, k ≤ n ∧ s = .int .i64 k ∧ wr = w.drewN q) (fun s _ => n - (intOf s).toNat)
  case atStart => exact ⟨0, 0, Nat.zero_le _, rfl, rfl⟩
  case round =>
    obtain ⟨k, q, hk, rfl, rfl⟩ := hrel
    by_cases hlt : k < n
    · have hd : decide ((k : Int) < (n : Int)) = true := by simp; exact hlt
      obtain ⟨x, hx⟩ : ∃ x, D[k]? = some x := ⟨_, List.getElem?_eq_getElem (by rw [← HN.out]; exact hlt)⟩
      have y1 := H1.out k x hx
      have y2 := H2.out k x hx
      have x1 := index26 (c := c1) HA1.out hlt
      have x2 := index26 (c := c2) HA2.out hlt
      clear hx
      go_wp2_with fail
      go_quiet (fail)
      go_wp2_with fail
      go_roundw
      case rel => exact ⟨k + 1, q + nq, by omega, by go_num, by simp⟩
      case measure => simp [intOf]; omega
    · have hd : decide ((k : Int) < (n : Int)) = false := by simp; omega
      go_wp2_with fail
      go_ret
      exact ⟨rfl, _, rfl⟩
end Go.Proofs.Ybulkdxbk
