import Derived.Test.YbulkdxbkK4
namespace Go.Proofs.Ybulkdxbk
open Go.RowKit
set_option linter.unusedVariables false

def onSym (x : Nat) (L : List (Nat × Nat)) : List (Nat × Nat) := L.filter fun m => m.1 == x
theorem mid_filter {x i j : Nat} {L : List (Nat × Nat)} (hij : i ≤ j) (hj : j ≤ L.length) (h1 : ∀ (t : Nat) m, t < i → L[t]? = some m → m.1 < x) (h2 : ∀ (t : Nat) m, i ≤ t → t < j → L[t]? = some m → m.1 = x) (h3 : ∀ (t : Nat) m, j ≤ t → L[t]? = some m → x < m.1) :
    onSym x L = (L.drop i).take (j - i) := by
  have e : L = L.take i ++ ((L.drop i).take (j - i) ++ L.drop j) := by
    conv => lhs; rw [← List.take_append_drop i L]
    congr 1
    conv => lhs; rw [← List.take_append_drop (j - i) (L.drop i)]
    rw [List.drop_drop, show i + (j - i) = j by omega]
  have f1 : (L.take i).filter (fun m => m.1 == x) = [] := by
    rw [List.filter_eq_nil_iff]
    intro m hm
    obtain ⟨t, ht, rfl⟩ := List.getElem_of_mem hm
    have ht' : t < i := by rw [List.length_take] at ht; omega
    have e2 : (L.take i)[t]? = some (L.take i)[t] := List.getElem?_eq_getElem ht
    rw [List.getElem?_take_of_lt ht'] at e2
    have := h1 t _ ht' e2
    intro hc; have := eq_of_beq hc; omega
  have f2 : ((L.drop i).take (j - i)).filter (fun m => m.1 == x) = (L.drop i).take (j - i) := by
    rw [List.filter_eq_self]
    intro m hm
    obtain ⟨t, ht, rfl⟩ := List.getElem_of_mem hm
    have ht' : t < j - i := by rw [List.length_take] at ht; omega
    have e2 : ((L.drop i).take (j - i))[t]? = some ((L.drop i).take (j - i))[t] := List.getElem?_eq_getElem ht
    rw [List.getElem?_take_of_lt ht', List.getElem?_drop] at e2
    have := h2 (i + t) _ (by omega) (by omega) e2
    rw [this]; simp
  have f3 : (L.drop j).filter (fun m => m.1 == x) = [] := by
    rw [List.filter_eq_nil_iff]
    intro m hm
    obtain ⟨t, ht, rfl⟩ := List.getElem_of_mem hm
    have e2 : (L.drop j)[t]? = some (L.drop j)[t] := List.getElem?_eq_getElem ht
    rw [List.getElem?_drop] at e2
    have := h3 (j + t) _ (by omega) e2
    intro hc; have := eq_of_beq hc; omega
  unfold onSym
  conv => lhs; rw [e]
  rw [List.filter_append, List.filter_append, f1, f2, f3]; simp
theorem sorted_le {L : List (Nat × Nat)} (h : L.Pairwise (fun a b => a.1 < b.1 ∨ (a.1 = b.1 ∧ a.2 < b.2))) {s t : Nat} {m m' : Nat × Nat} (hst : s ≤ t) (hs : L[s]? = some m) (ht : L[t]? = some m') : m.1 ≤ m'.1 := by
  obtain ⟨h1, rfl⟩ := List.getElem?_eq_some_iff.1 hs
  obtain ⟨h2, rfl⟩ := List.getElem?_eq_some_iff.1 ht
  rcases Nat.lt_or_ge s t with hlt | hge
  · rcases (List.pairwise_iff_getElem.1 h) s t h1 h2 hlt with h | h <;> omega
  · obtain rfl : s = t := by omega
    exact Nat.le_refl _
theorem slice_moves {wA : World} {a : Option Addr} {c b o i j : Nat} {L : List (Nat × Nat)} {a' : Option Addr} (h1 : 0 < j - i → a' = some ⟨b, o + i * 2, none⟩) (h2 : a' = none → c - i = 0) (hij : i ≤ j) (hj : j ≤ L.length) (hc : L.length ≤ c) (hM : MovesAt wA b o L) :
    IsMoves wA (.slice a' (j - i) (c - i)) ((L.drop i).take (j - i)) := by
  have e : ((L.drop i).take (j - i)).length = j - i := by simp; omega
  refine ⟨a', c - i, b, o + i * 2, by rw [e], by rw [e]; exact h1, h2, by rw [e]; omega, fun t m hm => ?_⟩
  have ht : t < j - i := by have := (List.getElem?_eq_some_iff.1 hm).1; omega
  rw [List.getElem?_take_of_lt ht, List.getElem?_drop] at hm
  have := hM (i + t) m hm
  rw [show o + (i + t) * 2 = o + i * 2 + t * 2 by omega] at this
  exact this

set_option maxHeartbeats 2000000 in
theorem movesOn_any (wA w : World) (v : Value) (x : Nat) (L : List (Nat × Nat)) (hx : x ≤ 65536) (hlen : L.length ≤ 1024) (hs : L.Pairwise (fun a b => a.1 < b.1 ∨ (a.1 = b.1 ∧ a.2 < b.2))) (hM : IsMoves wA v L) (hw : ∀ c, c < wA.heap.size → w.heap[c]? = wA.heap[c]?) :
    Calls Yba.prog 25 #[v, .int .i64 (x : Int)] w fun e w' => ∃ v', e = .returned v' ∧ IsMoves wA v' (onSym x L) ∧ w' = w := by
  obtain ⟨a, c, b, o, rfl, h1, h2, h3, h4⟩ := hM
  obtain ⟨n, hn⟩ : ∃ n, n = L.length := ⟨_, rfl⟩
  rw [← hn] at h1 hlen h3 ⊢
  have HN : Hid (n = L.length) := hn
  have HS : Hid (L.Pairwise (fun a b => a.1 < b.1 ∨ (a.1 = b.1 ∧ a.2 < b.2))) := hs
  have H1 : Hid (0 < n → a = some ⟨b, o, none⟩) := h1
  have H2 : Hid (a = none → c = 0) := h2
  have H3 : Hid (n ≤ c) := h3
  have H4 : Hid (MovesAt wA b o L) := h4
  have HC : Hid (∀ (i : Nat) m, L[i]? = some m → w.cell? ⟨b, o + i * 2, none⟩ = some (.int .i64 (m.1 : Int))) := fun i m hm => cell_of (h4 i m hm).1 (hw b (cell_lt (h4 i m hm).1))
  have HG : Hid (∀ i, i < n → ∃ m, L[i]? = some m) := fun i hi => ⟨_, List.getElem?_eq_getElem (by rw [← hn]; exact hi)⟩
  clear hs h1 h2 h3 h4 hw hn
  by_cases hone : n = 1
  · subst hone
    obtain ⟨m, hm⟩ := HG.out 0 (by omega)
    have hc := HC.out 0 m hm
    have hi := index54 (a := a) (c := c) (k := 0) H1.out (by omega)
    simp only [Int.ofNat_zero, Nat.zero_mul, Nat.add_zero] at hc hi
    have hL : L = [m] := by
      have := HN.out
      match L, this with
      | [y], _ => simp at hm; rw [hm]
    by_cases hx2 : m.1 = x
    · have hd : (((m.1 : Nat) : Int) == (x : Int)) = true := by simp [hx2]
      have hd' : ((m.1 : Nat) : Int) = (x : Int) := by omega
      go_enter Yba.func25, Yba.ntmps25
      go_wp2_with fail
      go_ret
      refine ⟨.slice a 1 c, rfl, ?_, rfl⟩
      have e : onSym x L = L := by rw [hL]; simp [onSym, hx2]
      rw [e]
      exact ⟨a, c, b, o, by rw [← HN.out], by rw [← HN.out]; exact H1.out, H2.out, by rw [← HN.out]; exact H3.out, H4.out⟩
    · have hd : (((m.1 : Nat) : Int) == (x : Int)) = false := by simp; omega
      have hd' : ¬ (((m.1 : Nat) : Int) = (x : Int)) := by omega
      go_enter Yba.func25, Yba.ntmps25
      go_wp2_with fail
      go_ret
      refine ⟨_, rfl, ?_, rfl⟩
      have e : onSym x L = [] := by rw [hL]; simp [onSym, hx2]
      rw [e]
      exact ⟨none, 0, 0, 0, rfl, fun h => by simp at h, fun _ => rfl, Nat.le_refl _, MovesAt.nil _ _ _⟩
  · have hne : ¬ ((n : Int) = 1) := by omega
    go_enter Yba.func25, Yba.ntmps25
    go_wp2_with fail
    go_loopw [5, 6] (fun s5 s6 wr => ∃ (lo hi : Nat), s5 = .int .i64 lo ∧ s6 = .int .i64 hi ∧ lo ≤ hi ∧ hi ≤ n ∧ w = wr ∧ Hid ((∀ (t : Nat) m, t < lo → L[t]? = some m → m.1 < x) ∧ (∀ (t : Nat) m, hi ≤ t → L[t]? = some m → x ≤ m.1))) (fun s5 s6 _ => (intOf s6).toNat - (intOf s5).toNat)
    case atStart =>
      refine ⟨0, n, rfl, rfl, Nat.zero_le _, Nat.le_refl _, rfl, ?_⟩
      exact (⟨fun t m ht => absurd ht (Nat.not_lt_zero _), fun t m h1 h2 => by have := (List.getElem?_eq_some_iff.1 h2).1; rw [← HN.out] at this; omega⟩ : (∀ (t : Nat) m, t < 0 → L[t]? = some m → m.1 < x) ∧ (∀ (t : Nat) m, n ≤ t → L[t]? = some m → x ≤ m.1))
    case round =>
      obtain ⟨lo, hi, rfl, rfl, hlh, hin, rfl, I⟩ := hrel
      by_cases hlt : lo < hi
      · obtain ⟨m, hm⟩ := HG.out ((lo + hi) / 2) (by omega)
        have hc := HC.out _ m hm
        have hi' := index54 (a := a) (c := c) (k := (lo + hi) / 2) H1.out (by omega)
        rw [show (((lo + hi) / 2 : Nat) : Int) = ((lo : Int) + (hi : Int)) / 2 by omega] at hi'
        have HM : Hid (L[(lo + hi) / 2]? = some m) := hm
        clear hm
        by_cases hmx : m.1 < x
        · have hd : decide (((m.1 : Nat) : Int) < (x : Int)) = true := by simp; exact hmx
          go_wp2_with fail
          go_roundw
          case rel =>
            refine ⟨(lo + hi) / 2 + 1, hi, by go_num, rfl, by omega, hin, trivial, ?_⟩
            refine (⟨fun t m' ht hm' => ?_, I.out.2⟩ : (∀ (t : Nat) m, t < (lo + hi) / 2 + 1 → L[t]? = some m → m.1 < x) ∧ (∀ (t : Nat) m, hi ≤ t → L[t]? = some m → x ≤ m.1))
            have := sorted_le HS.out (s := t) (t := (lo + hi) / 2) (by omega) hm' HM.out
            omega
          case measure => simp [intOf]; omega
        · have hd : decide (((m.1 : Nat) : Int) < (x : Int)) = false := by simp; omega
          go_wp2_with fail
          go_roundw
          case rel =>
            refine ⟨lo, (lo + hi) / 2, rfl, by go_num, by omega, by omega, trivial, ?_⟩
            refine (⟨I.out.1, fun t m' ht hm' => ?_⟩ : (∀ (t : Nat) m, t < lo → L[t]? = some m → m.1 < x) ∧ (∀ (t : Nat) m, (lo + hi) / 2 ≤ t → L[t]? = some m → x ≤ m.1))
            have := sorted_le HS.out ht HM.out hm'
            omega
          case measure => simp [intOf]; omega
      · have hd : decide ((lo : Int) < (hi : Int)) = false := by simp; omega
        obtain rfl : lo = hi := by omega
        go_wp2_with fail
        go_loopw [6] (fun s6 wr => ∃ (j : Nat), s6 = .int .i64 j ∧ lo ≤ j ∧ j ≤ n ∧ w = wr ∧ Hid (∀ (t : Nat) m, lo ≤ t → t < j → L[t]? = some m → m.1 = x)) (fun s6 _ => n - (intOf s6).toNat)
        case atStart =>
          exact ⟨lo, rfl, Nat.le_refl _, hin, rfl, (fun t m h1 h2 => by omega : ∀ (t : Nat) m, lo ≤ t → t < lo → L[t]? = some m → m.1 = x)⟩
        case round =>
          obtain ⟨j, rfl, hlj, hjn, rfl, J⟩ := hrel
          by_cases hjl : j < n
          · have hd1 : decide ((j : Int) < (n : Int)) = true := by simp; exact hjl
            obtain ⟨m, hm⟩ := HG.out j hjl
            have hc := HC.out _ m hm
            have hi' := index54 (a := a) (c := c) H1.out hjl
            have HM : Hid (L[j]? = some m) := hm
            clear hm
            by_cases hmx : m.1 = x
            · have hd2 : (((m.1 : Nat) : Int) == (x : Int)) = true := by simp [hmx]
              have hd2' : ((m.1 : Nat) : Int) = (x : Int) := by omega
              have HX : Hid (m.1 = x) := hmx
              clear hmx
              go_wp2_with fail
              go_roundw
              case rel =>
                refine ⟨j + 1, by go_num, by omega, by omega, trivial, ?_⟩
                refine (fun t m' h1 h2 h3 => ?_ : ∀ (t : Nat) m, lo ≤ t → t < j + 1 → L[t]? = some m → m.1 = x)
                by_cases e : t < j
                · exact J.out t m' h1 e h3
                · rw [show t = j by omega, HM.out] at h3; cases h3; exact HX.out
              case measure => simp [intOf]; omega
            · have hd2 : (((m.1 : Nat) : Int) == (x : Int)) = false := by simp; omega
              have hd2' : ¬ (((m.1 : Nat) : Int) = (x : Int)) := by omega
              obtain ⟨a', s1, s2, s3⟩ := slice54 (i := lo) (j := j) H1.out (fun h => by have := H2.out h; have := H3.out; exact ⟨by omega, by omega⟩) hlj hjn H3.out
              have HR : Hid (IsMoves wA (.slice a' (j - lo) (c - lo)) (onSym x L)) := by
                have h5 := mid_filter (L := L) hlj (by rw [← HN.out]; exact hjn) I.out.1 J.out (fun t m' ht hm' => by
                  have h6 := sorted_le HS.out ht HM.out hm'
                  have h7 := I.out.2 j m hlj HM.out
                  omega)
                rw [h5]
                exact slice_moves (a := a) s1 s2 hlj (by rw [← HN.out]; exact hjn) (by rw [← HN.out]; exact H3.out) H4.out
              clear s1 s2
              go_wp2_with fail
              go_ret
              exact ⟨_, rfl, HR.out, rfl⟩
          · have hd1 : decide ((j : Int) < (n : Int)) = false := by simp; omega
            obtain ⟨a', s1, s2, s3⟩ := slice54 (i := lo) (j := j) H1.out (fun h => by have := H2.out h; have := H3.out; exact ⟨by omega, by omega⟩) hlj hjn H3.out
            have HR : Hid (IsMoves wA (.slice a' (j - lo) (c - lo)) (onSym x L)) := by
              have h5 := mid_filter (L := L) hlj (by rw [← HN.out]; exact hjn) I.out.1 J.out (fun t m' ht hm' => by
                have h6 := (List.getElem?_eq_some_iff.1 hm').1
                rw [← HN.out] at h6; omega)
              rw [h5]
              exact slice_moves (a := a) s1 s2 hlj (by rw [← HN.out]; exact hjn) (by rw [← HN.out]; exact H3.out) H4.out
            clear s1 s2
            go_wp2_with fail
            go_ret
            exact ⟨_, rfl, HR.out, rfl⟩
end Go.Proofs.Ybulkdxbk
