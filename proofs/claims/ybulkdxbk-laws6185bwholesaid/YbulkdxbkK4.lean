import Derived.Test.YbulkdxbkK3
namespace Go.Proofs.Ybulkdxbk
open Go.RowKit
set_option linter.unusedVariables false

theorem count_step (k m : Nat) (h : k < m) : (ints (List.range k) ++ List.replicate (m - k) (Value.int .i64 0)).set k (.int .i64 (k : Int)) = ints (List.range (k + 1)) ++ List.replicate (m - (k + 1)) (Value.int .i64 0) := by
  obtain ⟨r, hr⟩ : ∃ r, m - k = r + 1 := ⟨m - k - 1, by omega⟩
  have e : (ints (List.range k)).length = k := by simp [ints]
  rw [List.set_append_right _ _ (by omega), e, Nat.sub_self, hr, List.replicate_succ, List.set_cons_zero, show m - (k + 1) = r by omega, List.range_succ, ints_app]
  simp [ints]
set_option maxHeartbeats 1000000 in
theorem countTo_any (w : World) (m : Nat) (hm : m ≤ 257) :
    Calls Yba.prog 18 #[.int .i64 (m : Int)] w fun e w' => e = .returned (.slice (some ⟨w.heap.size, 0, none⟩) m m) ∧ w'.ownsRow w.heap.size 3 1 (.slice (some ⟨w.heap.size, 0, none⟩) m m) m (ints (List.range m)) ∧ Fr w w' [] := by
  obtain ⟨i3, hi3, hz03, hz13, hz23⟩ := info_parts info3
  have mk1 : i3.bytes * m ≤ 281474976710656 := by rw [hz23]; omega
  have mk2 : m ≤ maxLen := by unfold maxLen; omega
  go_enter Yba.func18, Yba.ntmps18
  go_wp2_with (first | (at_make; refine wpList_make_full _ rfl _ _ 26 rfl w.heap.size 3 i3 (.int .i64 0) 1 Yba.underlying26 hi3 hz03 hz13 .i64 .i64 _ _ m rfl rfl rfl rfl mk1 mk2 (Nat.le_refl _) ?_; intro W4 hown4 hgrow4; have HOWN4 : Hid (W4.ownsRow w.heap.size 3 1 (.slice (some ⟨w.heap.size, 0, none⟩) m m) m (madeCells (Value.int .i64 0).cells (m * 1)).toList) := hown4; have HGROW4 : Hid (w.grownBy W4 none) := hgrow4; clear hown4 hgrow4))
  go_loopw [9] (fun s wr => ∃ k : Nat, k ≤ m ∧ s = .int .i64 k ∧ wr.ownsRow w.heap.size 3 1 (.slice (some ⟨w.heap.size, 0, none⟩) m m) m (ints (List.range k) ++ List.replicate (m - k) (.int .i64 0)) ∧ Fr w wr []) (fun s _ => m - (intOf s).toNat)
  case atStart =>
    refine ⟨0, Nat.zero_le _, rfl, ?_, (Fr.refl w []).grown HGROW4.out (fun b hb => by cases hb)⟩
    have := HOWN4.out
    rw [made_one (.int .i64 0) rfl] at this
    exact this
  case round =>
    clear HOWN4 HGROW4
    obtain ⟨k, hk, rfl, hown, hfr⟩ := hrel
    rename World => wr
    have HO : Hid (wr.ownsRow w.heap.size 3 1 (.slice (some ⟨w.heap.size, 0, none⟩) m m) m (ints (List.range k) ++ List.replicate (m - k) (.int .i64 0))) := hown
    have HF : Hid (Fr w wr []) := hfr
    by_cases hlt : k < m
    · have hd : decide ((k : Int) < (m : Int)) = true := by simp; exact hlt
      have hx := index26z (b := w.heap.size) (c := m) hlt
      have hc : wr.cell? ⟨w.heap.size, k, none⟩ = some (.int .i64 0) := own_cell hown (by rw [List.getElem?_append_right (by simp [ints]), List.getElem?_replicate, if_pos (by simp [ints]; omega)])
      have hz := own_frozen hown k
      clear hown hfr
      go_wp2_with fail
      go_roundw
      case rel =>
        refine ⟨k + 1, by omega, by go_num, ?_, ?_⟩
        · have := own_set HO.out k (.int .i64 (k : Int))
          rw [count_step k m hlt] at this
          exact this
        · exact HF.out.set (.inr (Nat.le_refl _)) _ _
      case measure => simp [intOf]; omega
    · have hd : decide ((k : Int) < (m : Int)) = false := by simp; omega
      obtain rfl : k = m := by omega
      clear hown hfr
      go_wp2_with fail
      go_ret
      refine ⟨rfl, ?_, HF.out⟩
      have := HO.out
      simpa using this

theorem sliceMem {b n k : Nat} (hk : k < n) (w : World) : (Instr.sliceAt 26 (.slice (some ⟨b, 0, none⟩) n (n + 1)) (some (.int .i64 (k : Int))) (some (.int .i64 ((k : Int) + 1))) none).run Yba.prog w = .ok (.slice (some ⟨b, k, none⟩) 1 (n + 1 - k)) w := by
  obtain ⟨a', h1, _, h3⟩ := slice26 (a := some ⟨b, 0, none⟩) (n := n) (c := n + 1) (b := b) (o := 0) (i := k) (j := k + 1) (fun _ => rfl) (fun h => by cases h) (by omega) (by omega) (by omega)
  have h4 := h1 (by omega)
  subst h4
  have := h3 w
  rw [show k + 1 - k = 1 by omega, Nat.zero_add, show ((k + 1 : Nat) : Int) = (k : Int) + 1 by omega] at this
  exact this
theorem members_any (w : World) (gb n k : Nat) (NL : List (List Nat)) (hn : n ≤ 256) (hk : k < n) (hC : Cond w gb n NL) :
    Calls Yba.prog 20 #[.pointer (some ⟨gb, 0, none⟩), .int .i64 (k : Int)] w fun e w' => ∃ b q, e = .returned (.slice (some ⟨b, k, none⟩) 1 (n + 1 - k)) ∧ w' = w.drewN q ∧ w.cell? ⟨b, k, none⟩ = some (.int .i64 (k : Int)) := by
  obtain ⟨cb, so, sc, sb, fb, fc, h1, h2, h3, h4, h5, h6, h7⟩ := hC
  have c1 : w.cell? ⟨gb, 1, none⟩ = some (.slice (some ⟨cb, 0, none⟩) n (n + 1)) := by simp [World.cell?, h1]
  have c2 : w.cell? ⟨gb, 2, none⟩ = some (.slice (some ⟨cb, 0, none⟩) (n + 1) (n + 1)) := by simp [World.cell?, h1]
  have d1 : w.cell? ⟨cb, k, none⟩ = some (.int .i64 (k : Int)) := by have := h2 k k (by rw [List.getElem?_range (by omega)]); simpa using this
  have d2 : w.cell? ⟨cb, k + 1, none⟩ = some (.int .i64 ((k : Int) + 1)) := by have := h2 (k + 1) (k + 1) (by rw [List.getElem?_range (by omega)]); simpa using this
  have x1 := index26z (b := cb) (c := n + 1) (show k < n + 1 by omega)
  have x2 := index26z (b := cb) (c := n + 1) (show k + 1 < n + 1 by omega)
  rw [show ((k + 1 : Nat) : Int) = (k : Int) + 1 by omega] at x2
  have x3 := sliceMem (b := cb) hk
  have D1 : Hid (w.cell? ⟨cb, k, none⟩ = some (.int .i64 (k : Int))) := d1
  clear h1 h2 h3 h4 h5 h6 h7
  go_enter Yba.func20, Yba.ntmps20
  go_wp2_with fail
  go_quiet (fail)
  go_wp2_with fail
  go_ret
  exact ⟨_, _, rfl, rfl, D1.out⟩
theorem succ_any (wC w : World) (gb n k : Nat) (NL : List (List Nat)) (L : List Nat) (hn : n ≤ 256) (hk : k < n) (hC : Cond wC gb n NL) (hw : ∀ c, c < wC.heap.size → w.heap[c]? = wC.heap[c]?) (hL : NL[k]? = some L) (hb : NL.flatten.length ≤ 65536) :
    Calls Yba.prog 30 #[.pointer (some ⟨gb, 0, none⟩), .int .i64 (k : Int)] w fun e w' => ∃ (a : Option Addr) (c b o q : Nat), e = .returned (.slice a L.length c) ∧ (0 < L.length → a = some ⟨b, o, none⟩) ∧ NatsAt wC b o L ∧ w' = w.drewN q := by
  obtain ⟨cb, so, sc, sb, fb, fc, h1, h2, h3, h4, h5, h6, h7⟩ := hC
  have g1 : w.heap[gb]? = _ := (hw gb (blk_lt h1)).trans h1
  have c1 : w.cell? ⟨gb, 3, none⟩ = some (.slice so NL.flatten.length sc) := by simp [World.cell?, g1]
  have c2 : w.cell? ⟨gb, 4, none⟩ = some (.slice (some ⟨fb, 0, none⟩) (n + 1) fc) := by simp [World.cell?, g1]
  have d1 : w.cell? ⟨fb, k, none⟩ = some (.int .i64 (pre NL k : Int)) := cell_of (h7 k (by omega)) (hw _ (cell_lt (h7 k (by omega))))
  have d2 : w.cell? ⟨fb, k + 1, none⟩ = some (.int .i64 (pre NL (k + 1) : Int)) := cell_of (h7 (k + 1) (by omega)) (hw _ (cell_lt (h7 (k + 1) (by omega))))
  have x1 := index26z (b := fb) (c := fc) (show k < n + 1 by omega)
  have x2 := index26z (b := fb) (c := fc) (show k + 1 < n + 1 by omega)
  rw [show ((k + 1 : Nat) : Int) = (k : Int) + 1 by omega] at x2
  have p1 := pre_succ hL
  have p2 := pre_le (NL := NL) (k + 1)
  obtain ⟨a', e1, e2, x3⟩ := slice26 (a := so) (n := NL.flatten.length) (c := sc) (b := sb) (o := 0) (i := pre NL k) (j := pre NL (k + 1)) h3 (fun h => by have := h4 h; exact ⟨by omega, this⟩) (by omega) p2 h5
  have HR : Hid ((0 < L.length → a' = some ⟨sb, pre NL k, none⟩) ∧ NatsAt wC sb (pre NL k) L) := ⟨fun h => by rw [e1 (by omega), Nat.zero_add], fun i x hx => by
    have := h6 (pre NL k + i) x (pre_get hL hx)
    rwa [Nat.zero_add] at this⟩
  have hlen : pre NL (k + 1) - pre NL k = L.length := by omega
  rw [hlen] at x3
  clear h1 h2 h3 h4 h5 h6 h7 g1 e1 e2 p1 p2 hlen
  generalize pre NL k = pk at *
  generalize pre NL (k + 1) = pk1 at *
  generalize NL.flatten.length = fl at *
  go_enter Yba.func30, Yba.ntmps30
  go_wp2_with fail
  go_quiet (fail)
  go_wp2_with fail
  go_ret
  exact ⟨_, _, _, _, _, rfl, HR.out.1, HR.out.2, rfl⟩
end Go.Proofs.Ybulkdxbk
