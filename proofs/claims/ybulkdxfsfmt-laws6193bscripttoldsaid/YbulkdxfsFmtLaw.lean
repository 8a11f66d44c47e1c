import Derived.Test.YbulkdxfsFmtPlain
import Derived.Deep.RegionWith
namespace Go.Proofs.YbulkdxfsFmt
open Go.RowKit Go.MuLone
set_option linter.unusedVariables false

theorem addr_any (x : Int) (a : Nat) (h : x.tmod 2 = (a : Int)) (ha : a < 2) (w : World) : Calls Ybaf.prog 4 #[.int .u8 x] w fun e w' => e = .returned (.string (aOf a)) ∧ w' = w := by
  have : a = 0 ∨ a = 1 := by omega
  rcases this with rfl | rfl
  · go_enter Ybaf.func4, Ybaf.ntmps4
    go_wp2_with fail
    go_ret
    exact ⟨rfl, rfl⟩
  · go_enter Ybaf.func4, Ybaf.ntmps4
    go_wp2_with fail
    go_ret
    exact ⟨rfl, rfl⟩
theorem id_any (x : Int) (a : Nat) (h : x.tmod 3 = (a : Int)) (ha : a < 3) : ∃ s, ∀ w : World, Calls Ybaf.prog 7 #[.int .u8 x] w fun e w' => e = .returned (.string s) ∧ w' = w := by
  have : a = 0 ∨ a = 1 ∨ a = 2 := by omega
  rcases this with rfl | rfl | rfl
  · refine ⟨⟨#[114, 49]⟩, fun w => ?_⟩
    go_enter Ybaf.func7, Ybaf.ntmps7
    go_wp2_with fail
    go_ret
    exact ⟨rfl, rfl⟩
  · refine ⟨⟨#[114, 50]⟩, fun w => ?_⟩
    go_enter Ybaf.func7, Ybaf.ntmps7
    go_wp2_with fail
    go_ret
    exact ⟨rfl, rfl⟩
  · refine ⟨⟨#[114, 51]⟩, fun w => ?_⟩
    go_enter Ybaf.func7, Ybaf.ntmps7
    go_wp2_with fail
    go_ret
    exact ⟨rfl, rfl⟩

structure Op5 where
  (o c i a d : Int)
def u8ok (x : Int) : Prop := 0 ≤ x ∧ x ≤ 255
/-- the script's row -/
def RowOp (w : World) (eb eo : Nat) (E : List Op5) : Prop := ∀ k e, E[k]? = some e →
  (w.cell? ⟨eb, eo + k * 5, none⟩ = some (.int .u8 e.o) ∧ w.cell? ⟨eb, eo + k * 5 + 1, none⟩ = some (.int .u8 e.c) ∧
  w.cell? ⟨eb, eo + k * 5 + 2, none⟩ = some (.int .u8 e.i) ∧ w.cell? ⟨eb, eo + k * 5 + 3, none⟩ = some (.int .u8 e.a) ∧ w.cell? ⟨eb, eo + k * 5 + 4, none⟩ = some (.int .u8 e.d)) ∧
  u8ok e.o ∧ u8ok e.c ∧ u8ok e.i ∧ u8ok e.a ∧ u8ok e.d
theorem index22 {a : Option Addr} {n c eb eo k : Nat} (ha : 0 < n → a = some ⟨eb, eo, none⟩) (hk : k < n) (w : World) :
    (Instr.indexAt 22 (.slice a n c) (.int .i64 (k : Int))).run Ybaf.prog w = .ok (.pointer (some ⟨eb, eo + k * 5, none⟩)) w := by
  rw [ha (by omega)]
  by_cases h0 : k = 0
  · subst h0; simp [Instr.indexAt, run_underlying Ybaf.underlying22, asIntOf, hk, Addr.add]
  · simp [Instr.indexAt, run_underlying Ybaf.underlying22, asIntOf, hk, Addr.add, show ¬ k * 5 = 0 by omega]
theorem mod_nat {x : Int} (h : u8ok x) (m : Nat) (hm : 0 < m) : ∃ c : Nat, c < m ∧ x.tmod m = (c : Int) := by
  have h0 : (0 : Int) ≤ x := h.1
  have e : x.tmod m = x % m := Int.tmod_eq_emod_of_nonneg h0
  have l0 := Int.emod_nonneg x (b := (m : Int)) (by omega)
  have l1 := Int.emod_lt_of_pos x (b := (m : Int)) (by omega)
  exact ⟨(x % m).toNat, by omega, by rw [e]; omega⟩

theorem keyOf_mix {c i a : Nat} (hc : c < 3) (hi : i < 2) (ha : a < 2) : keyOf (c * 4 + i * 2 + a) = ((c : Int), (i : Int), aOf a) := by
  have h1 : (c * 4 + i * 2 + a) / 4 = c := by omega
  have h2 : (c * 4 + i * 2 + a) % 4 / 2 = i := by omega
  have h3 : (c * 4 + i * 2 + a) % 2 = a % 2 := by omega
  simp only [keyOf, aOf, h1, h2, h3]
theorem index36 {b j : Nat} {x : Int} (hx : x = (j : Int)) (hj : j < 12) (w : World) :
    (Instr.indexAt 36 (.pointer (some ⟨b, 0, none⟩)) (.int .i64 x)).run Ybaf.prog w = .ok (.pointer (some ⟨b, j, none⟩)) w := by
  subst hx
  simp [Instr.indexAt, Instr.sureAddr, run_underlying Ybaf.underlying36, asIntOf, Addr.add, hj]
  exact fun h => h.symm
abbrev obox (e : Op5) : Obj := .cells #[.int .u8 e.o, .int .u8 e.c, .int .u8 e.i, .int .u8 e.a, .int .u8 e.d] 38

set_option maxRecDepth 100000 in
set_option maxHeartbeats 4000000 in
theorem law (a1 : Option Addr) (n1 cp1 : Nat) (E : List Op5) (eb eo : Nat) (w : World)
    (hn1 : n1 ≤ 1048576) (hE : E.length = n1) (ha1 : 0 < n1 → a1 = some ⟨eb, eo, none⟩)
    (hb1 : 0 < n1 → eb < w.heap.size) (hr1 : RowOp w eb eo E) :
    Calls Ybaf.prog 3 #[.slice a1 n1 cp1] w fun e w' => e = .returned (.bool true) ∧ Below w.heap.size w w' := by
  have hn1' : (n1 : Int) ≤ 1048576 := by omega
  have hd1 : decide ((1048576 : Int) < (n1 : Int)) = false := by simp; omega
  have HE : Hid (E.length = n1) := hE
  have HA1 : Hid (0 < n1 → a1 = some ⟨eb, eo, none⟩) := ha1
  have HB1 : Hid (0 < n1 → eb < w.heap.size) := hb1
  have HR1 : Hid (RowOp w eb eo E) := hr1
  clear hE ha1 hb1 hr1
  go_enter Ybaf.func3, Ybaf.ntmps3
  go_wp2_with fail
  go_loopw [22] (fun i wr => ∃ (k : Nat) (M : List Bool), k ≤ n1 ∧ i = .int .i64 k ∧ Ls w wr w.heap.size (w.heap.size + 1) M) (fun i _ => n1 - (intOf i).toNat)
  case atStart =>
    refine ⟨0, List.replicate 12 false, Nat.zero_le _, rfl, ⟨⟨none, none, .map none, [], [], [], ⟨(blk_alloc (by simp) _).trans (heap_new_at rfl _), Nat.le_refl _, .inl ⟨rfl, rfl⟩, .inl ⟨rfl, rfl⟩, .inl ⟨rfl, rfl⟩, ?_, (fun p hp => by cases hp), (fun p hp => by cases hp), ?_⟩, Iff.rfl, lk_nil⟩, heap_new_at (by simp) _, by omega, by omega⟩⟩
    · simp [apart]
    · exact ((Below.refl _ _).alloc (Nat.le_refl _) _).alloc (by simp) _
  case round =>
    obtain ⟨k, M, hk, rfl, hls⟩ := hrel
    have HL : Hid (Ls w wr w.heap.size (w.heap.size + 1) M) := hls
    have hlen : M.length = 12 := by obtain ⟨_, _, _, _, _, _, _, _, h3⟩ := hls.sv; exact h3.len
    have hzr : w.heap.size + 1 < wr.heap.size := blk_lt hls.mrk
    have hbel : Below w.heap.size w wr := by obtain ⟨_, _, _, _, _, _, h, _, _⟩ := hls.sv; exact h.bel
    have HM : Hid (M.length = 12) := hlen
    by_cases hlt : k < n1
    · obtain ⟨e, he⟩ : ∃ e, E[k]? = some e := ⟨_, List.getElem?_eq_getElem (by rw [HE.out]; exact hlt)⟩
      obtain ⟨⟨q1, q2, q3, q4, q5⟩, ok1, ok2, ok3, ok4, ok5⟩ := HR1.out k e he
      have hix := index22 (c := cp1) HA1.out hlt
      have hbe := HB1.out (by omega)
      have g1 := (hbel.cell (p := ⟨eb, _, none⟩) hbe).trans q1
      have g2 := (hbel.cell (p := ⟨eb, _, none⟩) hbe).trans q2
      have g3 := (hbel.cell (p := ⟨eb, _, none⟩) hbe).trans q3
      have g4 := (hbel.cell (p := ⟨eb, _, none⟩) hbe).trans q4
      have g5 := (hbel.cell (p := ⟨eb, _, none⟩) hbe).trans q5
      obtain ⟨o, ho, ho'⟩ := mod_nat ok1 2 (by omega)
      have hor : o = 0 ∨ o = 1 := by omega
      obtain ⟨c, hc, hc'⟩ := mod_nat ok2 3 (by omega)
      obtain ⟨i, hi, hi'⟩ := mod_nat ok3 2 (by omega)
      obtain ⟨a, ha, ha'⟩ := mod_nat ok4 2 (by omega)
      obtain ⟨d, hd, hd'⟩ := mod_nat ok5 3 (by omega)
      have ho' : e.o.tmod 2 = (o : Int) := ho'
      have hc' : e.c.tmod 3 = (c : Int) := hc'
      have hi' : e.i.tmod 2 = (i : Int) := hi'
      have ha' : e.a.tmod 2 = (a : Int) := ha'
      have HD : Hid (e.d.tmod 3 = (d : Int)) := hd'
      have HO : Hid (e.o.tmod 2 = (o : Int)) := ho'
      clear hls hbel q1 q2 q3 q4 q5 he hlen ok1 ok2 ok3 ok4 ok5 hd' ho'
      go_wp2_with fail
      refine (addr_any _ a ha' ha _).mono ?_
      rintro e' w1 ⟨rfl, rfl⟩
      rcases hor with rfl | rfl
      · have ho' := HO.out
        have hj : c * 4 + i * 2 + a < 12 := by omega
        obtain ⟨m, hm⟩ : ∃ m, M[c * 4 + i * 2 + a]? = some m := ⟨_, List.getElem?_eq_getElem (by rw [HM.out]; exact hj)⟩
        go_wp2_with fail
        have hp := ls_pass ((HL.out.alloc (obox e)).alloc (kbox c i (aOf a))) hm
        rw [keyOf_mix hc hi ha] at hp
        refine hp.mono ?_
        rintro e' w2 ⟨rfl, hmb, hls2, _⟩
        have HMB : Hid (w2.heap[w.heap.size + 1]? = some (.cells (M.map Value.bool).toArray 36 (0, 0))) := hmb
        have HL2 : Hid (Ls w (w2.setCell ⟨w.heap.size + 1, c * 4 + i * 2 + a, none⟩ (.bool true)) w.heap.size (w.heap.size + 1) (M.set (c * 4 + i * 2 + a) true)) := hls2
        have hcm : w2.cell? ⟨w.heap.size + 1, c * 4 + i * 2 + a, none⟩ = some (.bool m) := by rw [blk_cell hmb]; simp [hm]
        have hfm : w2.frozen? ⟨w.heap.size + 1, c * 4 + i * 2 + a, none⟩ = false := blk_frozen hmb _
        have hxm := index36 (b := w.heap.size + 1) (x := (c : Int) * 4 + (i : Int) * 2 + (a : Int)) (j := c * 4 + i * 2 + a) (by omega) hj
        clear hmb hls2 hm hp
        cases m
        · go_wp2_with fail
          go_roundw
          case rel => exact ⟨k + 1, _, by omega, by go_num, HL2.out⟩
          case measure => simp [intOf]; omega
        · go_wp2_with fail
          go_roundw
          case rel => exact ⟨k + 1, _, by omega, by go_num, HL2.out⟩
          case measure => simp [intOf]; omega
      · have ho' := HO.out
        have hj : c * 4 + i * 2 + a < 12 := by omega
        obtain ⟨s, hid⟩ := id_any e.d d HD.out hd
        have hcl := ls_claim ((HL.out.alloc (obox e)).alloc (kbox c i (aOf a))).drew hj s
        rw [keyOf_mix hc hi ha] at hcl
        go_upto_region 18 with fail
        go_cut [] from 66 to 71 (fun wx => wx.heap[w.heap.size + 1]? = some (.cells (M.map Value.bool).toArray 36 (0, 0)) ∧ Ls w (wx.setCell ⟨w.heap.size + 1, c * 4 + i * 2 + a, none⟩ (.bool false)) w.heap.size (w.heap.size + 1) (M.set (c * 4 + i * 2 + a) false))
        case first =>
          go_region_with (first | (go_at_call 7; refine (hid _).mono ?_; rintro e' w1 ⟨rfl, rfl⟩) | (go_at_call 6; refine hcl.mono ?_; rintro e' w1 ⟨⟨v, rfl⟩, hmb, hls, _⟩))
          all_goals (go_wp2_with fail; go_meet; exact ⟨hmb, hls⟩)
        case rest =>
          clear hcl hid
          rename World => w2
          obtain ⟨hmb, hls2⟩ := hcut
          have HL2 : Hid (Ls w (w2.setCell ⟨w.heap.size + 1, c * 4 + i * 2 + a, none⟩ (.bool false)) w.heap.size (w.heap.size + 1) (M.set (c * 4 + i * 2 + a) false)) := hls2
          have hxm := index36 (b := w.heap.size + 1) (x := (c : Int) * 4 + (i : Int) * 2 + (a : Int)) (j := c * 4 + i * 2 + a) (by omega) hj
          have hfm : w2.frozen? ⟨w.heap.size + 1, c * 4 + i * 2 + a, none⟩ = false := blk_frozen hmb _
          have hcm : ∃ m, w2.cell? ⟨w.heap.size + 1, c * 4 + i * 2 + a, none⟩ = some (.bool m) := by
            obtain ⟨m, hm⟩ : ∃ m, M[c * 4 + i * 2 + a]? = some m := ⟨_, List.getElem?_eq_getElem (by rw [HM.out]; exact hj)⟩
            exact ⟨m, by rw [blk_cell hmb]; simp [hm]⟩
          obtain ⟨m, hcm⟩ := hcm
          clear hmb hls2
          go_wp2_with fail
          go_roundw
          case rel => exact ⟨k + 1, _, by omega, by go_num, HL2.out⟩
          case measure => simp [intOf]; omega
    · have hd2 : decide ((k : Int) < (n1 : Int)) = false := by simp; omega
      have hb2 := hls.mrk
      clear hls
      go_wp2_with fail
      go_loopw [13, 14] (fun n j wx => ∃ q : Nat, q ≤ 12 ∧ j = .int .i64 q ∧ n = .int .i64 (cntT (M.take q)) ∧ wx = wr) (fun _ j _ => 12 - (intOf j).toNat)
      case atStart => exact ⟨0, by omega, rfl, by simp [cntT], rfl⟩
      case round =>
        obtain ⟨q, hq, rfl, rfl, rfl⟩ := hrel
        have hcle : ∀ M : List Bool, cntT M ≤ M.length := by
          intro M
          induction M with
          | nil => exact Nat.le_refl _
          | cons b r ih => simp only [cntT, List.length_cons]; split <;> omega
        have hcl : cntT (M.take q) ≤ 12 := by have := hcle (M.take q); simp at this; omega
        clear hcle
        by_cases hql : q < 12
        · obtain ⟨m, hm⟩ : ∃ m, M[q]? = some m := ⟨_, List.getElem?_eq_getElem (by rw [HM.out]; exact hql)⟩
          have HC : Hid (cntT (M.take (q + 1)) = cntT (M.take q) + (if m then 1 else 0)) := cntT_take M q m hm
          have hxm := index36 (b := w.heap.size + 1) (x := (q : Int)) (j := q) rfl hql
          have hcm : wr.cell? ⟨w.heap.size + 1, q, none⟩ = some (.bool m) := by rw [blk_cell hb2]; simp [hm]
          clear hm hb2
          generalize hn : cntT (M.take q) = n at *
          cases m
          · go_wp2_with fail
            go_roundw
            case rel => exact ⟨q + 1, by omega, by go_num, by rw [HC.out]; rfl, trivial⟩
            case measure => simp [intOf]; omega
          · go_wp2_with fail
            go_roundw
            case rel => exact ⟨q + 1, by omega, by go_num, by rw [HC.out]; go_num, trivial⟩
            case measure => simp [intOf]; omega
        · obtain ⟨rh, rd, uv, LH, LD, LU, hsv, _, hlk⟩ := HL.out.sv
          have hlen : (Builtin.len_ #[33] 3 #[uv]).run Ybaf.prog wr = .ok (.int .i64 (LU.length : Int)) wr := by
            rcases hsv.mu with ⟨rfl, rfl⟩ | ⟨b, rfl, _, hm⟩
            · exact len_nilmap Ybaf.underlying33 3 wr
            · exact hm.length Ybaf.underlying33 3
          have e12 : cntT (M.take q) = LU.length := by rw [hlk.cnt, show q = M.length by rw [HM.out]; omega, List.take_length]
          have c4 : wr.cell? ⟨w.heap.size, 4, none⟩ = some uv := by rw [blk_cell hsv.blk]; rfl
          rw [e12]
          clear hsv hlk e12
          go_wp2_with fail
          go_ret
          exact ⟨by simp, hbel⟩
end Go.Proofs.YbulkdxfsFmt
