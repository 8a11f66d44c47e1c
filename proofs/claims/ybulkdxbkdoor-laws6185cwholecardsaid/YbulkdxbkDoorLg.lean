import Derived.Test.YbulkdxbkDoorLf
namespace Go.Proofs.YbulkdxbkDoor
open Go.RowKit
set_option linter.unusedVariables false
set_option linter.unusedSectionVars false

set_option maxRecDepth 100000 in
set_option maxHeartbeats 16000000 in
theorem law (w : World) (a0 : Option Addr) (m c0 b0 o0 : Nat) (SZ : List Nat) (a1 : Option Addr) (n1 c1 b1 o1 : Nat) (EL : List (Nat × Nat)) (a2 : Option Addr) (n2 c2 b2 o2 : Nat) (S1 : List Nat) (a3 : Option Addr) (n3 c3 b3 o3 : Nat) (S2 : List Nat) (a4 : Option Addr) (n4 c4 b4 o4 : Nat) (D : List Int)
    (h0 : m = SZ.length) (h0l : m ≤ 4096) (h0a : 0 < m → a0 = some ⟨b0, o0, none⟩) (h0r : In8 w b0 o0 SZ) (h0b : ∀ x ∈ SZ, x ≤ 255)
    (h1 : n1 = EL.length) (h1l : n1 ≤ 65536) (h1a : 0 < n1 → a1 = some ⟨b1, o1, none⟩) (h1r : In2 w b1 o1 EL) (h1b : ∀ e ∈ EL, e.1 ≤ 65535 ∧ e.2 ≤ 65535)
    (h2 : n2 = S1.length) (h2l : n2 ≤ 65536) (h2a : 0 < n2 → a2 = some ⟨b2, o2, none⟩) (h2r : InU w b2 o2 S1) (h2b : ∀ e ∈ S1, e ≤ 65535)
    (h3 : n3 = S2.length) (h3l : n3 ≤ 65536) (h3a : 0 < n3 → a3 = some ⟨b3, o3, none⟩) (h3r : InU w b3 o3 S2) (h3b : ∀ e ∈ S2, e ≤ 65535)
    (h4 : n4 = D.length) (h4l : n4 ≤ 65536) (h4a : 0 < n4 → a4 = some ⟨b4, o4, none⟩) (h4n : a4 = none → c4 = 0) (h4r : ZAt w b4 o4 D)
    (hT : TabAt w) (h3w : 3 < w.heap.size) :
    Calls Ybad.prog 4 #[.slice a0 m c0, .slice a1 n1 c1, .slice a2 n2 c2, .slice a3 n3 c3, .slice a4 n4 c4] w fun e w' => e = .returned (.bool true) ∧ Below w.heap.size w w' := by
  have H0 : Hid (m = SZ.length) := h0
  have H0A : Hid (0 < m → a0 = some ⟨b0, o0, none⟩) := h0a
  have H0R : Hid (In8 w b0 o0 SZ) := h0r
  have H0B : Hid (∀ x ∈ SZ, x ≤ 255) := h0b
  have H1 : Hid (n1 = EL.length) := h1
  have H1A : Hid (0 < n1 → a1 = some ⟨b1, o1, none⟩) := h1a
  have H1R : Hid (In2 w b1 o1 EL) := h1r
  have H1B : Hid (∀ e ∈ EL, e.1 ≤ 65535 ∧ e.2 ≤ 65535) := h1b
  have H2 : Hid (n2 = S1.length ∧ (0 < n2 → a2 = some ⟨b2, o2, none⟩) ∧ InU w b2 o2 S1 ∧ ∀ e ∈ S1, e ≤ 65535) := ⟨h2, h2a, h2r, h2b⟩
  have H3 : Hid (n3 = S2.length ∧ (0 < n3 → a3 = some ⟨b3, o3, none⟩) ∧ InU w b3 o3 S2 ∧ ∀ e ∈ S2, e ≤ 65535) := ⟨h3, h3a, h3r, h3b⟩
  have H4 : Hid (n4 = D.length ∧ (0 < n4 → a4 = some ⟨b4, o4, none⟩) ∧ (a4 = none → c4 = 0) ∧ ZAt w b4 o4 D) := ⟨h4, h4a, h4n, h4r⟩
  have HTAB : Hid (TabAt w ∧ 3 < w.heap.size) := ⟨hT, h3w⟩
  obtain ⟨n, hn⟩ : ∃ n, n = sumTo SZ SZ.length := ⟨_, rfl⟩
  have HN : Hid (n = sumTo SZ SZ.length) := hn
  have hnl : n ≤ 12288 := by have := (sumTo_le SZ SZ.length (Nat.le_refl _)).1; omega
  obtain ⟨C1, hC1, mk1⟩ := make_ex 44 3 Ybad.underlying44 info3 rfl (by omega) n (by omega)
  obtain ⟨C2, hC2, mk2⟩ := make_ex 44 3 Ybad.underlying44 info3 rfl (by omega) (m + 1) (by omega)
  rw [show ((m + 1 : Nat) : Int) = (m : Int) + 1 by omega] at mk2
  obtain ⟨H, hH⟩ : ∃ H, w.heap.size = H := ⟨_, rfl⟩
  have HH : Hid (w.heap.size = H) := hH
  have HL0 : Hid (L3 w H n m (((w.alloc (.cells C1 3)).alloc (.cells C1 3)).alloc (.cells C2 3)) (List.replicate n 0) (List.replicate n 0) (List.replicate (m + 1) 0)) := L3.start hH hC1 hC1 hC2 (by omega) (by omega)
  have HC2 : Hid (C2.toList = List.replicate (m + 1) (.int .i64 0)) := hC2
  have g0 : decide ((4096 : Int) < (m : Int)) = false := by simp; omega
  have g1 : decide ((65536 : Int) < (n1 : Int)) = false := by simp; omega
  have g2 : decide ((65536 : Int) < (n2 : Int)) = false := by simp; omega
  have g3 : decide ((65536 : Int) < (n3 : Int)) = false := by simp; omega
  have g4 : decide ((65536 : Int) < (n4 : Int)) = false := by simp; omega
  have g0' : ¬ ((4096 : Int) < (m : Int)) := by omega
  have g1' : ¬ ((65536 : Int) < (n1 : Int)) := by omega
  have g2' : ¬ ((65536 : Int) < (n2 : Int)) := by omega
  have g3' : ¬ ((65536 : Int) < (n3 : Int)) := by omega
  have g4' : ¬ ((65536 : Int) < (n4 : Int)) := by omega
  clear h0 h0a h0r h0b h1 h1a h1r h1b h2 h2a h2r h2b h3 h3a h3r h3b h4 h4a h4n h4r hT h3w hn hC1 hC2 hH
  go_enter Ybad.func4, Ybad.ntmps4
  go_wp2_with fail
  go_loopw [75, 12] (fun s75 s12 wr => ∃ (t x : Nat), t ≤ m ∧ s75 = .int .i64 t ∧ s12 = .int .i64 x ∧ Hid (x = sumTo SZ t ∧ w = wr)) (fun s _ _ => m - (intOf s).toNat)
  case atStart => exact ⟨0, 0, Nat.zero_le _, rfl, rfl, hidI ⟨(sumTo_zero SZ).symm, rfl⟩⟩
  case round =>
    obtain ⟨t, x, ht, rfl, rfl, HI⟩ := hrel
    rename World => wr
    obtain ⟨hx, rfl⟩ := HI.out
    have HX : Hid (x = sumTo SZ t) := hx
    clear hx HI
    by_cases htl : t < m
    · have hd : decide ((t : Int) < (m : Int)) = true := by simp; exact htl
      obtain ⟨y, hy⟩ : ∃ y, SZ[t]? = some y := ⟨_, List.getElem?_eq_getElem (by rw [← H0.out]; exact htl)⟩
      have hyb := H0B.out y (List.mem_of_getElem? hy)
      have y1 : w.cell? ⟨b0, o0 + t, none⟩ = some (.int .u8 (y : Int)) := H0R.out t y hy
      have x1 := index41 (c := c0) H0A.out htl
      have hxb : x ≤ 12288 := by rw [HX.out]; have := (sumTo_le SZ t (by rw [← H0.out]; omega)).1; omega
      obtain ⟨r, hr, hr2, er⟩ := mod_letter y 3 (by omega)
      have er' : (y : Int) % 3 = (r : Int) := er
      have HY : Hid (SZ[t]? = some y ∧ r = y % 3) := ⟨hy, hr⟩
      clear hy hr er
      go_wp2_with fail
      go_roundw
      case rel =>
        refine ⟨t + 1, x + (1 + r), by omega, by go_num, by go_num, hidI ⟨?_, trivial⟩⟩
        rw [sumTo_succ HY.out.1, HX.out, HY.out.2]; rfl
      case measure => simp [intOf]; omega
    · have hd : decide ((t : Int) < (m : Int)) = false := by simp; omega
      have hxn : n = x := by rw [HX.out, HN.out, show t = SZ.length by rw [← H0.out]; omega]
      subst hxn
      have hH : w.heap.size = H := HH.out
      go_wp2_with fail
      clear hH
      go_loopw [19, 18] (fun s19 s18 wr => ∃ (k p : Nat) (C M F : List Nat), k ≤ m ∧ s19 = .int .i64 k ∧ s18 = .int .i64 p ∧ Hid (p = sumTo SZ k ∧ L3 w H n m wr C M F ∧ CompOk n SZ C p ∧ (M.length = n ∧ ∀ i, i < p → M[i]? = some (n - 1 - i)) ∧ (F.length = m + 1 ∧ ∀ i, i < k → F[i]? = some (sumTo SZ i)))) (fun s _ _ => m - (intOf s).toNat)
      case atStart => exact ⟨0, 0, _, _, _, Nat.zero_le _, rfl, rfl, hidI ⟨(sumTo_zero SZ).symm, HL0.out, ⟨by simp, fun k L j _ _ h => by omega⟩, ⟨by simp, fun i h => by omega⟩, ⟨by simp, fun i h => by omega⟩⟩⟩
      case round =>
        clear HL0
        obtain ⟨k, p, C, M, F, hk, rfl, rfl, HI⟩ := hrel
        rename World => wr
        have hpn : p ≤ n := by
          have h1 := HI.out.1
          have h2 := pre_mono (mems n SZ) (show k ≤ SZ.length by rw [← H0.out]; exact hk)
          rw [pre_mems k (by rw [← H0.out]; exact hk), pre_mems _ (Nat.le_refl _), ← HN.out] at h2
          omega
        by_cases hkm : k < m
        · have hd : decide ((k : Int) < (m : Int)) = true := by simp; exact hkm
          obtain ⟨y, hy⟩ : ∃ y, SZ[k]? = some y := ⟨_, List.getElem?_eq_getElem (by rw [← H0.out]; exact hkm)⟩
          have hyb := H0B.out y (List.mem_of_getElem? hy)
          obtain ⟨hp, hl3, hcok, hmok, hfok⟩ := HI.out
          have y1 : wr.cell? ⟨b0, o0 + k, none⟩ = some (.int .u8 (y : Int)) := hl3.fr.cell (H0R.out k y hy) (by simp)
          have hb0 : b0 < w.heap.size := cell_lt (H0R.out k y hy)
          have hb0n : b0 ≠ H + 1 + 1 := by have := HH.out; omega
          have x1 := index41 (c := c0) H0A.out hkm
          obtain ⟨fk, hfk⟩ : ∃ fk, F[k]? = some fk := ⟨_, List.getElem?_eq_getElem (by rw [hfok.1]; omega)⟩
          obtain ⟨y2, z2⟩ := row_cell hl3.f hfk
          have x2 := index26z (b := H + 1 + 1) (c := m + 1) (show k < m + 1 by omega)
          obtain ⟨r, hr, hr2, er⟩ := mod_letter y 3 (by omega)
          have er' : (y : Int) % 3 = (r : Int) := er
          obtain ⟨s, hs⟩ : ∃ s, s = 1 + r := ⟨_, rfl⟩
          have es : (1 : Int) + (r : Int) = (s : Int) := by omega
          have HY : Hid (SZ[k]? = some y ∧ s = sz y) := ⟨hy, by rw [hs, hr]; rfl⟩
          have HI2 : Hid (p = sumTo SZ k ∧ L3 w H n m (wr.setCell ⟨H + 1 + 1, k, none⟩ (.int .i64 (p : Int))) C M (F.set k p) ∧ CompOk n SZ C (p + 0) ∧ (M.length = n ∧ ∀ i, i < p + 0 → M[i]? = some (n - 1 - i)) ∧ ((F.set k p).length = m + 1 ∧ ∀ i, i < k + 1 → (F.set k p)[i]? = some (sumTo SZ i))) := by
            refine ⟨hp, hl3.setF k p, hcok, hmok, by simp [hfok.1], fun i hi => ?_⟩
            rw [List.getElem?_set]
            by_cases e : k = i
            · subst e; rw [if_pos rfl, if_pos (by rw [hfok.1]; omega), hp]
            · rw [if_neg e]; exact hfok.2 i (by omega)
          have hs3 : s ≤ 3 := by omega
          have hps : p + s ≤ n := by
            have h1 := sumTo_succ hy
            have h2 := pre_mono (mems n SZ) (show k + 1 ≤ SZ.length by rw [← H0.out]; exact hkm)
            rw [pre_mems (k + 1) (by rw [← H0.out]; exact hkm), pre_mems _ (Nat.le_refl _), ← HN.out] at h2
            have h3 := HY.out.2
            omega
          clear hp hl3 hcok hmok hfok hfk hy hr er hs hb0 HI
          go_wp2_with fail
          generalize wr.setCell ⟨H + 1 + 1, k, none⟩ (.int .i64 (p : Int)) = wu at *
          generalize F.set k p = F2 at *
          go_loopw [21, 18] (fun s21 s18 wq => ∃ (j p' : Nat) (C M : List Nat), j ≤ s ∧ s21 = .int .i64 j ∧ s18 = .int .i64 p' ∧ p' = p + j ∧ Hid (L3 w H n m wq C M F2 ∧ CompOk n SZ C p' ∧ (M.length = n ∧ ∀ i, i < p' → M[i]? = some (n - 1 - i)))) (fun s _ _ => 3 - (intOf s).toNat)
          case atStart => exact ⟨0, p, C, M, Nat.zero_le _, rfl, rfl, rfl, hidI ⟨HI2.out.2.1, HI2.out.2.2.1, HI2.out.2.2.2.1⟩⟩
          case round =>
            have HIF : Hid (p = sumTo SZ k ∧ (F2.length = m + 1 ∧ ∀ i, i < k + 1 → F2[i]? = some (sumTo SZ i))) := ⟨HI2.out.1, HI2.out.2.2.2.2⟩
            clear HI2 y1 x1 y2 z2 x2
            obtain ⟨j, p', C, M, hj, rfl, rfl, hp', HI⟩ := hrel
            have HP : Hid (p' = p + j) := hp'
            rename World => wq
            by_cases hjs : j < s
            · have hd2 : decide ((j : Int) < (s : Int)) = true := by simp; exact hjs
              have hpn2 : p' < n := by omega
              obtain ⟨q, hq⟩ : ∃ q, q = n - 1 - p' := ⟨_, rfl⟩
              have hqn : q < n := by omega
              have eq1 : (n : Int) - 1 - (p' : Int) = (q : Int) := by omega
              have ew1 : IntKind.i64.wrap ((n : Int) - 1) = (n : Int) - 1 := by simp [IntKind.wrap, IntKind.signed, IntKind.bits]; omega
              have ew2 : IntKind.i64.wrap (q : Int) = (q : Int) := by simp [IntKind.wrap, IntKind.signed, IntKind.bits]; omega
              obtain ⟨hl3, hcok, hmok⟩ := HI.out
              obtain ⟨mp, hmp⟩ : ∃ mp, M[p']? = some mp := ⟨_, List.getElem?_eq_getElem (by rw [hmok.1]; exact hpn2)⟩
              obtain ⟨cq, hcq⟩ : ∃ cq, C[q]? = some cq := ⟨_, List.getElem?_eq_getElem (by rw [hcok.1]; exact hqn)⟩
              obtain ⟨y1, z1⟩ := row_cell hl3.mm hmp
              obtain ⟨y2, z2⟩ := row_cell hl3.c hcq
              have x1 := index26z (b := H + 1) (c := n) hpn2
              have x2 := index26z (b := H) (c := n) hqn
              have HN2 : Hid (L3 w H n m ((wq.setCell ⟨H + 1, p', none⟩ (.int .i64 (q : Int))).setCell ⟨H, q, none⟩ (.int .i64 (k : Int))) (C.set q k) (M.set p' q) F2 ∧ CompOk n SZ (C.set q k) (p' + 1) ∧ ((M.set p' q).length = n ∧ ∀ i, i < p' + 1 → (M.set p' q)[i]? = some (n - 1 - i))) := by
                refine ⟨(hl3.setM p' q).setC q k, ?_, by simp [hmok.1], fun i hi => ?_⟩
                · rw [hq]; exact hcok.step HY.out.1 (by rw [hp', HIF.out.1]) (by rw [← HY.out.2]; exact hjs) hpn2
                · rw [List.getElem?_set]
                  by_cases e : p' = i
                  · subst e; rw [if_pos rfl, if_pos (by rw [hmok.1]; exact hpn2), hq]
                  · rw [if_neg e]; exact hmok.2 i (by omega)
              clear hl3 hcok hmok hmp hcq hq hp' HI
              go_wp2_with fail
              go_roundw
              case rel => exact ⟨j + 1, p' + 1, C.set q k, M.set p' q, by omega, by go_num, by go_num, by rw [HP.out]; omega, HN2⟩
              case measure => simp [intOf]; omega
            · have hd2 : decide ((j : Int) < (s : Int)) = false := by simp; omega
              clear hp'
              go_wp2_with fail
              go_roundw
              case rel =>
                refine ⟨k + 1, p', C, M, F2, by omega, by go_num, rfl, hidI ⟨?_, HI.out.1, HI.out.2.1, HI.out.2.2, HIF.out.2⟩⟩
                rw [sumTo_succ HY.out.1, HP.out, HIF.out.1, show j = s by omega, HY.out.2]
              case measure => simp [intOf]; omega
        · have hd : decide ((k : Int) < (m : Int)) = false := by simp; omega
          obtain ⟨hp, hl3, hcok, hmok, hfok⟩ := HI.out
          have hpn' : n = p := by rw [hp, HN.out, show k = SZ.length by rw [← H0.out]; omega]
          subst hpn'
          obtain ⟨fm, hfm⟩ : ∃ fm, F[m]? = some fm := ⟨_, List.getElem?_eq_getElem (by rw [hfok.1]; omega)⟩
          obtain ⟨y2, z2⟩ := row_cell hl3.f hfm
          have x2 := index26z (b := H + 1 + 1) (c := m + 1) (show m < m + 1 by omega)
          have hl4 := hl3.setF m n
          have hfok2 : ∀ i, i ≤ m → (F.set m n)[i]? = some (pre (mems n SZ) i) := fun i hi => by
            rw [pre_mems i (by rw [← H0.out]; exact hi), List.getElem?_set]
            by_cases e : m = i
            · subst e; rw [if_pos rfl, if_pos (by rw [hfok.1]; omega), HN.out, H0.out]
            · rw [if_neg e]; exact hfok.2 i (by omega)
          clear HI hfok hfm hp
          go_upto_region 27 with fail
          clear y2 z2 x2
          generalize wr.setCell ⟨H + 1 + 1, m, none⟩ (.int .i64 (n : Int)) = w1 at *
          have HA : Hid (Fr w w1 [] ∧ CompOk n SZ C n ∧ NatsAt w1 H 0 C ∧ NatsAt w1 (H + 1) 0 (mems n SZ).flatten ∧ (∀ i, i ≤ m → w1.cell? ⟨H + 1 + 1, i, none⟩ = some (.int .i64 (pre (mems n SZ) i : Int)))) := by
            refine ⟨hl4.fr, hcok, fun i x hx => ?_, fun i x hx => ?_, fun i hi => (row_cell hl4.f (hfok2 i hi)).1⟩
            · rw [Nat.zero_add]; exact (row_cell hl4.c hx).1
            · rw [Nat.zero_add]
              have hi : i < n := by
                have h1 := (List.getElem?_eq_some_iff.1 hx).1
                rw [mems_flat_len] at h1
                have := HN.out
                omega
              rw [mems_flat HN.out hi] at hx
              cases hx
              exact (row_cell hl4.mm (hmok.2 i hi)).1
          clear hl3 hl4 hcok hmok hfok2 H0A H0R H0B
          obtain ⟨K1, hK1⟩ : ∃ K1, w1.heap.size = K1 := ⟨_, rfl⟩
          have HK1 : Hid (w1.heap.size = K1) := hK1
          have HR0 : Hid ((w1.alloc (.cells C2 3)).ownsRow K1 3 1 (.slice (some ⟨K1, 0, none⟩) (m + 1) (m + 1)) (m + 1) (ints ((List.range (m + 1)).map (cf m []))) ∧ Fr w1 (w1.alloc (.cells C2 3)) []) := by
            have := made_own (w := w1) (E := 3) (B := K1) HC2.out (by omega) (by omega)
            rw [ints_zero, hK1] at this
            rw [cf_zero_row]
            exact ⟨this, (Fr.refl _ _).alloc _⟩
          go_upto_if 136 with fail
          clear hK1
          generalize w1.alloc (.cells C2 3) = w2 at *
          go_cut [] (fun wx => Hid (wx.ownsRow K1 3 1 (.slice (some ⟨K1, 0, none⟩) (m + 1) (m + 1)) (m + 1) (ints ((List.range (m + 1)).map (cf m EL))) ∧ Fr w1 wx []))
          case first => as_aux_lemma =>
            by_cases hm0 : 0 < m
            · have hdm : decide ((0 : Int) < (m : Int)) = true := by simp; exact hm0
              have hdm' : decide (0 < m) = true := by simp; exact hm0
              have em0 : ((m : Int) == 0) = false := by simp; omega
              have em1 : ¬ ((m : Int) = 0) := by omega
              have HM0 : Hid (0 < m) := hm0
              go_wp2_with fail
              simp only [hdm']
              clear hdm hdm' hm0
              go_loopw [139] (fun s wr => ∃ t : Nat, t ≤ n1 ∧ s = .int .i64 t ∧ Hid (wr.ownsRow K1 3 1 (.slice (some ⟨K1, 0, none⟩) (m + 1) (m + 1)) (m + 1) (ints ((List.range (m + 1)).map (cf m (EL.take t)))) ∧ Fr w1 wr [])) (fun s _ => n1 - (intOf s).toNat)
              case atStart => exact ⟨0, Nat.zero_le _, rfl, HR0⟩
              case round =>
                clear HR0
                obtain ⟨t, ht, rfl, HI⟩ := hrel
                rename World => wr
                by_cases htl : t < n1
                · have hd : decide ((t : Int) < (n1 : Int)) = true := by simp; exact htl
                  obtain ⟨⟨f, u⟩, he⟩ : ∃ e, EL[t]? = some e := ⟨_, List.getElem?_eq_getElem (by rw [← H1.out]; exact htl)⟩
                  obtain ⟨r1, r2⟩ := H1R.out t _ he
                  obtain ⟨fb, ub⟩ := H1B.out _ (List.mem_of_getElem? he)
                  dsimp only at r1 r2 fb ub
                  have y1 := (HA.out.1.trans HI.out.2).cell r1 (by simp)
                  have y2 := (HA.out.1.trans HI.out.2).cell r2 (by simp)
                  have x1 := index42 (c := c1) H1A.out htl
                  obtain ⟨a, ha, ham, ea⟩ := mod_letter f m HM0.out
                  obtain ⟨b, hb, hbm, eb⟩ := mod_letter u m HM0.out
                  have ea2 : (f : Int).tmod (m : Int) = (a : Int) := by rw [Int.tmod_eq_emod_of_nonneg (by omega)]; exact ea
                  have eb2 : (u : Int).tmod (m : Int) = (b : Int) := by rw [Int.tmod_eq_emod_of_nonneg (by omega)]; exact eb
                  have HE : Hid (EL[t]? = some (f, u) ∧ a = f % m ∧ b = u % m) := ⟨he, ha, hb⟩
                  clear r1 r2 he ha hb
                  go_upto_region 32 with fail
                  clear y1 y2 x1
                  obtain ⟨hs, hhs⟩ : ∃ hs, wr.heap.size = hs := ⟨_, rfl⟩
                  have hnew := heap_new wr (.cells #[.int .u16 (f : Int), .int .u16 (u : Int)] 46)
                  rw [hhs] at hnew ⊢
                  have HI2 : Hid ((wr.alloc (.cells #[.int .u16 (f : Int), .int .u16 (u : Int)] 46)).ownsRow K1 3 1 (.slice (some ⟨K1, 0, none⟩) (m + 1) (m + 1)) (m + 1) (ints ((List.range (m + 1)).map (cf m (EL.take t)))) ∧ Fr w1 (wr.alloc (.cells #[.int .u16 (f : Int), .int .u16 (u : Int)] 46)) []) := ⟨HI.out.1.alloc _, HI.out.2.alloc _⟩
                  have hKw1 : w1.heap.size ≤ K1 := by have := HK1.out; omega
                  clear hhs HI
                  generalize wr.alloc (.cells #[.int .u16 (f : Int), .int .u16 (u : Int)] 46) = wa at *
                  have ya : wa.cell? ⟨hs, 0, none⟩ = some (.int .u16 (f : Int)) := by simp [World.cell?, hnew]
                  have yb : wa.cell? ⟨hs, 1, none⟩ = some (.int .u16 (u : Int)) := by simp [World.cell?, hnew]
                  clear hnew
                  have hrow : ∀ i, i < m → cf m (EL.take t) i ≤ 65536 ∧ wa.cell? ⟨K1, i, none⟩ = some (.int .i64 (cf m (EL.take t) i : Int)) ∧ wa.frozen? ⟨K1, i, none⟩ = false := fun i hi => by
                    have h5 := row_cell HI2.out.1 (map_at (cf m (EL.take t)) (show i < m + 1 by omega))
                    have h6 := cf_le (m := m) (E := EL.take t) i
                    have h7 : (EL.take t).length ≤ n1 := by rw [List.length_take, ← H1.out]; omega
                    exact ⟨by omega, h5.1, h5.2⟩
                  have HEND : Hid (∀ (q i b' : Nat), i < m → ne1 m (f, u) = some (i, b') → ((wa.drewN q).setCell ⟨K1, i, none⟩ (.int .i64 ((cf m (EL.take t) i + 1 : Nat) : Int))).ownsRow K1 3 1 (.slice (some ⟨K1, 0, none⟩) (m + 1) (m + 1)) (m + 1) (ints ((List.range (m + 1)).map (cf m (EL.take (t + 1))))) ∧ Fr w1 ((wa.drewN q).setCell ⟨K1, i, none⟩ (.int .i64 ((cf m (EL.take t) i + 1 : Nat) : Int))) []) := fun q i b' hi hne => by
                    have h5 := own_seti (own_same (w' := wa.drewN q) HI2.out.1 fun _ _ => rfl) i (cf m (EL.take t) i + 1)
                    rw [map_set] at h5
                    rw [cf_add HE.out.1 hne hi]
                    exact ⟨h5, (HI2.out.2.drewN q).set (.inr hKw1) _ _⟩
                  rcases Nat.lt_trichotomy a b with hab | hab | hab
                  · as_aux_lemma =>
                    have d1 : decide ((b : Int) < (a : Int)) = false := by simp; omega
                    have d1' : decide (b < a) = false := by simp; omega
                    have d2 : ((a : Int) == (b : Int)) = false := by simp; omega
                    have d2' : (a == b) = false := by simp; omega
                    have d3 : ¬ ((a : Int) = (b : Int)) := by omega
                    have d3' : ¬ (a = b) := by omega
                    have x2 := index26z (b := K1) (c := m + 1) (show a < m + 1 by omega)
                    obtain ⟨hxb, y3, z3⟩ := hrow a ham
                    have HNE : Hid (ne1 m (f, u) = some (a, b)) := by
                      have h5 := HE.out.2.1
                      have h6 := HE.out.2.2
                      rw [h5, h6]; exact ne1_lt (by omega)
                    have HEN : Hid (∀ q, ((wa.drewN q).setCell ⟨K1, a, none⟩ (.int .i64 ((cf m (EL.take t) a + 1 : Nat) : Int))).ownsRow K1 3 1 (.slice (some ⟨K1, 0, none⟩) (m + 1) (m + 1)) (m + 1) (ints ((List.range (m + 1)).map (cf m (EL.take (t + 1))))) ∧ Fr w1 ((wa.drewN q).setCell ⟨K1, a, none⟩ (.int .i64 ((cf m (EL.take t) a + 1 : Nat) : Int))) []) := fun q => HEND.out q a b ham HNE.out
                    clear hrow hab HEND
                    generalize cf m (EL.take t) a = x at *
                    go_quiet (fail)
                    go_wp2_with fail
                    go_quiet (fail)
                    go_wp2_with fail
                    go_roundw
                    case rel => exact ⟨t + 1, by omega, by go_num, HEN.out _⟩
                    case measure => simp [intOf]; omega
                  · as_aux_lemma =>
                    subst hab
                    have HI3 : Hid (wa.ownsRow K1 3 1 (.slice (some ⟨K1, 0, none⟩) (m + 1) (m + 1)) (m + 1) (ints ((List.range (m + 1)).map (cf m (EL.take (t + 1))))) ∧ Fr w1 wa []) := by
                      rw [cf_skip HE.out.1 (ne1_eq (by rw [← HE.out.2.1, ← HE.out.2.2]))]; exact HI2.out
                    clear hrow HEND
                    go_quiet (fail)
                    go_wp2_with fail
                    go_quiet (fail)
                    go_wp2_with fail
                    go_roundw
                    case rel => exact ⟨t + 1, by omega, by go_num, hidI ⟨own_same HI3.out.1 fun _ _ => rfl, HI3.out.2.drewN _⟩⟩
                    case measure => simp [intOf]; omega
                  · as_aux_lemma =>
                    have d1 : decide ((b : Int) < (a : Int)) = true := by simp; omega
                    have d1' : decide (b < a) = true := by simp; omega
                    have d2 : ((a : Int) == (b : Int)) = false := by simp; omega
                    have d2' : (a == b) = false := by simp; omega
                    have d3 : ¬ ((a : Int) = (b : Int)) := by omega
                    have d3' : ¬ (a = b) := by omega
                    have x2 := index26z (b := K1) (c := m + 1) (show b < m + 1 by omega)
                    obtain ⟨hxb, y3, z3⟩ := hrow b hbm
                    have HNE : Hid (ne1 m (f, u) = some (b, a)) := by
                      have h5 := HE.out.2.1
                      have h6 := HE.out.2.2
                      rw [h5, h6]; exact ne1_gt (by omega)
                    have HEN : Hid (∀ q, ((wa.drewN q).setCell ⟨K1, b, none⟩ (.int .i64 ((cf m (EL.take t) b + 1 : Nat) : Int))).ownsRow K1 3 1 (.slice (some ⟨K1, 0, none⟩) (m + 1) (m + 1)) (m + 1) (ints ((List.range (m + 1)).map (cf m (EL.take (t + 1))))) ∧ Fr w1 ((wa.drewN q).setCell ⟨K1, b, none⟩ (.int .i64 ((cf m (EL.take t) b + 1 : Nat) : Int))) []) := fun q => HEND.out q b a hbm HNE.out
                    clear hrow hab HEND
                    generalize cf m (EL.take t) b = x at *
                    go_quiet (fail)
                    go_wp2_with fail
                    go_quiet (fail)
                    go_wp2_with fail
                    go_roundw
                    case rel => exact ⟨t + 1, by omega, by go_num, HEN.out _⟩
                    case measure => simp [intOf]; omega
                · have hd : decide ((t : Int) < (n1 : Int)) = false := by simp; omega
                  go_wp2_with fail
                  go_meet
                  have h5 := HI.out
                  rw [List.take_of_length_le (by rw [← H1.out]; omega)] at h5
                  exact h5
            · have hdm : decide ((0 : Int) < (m : Int)) = false := by simp; omega
              have hdm' : decide (0 < m) = false := by simp; omega
              go_wp2_with fail
              go_meet
              have e : (List.range (m + 1)).map (cf m EL) = (List.range (m + 1)).map (cf m []) := by
                apply List.map_congr_left
                intro k hk
                have : ¬ k < m := by omega
                simp [cf, this]
              rw [e]
              exact HR0
          case rest =>
            clear HR0
            rename World => wb
            have HB : Hid (wb.ownsRow K1 3 1 (.slice (some ⟨K1, 0, none⟩) (m + 1) (m + 1)) (m + 1) (ints ((List.range (m + 1)).map (cf m EL))) ∧ Fr w1 wb []) := hcut
            clear hcut
            obtain ⟨SL, hSL⟩ : ∃ SL, SL = sucs m EL := ⟨_, rfl⟩
            have HSL : Hid (SL = sucs m EL) := hSL
            obtain ⟨fl, hfl⟩ : ∃ fl, fl = SL.flatten.length := ⟨_, rfl⟩
            have HFL : Hid (fl = SL.flatten.length) := hfl
            have hfl2 : fl ≤ 65536 := by rw [hfl, hSL]; have := sucs_flat m EL; have := H1.out; omega
            have HPRE : Hid (∀ k, k < m → pre SL (k + 1) = pre SL k + cf m EL k ∧ pre SL (k + 1) ≤ fl ∧ cf m EL k ≤ 65536) := fun k hk => by
              have h5 := sucs_at (E := EL) hk
              rw [← hSL] at h5
              have h6 := pre_succ h5
              have h7 := pre_le (NL := SL) (k + 1)
              have h8 := cf_at (E := EL) hk
              omega
            have HPM : Hid (pre SL m = fl ∧ pre SL 0 = 0) := ⟨by rw [hfl, ← pre_all, hSL, sucs_len], pre_zero _⟩
            obtain ⟨C3, hC3, mk3⟩ := make_ex 44 3 Ybad.underlying44 info3 rfl (by omega) fl (by omega)
            obtain ⟨C4, hC4, mk4⟩ := make_ex 44 3 Ybad.underlying44 info3 rfl (by omega) m (by omega)
            have HC3 : Hid (C3.toList = List.replicate fl (.int .i64 0)) := hC3
            have HC4 : Hid (C4.toList = List.replicate m (.int .i64 0)) := hC4
            obtain ⟨K2, hK2⟩ : ∃ K2, wb.heap.size = K2 := ⟨_, rfl⟩
            have HK2 : Hid (wb.heap.size = K2) := hK2
            have HS0 : Hid ((wb.alloc (.cells C2 3)).ownsRow K2 3 1 (.slice (some ⟨K2, 0, none⟩) (m + 1) (m + 1)) (m + 1) (ints (List.replicate (m + 1) 0)) ∧ Fr wb (wb.alloc (.cells C2 3)) [] ∧ (List.replicate (m + 1) 0).length = m + 1 ∧ ∀ i, i ≤ 0 → (List.replicate (m + 1) 0)[i]? = some (pre SL i)) := by
              have := made_own (w := wb) (E := 3) (B := K2) HC2.out (by omega) (by omega)
              rw [ints_zero, hK2] at this
              refine ⟨this, (Fr.refl _ _).alloc _, by simp, fun i hi => ?_⟩
              obtain rfl : i = 0 := by omega
              rw [HPM.out.2]; simp
            clear hSL hfl hC3 hC4
            go_wp2_with fail
            clear hK2
            generalize wb.alloc (.cells C2 3) = wd at *
            go_loopw [29] (fun s wr => ∃ (k : Nat) (SF : List Nat), k ≤ m ∧ s = .int .i64 k ∧ Hid (wr.ownsRow K2 3 1 (.slice (some ⟨K2, 0, none⟩) (m + 1) (m + 1)) (m + 1) (ints SF) ∧ Fr wb wr [] ∧ SF.length = m + 1 ∧ ∀ i, i ≤ k → SF[i]? = some (pre SL i))) (fun s _ => m - (intOf s).toNat)
            case atStart => exact ⟨0, _, Nat.zero_le _, rfl, HS0⟩
            case round =>
              clear HS0
              obtain ⟨k', SF, hk', rfl, HI⟩ := hrel
              rename World => wr'
              by_cases hkm' : k' < m
              · have hd' : decide ((k' : Int) < (m : Int)) = true := by simp; exact hkm'
                obtain ⟨e1, e2, e3⟩ := HPRE.out k' hkm'
                obtain ⟨hrow, hfr, hlen, hsf⟩ := HI.out
                obtain ⟨y1, z1⟩ := row_cell hrow (hsf k' (Nat.le_refl _))
                have y2 := hfr.cell (row_cell HB.out.1 (map_at (cf m EL) (show k' < m + 1 by omega))).1 (by simp)
                obtain ⟨x0, hx0⟩ : ∃ x0, SF[k' + 1]? = some x0 := ⟨_, List.getElem?_eq_getElem (by omega)⟩
                obtain ⟨y3, z3⟩ := row_cell hrow hx0
                have x1 := index26z (b := K2) (c := m + 1) (show k' < m + 1 by omega)
                have x2 := index26z (b := K1) (c := m + 1) (show k' < m + 1 by omega)
                have x3 := index26z (b := K2) (c := m + 1) (show k' + 1 < m + 1 by omega)
                rw [show ((k' + 1 : Nat) : Int) = (k' : Int) + 1 by omega] at x3
                have HNX : Hid (∀ q, ((wr'.drewN q).setCell ⟨K2, k' + 1, none⟩ (.int .i64 ((pre SL k' + cf m EL k' : Nat) : Int))).ownsRow K2 3 1 (.slice (some ⟨K2, 0, none⟩) (m + 1) (m + 1)) (m + 1) (ints (SF.set (k' + 1) (pre SL k' + cf m EL k'))) ∧ Fr wb ((wr'.drewN q).setCell ⟨K2, k' + 1, none⟩ (.int .i64 ((pre SL k' + cf m EL k' : Nat) : Int))) [] ∧ (SF.set (k' + 1) (pre SL k' + cf m EL k')).length = m + 1 ∧ ∀ i, i ≤ k' + 1 → (SF.set (k' + 1) (pre SL k' + cf m EL k'))[i]? = some (pre SL i)) := fun q => by
                  refine ⟨own_seti (own_same (w' := wr'.drewN q) hrow fun _ _ => rfl) _ _, (hfr.drewN q).set (.inr (by rw [HK2.out]; exact Nat.le_refl _)) _ _, by simp [hlen], fun i hi => ?_⟩
                  rw [List.getElem?_set]
                  by_cases e : k' + 1 = i
                  · subst e; rw [if_pos rfl, if_pos (by omega), e1]
                  · rw [if_neg e]; exact hsf i (by omega)
                have ex1 : pre SL k' ≤ 65536 := by omega
                clear hrow hfr hlen hsf hx0 e1 e2 HI
                generalize pre SL k' = pk at *
                generalize cf m EL k' = ck at *
                go_wp2_with fail
                go_region
                all_goals
                  go_wp2_with fail
                  go_roundw
                  case rel => exact ⟨k' + 1, _, by omega, by go_num, HNX.out 1⟩
                  case measure => simp [intOf]; omega
              · have hd' : decide ((k' : Int) < (m : Int)) = false := by simp; omega
                obtain rfl : m = k' := by omega
                obtain ⟨hrow, hfr, hlen, hsf⟩ := HI.out
                have HCC : Hid (Fr wb wr' [] ∧ ∀ i, i ≤ m → wr'.cell? ⟨K2, i, none⟩ = some (.int .i64 (pre SL i : Int))) := ⟨hfr, fun i hi => (row_cell hrow (hsf i hi)).1⟩
                have y1 : wr'.cell? ⟨K2, m, none⟩ = some (.int .i64 (fl : Int)) := by rw [← HPM.out.1]; exact HCC.out.2 m (Nat.le_refl _)
                have x1 := index26z (b := K2) (c := m + 1) (show m < m + 1 by omega)
                have x2 := slice26t (x := ⟨K2, 0, none⟩) (n := m + 1) (c := m + 1) (j := m) (by omega)
                clear hrow hfr hlen hsf HI HPRE
                obtain ⟨K3, hK3⟩ : ∃ K3, wr'.heap.size = K3 := ⟨_, rfl⟩
                have HK3 : Hid (wr'.heap.size = K3) := hK3
                have HD0 : Hid (((wr'.alloc (.cells C3 3)).alloc (.cells C4 3)).ownsRow K3 3 1 (.slice (some ⟨K3, 0, none⟩) fl fl) fl (ints (List.replicate fl 0)) ∧ ((wr'.alloc (.cells C3 3)).alloc (.cells C4 3)).ownsRow K3 3 1 (.slice (some ⟨K3 + 1, 0, none⟩) m m) m (ints (List.replicate m 0)) ∧ Fr wr' ((wr'.alloc (.cells C3 3)).alloc (.cells C4 3)) []) := by
                  have g1 := made_own (w := wr') (E := 3) (B := K3) HC3.out (by omega) (by omega)
                  have g2 := made_own (w := wr'.alloc (.cells C3 3)) (E := 3) (B := K3) HC4.out (by omega) (by simp; omega)
                  have s1 : (wr'.alloc (.cells C3 3)).heap.size = K3 + 1 := by simp [hK3]
                  rw [ints_zero] at g1 g2
                  rw [hK3] at g1
                  rw [s1] at g2
                  exact ⟨g1.alloc _, g2, ((Fr.refl _ _).alloc _).alloc _⟩
                go_upto_region 45 with fail
                clear hK3 y1 x1
                generalize (wr'.alloc (.cells C3 3)).alloc (.cells C4 3) = we at *
                have HSRC : Hid (0 < m → ∃ ad, some (⟨K2, 0, none⟩ : Addr) = some ad ∧ ∀ j v, (ints ((List.range m).map (pre SL)))[j]? = some v → we.cell? (ad.add j) = some v) := fun _ => ⟨_, rfl, fun j v hv => by
                  have hj : j < m := by have := (List.getElem?_eq_some_iff.1 hv).1; simpa [ints] using this
                  rw [ints_get (map_at (pre SL) hj)] at hv
                  cases hv
                  rw [add0]
                  exact HD0.out.2.2.cell (HCC.out.2 j (by omega)) (by simp)⟩
                have hlm : (ints ((List.range m).map (pre SL))).length = m := by rw [ints_len]; simp
                go_upto_if 214 with (first | (refine wpList_copyRow rfl (.tmp 208) (.tmp 211) rfl rfl HD0.out.2.1 rfl hlm HSRC.out (ints_one _) ?_; intro wf q1 q2; have HF1 : Hid (wf.ownsRow K3 3 1 (.slice (some ⟨K3 + 1, 0, none⟩) m m) m (ints ((List.range m).map (pre SL)))) := q1; have HF2 : Hid (Fr we wf [K3 + 1]) := q2; clear q1 q2))
                have HE0 : Hid (wf.ownsRow K3 3 1 (.slice (some ⟨K3, 0, none⟩) fl fl) fl (ints (List.replicate fl 0)) ∧ wf.ownsRow K3 3 1 (.slice (some ⟨K3 + 1, 0, none⟩) m m) m (ints ((List.range m).map fun k => pre SL k + (sucOf m (EL.take 0) k).length)) ∧ Fr wr' wf [] ∧ UOk m EL 0 (List.replicate fl 0)) := by
                  refine ⟨HF2.out.own HD0.out.1 (fun b hb => by cases hb; simp), ?_, HD0.out.2.2.then HF2.out fun c hc => .inr (by simp at hc; have := HK3.out; omega), ?_⟩
                  · have e : ((List.range m).map fun k => pre SL k + (sucOf m (EL.take 0) k).length) = (List.range m).map (pre SL) := by
                      apply List.map_congr_left
                      intro k _
                      simp [sucOf]
                    rw [e]; exact HF1.out
                  · have := UOk.start m EL
                    rw [← HSL.out, ← HFL.out] at this
                    exact this
                clear HSRC HD0 HF1 HF2 mk3 mk4 mk1 mk2 x2
                go_cut [] (fun wx => Hid (NatsAt wx K3 0 SL.flatten ∧ Fr wr' wx []))
                case first => as_aux_lemma =>
                  by_cases hm0 : 0 < m
                  · have hdm : decide ((0 : Int) < (m : Int)) = true := by simp; exact hm0
                    have hdm' : decide (0 < m) = true := by simp; exact hm0
                    have em0 : ((m : Int) == 0) = false := by simp; omega
                    have em1 : ¬ ((m : Int) = 0) := by omega
                    have HM0 : Hid (0 < m) := hm0
                    go_wp2_with fail
                    simp only [hdm']
                    clear hdm hdm' hm0
                    go_loopw [217] (fun s wg => ∃ (t : Nat) (U : List Nat), t ≤ n1 ∧ s = .int .i64 t ∧ Hid (wg.ownsRow K3 3 1 (.slice (some ⟨K3, 0, none⟩) fl fl) fl (ints U) ∧ wg.ownsRow K3 3 1 (.slice (some ⟨K3 + 1, 0, none⟩) m m) m (ints ((List.range m).map fun k => pre SL k + (sucOf m (EL.take t) k).length)) ∧ Fr wr' wg [] ∧ UOk m EL t U)) (fun s _ => n1 - (intOf s).toNat)
                    case atStart => exact ⟨0, _, Nat.zero_le _, rfl, HE0⟩
                    case round =>
                      clear HE0
                      obtain ⟨t, U, ht, rfl, HI⟩ := hrel
                      rename World => wg
                      by_cases htl : t < n1
                      · have hd : decide ((t : Int) < (n1 : Int)) = true := by simp; exact htl
                        obtain ⟨⟨f, u⟩, he⟩ : ∃ e, EL[t]? = some e := ⟨_, List.getElem?_eq_getElem (by rw [← H1.out]; exact htl)⟩
                        obtain ⟨r1, r2⟩ := H1R.out t _ he
                        obtain ⟨fb, ub⟩ := H1B.out _ (List.mem_of_getElem? he)
                        dsimp only at r1 r2 fb ub
                        have hch : Fr w wg [] := ((HA.out.1.trans HB.out.2).trans HCC.out.1).trans HI.out.2.2.1
                        have y1 := hch.cell r1 (by simp)
                        have y2 := hch.cell r2 (by simp)
                        have x1 := index42 (c := c1) H1A.out htl
                        obtain ⟨a, ha, ham, ea⟩ := mod_letter f m HM0.out
                        obtain ⟨b, hb, hbm, eb⟩ := mod_letter u m HM0.out
                        have ea2 : (f : Int).tmod (m : Int) = (a : Int) := by rw [Int.tmod_eq_emod_of_nonneg (by omega)]; exact ea
                        have eb2 : (u : Int).tmod (m : Int) = (b : Int) := by rw [Int.tmod_eq_emod_of_nonneg (by omega)]; exact eb
                        have HE : Hid (EL[t]? = some (f, u) ∧ a = f % m ∧ b = u % m) := ⟨he, ha, hb⟩
                        clear r1 r2 he ha hb hch
                        go_upto_region 50 with fail
                        clear y1 y2 x1
                        obtain ⟨hs, hhs⟩ : ∃ hs, wg.heap.size = hs := ⟨_, rfl⟩
                        have hnew := heap_new wg (.cells #[.int .u16 (f : Int), .int .u16 (u : Int)] 46)
                        rw [hhs] at hnew ⊢
                        have HI2 : Hid ((wg.alloc (.cells #[.int .u16 (f : Int), .int .u16 (u : Int)] 46)).ownsRow K3 3 1 (.slice (some ⟨K3, 0, none⟩) fl fl) fl (ints U) ∧ (wg.alloc (.cells #[.int .u16 (f : Int), .int .u16 (u : Int)] 46)).ownsRow K3 3 1 (.slice (some ⟨K3 + 1, 0, none⟩) m m) m (ints ((List.range m).map fun k => pre SL k + (sucOf m (EL.take t) k).length)) ∧ Fr wr' (wg.alloc (.cells #[.int .u16 (f : Int), .int .u16 (u : Int)] 46)) [] ∧ UOk m EL t U) := ⟨HI.out.1.alloc _, HI.out.2.1.alloc _, HI.out.2.2.1.alloc _, HI.out.2.2.2⟩
                        clear hhs HI
                        generalize wg.alloc (.cells #[.int .u16 (f : Int), .int .u16 (u : Int)] 46) = wa at *
                        have ya : wa.cell? ⟨hs, 0, none⟩ = some (.int .u16 (f : Int)) := by simp [World.cell?, hnew]
                        have yb : wa.cell? ⟨hs, 1, none⟩ = some (.int .u16 (u : Int)) := by simp [World.cell?, hnew]
                        clear hnew
                        have HST : Hid (∀ (i b' : Nat), i < m → ne1 m (f, u) = some (i, b') → ∃ x y, x < fl ∧ wa.cell? ⟨K3 + 1, i, none⟩ = some (.int .i64 (x : Int)) ∧ wa.frozen? ⟨K3 + 1, i, none⟩ = false ∧ wa.cell? ⟨K3, x, none⟩ = some (.int .i64 (y : Nat)) ∧ wa.frozen? ⟨K3, x, none⟩ = false ∧
                            ∀ q, (((wa.drewN q).setCell ⟨K3, x, none⟩ (.int .i64 (b' : Int))).setCell ⟨K3 + 1, i, none⟩ (.int .i64 ((x + 1 : Nat) : Int))).ownsRow K3 3 1 (.slice (some ⟨K3, 0, none⟩) fl fl) fl (ints (U.set x b')) ∧ (((wa.drewN q).setCell ⟨K3, x, none⟩ (.int .i64 (b' : Int))).setCell ⟨K3 + 1, i, none⟩ (.int .i64 ((x + 1 : Nat) : Int))).ownsRow K3 3 1 (.slice (some ⟨K3 + 1, 0, none⟩) m m) m (ints ((List.range m).map fun k => pre SL k + (sucOf m (EL.take (t + 1)) k).length)) ∧ Fr wr' (((wa.drewN q).setCell ⟨K3, x, none⟩ (.int .i64 (b' : Int))).setCell ⟨K3 + 1, i, none⟩ (.int .i64 ((x + 1 : Nat) : Int))) [] ∧ UOk m EL (t + 1) (U.set x b')) := fun i b' hi hne => by
                          obtain ⟨k1, k2, k3, k4⟩ := HI2.out
                          have i2 := (suc_idx HE.out.1 hne hi).2
                          have k5 := k4.step HE.out.1 hne hi
                          rw [← HSL.out] at i2 k5
                          rw [← HFL.out] at i2
                          obtain ⟨x, hx⟩ : ∃ x, pre SL i + (sucOf m (EL.take t) i).length = x := ⟨_, rfl⟩
                          rw [hx] at i2 k5
                          have hUl : U.length = fl := by rw [k4.1, ← HSL.out, ← HFL.out]
                          have hy : U[x]? = some (U[x]'(by omega)) := List.getElem?_eq_getElem (by omega)
                          have g1 := row_cell k1 hy
                          have g2 := row_cell k2 (map_at (fun k => pre SL k + (sucOf m (EL.take t) k).length) hi)
                          rw [hx] at g2
                          have hK3w := HK3.out
                          refine ⟨x, _, i2, g2.1, g2.2, g1.1, g1.2, fun q => ⟨?_, ?_, ?_, k5⟩⟩
                          · exact own_same (own_seti (own_same (w' := wa.drewN q) k1 fun _ _ => rfl) x b') fun bb hbb => far1 hbb (by omega)
                          · have h5 := own_seti (own_same (w' := (wa.drewN q).setCell ⟨K3, x, none⟩ (.int .i64 (b' : Int))) k2 fun bb hbb => far1 (w := wa.drewN q) hbb (by omega)) i (x + 1)
                            rw [map_set] at h5
                            have e : ((List.range m).map fun k => pre SL k + (sucOf m (EL.take (t + 1)) k).length) = (List.range m).map fun k => if k = i then x + 1 else pre SL k + (sucOf m (EL.take t) k).length := by
                              apply List.map_congr_left
                              intro k _
                              rw [sucOf_add HE.out.1 hne]
                              by_cases hk : k = i
                              · subst hk; rw [if_pos rfl, if_pos rfl, List.length_append, ← hx]; rfl
                              · rw [if_neg hk, if_neg hk]
                            rw [e]; exact h5
                          · exact ((k3.drewN q).set (.inr (by omega)) _ _).set (.inr (by omega)) _ _
                        rcases Nat.lt_trichotomy a b with hab | hab | hab
                        · as_aux_lemma =>
                          have d1 : decide ((b : Int) < (a : Int)) = false := by simp; omega
                          have d1' : decide (b < a) = false := by simp; omega
                          have d2 : ((a : Int) == (b : Int)) = false := by simp; omega
                          have d2' : (a == b) = false := by simp; omega
                          have d3 : ¬ ((a : Int) = (b : Int)) := by omega
                          have d3' : ¬ (a = b) := by omega
                          have hne : ne1 m (f, u) = some (a, b) := by
                            have h5 := HE.out.2.1
                            have h6 := HE.out.2.2
                            rw [h5, h6]; exact ne1_lt (by omega)
                          obtain ⟨x, y, hxf, y3, z3, y4, z4, hst⟩ := HST.out a b ham hne
                          have x2 := index26z (b := K3 + 1) (c := m) ham
                          have x3 := index26z (b := K3) (c := fl) hxf
                          have HNX : Hid _ := hst
                          clear hst hne hab HST
                          go_quiet (fail)
                          go_wp2_with fail
                          go_roundw
                          case rel => exact ⟨t + 1, U.set x b, by omega, by go_num, hidI (HNX.out _)⟩
                          case measure => simp [intOf]; omega
                        · as_aux_lemma =>
                          subst hab
                          have HI3 : Hid (wa.ownsRow K3 3 1 (.slice (some ⟨K3, 0, none⟩) fl fl) fl (ints U) ∧ wa.ownsRow K3 3 1 (.slice (some ⟨K3 + 1, 0, none⟩) m m) m (ints ((List.range m).map fun k => pre SL k + (sucOf m (EL.take (t + 1)) k).length)) ∧ Fr wr' wa [] ∧ UOk m EL (t + 1) U) := by
                            obtain ⟨k1, k2, k3, k4⟩ := HI2.out
                            have hne : ne1 m (f, u) = none := ne1_eq (by rw [← HE.out.2.1, ← HE.out.2.2])
                            refine ⟨k1, ?_, k3, k4.skip HE.out.1 hne⟩
                            have e : ((List.range m).map fun k => pre SL k + (sucOf m (EL.take (t + 1)) k).length) = (List.range m).map fun k => pre SL k + (sucOf m (EL.take t) k).length := by
                              apply List.map_congr_left
                              intro k _
                              rw [sucOf_skip HE.out.1 hne]
                            rw [e]; exact k2
                          clear HST
                          go_quiet (fail)
                          go_wp2_with fail
                          go_roundw
                          case rel => exact ⟨t + 1, U, by omega, by go_num, hidI ⟨own_same HI3.out.1 fun _ _ => rfl, own_same HI3.out.2.1 fun _ _ => rfl, HI3.out.2.2.1.drewN _, HI3.out.2.2.2⟩⟩
                          case measure => simp [intOf]; omega
                        · as_aux_lemma =>
                          have d1 : decide ((b : Int) < (a : Int)) = true := by simp; omega
                          have d1' : decide (b < a) = true := by simp; omega
                          have d2 : ((a : Int) == (b : Int)) = false := by simp; omega
                          have d2' : (a == b) = false := by simp; omega
                          have d3 : ¬ ((a : Int) = (b : Int)) := by omega
                          have d3' : ¬ (a = b) := by omega
                          have hne : ne1 m (f, u) = some (b, a) := by
                            have h5 := HE.out.2.1
                            have h6 := HE.out.2.2
                            rw [h5, h6]; exact ne1_gt (by omega)
                          obtain ⟨x, y, hxf, y3, z3, y4, z4, hst⟩ := HST.out b a hbm hne
                          have x2 := index26z (b := K3 + 1) (c := m) hbm
                          have x3 := index26z (b := K3) (c := fl) hxf
                          have HNX : Hid _ := hst
                          clear hst hne hab HST
                          go_quiet (fail)
                          go_wp2_with fail
                          go_roundw
                          case rel => exact ⟨t + 1, U.set x a, by omega, by go_num, hidI (HNX.out _)⟩
                          case measure => simp [intOf]; omega
                      · have hd : decide ((t : Int) < (n1 : Int)) = false := by simp; omega
                        go_wp2_with fail
                        go_meet
                        have e := HI.out.2.2.2.done (by rw [← H1.out]; omega)
                        rw [← HSL.out] at e
                        refine hidI ⟨fun i x hx => ?_, HI.out.2.2.1⟩
                        rw [Nat.zero_add]
                        rw [← e] at hx
                        exact (row_cell HI.out.1 hx).1
                  · have hdm : decide ((0 : Int) < (m : Int)) = false := by simp; omega
                    have hdm' : decide (0 < m) = false := by simp; omega
                    go_wp2_with fail
                    go_meet
                    have e : SL.flatten = [] := by
                      rw [HSL.out]
                      have : m = 0 := by omega
                      rw [this]; rfl
                    rw [e]
                    exact hidI ⟨NatsAt.nil _ _ _, HE0.out.2.2.1⟩
                case rest =>
                  have HD : Hid (NatsAt wc K3 0 SL.flatten ∧ Fr wr' wc []) := hcut
                  clear hcut HE0
                  rename World => wg
                  have hch : Fr w1 wg [] := (HB.out.2.trans HCC.out.1).trans HD.out.2
                  have hslm : ∀ (q : Nat) L r, SL[q]? = some L → r ∈ L → r < m := fun q L r hq hr => by
                    rw [HSL.out] at hq
                    have hqm : q < m := by have := (List.getElem?_eq_some_iff.1 hq).1; rwa [sucs_len] at this
                    rw [sucs_at hqm] at hq
                    cases hq
                    exact sucOf_lt (by omega) hr
                  have hpre : Pre57 w wg H K2 K3 n m fl SZ C SL := ⟨H0.out, h0l, HN.out, hnl, HA.out.2.1, HA.out.2.2.1.frS hch (by simp), HA.out.2.2.2.1.frS hch (by simp), fun i hi => hch.cell (HA.out.2.2.2.2 i hi) (by simp), HD.out.1, fun i hi => HD.out.2.cell (HCC.out.2 i hi) (by simp), HFL.out, hfl2, by rw [HSL.out, sucs_len], hslm, HA.out.1.trans hch, HTAB.out.1, HTAB.out.2⟩
                  rename_i hK
                  refine hK _ _ ?_
                  exact law2 w wg H K2 K3 n m fl SZ C SL a2 n2 c2 b2 o2 S1 a3 n3 c3 b3 o3 S2 a4 n4 c4 b4 o4 D hpre ⟨H2.out.1, h2l, H2.out.2.1, H2.out.2.2.1, H2.out.2.2.2⟩ ⟨H3.out.1, h3l, H3.out.2.1, H3.out.2.2.1, H3.out.2.2.2⟩ ⟨H4.out.1, h4l, H4.out.2.1, H4.out.2.2.1, H4.out.2.2.2⟩ _ _ _ _ _ _ _ _ _ _ _ _ _ _ _ _ _ _ _ _ _ _ _ _ _ _ _ _ _ _ _ _ _ _ _ _ _ _ _ _ _ _ _ _ _ _ _ _ _ _ _ _ _ _ _ _ _ _ _ _ _ _ _ _ _ _ _ _ _ _ _ _ _ _ _ _ _ _ _ _ _ _ _ _ _ _ _ _ _ _ _ _ _ _ _ _ _ _ _ _ _ _ _ _ _ _ _ _ _ _ _ _ _ _ _ _ _ _ _ _ _ _ _ _ _ _ _ _ _ _ _ _ _ _ _ _ _ _ _ _ _ _ _ _ _ _ _ _ _ _ _ _ _ _ _ _ _ _ _ _ _ _ _ _ _ _ _ _ _ _ _ _ _ _ _ _ _ _ _ _ _ _ _ _ _ _ _ _ _ _ _ _ _ _ _ _ _ _ _ _ _ _ _ _ _ _ _ _ _ _ _ _ _ _ _ _ _ _ _ _ _ _ _ _ _ _ _ _ _ _ _ _ _ _ _ _ _ _ _ _ _ _ _ _ _ _ _ _ _ _ _ _ _ _ _ _ _ _ _ _ _ _ _ _ _ _ _ _ _ _ _ _ _ _ _ _ _ _ _ _ _ _ _ _ _ _ _ _ _ _ _ _ _ _ _ _ _ _ _ _ _ _ _ _ _ _ _ _ _ _ _ _ _ _ _ _ _ _ _ _ _ _ _ _ _ _ _ _ _ _ _ _ _ _ _ _ _ _ _ _ _ _ _ _ _ _ _ _
end Go.Proofs.YbulkdxbkDoor
