import Derived.Test.YbulkdxbkDoorKk
import Derived.Test.YbulkdxbkDoorKj
namespace Go.Proofs.YbulkdxbkDoor
open Go.RowKit
set_option linter.unusedVariables false

theorem low_rest {k m : Nat} : 2 ^ k * (2 * m) < 2 ^ k * (2 * m + 1) := by
  have := Nat.two_pow_pos k
  rw [Nat.mul_add]; omega
set_option maxRecDepth 100000 in
set_option maxHeartbeats 8000000 in
theorem order_any (w0 w : World) (wv0 kv0 : Value) (B K cb gb mk m : Nat) (nf : Bool) (sv rv : Value) (b1 b2 nw nu : Nat) (wo : Option Addr) (wc : Nat) (od : Bool) (ko : Option Addr) (kc : Nat) (BL UL WL KL : List Nat) (p : Nat → Bool)
    (hT : TabAt w0) (h3 : 3 ∉ sbS cb b1 b2 wv0 kv0) (hs : SB w0 wv0 kv0 B K cb gb mk m nf sv rv b1 b2 nw nu w wo wc od ko kc BL UL WL KL) (hb : BI nw nu p od BL UL WL KL) :
    Calls Ybad.prog 32 #[.pointer (some ⟨cb, 5, none⟩)] w fun e w' => e = .returned (.tuple #[]) ∧ ∃ wo' wc' od' WL' KL', SB w0 wv0 kv0 B K cb gb mk m nf sv rv b1 b2 nw nu w' wo' wc' od' ko kc BL UL WL' KL' ∧ BI nw nu p od' BL UL WL' KL' ∧ Asc WL' := by
  have hnu3 := hb.nu3
  obtain ⟨⟨c5, c6, c7, c8, c9⟩, f6, f7, f9⟩ := hs.cells
  have HS : Hid (SB w0 wv0 kv0 B K cb gb mk m nf sv rv b1 b2 nw nu w wo wc od ko kc BL UL WL KL) := hs
  have HBI : Hid (BI nw nu p od BL UL WL KL) := hb
  cases od with
  | true =>
    clear hs hb
    go_enter Ybad.func32, Ybad.ntmps32
    go_wp2_with fail
    refine bodyPost_ret (results_none rfl _ _ _) rfl ?_
    exact ⟨rfl, _, _, _, _, _, HS.out, HBI.out, HBI.out.ord rfl⟩
  | false =>
    by_cases hl : WL.length < 2
    · have hd : decide ((WL.length : Int) < 2) = true := by simp; omega
      have hd2 : decide (WL.length < 2) = true := by simp; omega
      have HL : Hid (Asc WL) := asc_short hl
      clear hs hb hl
      generalize WL.length = wl at *
      go_enter Ybad.func32, Ybad.ntmps32
      go_wp2_with fail
      refine bodyPost_ret (results_none rfl _ _ _) rfl ?_
      exact ⟨rfl, _, _, _, _, _, HS.out, HBI.out, HL.out⟩
    · have hd : decide ((WL.length : Int) < 2) = false := by simp; omega
      have hd2 : decide (WL.length < 2) = false := by simp; omega
      have hkl0 : 0 < KL.length := by
        cases hwl : WL with
        | nil => rw [hwl] at hl; simp at hl
        | cons i r =>
          have hi : i ∈ WL := by rw [hwl]; simp
          have h1 := ((hb.wmem i).1 hi).1
          have h2 := hb.nu1
          have h4 := (hb.use i (by omega)).2 hi
          have h5 : i / 64 ∈ KL := (hb.kmem _).2 ⟨by omega, fun e => by rw [e] at h4; simp at h4⟩
          exact List.length_pos_of_mem h5
      have hkl3 := hb.kml
      obtain ⟨vo, cap, gk, e1, e2, _, _⟩ := own_form hs.kown
      cases e1
      have e3 := e2 hkl0
      subst e3
      have hsort := sort_any w K gk KL.length kc KL (by omega) hkl0 rfl hb.kd hs.kown
      have HSORT : Hid (Calls Ybad.prog 42 #[.slice (some ⟨gk, 0, none⟩) KL.length kc] w fun e w' => e = .returned (.tuple #[]) ∧ ∃ L, Asc L ∧ L.length = KL.length ∧ (∀ x, x ∈ L ↔ x ∈ KL) ∧ w'.ownsRow K 3 1 (.slice (some ⟨gk, 0, none⟩) KL.length kc) KL.length (ints L) ∧ Fr w w' [gk]) := hsort
      have HL : Hid (¬ WL.length < 2) := hl
      clear hsort hs hb hl e2
      obtain ⟨kl, hkl⟩ : ∃ kl, KL.length = kl := ⟨_, rfl⟩
      have HKL : Hid (KL.length = kl) := hkl
      rw [hkl] at c9 HSORT hkl0 hkl3
      obtain ⟨wl, hwl⟩ : ∃ wl, WL.length = wl := ⟨_, rfl⟩
      have HWL : Hid (WL.length = wl) := hwl
      rw [hwl] at c6 hd hd2
      clear hkl hwl
      go_enter Ybad.func32, Ybad.ntmps32
      go_upto_region 2 with (first | (go_at_call 42; refine HSORT.out.mono ?_; rintro e w1 ⟨rfl, K2, hk1, hk2, hk3, hk4, hk5⟩; have HK : Hid (Asc K2 ∧ K2.length = kl ∧ (∀ x, x ∈ K2 ↔ x ∈ KL) ∧ w1.ownsRow K 3 1 (.slice (some ⟨gk, 0, none⟩) kl kc) kl (ints K2) ∧ Fr w w1 [gk]) := ⟨hk1, hk2, hk3, hk4, hk5⟩; clear hk1 hk2 hk3 hk4 hk5))
      clear c5 c6 c7 c8 c9 f6 f7 f9 hd hd2
      have hs1 : SB w0 wv0 kv0 B K cb gb mk m nf sv rv b1 b2 nw nu w1 wo wc false (some ⟨gk, 0, none⟩) kc BL UL WL K2 := HS.out.kRow (by rw [HK.out.2.1, HKL.out]) (by rw [HKL.out]; exact HK.out.2.2.2.1) HK.out.2.2.2.2
      obtain ⟨⟨c5, c6, c7, c8, c9⟩, f6, f7, f9⟩ := hs1.cells
      rw [HK.out.2.1] at c9
      rw [HWL.out] at c6
      have hs0 := slice0 (a := wo) (n := wl) (c := wc) (fun h => by
        subst h
        rcases hs1.wown.2 with ⟨h1, h2⟩ | ⟨_, _, _, h1, _⟩
        · injection h1 with _ h5 h6; exact ⟨by rw [← HWL.out, h5], h6⟩
        · cases h1)
      have hz := hs1.setW (w2 := w1) (wo2 := wo) (wc2 := wc) (WL2 := []) (own_zero hs1.wown) (Fr.refl _ _) (fun b hb => .inl ((ownBlock_len _ _ _ _ _).trans hb))
      have HZ : Hid (SB w0 wv0 kv0 B K cb gb mk m nf sv rv b1 b2 nw nu (w1.setCell ⟨cb, 6, none⟩ (.slice wo 0 wc)) wo wc false (some ⟨gk, 0, none⟩) kc BL UL (spread (at64 UL) (K2.take 0)) K2) := hz
      clear hs1 hz
      go_wp2_with fail
      go_loopw [35] (fun s wr => ∃ (t : Nat) (wo : Option Addr) (wc : Nat), t ≤ kl ∧ s = .int .i64 t ∧ SB w0 wv0 kv0 B K cb gb mk m nf sv rv b1 b2 nw nu wr wo wc false (some ⟨gk, 0, none⟩) kc BL UL (spread (at64 UL) (K2.take t)) K2) (fun s _ => kl - (intOf s).toNat)
      case atStart => exact ⟨0, wo, wc, Nat.zero_le _, rfl, HZ.out⟩
      case round =>
        clear HZ c5 c6 c7 c8 c9 f6 f7 f9 hs0
        obtain ⟨t, wo, wc, ht, rfl, hsb⟩ := hrel
        rename World => wr
        have HSB : Hid (SB w0 wv0 kv0 B K cb gb mk m nf sv rv b1 b2 nw nu wr wo wc false (some ⟨gk, 0, none⟩) kc BL UL (spread (at64 UL) (K2.take t)) K2) := hsb
        obtain ⟨⟨c5, c6, c7, c8, c9⟩, f6, f7, f9⟩ := hsb.cells
        by_cases htl : t < kl
        · have hd : decide ((t : Int) < (kl : Int)) = true := by simp; exact htl
          obtain ⟨j, hj⟩ : ∃ j, K2[t]? = some j := ⟨_, List.getElem?_eq_getElem (by rw [HK.out.2.1]; exact htl)⟩
          have hjn : j < nu := ((HBI.out.kmem j).1 ((HK.out.2.2.1 j).1 (List.mem_of_getElem? hj))).1
          have hkn : K2.length = kl := HK.out.2.1
          have y1 : wr.cell? ⟨gk, t, none⟩ = some (.int .i64 (j : Int)) := own_cell hsb.kown (ints_get hj)
          have x1 := index26z (b := gk) (c := kc) htl
          obtain ⟨y2, z2⟩ := hsb.useAt HBI.out.ul hjn
          have x2 := index58i (b := b2) (c := nu) hjn
          obtain ⟨xu, hxu⟩ : ∃ xu, xu = at64 UL j := ⟨_, rfl⟩
          rw [← hxu] at y2
          have hxl : xu < 18446744073709551616 := by rw [hxu]; exact HBI.out.ub j
          have HXU : Hid (xu = at64 UL j ∧ K2[t]? = some j) := ⟨hxu, hj⟩
          have hj3 : j < 3 := by omega
          clear hj hxu hsb hkn
          go_wp2_with fail
          clear c5 c6 c7 c8 c9 f6 f7 f9 y1 x1 y2 z2 x2
          go_loopw [4] (fun s wq => ∃ (x : Nat) (wo : Option Addr) (wc : Nat) (W : List Nat), x < 18446744073709551616 ∧ s = .int .u64 x ∧ SB w0 wv0 kv0 B K cb gb mk m nf sv rv b1 b2 nw nu wq wo wc false (some ⟨gk, 0, none⟩) kc BL UL W K2 ∧ Hid (W ++ put64 j x = spread (at64 UL) (K2.take t) ++ put64 j xu)) (fun s _ => (intOf s).toNat)
          case atStart => exact ⟨xu, wo, wc, _, hxl, rfl, HSB.out, (rfl : spread (at64 UL) (K2.take t) ++ put64 j xu = spread (at64 UL) (K2.take t) ++ put64 j xu)⟩
          case round =>
            clear HSB
            obtain ⟨x, wo, wc, W, hx, rfl, hsb, HW⟩ := hrel
            rename World => wq
            have HSB : Hid (SB w0 wv0 kv0 B K cb gb mk m nf sv rv b1 b2 nw nu wq wo wc false (some ⟨gk, 0, none⟩) kc BL UL W K2) := hsb
            by_cases hx0 : x = 0
            · subst hx0
              clear hsb
              go_wp2_with fail
              go_roundw
              case rel =>
                refine ⟨t + 1, wo, wc, by omega, by go_num, ?_⟩
                have h1 := HW.out
                rw [put64_zero, List.append_nil, HXU.out.1, ← spread_snoc, ← take_snoc HXU.out.2] at h1
                rw [← h1]; exact HSB.out
              case measure => simp [intOf]; omega
            · have hne : ¬ ((x : Int) = 0) := by omega
              have hne' : ((x : Int) == 0) = false := by simp; omega
              obtain ⟨k, q, hxe⟩ := odd_part x (by omega)
              have hk64 : k < 64 := low_lt (hxe ▸ hx)
              obtain ⟨v, hv⟩ : ∃ v, v = j * 64 + k := ⟨_, rfl⟩
              have hv1 : (j : Int) * 64 + (k : Int) = (v : Int) := by omega
              have hv2 : IntKind.i64.wrap ((j : Int) * 64) = (j : Int) * 64 := by simp [IntKind.wrap, IntKind.signed, IntKind.bits]; omega
              have hv3 : IntKind.i64.wrap (v : Int) = (v : Int) := by simp [IntKind.wrap, IntKind.signed, IntKind.bits]; omega
              have HV : Hid (v = j * 64 + k ∧ x = 2 ^ k * (2 * q + 1)) := ⟨hv, hxe⟩
              have ha := and_pred_u64 hxe hx
              obtain ⟨y, hy⟩ : ∃ y, y = 2 ^ k * (2 * q) := ⟨_, rfl⟩
              rw [← hy] at ha
              have ha2 : bits BinOp.and IntKind.u64 (x : Int) ((x : Int) - 1) = (y : Int) := by
                rw [← ha]; congr 1; simp [IntKind.wrap, IntKind.signed, IntKind.bits]; omega
              have hyx : y < x := by rw [hy, hxe]; exact low_rest
              have HY : Hid (y = 2 ^ k * (2 * q)) := hy
              have HTAB : Hid (TabAt wq) := hsb.tab hT h3
              obtain ⟨⟨c5, c6, c7, c8, c9⟩, f6, f7, f9⟩ := hsb.cells
              have hown := hsb.wown
              have hbc := hsb.wfar hsb.c2
              have hblk := hsb.blk
              have hKq := hsb.kw
              have hwl : W.length ≤ 192 := by
                have h1 := congrArg List.length HW.out
                have h2 : (spread (at64 UL) (K2.take t) ++ put64 j xu).length ≤ nw := by
                  rw [HXU.out.1, ← spread_snoc, ← take_snoc HXU.out.2]
                  have hbw := HBI.out.words HK.out.1 HK.out.2.2.1
                  refine len_le_of_nodup nw _ (asc_nodup (spread_asc (asc_take HK.out.1 _))) fun x hx => ?_
                  have h5 := mem_spread.1 hx
                  exact ((hbw.wmem x).1 (mem_spread.2 ⟨List.mem_of_mem_take h5.1, h5.2⟩)).1
                have h3 := HBI.out.nu1
                rw [List.length_append] at h1
                omega
              obtain ⟨wl2, hwl2⟩ : ∃ wl2, W.length = wl2 := ⟨_, rfl⟩
              have HWL2 : Hid (W.length = wl2) := hwl2
              rw [hwl2] at c6 hown hbc hblk hwl
              have HKEEP : Hid (∀ w2, Fr ((wq.alloc (.cells #[.int .i64 (v : Int)] 3)).drew) w2 (blks (.slice wo wl2 wc)) → w2.cell? ⟨cb, 6, none⟩ = some (.slice wo wl2 wc) ∧ w2.frozen? ⟨cb, 6, none⟩ = false) := fun w2 hf => by
                have hf' : Fr wq w2 (blks (.slice wo wl2 wc)) := (((Fr.refl wq _).alloc _).drew).then hf fun c hc => .inl hc
                have hb2 := hf'.blk hblk hbc
                exact ⟨by simp [World.cell?, hb2], by simp [World.frozen?, hb2]⟩
              have HOA : Hid (((wq.alloc (.cells #[.int .i64 (v : Int)] 3)).drew).ownsRow K 3 1 (.slice wo wl2 wc) wl2 (ints W)) := own_same hown fun b hb => heap_old _ _ (hown.lt b hb).2
              have HNA : Hid (((wq.alloc (.cells #[.int .i64 (v : Int)] 3)).drew).heap[wq.heap.size]? = some (.cells #[.int .i64 (v : Int)] 3 (0, 0))) := heap_new wq _
              have hKA : K ≤ ((wq.alloc (.cells #[.int .i64 (v : Int)] 3)).drew).heap.size := by simp; omega
              have c6A : (wq.alloc (.cells #[.int .i64 (v : Int)] 3)).cell? ⟨cb, 6, none⟩ = some (.slice wo wl2 wc) := cell_of c6 (heap_old _ _ (cell_lt c6))
              clear hsb hown hbc hblk hKq hwl2 hv hxe hy c5 c7 c8 c9 f7 f9
              go_wp2_with fail
              go_region_law (first | (refine step_tz rfl _ rfl rfl rfl HV.out.2 hx HTAB.out ?_) | (refine step_app1 rfl _ _ rfl wq.heap.size (v : Int) rfl HOA.out rfl HNA.out (by omega) hKA ?_; intro g cap w2 h1 h2 h3; obtain ⟨v0, v4⟩ := HKEEP.out w2 h2; have H1 : Hid (w2.ownsRow K 3 1 (.slice (some ⟨g, 0, none⟩) (wl2 + 1) cap) (wl2 + 1) (ints W ++ [.int .i64 (v : Int)])) := h1; have H2 : Hid (Fr ((wq.alloc (.cells #[.int .i64 (v : Int)] 3)).drew) w2 (blks (.slice wo wl2 wc))) := h2; have H3 : Hid (Moved ((wq.alloc (.cells #[.int .i64 (v : Int)] 3)).drew) (.slice wo wl2 wc) (.slice (some ⟨g, 0, none⟩) (wl2 + 1) cap)) := h3; clear h1 h2 h3))
              all_goals
                go_wp2_with fail
                go_roundw
                case rel =>
                  refine ⟨y, some ⟨g, 0, none⟩, cap, W ++ [v], by omega, by go_num, ?_, ?_⟩
                  · have a1 := H1.out
                    have a2 : Fr wq w2 (blks (.slice wo wl2 wc)) := (((Fr.refl wq _).alloc _).drew).then H2.out fun c hc => .inl hc
                    have a3 : Moved wq (.slice wo wl2 wc) (.slice (some ⟨g, 0, none⟩) (wl2 + 1) cap) := fun b hb => by
                      rcases H3.out b hb with h | h
                      · exact .inl h
                      · exact .inr (by simp at h; omega)
                    have hp := HSB.out.pushW (k := v) (g := g) (cap := cap) (w2 := w2)
                    rw [HWL2.out] at hp
                    exact hp a1 a2 a3
                  · have h1 := HW.out
                    rw [HV.out.2, put64_step (HV.out.2 ▸ hx), ← HV.out.1, ← HY.out] at h1
                    show W ++ [v] ++ put64 j y = _
                    rw [← h1]; simp
                case measure => simp [intOf]; omega
        · have hd : decide ((t : Int) < (kl : Int)) = false := by simp; omega
          have htk : K2.take t = K2 := List.take_of_length_le (by rw [HK.out.2.1]; omega)
          rw [htk] at hsb
          have HSE : Hid _ := hsb.setOd true
          clear hsb HSB htk
          go_wp2_with fail
          go_end0
          exact ⟨rfl, _, _, _, _, _, HSE.out, HBI.out.words HK.out.1 HK.out.2.2.1, spread_asc HK.out.1⟩
end Go.Proofs.YbulkdxbkDoor
