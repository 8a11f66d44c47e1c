import Derived.Test.YbulkdxbkDoorKl
import Derived.Test.YbulkdxbkDoorKo
namespace Go.Proofs.YbulkdxbkDoor
open Go.RowKit
set_option linter.unusedVariables false
set_option linter.unusedSectionVars false

/-- a row as it grows -/
structure DS (w1 : World) (dv : Value) (Bd : Nat) (D : List Int) (wr : World) (vo : Option Addr) (cap : Nat) (E : List Nat) : Prop where
  own : wr.ownsRow Bd 3 1 (.slice vo (D.length + E.length) cap) (D.length + E.length) (zints D ++ ints E)
  fr : Fr w1 wr (blks dv)
  mv : Moved w1 dv (.slice vo (D.length + E.length) cap)
theorem DS.push {w1 wr w2 : World} {dv : Value} {Bd : Nat} {D : List Int} {vo : Option Addr} {cap : Nat} {E : List Nat} (h : DS w1 dv Bd D wr vo cap E) {k g c2 dl : Nat} (hl : D.length + E.length = dl)
    (ho : w2.ownsRow Bd 3 1 (.slice (some ⟨g, 0, none⟩) (dl + 1) c2) (dl + 1) (zints D ++ ints E ++ [.int .i64 (k : Int)])) (hf : Fr wr w2 (blks (.slice vo dl cap))) (hm : Moved wr (.slice vo dl cap) (.slice (some ⟨g, 0, none⟩) (dl + 1) c2)) : DS w1 dv Bd D w2 (some ⟨g, 0, none⟩) c2 (E ++ [k]) := by
  subst hl
  have e : D.length + (E ++ [k]).length = D.length + E.length + 1 := by simp; omega
  have e2 : zints D ++ ints (E ++ [k]) = zints D ++ ints E ++ [.int .i64 (k : Int)] := by simp [ints]
  refine ⟨by rw [e, e2]; exact ho, h.fr.then hf fun c hc => ?_, by rw [e]; exact h.mv.trans h.fr hm⟩
  rcases h.mv c (mem_blks.1 hc) with h1 | h1
  · exact .inl (mem_blks.2 h1)
  · exact .inr h1
set_option maxRecDepth 100000 in
set_option maxHeartbeats 8000000 in
theorem appendStates_any (w : World) (B K cb gb mk m : Nat) (nf : Bool) (sv rv : Value) (b1 b2 nw nu : Nat) (wo : Option Addr) (wc : Nat) (od : Bool) (ko : Option Addr) (kc : Nat) (BL UL WL KL : List Nat) (p : Nat → Bool) (dd : Option Addr) (dc Bd : Nat) (D : List Int)
    (hT : TabAt w) (h3 : 3 < B) (hs : SB w (.slice wo WL.length wc) (.slice ko KL.length kc) B K cb gb mk m nf sv rv b1 b2 nw nu w wo wc od ko kc BL UL WL KL) (hb : BI nw nu p od BL UL WL KL)
    (hd : w.ownsRow Bd 3 1 (.slice dd D.length dc) D.length (zints D)) (hdl : D.length ≤ 65536) (hBd : Bd ≤ w.heap.size) (h3d : 3 < Bd) (hdS : ∀ b, (Value.slice dd D.length dc).ownBlock = some b → b ∉ sbS cb b1 b2 (.slice wo WL.length wc) (.slice ko KL.length kc)) :
    Calls Ybad.prog 22 #[.pointer (some ⟨cb, 5, none⟩), .slice dd D.length dc] w fun e w' => ∃ vo cap wo' wc' od' WL' KL', e = .returned (.slice vo (D.length + ((List.range (nw * 64)).filter p).length) cap) ∧
      w'.ownsRow Bd 3 1 (.slice vo (D.length + ((List.range (nw * 64)).filter p).length) cap) (D.length + ((List.range (nw * 64)).filter p).length) (zints D ++ ints ((List.range (nw * 64)).filter p)) ∧
      SB w' (.slice wo' WL'.length wc') (.slice ko KL'.length kc) B K cb gb mk m nf sv rv b1 b2 nw nu w' wo' wc' od' ko kc BL UL WL' KL' ∧ BI nw nu p od' BL UL WL' KL' ∧
      Fr w w' (sbS cb b1 b2 (.slice wo WL.length wc) (.slice ko KL.length kc) ++ blks (.slice dd D.length dc)) ∧ Moved w (.slice wo WL.length wc) (.slice wo' WL'.length wc') ∧ Moved w (.slice ko KL.length kc) (.slice ko KL'.length kc) ∧ Moved w (.slice dd D.length dc) (.slice vo (D.length + ((List.range (nw * 64)).filter p).length) cap) ∧
      ∀ b, (Value.slice vo (D.length + ((List.range (nw * 64)).filter p).length) cap).ownBlock = some b → b ∉ sbS cb b1 b2 (.slice wo' WL'.length wc') (.slice ko KL'.length kc) := by
  have h3S : 3 ∉ sbS cb b1 b2 (.slice wo WL.length wc) (.slice ko KL.length kc) := fun hm => by have := (hs.ge 3 hm).1; omega
  have hord := order_any w w (.slice wo WL.length wc) (.slice ko KL.length kc) B K cb gb mk m nf sv rv b1 b2 nw nu wo wc od ko kc BL UL WL KL p hT h3S hs hb
  have hnw : nw ≤ 192 := by have := hb.nu1; have := hb.nu3; omega
  have hBL := hb.bl
  have HFIN : Hid (∀ (w1 w' : World) (wo1 : Option Addr) (wc1 : Nat) (od1 : Bool) (WL1 KL1 : List Nat) (vo : Option Addr) (cap : Nat), SB w (.slice wo WL.length wc) (.slice ko KL.length kc) B K cb gb mk m nf sv rv b1 b2 nw nu w1 wo1 wc1 od1 ko kc BL UL WL1 KL1 → BI nw nu p od1 BL UL WL1 KL1 → Asc WL1 → DS w1 (.slice dd D.length dc) Bd D w' vo cap (spread (at64 BL) WL1) → ∃ vo' cap' wo' wc' od' WL' KL', Ending.returned (.slice vo (D.length + (spread (at64 BL) WL1).length) cap) = .returned (.slice vo' (D.length + ((List.range (nw * 64)).filter p).length) cap') ∧
      w'.ownsRow Bd 3 1 (.slice vo' (D.length + ((List.range (nw * 64)).filter p).length) cap') (D.length + ((List.range (nw * 64)).filter p).length) (zints D ++ ints ((List.range (nw * 64)).filter p)) ∧
      SB w' (.slice wo' WL'.length wc') (.slice ko KL'.length kc) B K cb gb mk m nf sv rv b1 b2 nw nu w' wo' wc' od' ko kc BL UL WL' KL' ∧ BI nw nu p od' BL UL WL' KL' ∧
      Fr w w' (sbS cb b1 b2 (.slice wo WL.length wc) (.slice ko KL.length kc) ++ blks (.slice dd D.length dc)) ∧ Moved w (.slice wo WL.length wc) (.slice wo' WL'.length wc') ∧ Moved w (.slice ko KL.length kc) (.slice ko KL'.length kc) ∧ Moved w (.slice dd D.length dc) (.slice vo' (D.length + ((List.range (nw * 64)).filter p).length) cap') ∧
      ∀ b, (Value.slice vo' (D.length + ((List.range (nw * 64)).filter p).length) cap').ownBlock = some b → b ∉ sbS cb b1 b2 (.slice wo' WL'.length wc') (.slice ko KL'.length kc)) := by
    intro w1 w' wo1 wc1 od1 WL1 KL1 vo cap g1 g2 g3 g4
    have e := g2.states g3
    have hown := g4.own
    have hmv := g4.mv
    rw [e] at hown hmv ⊢
    refine ⟨vo, cap, wo1, wc1, od1, WL1, KL1, rfl, hown, g1.keep g4.fr fun c hc hm => ?_, g2, (g1.fr.mono fun c hc => .inl (List.mem_append_left _ hc)).then g4.fr fun c hc => .inl (List.mem_append_right _ hc), g1.mw, g1.mk2, fun b hb => ?_, fun b hb hm => ?_⟩
    · have hb' := mem_blks.1 hc
      rcases sbS_moved g1.mw g1.mk2 c hm with h | h
      · exact hdS c hb' h
      · have := (hd.lt c hb').2; omega
    · rcases hmv b hb with h | h
      · exact .inl h
      · exact .inr (Nat.le_trans g1.fr.size h)
    · rcases hmv b hb with h | h
      · rcases sbS_moved g1.mw g1.mk2 b hm with h2 | h2
        · exact hdS b h h2
        · have := (hd.lt b h).2; omega
      · have := (g1.ge b hm).2; omega
  have HSEP : Hid (∀ (w1 : World) (wo1 : Option Addr) (wc1 : Nat) (od1 : Bool) (WL1 KL1 : List Nat), SB w (.slice wo WL.length wc) (.slice ko KL.length kc) B K cb gb mk m nf sv rv b1 b2 nw nu w1 wo1 wc1 od1 ko kc BL UL WL1 KL1 → ∀ c ∈ sbS cb b1 b2 (.slice wo1 WL1.length wc1) (.slice ko KL1.length kc), c ∉ blks (.slice dd D.length dc)) := by
    intro w1 wo1 wc1 od1 WL1 KL1 g1 c hm hc
    have hb' := mem_blks.1 hc
    rcases sbS_moved g1.mw g1.mk2 c hm with h | h
    · exact hdS c hb' h
    · have := (hd.lt c hb').2; omega
  have HD0 : Hid (∀ (w1 : World), Fr w w1 (sbS cb b1 b2 (.slice wo WL.length wc) (.slice ko KL.length kc)) → DS w1 (.slice dd D.length dc) Bd D w1 dd dc [] ∧ TabAt w1 ∧ Bd ≤ w1.heap.size) := by
    intro w1 hf
    refine ⟨⟨?_, Fr.refl _ _, ?_⟩, tab_fr hf hT h3S, Nat.le_trans hBd hf.size⟩
    · have := hf.own hd hdS
      simpa [ints] using this
    · exact Moved.refl _ _
  have h3dd : 3 ∉ blks (.slice dd D.length dc) := fun hm => by have := (hd.lt 3 (mem_blks.1 hm)).1; omega
  have HORD : Hid (Calls Ybad.prog 32 #[.pointer (some ⟨cb, 5, none⟩)] w fun e w' => e = .returned (.tuple #[]) ∧ ∃ wo' wc' od' WL' KL', SB w (.slice wo WL.length wc) (.slice ko KL.length kc) B K cb gb mk m nf sv rv b1 b2 nw nu w' wo' wc' od' ko kc BL UL WL' KL' ∧ BI nw nu p od' BL UL WL' KL' ∧ Asc WL') := hord
  have H3D : Hid (3 ∉ blks (.slice dd D.length dc)) := h3dd
  have HBL : Hid (BL.length = nw) := hBL
  clear hord hs hb hd hT hdS h3S hBL h3dd
  obtain ⟨dn, hdn⟩ : ∃ dn, D.length = dn := ⟨_, rfl⟩
  have HDN : Hid (D.length = dn) := hdn
  rw [hdn] at hdl
  conv in #[_, _] => rw [hdn]
  clear hdn
  go_enter Ybad.func22, Ybad.ntmps22
  go_upto_region 2 with (first | (go_at_call 32; refine HORD.out.mono ?_; rintro e w1 ⟨rfl, wo1, wc1, od1, WL1, KL1, hs1, hb1, ha1⟩; have HS1 : Hid (SB w (.slice wo WL.length wc) (.slice ko KL.length kc) B K cb gb mk m nf sv rv b1 b2 nw nu w1 wo1 wc1 od1 ko kc BL UL WL1 KL1 ∧ BI nw nu p od1 BL UL WL1 KL1 ∧ Asc WL1) := ⟨hs1, hb1, ha1⟩; clear hs1 hb1 ha1))
  obtain ⟨⟨c5, c6, c7, c8, c9⟩, f6, f7, f9⟩ := HS1.out.1.cells
  obtain ⟨wl, hwl⟩ : ∃ wl, WL1.length = wl := ⟨_, rfl⟩
  have HWL : Hid (WL1.length = wl) := hwl
  have hwl2 : wl ≤ 192 := by rw [← hwl]; have := HS1.out.2.1.wml; omega
  rw [hwl] at c6
  clear hwl
  have HDS : Hid (DS w1 (.slice dd D.length dc) Bd D w1 dd dc (spread (at64 BL) (WL1.take 0))) := (HD0.out w1 HS1.out.1.fr).1
  obtain ⟨vo9, cap9, gw, e9, hg1, _, _⟩ := own_form HS1.out.1.wown
  cases e9
  rw [HWL.out] at hg1
  have HG : Hid (0 < wl → wo1 = some ⟨gw, 0, none⟩) := hg1
  have HRD : Hid (∀ wr, Fr w1 wr (blks (.slice dd D.length dc)) → TabAt wr ∧ wr.cell? ⟨cb, 5, none⟩ = some (.slice (some ⟨b1, 0, none⟩) nw nw) ∧ (∀ i, i < nw → wr.cell? ⟨b1, i, none⟩ = some (.int .u64 (at64 BL i : Int))) ∧ ∀ (t i : Nat), WL1[t]? = some i → wr.cell? ⟨gw, t, none⟩ = some (.int .i64 (i : Int))) := by
    intro wr hf
    have hs1 := HS1.out.1
    have hsep := HSEP.out w1 wo1 wc1 od1 WL1 KL1 hs1
    refine ⟨tab_fr hf (HD0.out w1 hs1.fr).2.1 H3D.out, hf.cell hs1.cells.1.1 (hsep cb (by simp [sbS])), fun i hi => hf.cell (hs1.bitAt HBL.out hi).1 (hsep b1 (by simp [sbS])), fun t i hi => ?_⟩
    have hl := (List.getElem?_eq_some_iff.1 hi).1
    have e := HG.out (by rw [← HWL.out]; omega)
    subst e
    exact hf.cell (own_cell hs1.wown (ints_get hi)) (hsep gw (by simp [sbS, mem_blks.2 (show (Value.slice (some ⟨gw, 0, none⟩) WL1.length wc1).ownBlock = some gw from rfl)]))
  have HW1 : Hid (Bd ≤ w1.heap.size) := (HD0.out w1 HS1.out.1.fr).2.2
  have HLB : Hid (∀ E : List Nat, Asc E → (∀ q ∈ E, q ∈ spread (at64 BL) WL1) → E.length ≤ 12288) := by
    intro E hE hm
    refine Nat.le_trans (len_le_of_nodup 12288 E (asc_nodup hE) fun q hq => ?_) (Nat.le_refl _)
    have h1 := (mem_spread.1 (hm q hq)).1
    have h2 := ((HS1.out.2.1.wmem _).1 h1).1
    omega
  have HBB : Hid (∀ i, at64 BL i < 18446744073709551616) := HS1.out.2.1.bb
  have HWM : Hid (∀ i, i ∈ WL1 → i < nw) := fun i hi => ((HS1.out.2.1.wmem i).1 hi).1
  clear hg1 HSEP HORD HD0 c5 c7 c8 c9 f6 f7 f9 H3D h3 h3d hBd
  go_wp2_with fail
  go_loopw [15, 1] (fun s15 s1 wr => ∃ (t dl : Nat) (vo : Option Addr) (cap : Nat), t ≤ wl ∧ s15 = .int .i64 t ∧ s1 = .slice vo dl cap ∧ Hid (D.length + (spread (at64 BL) (WL1.take t)).length = dl ∧ DS w1 (.slice dd D.length dc) Bd D wr vo cap (spread (at64 BL) (WL1.take t)))) (fun s _ _ => wl - (intOf s).toNat)
  case atStart => exact ⟨0, dn, dd, dc, Nat.zero_le _, rfl, rfl, (⟨by rw [HDN.out]; simp [spread], HDS.out⟩ : D.length + (spread (at64 BL) (WL1.take 0)).length = dn ∧ DS w1 (.slice dd D.length dc) Bd D w1 dd dc (spread (at64 BL) (WL1.take 0)))⟩
  case round =>
    clear HDS c6
    obtain ⟨t, dl, vo, cap, ht, rfl, rfl, HI⟩ := hrel
    rename World => wr
    obtain ⟨T0, d5, dB, dW⟩ := HRD.out wr HI.out.2.fr
    by_cases htl : t < wl
    · have hd : decide ((t : Int) < (wl : Int)) = true := by simp; exact htl
      obtain ⟨i, hi⟩ : ∃ i, WL1[t]? = some i := ⟨_, List.getElem?_eq_getElem (by rw [HWL.out]; exact htl)⟩
      have hin : i < nw := HWM.out i (List.mem_of_getElem? hi)
      have y1 := dW t i hi
      have x1 := index26 (c := wc1) (o := 0) HG.out htl
      rw [Nat.zero_add] at x1
      have y2 := dB i hin
      have x2 := index58i (b := b1) (c := nw) hin
      obtain ⟨xu, hxu⟩ : ∃ xu, xu = at64 BL i := ⟨_, rfl⟩
      rw [← hxu] at y2
      have hxl : xu < 18446744073709551616 := by rw [hxu]; exact HBB.out i
      have HXU : Hid (xu = at64 BL i ∧ WL1[t]? = some i) := ⟨hxu, hi⟩
      clear hi hxu T0 dB dW
      go_wp2_with fail
      clear y1 x1 y2 x2 d5
      go_loopw [7, 1] (fun s7 s1 wq => ∃ (x dl : Nat) (vo : Option Addr) (cap : Nat) (E : List Nat), x < 18446744073709551616 ∧ s7 = .int .u64 x ∧ s1 = .slice vo dl cap ∧ Hid (D.length + E.length = dl ∧ DS w1 (.slice dd D.length dc) Bd D wq vo cap E ∧ E ++ put64 i x = spread (at64 BL) (WL1.take t) ++ put64 i xu)) (fun s _ _ => (intOf s).toNat)
      case atStart => exact ⟨xu, dl, vo, cap, _, hxl, rfl, rfl, (⟨HI.out.1, HI.out.2, rfl⟩ : D.length + (spread (at64 BL) (WL1.take t)).length = dl ∧ DS w1 (.slice dd D.length dc) Bd D wr vo cap (spread (at64 BL) (WL1.take t)) ∧ spread (at64 BL) (WL1.take t) ++ put64 i xu = spread (at64 BL) (WL1.take t) ++ put64 i xu)⟩
      case round =>
        clear HI
        obtain ⟨x, dl, vo, cap, E, hx, rfl, rfl, HI⟩ := hrel
        rename World => wq
        by_cases hx0 : x = 0
        · subst hx0
          go_wp2_with fail
          go_roundw
          case rel =>
            have h1 := HI.out.2.2
            rw [put64_zero, List.append_nil, HXU.out.1, ← spread_snoc, ← take_snoc HXU.out.2] at h1
            have h2 := HI.out.1
            have h3 := HI.out.2.1
            rw [h1] at h2 h3
            exact ⟨t + 1, dl, vo, cap, by omega, by go_num, rfl, (⟨h2, h3⟩ : D.length + (spread (at64 BL) (WL1.take (t + 1))).length = dl ∧ DS w1 (.slice dd D.length dc) Bd D wq vo cap (spread (at64 BL) (WL1.take (t + 1))))⟩
          case measure => simp [intOf]; omega
        · have hne : ¬ ((x : Int) = 0) := by omega
          have hne' : ((x : Int) == 0) = false := by simp; omega
          obtain ⟨k, q, hxe⟩ := odd_part x (by omega)
          have hk64 : k < 64 := low_lt (hxe ▸ hx)
          obtain ⟨v, hv⟩ : ∃ v, v = i * 64 + k := ⟨_, rfl⟩
          have hv1 : (i : Int) * 64 + (k : Int) = (v : Int) := by omega
          have hv2 : IntKind.i64.wrap ((i : Int) * 64) = (i : Int) * 64 := by simp [IntKind.wrap, IntKind.signed, IntKind.bits]; omega
          have hv3 : IntKind.i64.wrap (v : Int) = (v : Int) := by simp [IntKind.wrap, IntKind.signed, IntKind.bits]; omega
          have HV : Hid (v = i * 64 + k ∧ x = 2 ^ k * (2 * q + 1)) := ⟨hv, hxe⟩
          have ha := and_pred_u64 hxe hx
          obtain ⟨y, hy⟩ : ∃ y, y = 2 ^ k * (2 * q) := ⟨_, rfl⟩
          rw [← hy] at ha
          have ha2 : bits BinOp.and IntKind.u64 (x : Int) ((x : Int) - 1) = (y : Int) := by
            rw [← ha]; congr 1; simp [IntKind.wrap, IntKind.signed, IntKind.bits]; omega
          have hyx : y < x := by rw [hy, hxe]; exact low_rest
          have HY : Hid (y = 2 ^ k * (2 * q)) := hy
          have HTAB : Hid (TabAt wq) := (HRD.out wq HI.out.2.1.fr).1
          have hdl2 : dl ≤ 1000000 := by
            rw [← HI.out.1, HDN.out]
            have hsub : ∀ q ∈ E ++ put64 i x, q ∈ spread (at64 BL) (WL1.take (t + 1)) := fun q hq => by
              rw [HI.out.2.2, HXU.out.1, ← spread_snoc, ← take_snoc HXU.out.2] at hq; exact hq
            have hasc : Asc (E ++ put64 i x) := by
              rw [HI.out.2.2, HXU.out.1, ← spread_snoc, ← take_snoc HXU.out.2]
              exact spread_asc (asc_take HS1.out.2.2 _)
            have := HLB.out E (hasc.sublist (List.sublist_append_left _ _)) fun q hq => by
              have h5 := mem_spread.1 (hsub q (List.mem_append_left _ hq))
              exact mem_spread.2 ⟨List.mem_of_mem_take h5.1, h5.2⟩
            omega
          have HOWN : Hid (wq.ownsRow Bd 3 1 (.slice vo dl cap) dl (zints D ++ ints E)) := by
            have := HI.out.2.1.own
            rw [HI.out.1] at this
            exact this
          have hBq : Bd ≤ wq.heap.size := Nat.le_trans HW1.out HI.out.2.1.fr.size
          clear hv hxe hy
          go_wp2_with (first | (go_at_call 33; refine (tz_any wq x k q HV.out.2 hx HTAB.out).mono ?_; rintro e w' ⟨rfl, hww⟩; obtain rfl : wq = w' := hww.symm) | (at_builtin; refine wpList_app1 rfl _ _ rfl wq (v : Int) rfl HOWN.out rfl (by omega) hBq ?_; intro g cap2 w2 h1 h2 h3; have H1 : Hid (w2.ownsRow Bd 3 1 (.slice (some ⟨g, 0, none⟩) (dl + 1) cap2) (dl + 1) (zints D ++ ints E ++ [.int .i64 (v : Int)])) := h1; have H2 : Hid (Fr wq w2 (blks (.slice vo dl cap))) := h2; have H3 : Hid (Moved wq (.slice vo dl cap) (.slice (some ⟨g, 0, none⟩) (dl + 1) cap2)) := h3; clear h1 h2 h3))
          go_roundw
          case rel =>
            refine ⟨y, dl + 1, some ⟨g, 0, none⟩, cap2, E ++ [v], by omega, by go_num, rfl, ?_⟩
            refine (⟨by rw [List.length_append, ← Nat.add_assoc, HI.out.1]; rfl, HI.out.2.1.push HI.out.1 H1.out H2.out H3.out, ?_⟩ : D.length + (E ++ [v]).length = dl + 1 ∧ DS w1 (.slice dd D.length dc) Bd D w2 (some ⟨g, 0, none⟩) cap2 (E ++ [v]) ∧ (E ++ [v]) ++ put64 i y = spread (at64 BL) (WL1.take t) ++ put64 i xu)
            have h1 := HI.out.2.2
            rw [HV.out.2, put64_step (HV.out.2 ▸ hx), ← HV.out.1, ← HY.out] at h1
            rw [← h1]; simp
          case measure => simp [intOf]; omega
    · have hd : decide ((t : Int) < (wl : Int)) = false := by simp; omega
      have htk : WL1.take t = WL1 := List.take_of_length_le (by rw [HWL.out]; omega)
      have h1 := HI.out
      rw [htk] at h1
      have HE : Hid (D.length + (spread (at64 BL) WL1).length = dl ∧ DS w1 (.slice dd D.length dc) Bd D wr vo cap (spread (at64 BL) WL1)) := h1
      clear h1 htk HI T0 d5 dB dW
      go_wp2_with fail
      go_ret
      have := HFIN.out w1 wr wo1 wc1 od1 WL1 KL1 vo cap HS1.out.1 HS1.out.2.1 HS1.out.2.2 HE.out.2
      rw [HE.out.1] at this
      exact this
end Go.Proofs.YbulkdxbkDoor
