import Derived.Test.YbulkdxbkDoorKk
import Derived.Test.YbulkdxbkDoorKj
namespace Go.Proofs.YbulkdxbkDoor
open Go.RowKit
set_option linter.unusedVariables false

theorem zero_list {L : List Nat} {n : Nat} (hl : L.length = n) (h : ∀ i, at64 L i = 0) : L = List.replicate n 0 := by
  apply List.ext_getElem?
  intro i
  by_cases hi : i < n
  · rw [at64_get (by omega), h i, List.getElem?_replicate, if_pos hi]
  · rw [List.getElem?_eq_none (by omega), List.getElem?_eq_none (by simp; omega)]
def Zd (n : Nat) (L0 M L : List Nat) : Prop := L.length = n ∧ ∀ i, at64 L i = if i ∈ M then 0 else at64 L0 i
theorem Zd.start {n : Nat} {L0 : List Nat} (h : L0.length = n) : Zd n L0 [] L0 := ⟨h, fun i => by simp⟩
theorem Zd.step {n : Nat} {L0 M L : List Nat} (h : Zd n L0 M L) {i : Nat} (hi : i < n) : Zd n L0 (M ++ [i]) (L.set i 0) := by
  refine ⟨by simp [h.1], fun j => ?_⟩
  rw [at64_set (by rw [h.1]; exact hi), h.2 j]
  by_cases e : j = i
  · subst e; simp
  · simp [e]
theorem Zd.done {n : Nat} {L0 M L : List Nat} (h : Zd n L0 M L) (hM : ∀ i, at64 L0 i ≠ 0 → i ∈ M) : L = List.replicate n 0 :=
  zero_list h.1 fun i => by
    rw [h.2]
    split
    · rfl
    · rename_i hn
      rcases Nat.eq_zero_or_pos (at64 L0 i) with h0 | h0
      · exact h0
      · exact absurd (hM i (by omega)) hn
theorem at64_out {L : List Nat} {i : Nat} (h : L.length ≤ i) : at64 L i = 0 := by simp [at64, h]
set_option maxRecDepth 100000 in
set_option maxHeartbeats 8000000 in
theorem clear_any (w0 w : World) (wv0 kv0 : Value) (B K cb gb mk m : Nat) (nf : Bool) (sv rv : Value) (b1 b2 nw nu : Nat) (wo : Option Addr) (wc : Nat) (od : Bool) (ko : Option Addr) (kc : Nat) (BL UL WL KL : List Nat) (p : Nat → Bool)
    (hs : SB w0 wv0 kv0 B K cb gb mk m nf sv rv b1 b2 nw nu w wo wc od ko kc BL UL WL KL) (hb : BI nw nu p od BL UL WL KL) :
    Calls Ybad.prog 23 #[.pointer (some ⟨cb, 5, none⟩)] w fun e w' => e = .returned (.tuple #[]) ∧ SB w0 wv0 kv0 B K cb gb mk m nf sv rv b1 b2 nw nu w' wo wc od ko kc (List.replicate nw 0) (List.replicate nu 0) [] [] := by
  have HB : Hid (BI nw nu p od BL UL WL KL) := hb
  have HS : Hid (SB w0 wv0 kv0 B K cb gb mk m nf sv rv b1 b2 nw nu w wo wc od ko kc BL UL WL KL) := hs
  obtain ⟨wl, hwl⟩ : ∃ wl, WL.length = wl := ⟨_, rfl⟩
  have HWL : Hid (WL.length = wl) := hwl
  obtain ⟨kl, hkl⟩ : ∃ kl, KL.length = kl := ⟨_, rfl⟩
  have HKL : Hid (KL.length = kl) := hkl
  have hwl2 : wl ≤ 192 := by rw [← hwl]; have := hb.wml; have := hb.nu1; have := hb.nu3; omega
  have hkl2 : kl ≤ 3 := by rw [← hkl]; exact hb.kml
  obtain ⟨⟨c5, c6, c7, c8, c9⟩, f6, f7, f9⟩ := hs.cells
  rw [hwl] at c6
  rw [hkl] at c9
  obtain ⟨vo, cap, gw, e1, e2, _, e4⟩ := own_form hs.wown
  cases e1
  obtain ⟨vo2, cap2, gk, e1', e2', _, e4'⟩ := own_form hs.kown
  cases e1'
  rw [hwl] at e2
  rw [hkl] at e2'
  have HGW : Hid ((0 < wl → wo = some ⟨gw, 0, none⟩) ∧ (wo = none → wl = 0 ∧ wc = 0)) := ⟨e2, fun h => ⟨(by rcases Nat.eq_zero_or_pos wl with h0 | h0; exact h0; rw [e2 h0] at h; cases h), e4 h⟩⟩
  have HGK : Hid ((0 < kl → ko = some ⟨gk, 0, none⟩) ∧ (ko = none → kl = 0 ∧ kc = 0)) := ⟨e2', fun h => ⟨(by rcases Nat.eq_zero_or_pos kl with h0 | h0; exact h0; rw [e2' h0] at h; cases h), e4' h⟩⟩
  clear hs hb hwl hkl e2 e2' e4 e4'
  go_enter Ybad.func23, Ybad.ntmps23
  go_wp2_with fail
  go_loopw [11] (fun s wr => ∃ (t : Nat) (BL' : List Nat), t ≤ wl ∧ s = .int .i64 t ∧ SB w0 wv0 kv0 B K cb gb mk m nf sv rv b1 b2 nw nu wr wo wc od ko kc BL' UL WL KL ∧ Hid (Zd nw BL (WL.take t) BL')) (fun s _ => wl - (intOf s).toNat)
  case atStart => exact ⟨0, BL, Nat.zero_le _, rfl, HS.out, (Zd.start HB.out.bl : Zd nw BL (WL.take 0) BL)⟩
  case round =>
    clear HS c5 c6 c7 c8 c9 f6 f7 f9
    obtain ⟨t, BL', ht, rfl, hsb, HZ⟩ := hrel
    rename World => wr
    have HSB : Hid (SB w0 wv0 kv0 B K cb gb mk m nf sv rv b1 b2 nw nu wr wo wc od ko kc BL' UL WL KL) := hsb
    obtain ⟨⟨c5, c6, c7, c8, c9⟩, f6, f7, f9⟩ := hsb.cells
    rw [HWL.out] at c6
    rw [HKL.out] at c9
    by_cases htl : t < wl
    · have hd : decide ((t : Int) < (wl : Int)) = true := by simp; exact htl
      obtain ⟨i, hi⟩ : ∃ i, WL[t]? = some i := ⟨_, List.getElem?_eq_getElem (by rw [HWL.out]; exact htl)⟩
      have hin : i < nw := ((HB.out.wmem i).1 (List.mem_of_getElem? hi)).1
      have hwo := HGW.out.1 (by omega)
      subst hwo
      have y1 : wr.cell? ⟨gw, t, none⟩ = some (.int .i64 (i : Int)) := own_cell hsb.wown (ints_get hi)
      have x1 := index26z (b := gw) (c := wc) htl
      obtain ⟨y2, z2⟩ := hsb.bitAt HZ.out.1 hin
      have x2 := index58i (b := b1) (c := nw) hin
      have HI : Hid (WL[t]? = some i) := hi
      generalize at64 BL' i = xi at y2
      clear hsb hi
      go_wp2_with fail
      go_roundw
      case rel =>
        refine ⟨t + 1, BL'.set i 0, by omega, by go_num, HSB.out.setBits i 0, ?_⟩
        show Zd nw BL (WL.take (t + 1)) (BL'.set i 0)
        rw [take_snoc HI.out]
        exact HZ.out.step hin
      case measure => simp [intOf]; omega
    · have hd : decide ((t : Int) < (wl : Int)) = false := by simp; omega
      have htk : WL.take t = WL := List.take_of_length_le (by rw [HWL.out]; omega)
      have hz := HZ.out
      rw [htk] at hz
      have e := hz.done fun i hi => (HB.out.wmem i).2 ⟨by
        rcases Nat.lt_or_ge i nw with h | h
        · exact h
        · exact absurd (at64_out (by rw [HB.out.bl]; exact h)) hi, hi⟩
      subst e
      clear hsb htk hz
      go_wp2_with fail
      go_loopw [27] (fun s wq => ∃ (t : Nat) (UL' : List Nat), t ≤ kl ∧ s = .int .i64 t ∧ SB w0 wv0 kv0 B K cb gb mk m nf sv rv b1 b2 nw nu wq wo wc od ko kc (List.replicate nw 0) UL' WL KL ∧ Hid (Zd nu UL (KL.take t) UL')) (fun s _ => kl - (intOf s).toNat)
      case atStart => exact ⟨0, UL, Nat.zero_le _, rfl, HSB.out, (Zd.start HB.out.ul : Zd nu UL (KL.take 0) UL)⟩
      case round =>
        clear HSB HZ c5 c6 c7 c8 c9 f6 f7 f9
        obtain ⟨t, UL', ht, rfl, hsb, HZ⟩ := hrel
        rename World => wq
        have HSB : Hid (SB w0 wv0 kv0 B K cb gb mk m nf sv rv b1 b2 nw nu wq wo wc od ko kc (List.replicate nw 0) UL' WL KL) := hsb
        obtain ⟨⟨c5, c6, c7, c8, c9⟩, f6, f7, f9⟩ := hsb.cells
        rw [HWL.out] at c6
        rw [HKL.out] at c9
        by_cases htl : t < kl
        · have hd : decide ((t : Int) < (kl : Int)) = true := by simp; exact htl
          obtain ⟨i, hi⟩ : ∃ i, KL[t]? = some i := ⟨_, List.getElem?_eq_getElem (by rw [HKL.out]; exact htl)⟩
          have hin : i < nu := ((HB.out.kmem i).1 (List.mem_of_getElem? hi)).1
          have hwo := HGK.out.1 (by omega)
          subst hwo
          have y1 : wq.cell? ⟨gk, t, none⟩ = some (.int .i64 (i : Int)) := own_cell hsb.kown (ints_get hi)
          have x1 := index26z (b := gk) (c := kc) htl
          obtain ⟨y2, z2⟩ := hsb.useAt HZ.out.1 hin
          have x2 := index58i (b := b2) (c := nu) hin
          have HI : Hid (KL[t]? = some i) := hi
          generalize at64 UL' i = xi at y2
          clear hsb hi
          go_wp2_with fail
          go_roundw
          case rel =>
            refine ⟨t + 1, UL'.set i 0, by omega, by go_num, HSB.out.setUse i 0, ?_⟩
            show Zd nu UL (KL.take (t + 1)) (UL'.set i 0)
            rw [take_snoc HI.out]
            exact HZ.out.step hin
          case measure => simp [intOf]; omega
        · have hd : decide ((t : Int) < (kl : Int)) = false := by simp; omega
          have htk : KL.take t = KL := List.take_of_length_le (by rw [HKL.out]; omega)
          have hz := HZ.out
          rw [htk] at hz
          have e := hz.done fun i hi => (HB.out.kmem i).2 ⟨by
            rcases Nat.lt_or_ge i nu with h | h
            · exact h
            · exact absurd (at64_out (by rw [HB.out.ul]; exact h)) hi, hi⟩
          subst e
          have s1 := slice0 (a := wo) (n := wl) (c := wc) HGW.out.2
          have s2 := slice0 (a := ko) (n := kl) (c := kc) HGK.out.2
          have h1 := (hsb.drewN 1).setW (w2 := wq.drewN 1) (wo2 := wo) (wc2 := wc) (WL2 := []) (own_zero (hsb.drewN 1).wown) (Fr.refl _ _) (fun b hb => .inl ((ownBlock_len _ _ _ _ _).trans hb))
          have h2 := h1.setK (w2 := (wq.drewN 1).setCell ⟨cb, 6, none⟩ (.slice wo 0 wc)) (ko2 := ko) (kc2 := kc) (KL2 := []) (own_zero h1.kown) (Fr.refl _ _) (fun b hb => .inl ((ownBlock_len _ _ _ _ _).trans hb))
          have HF : Hid (SB w0 wv0 kv0 B K cb gb mk m nf sv rv b1 b2 nw nu (((wq.drewN 1).setCell ⟨cb, 6, none⟩ (.slice wo 0 wc)).setCell ⟨cb, 9, none⟩ (.slice ko 0 kc)) wo wc od ko kc (List.replicate nw 0) (List.replicate nu 0) [] []) := h2
          clear hsb htk hz h1 h2
          go_wp2_with fail
          go_region
          all_goals
            go_wp2_with fail
            go_end0
            refine ⟨rfl, ?_⟩
            exact HF.out
end Go.Proofs.YbulkdxbkDoor
