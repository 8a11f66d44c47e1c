import Derived.Test.YbulkdxbkKp
import Derived.Test.YbulkdxbkKk
import Derived.Test.YbulkdxbkKg
namespace Go.Proofs.Ybulkdxbk
open Go.RowKit
set_option linter.unusedVariables false

def InU (w : World) (b o : Nat) (E : List Nat) : Prop := ∀ (i x : Nat), E[i]? = some x → w.cell? ⟨b, o + i, none⟩ = some (.int .u16 (x : Int))
theorem fill_step (S : List Nat) (t q : Nat) (h : S[t]? = some q) : (ints (S.take t) ++ List.replicate (S.length - t) (Value.int .i64 0)).set t (.int .i64 (q : Int)) = ints (S.take (t + 1)) ++ List.replicate (S.length - (t + 1)) (Value.int .i64 0) := by
  have hl := (List.getElem?_eq_some_iff.1 h).1
  obtain ⟨r, hr⟩ : ∃ r, S.length - t = r + 1 := ⟨S.length - t - 1, by omega⟩
  have e : (ints (S.take t)).length = t := by simp [ints]; omega
  rw [List.set_append_right _ _ (by omega), e, Nat.sub_self, hr, List.replicate_succ, List.set_cons_zero, show S.length - (t + 1) = r by omega, take_snoc h, ints_app]
  simp [ints]

set_option maxRecDepth 100000 in
set_option maxHeartbeats 8000000 in
theorem law (w : World) (z1 z2 : Int) (n k : Nat) (hz1 : z1 + 1 = (n : Int)) (hz2 : z2 % 4 + 1 = (k : Int)) (hz3 : 0 ≤ z1) (hz4 : 0 ≤ z2) (hz5 : z1 ≤ 255) (hz6 : z2 ≤ 255) (sv x1 x2 : Nat) (hsv : sv ≤ 65535) (hx1 : x1 ≤ 255) (hx2 : x2 ≤ 255)
    (a1 : Option Addr) (n1 c1 b1 o1 : Nat) (E1 : List (Nat × Nat × Nat)) (a2 : Option Addr) (n2 c2 b2 o2 : Nat) (E2 : List (Nat × Nat)) (a3 : Option Addr) (n3 c3 b3 o3 : Nat) (E3 : List Nat) (a4 : Option Addr) (n4 c4 b4 o4 : Nat) (D : List Int)
    (h1 : n1 = E1.length) (h1l : n1 ≤ 65536) (h1a : 0 < n1 → a1 = some ⟨b1, o1, none⟩) (h1r : In3 w b1 o1 E1) (h1b : ∀ e ∈ E1, e.1 ≤ 65535 ∧ e.2.1 ≤ 65535 ∧ e.2.2 ≤ 65535)
    (h2 : n2 = E2.length) (h2l : n2 ≤ 65536) (h2a : 0 < n2 → a2 = some ⟨b2, o2, none⟩) (h2r : In2 w b2 o2 E2) (h2b : ∀ e ∈ E2, e.1 ≤ 65535 ∧ e.2 ≤ 65535)
    (h3 : n3 = E3.length) (h3l : n3 ≤ 65536) (h3a : 0 < n3 → a3 = some ⟨b3, o3, none⟩) (h3r : InU w b3 o3 E3) (h3b : ∀ e ∈ E3, e ≤ 65535)
    (h4 : n4 = D.length) (h4l : n4 ≤ 65536) (h4a : 0 < n4 → a4 = some ⟨b4, o4, none⟩) (h4n : a4 = none → c4 = 0) (h4r : ZAt w b4 o4 D) :
    Calls Yba.prog 3 #[.int .u8 z1, .int .u8 z2, .int .u16 (sv : Int), .slice a1 n1 c1, .slice a2 n2 c2, .slice a3 n3 c3, .int .u8 (x1 : Int), .int .u8 (x2 : Int), .slice a4 n4 c4] w fun e w' => e = .returned (.bool true) ∧ Below w.heap.size w w' := by
  have hn1 : 0 < n := by omega
  have hn2 : n ≤ 256 := by omega
  have hk1 : 0 < k := by omega
  have hk2 : k ≤ 4 := by omega
  have g1 : decide ((65536 : Int) < (n1 : Int)) = false := by simp; omega
  have g2 : decide ((65536 : Int) < (n2 : Int)) = false := by simp; omega
  have g3 : decide ((65536 : Int) < (n3 : Int)) = false := by simp; omega
  have g4 : decide ((65536 : Int) < (n4 : Int)) = false := by simp; omega
  have hb4 := build_any w z1 z2 n k hz1 hz2 hz3 hz4 hz5 hz6 a1 n1 c1 b1 o1 E1 a2 n2 c2 b2 o2 E2 h1 h1l h1a h1r h1b h2 h2l h2a h2r h2b
  obtain ⟨st, hst, est⟩ := mod_letter sv n hn1
  obtain ⟨S, hS⟩ : ∃ S : List Nat, S = E3.map (· % n) := ⟨_, rfl⟩
  have HS : Hid (S = E3.map (· % n)) := hS
  have HSl : Hid (n3 = S.length) := (by rw [hS, List.length_map]; exact h3 : n3 = S.length)
  have HSn : Hid (∀ q ∈ S, q < n) := fun q hq => by rw [hS] at hq; obtain ⟨e, _, rfl⟩ := List.mem_map.1 hq; exact Nat.mod_lt e hn1
  have H3A : Hid (0 < n3 → a3 = some ⟨b3, o3, none⟩) := h3a
  have H3R : Hid (InU w b3 o3 E3) := h3r
  have H3B : Hid (∀ e ∈ E3, e ≤ 65535) := h3b
  have H4 : Hid (n4 = D.length) := h4
  have H4A : Hid (0 < n4 → a4 = some ⟨b4, o4, none⟩) := h4a
  have H4N : Hid (a4 = none → c4 = 0) := h4n
  have H4R : Hid (ZAt w b4 o4 D) := h4r
  obtain ⟨Cs, hCs, mks⟩ := make_ex 26 3 Yba.underlying26 info3 rfl (by omega) n3 (by omega)
  have HCs : Hid (Cs.toList = List.replicate n3 (.int .i64 0)) := hCs
  clear h1 h1a h1r h1b h2 h2a h2r h2b h3 h3a h3r h3b h4 h4a h4n h4r hCs hS
  go_enter Yba.func3, Yba.ntmps3
  go_upto_region 4 with (go_at_call 4; refine hb4.mono ?_; rintro e w1 ⟨ab, MV, NL, rfl, hG, hA0, hAs, habw, hf1⟩; have HG : Hid (Good n MV NL) := hG; have HA0 : Hid (Aut w1 ab n k 0 MV NL) := hA0; have HAS : Hid (∀ st : Nat, Aut (w1.setCell ⟨ab, 2, none⟩ (.int .i64 (st : Int))) ab n k st MV NL) := hAs; have HF1 : Hid (Fr w w1 []) := hf1; clear hG hA0 hAs hf1)
  obtain ⟨sb, yb, fb, mb, nb, q1, _⟩ := HA0.out
  have y0 : w1.cell? ⟨ab, 0, none⟩ = some (.slice (some ⟨sb, 0, none⟩) n n) := by simp [World.cell?, q1]
  have y1 : w1.cell? ⟨ab, 1, none⟩ = some (.slice (some ⟨yb, 0, none⟩) k k) := by simp [World.cell?, q1]
  have y2 : w1.cell? ⟨ab, 2, none⟩ = some (.int .i64 0) := by simp [World.cell?, q1]
  have f2 : w1.frozen? ⟨ab, 2, none⟩ = false := by simp [World.frozen?, q1]
  clear q1 hb4
  go_upto_region 7 with fail
  have hAst := HAS.out st
  have hF2 : Fr w (w1.setCell ⟨ab, 2, none⟩ (.int .i64 (st : Int))) [] := HF1.out.set (.inr habw) _ _
  clear y0 y1 y2 f2 HAS HA0 HF1
  generalize w1.setCell ⟨ab, 2, none⟩ (.int .i64 (st : Int)) = W2 at *
  have HAT : Hid (Aut W2 ab n k st MV NL) := hAst
  have HF2 : Hid (Fr w W2 []) := hF2
  clear hAst hF2
  go_wp2_with fail
  obtain ⟨sB, hsB⟩ : ∃ sB, sB = W2.heap.size := ⟨_, rfl⟩
  have HI : Hid ((W2.alloc (.cells Cs 3)).ownsRow W2.heap.size 3 1 (.slice (some ⟨sB, 0, none⟩) n3 n3) n3 (ints (S.take 0) ++ List.replicate (n3 - 0) (.int .i64 0)) ∧ Fr W2 (W2.alloc (.cells Cs 3)) []) := ⟨by
    have := made_own (w := W2) (E := 3) (B := W2.heap.size) HCs.out (by omega) (Nat.le_refl _)
    rw [hsB]; simpa [ints] using this, (Fr.refl W2 []).alloc _⟩
  have HSB : Hid (sB = W2.heap.size) := hsB
  rw [← hsB]
  clear mks HCs hsB
  go_loopw [83] (fun s83 wr => ∃ t : Nat, t ≤ n3 ∧ s83 = .int .i64 t ∧ wr.ownsRow W2.heap.size 3 1 (.slice (some ⟨sB, 0, none⟩) n3 n3) n3 (ints (S.take t) ++ List.replicate (n3 - t) (.int .i64 0)) ∧ Fr W2 wr []) (fun s83 _ => n3 - (intOf s83).toNat)
  case atStart => exact ⟨0, Nat.zero_le _, rfl, HI.out.1, HI.out.2⟩
  case round =>
    clear HI
    obtain ⟨t, ht, rfl, hown, hfr⟩ := hrel
    rename World => wr
    have HO : Hid (wr.ownsRow W2.heap.size 3 1 (.slice (some ⟨sB, 0, none⟩) n3 n3) n3 (ints (S.take t) ++ List.replicate (n3 - t) (.int .i64 0))) := hown
    have HF : Hid (Fr W2 wr []) := hfr
    by_cases htl : t < n3
    · have hd : decide ((t : Int) < (n3 : Int)) = true := by simp; exact htl
      obtain ⟨v, hv⟩ : ∃ v, E3[t]? = some v := ⟨_, List.getElem?_eq_getElem (by have := HSl.out; rw [HS.out, List.length_map] at this; omega)⟩
      have hvb : v ≤ 65535 := H3B.out v (List.mem_of_getElem? hv)
      have y1 := hfr.cell (HF2.out.cell (H3R.out t v hv) (by simp)) (by simp)
      have x3 := index25 (c := c3) H3A.out htl
      obtain ⟨q, hq, eq⟩ : ∃ q : Nat, q = v % n ∧ (v : Int) % (n : Int) = (q : Int) := ⟨v % n, rfl, by omega⟩
      have HQ : Hid (S[t]? = some q) := (by rw [HS.out, List.getElem?_map, hv, hq]; rfl : S[t]? = some q)
      have x4 := index26z (b := sB) (c := n3) htl
      have ck : wr.cell? ⟨sB, t, none⟩ = some (.int .i64 0) := own_cell hown (by
        have h := HSl.out
        rw [List.getElem?_append_right (by simp [ints]; omega), List.getElem?_replicate, if_pos (by simp [ints]; omega)])
      have fk := own_frozen hown t
      clear hown hfr hv hq
      go_wp2_with fail
      go_roundw
      case rel =>
        refine ⟨t + 1, by omega, by go_num, ?_, HF.out.set (.inr (by rw [HSB.out]; exact Nat.le_refl _)) _ _⟩
        have := own_set HO.out t (.int .i64 (q : Int))
        rw [HSl.out, fill_step S t q HQ.out] at this
        rw [HSl.out]; exact this
      case measure => simp [intOf]; omega
    · have hd : decide ((t : Int) < (n3 : Int)) = false := by simp; omega
      have hs1 : wr.ownsRow W2.heap.size 3 1 (.slice (some ⟨sB, 0, none⟩) n3 n3) n3 (ints S) := by
        have e1 : S.take t = S := List.take_of_length_le (by rw [← HSl.out]; omega)
        have e2 : n3 - t = 0 := by omega
        rw [e1, e2] at hown
        simpa using hown
      have hNs : NatsAt wr sB 0 S := own_natsAt hs1
      have hc5 := clone_any wr (some ⟨sB, 0, none⟩) n3 n3 sB 0 (casts S) (by rw [casts_len]; exact HSl.out) h3l (fun _ => rfl) (fun h => by cases h) (ZAt.of_nats hNs)
      have HNS : Hid (NatsAt wr sB 0 S) := hNs
      have HC5 : Hid (Calls Yba.prog 5 #[.slice (some ⟨sB, 0, none⟩) n3 n3] wr fun e w' => ∃ (vo : Option Addr) (cap : Nat), e = .returned (.slice vo n3 cap) ∧ w'.ownsRow wr.heap.size 3 1 (.slice vo n3 cap) n3 (zints (casts S)) ∧ Fr wr w' []) := hc5
      clear hown hfr hs1 hNs hc5 HO HS H3A H3R H3B
      go_upto_region 14 with (go_at_call 5; refine HC5.out.mono ?_; rintro e w3 ⟨so, scap, rfl, hso, hf3⟩; have HSO : Hid (w3.ownsRow wr.heap.size 3 1 (.slice so n3 scap) n3 (zints (casts S))) := hso; have HF3 : Hid (Fr wr w3 []) := hf3; clear hso hf3)
      have hfW : Fr W2 w3 [] := HF.out.trans HF3.out
      have hA3 : Aut w3 ab n k st MV NL := HAT.out.grown fun c hc => hfW.same c hc (by simp)
      have hNs3 : NatsAt w3 sB 0 S := fun i x hx => HF3.out.cell (HNS.out i x hx) (by simp)
      obtain ⟨vo', cap', g, e1, e2, e3, e4⟩ := own_form HSO.out
      cases e1
      have hNc3 : NatsAt w3 g 0 S := fun i x hx => by
        have hl := (List.getElem?_eq_some_iff.1 hx).1
        have e5 := e2 (by rw [HSl.out]; omega)
        subst e5
        have := HSO.out
        rw [zints_casts] at this
        rw [Nat.zero_add]; exact own_cell this (ints_get hx)
      have hc6 := newRunner_any w3 ab n k st MV NL HG.out hA3 hst
      have HC6 : Hid (Calls Yba.prog 6 #[.pointer (some ⟨ab, 0, none⟩)] w3 fun e w' => ∃ wC gb cb mk rb, e = .returned (.pointer (some ⟨rb, 0, none⟩)) ∧ Cond wC gb n NL ∧ Fr w3 wC [] ∧ Run wC w' NL n ab gb cb mk rb) := hc6.mono (by
        rintro e w' ⟨wC, gb, cb, mk, rb, rfl, k1, k2, k3, k4⟩
        exact ⟨wC, gb, cb, mk, rb, rfl, k1, k2, k3, k4⟩)
      have HFw3 : Hid (Fr w w3 []) := HF2.out.trans hfW
      have HA3 : Hid (Aut w3 ab n k st MV NL) := hA3
      have HNS3 : Hid (NatsAt w3 sB 0 S ∧ NatsAt w3 g 0 S ∧ (0 < n3 → so = some ⟨g, 0, none⟩)) := ⟨hNs3, hNc3, e2⟩
      clear hfW hA3 hNs3 hNc3 e2 e3 e4 hc6 HSO HF3 HC5 HNS HF HAT HF2 HSB
      go_wp2_with (go_at_call 6; refine HC6.out.mono ?_; rintro e w4 ⟨wC, gb, cb, mk, rb, rfl, k1, k2, k3⟩; have K1 : Hid (Cond wC gb n NL) := k1; have K2 : Hid (Fr w3 wC []) := k2; have K3 : Hid (Run wC w4 NL n ab gb cb mk rb) := k3; clear k1 k2 k3)
      have HFC : Hid (Fr w wC []) := HFw3.out.trans K2.out
      have HAC : Hid (Aut wC ab n k st MV NL) := HA3.out.grown fun c hc => K2.out.same c hc (by simp)
      have HNC : Hid (NatsAt wC sB 0 S ∧ NatsAt wC g 0 S ∧ (0 < n3 → so = some ⟨g, 0, none⟩)) := ⟨fun i x hx => K2.out.cell (HNS3.out.1 i x hx) (by simp), fun i x hx => K2.out.cell (HNS3.out.2.1 i x hx) (by simp), HNS3.out.2.2⟩
      clear HA3 HNS3 K2 HFw3 HC6 hd
      go_loopw [27] (fun s27 wr => ∃ c : Nat, c ≤ 2 ∧ s27 = .int .i64 c ∧ Run wC wr NL n ab gb cb mk rb) (fun s27 _ => 2 - (intOf s27).toNat)
      case atStart => exact ⟨0, Nat.zero_le _, rfl, K3.out⟩
      case round =>
        clear K3
        obtain ⟨cc, hcc, rfl, hrun⟩ := hrel
        rename World => wq
        have HRUN : Hid (Run wC wq NL n ab gb cb mk rb) := hrun
        clear hrun
        by_cases hc2 : cc < 2
        · have hd2 : decide ((cc : Int) < 2) = true := by simp; omega
          obtain ⟨xa, hxa, exa⟩ := mod_letter x1 k hk1
          go_upto_if 109 with fail
          go_cut [28] from 110 to 113 (fun s28 w' => ∃ x : Nat, x < k ∧ s28 = .int .i64 x ∧ wq = w')
          case first =>
            obtain ⟨xb, hxb, exb⟩ := mod_letter x2 k hk1
            by_cases h0 : cc = 0
            · subst h0
              go_wp2_with fail
              go_meet
              case rel => exact ⟨xa, hxa, by rw [exa], rfl⟩
            · obtain rfl : cc = 1 := by omega
              go_wp2_with fail
              go_meet
              case rel => exact ⟨xb, hxb, by rw [exb], rfl⟩
          case rest =>
            obtain ⟨x, hxk, rfl, rfl⟩ := hcut
            clear exa hd2
            have hRg := reach_good (NL := NL) (n := n) (fun q L r hq hr => (HG.out.nto q L r hq hr).2) (targets_lt HG.out x S)
            obtain ⟨R, hR⟩ : ∃ R, R = stepOf MV NL n x S := ⟨_, rfl⟩
            have hRl : R.length ≤ 256 := by rw [hR]; exact Nat.le_trans (len_le_of_nodup n _ hRg.1 hRg.2) hn2
            have hfq : Fr w wq [] := HFC.out.trans HRUN.out.1
            have hcl := clone_any wq a4 n4 c4 b4 o4 D H4.out h4l H4A.out H4N.out (fun i y hy => hfq.cell (H4R.out i y hy) (by simp))
            have HCL : Hid (Calls Yba.prog 5 #[.slice a4 n4 c4] wq fun e w' => ∃ (vo : Option Addr) (cap : Nat), e = .returned (.slice vo n4 cap) ∧ w'.ownsRow wq.heap.size 3 1 (.slice vo n4 cap) n4 (zints D) ∧ Fr wq w' []) := hcl
            have HST : Hid (∀ (w5 : World) (dd : Option Addr) (dcap : Nat), w5.ownsRow wq.heap.size 3 1 (.slice dd n4 dcap) n4 (zints D) → Fr wq w5 [] → Calls Yba.prog 7 #[.pointer (some ⟨rb, 0, none⟩), .slice dd n4 dcap, .slice (some ⟨sB, 0, none⟩) n3 n3, .int .i64 (x : Int)] w5 fun e w' => ∃ vo cap, e = .returned (.slice vo (n4 + R.length) cap) ∧
                w'.ownsRow wq.heap.size 3 1 (.slice vo (n4 + R.length) cap) (n4 + R.length) (zints D ++ ints R) ∧ Run wC w' NL n ab gb cb mk rb) := fun w5 dd dcap ho hf => by
              have := step_any wC wq w5 cb gb mk n ab rb k st x MV NL (some ⟨sB, 0, none⟩) n3 n3 sB 0 S dd n4 dcap (zints D) HG.out (by omega) K1.out HAC.out HRUN.out hf HSl.out h3l HSn.out (fun _ => rfl) HNC.out.1 ho h4l
              rw [← hR] at this; exact this
            have HMO : Hid (∀ w6, Run wC w6 NL n ab gb cb mk rb → Calls Yba.prog 8 #[.pointer (some ⟨ab, 0, none⟩), .slice so n3 scap, .int .i64 (x : Int)] w6 fun e w' => ∃ vo cap, e = .returned (.slice vo R.length cap) ∧ w'.ownsRow w6.heap.size 3 1 (.slice vo R.length cap) R.length (ints R) ∧ Fr w6 w' []) := fun w6 hrun => by
              have := model_any wC w6 ab n k st x MV NL so n3 scap g 0 S HG.out (by omega) HAC.out (fun c hc => hrun.1.same c hc (by simp)) hrun.1.size HSl.out h3l HSn.out HNC.out.2.2 HNC.out.2.1
              rw [← hR] at this; exact this
            clear hRg hR hfq hcl
            go_wp2_with (first
              | (go_at_call 5; refine HCL.out.mono ?_; rintro e w5 ⟨dd, dcap, rfl, ho5, hf5⟩; have HO5 : Hid (w5.ownsRow wq.heap.size 3 1 (.slice dd n4 dcap) n4 (zints D)) := ho5; have HF5 : Hid (Fr wq w5 []) := hf5; clear ho5 hf5)
              | (go_at_call 7; refine (HST.out w5 dd dcap HO5.out HF5.out).mono ?_; rintro e w6 ⟨go, gcap, rfl, ho6, hr6⟩; have HO6 : Hid (w6.ownsRow wq.heap.size 3 1 (.slice go (n4 + R.length) gcap) (n4 + R.length) (zints D ++ ints R)) := ho6; have HR6 : Hid (Run wC w6 NL n ab gb cb mk rb) := hr6; clear ho6 hr6)
              | (go_at_call 8; refine (HMO.out w6 HR6.out).mono ?_; rintro e w7 ⟨wo, wcap, rfl, ho7, hf7⟩; have HO7 : Hid (w7.ownsRow w6.heap.size 3 1 (.slice wo R.length wcap) R.length (ints R)) := ho7; have HF7 : Hid (Fr w6 w7 []) := hf7; clear ho7 hf7))
            have G7 := HF7.out.own HO6.out (by simp)
            have HR7 : Hid (Run wC w7 NL n ab gb cb mk rb) := HR6.out.keep HF7.out
            have hfw7 : Fr w w7 [] := HFC.out.trans HR7.out.1
            obtain ⟨_, _, gg, e1, e2, _, _⟩ := own_form G7
            cases e1
            have HGO : Hid (0 < n4 + R.length → go = some ⟨gg, 0, none⟩) := e2
            have HD7 : Hid (∀ (i : Nat) y, D[i]? = some y → w7.cell? ⟨gg, i, none⟩ = some (.int .i64 y) ∧ w7.cell? ⟨b4, o4 + i, none⟩ = some (.int .i64 y)) := fun i y hy => by
              have hl := (List.getElem?_eq_some_iff.1 hy).1
              have e5 := e2 (by have := H4.out; omega)
              subst e5
              exact ⟨own_cell G7 (by rw [List.getElem?_append_left (by rw [zints_len]; exact hl)]; exact zints_get hy), hfw7.cell (H4R.out i y hy) (by simp)⟩
            obtain ⟨_, _, wg, p1, p2, _, _⟩ := own_form HO7.out
            cases p1
            have HWO : Hid (0 < R.length → wo = some ⟨wg, 0, none⟩) := p2
            have HR8 : Hid (∀ (i r : Nat), R[i]? = some r → w7.cell? ⟨gg, n4 + i, none⟩ = some (.int .i64 (r : Int)) ∧ w7.cell? ⟨wg, i, none⟩ = some (.int .i64 (r : Int))) := fun i r hr => by
              have hl := (List.getElem?_eq_some_iff.1 hr).1
              have e5 := e2 (by omega)
              have p5 := p2 (by omega)
              subst e5 p5
              refine ⟨own_cell G7 ?_, own_cell HO7.out (ints_get hr)⟩
              rw [List.getElem?_append_right (by rw [zints_len, ← H4.out]; omega), zints_len, ← H4.out, Nat.add_sub_cancel_left]
              exact ints_get hr
            clear G7 e2 p2 hfw7 HO5 HF5 HO6 HR6 HO7 HF7 HCL HST HMO
            go_loopw [135] (fun s135 wr => ∃ t q : Nat, t ≤ n4 ∧ s135 = .int .i64 t ∧ wr = w7.drewN q) (fun s135 _ => n4 - (intOf s135).toNat)
            case atStart => exact ⟨0, 0, Nat.zero_le _, rfl, rfl⟩
            case round =>
              obtain ⟨t2, q2, ht2, rfl, rfl⟩ := hrel
              by_cases htl2 : t2 < n4
              · have hd2 : decide ((t2 : Int) < (n4 : Int)) = true := by simp; exact htl2
                obtain ⟨y, hy⟩ : ∃ y, D[t2]? = some y := ⟨_, List.getElem?_eq_getElem (by rw [← H4.out]; exact htl2)⟩
                obtain ⟨j1, j2⟩ := HD7.out t2 y hy
                have hgo := HGO.out (by omega)
                subst hgo
                have x5 := index26z (b := gg) (n := n4 + R.length) (c := gcap) (k := t2) (by omega)
                have x6 := index26 (c := c4) H4A.out htl2
                clear hy
                go_wp2_with fail
                go_quiet (fail)
                go_wp2_with fail
                go_roundw
                case rel => exact ⟨t2 + 1, q2 + nq, by omega, by go_num, by simp⟩
                case measure => simp [intOf]; omega
              · have hd2 : decide ((t2 : Int) < (n4 : Int)) = false := by simp; omega
                go_wp2_with fail
                go_loopw [150] (fun s150 wr => ∃ t q : Nat, t ≤ R.length ∧ s150 = .int .i64 t ∧ wr = w7.drewN q) (fun s150 _ => R.length - (intOf s150).toNat)
                case atStart => exact ⟨0, q2, Nat.zero_le _, rfl, rfl⟩
                case round =>
                  clear hd2
                  obtain ⟨t4, q4, ht4, rfl, rfl⟩ := hrel
                  by_cases htl4 : t4 < R.length
                  · have hd4 : decide ((t4 : Int) < (R.length : Int)) = true := by simp; exact htl4
                    obtain ⟨r, hr⟩ : ∃ r, R[t4]? = some r := ⟨_, List.getElem?_eq_getElem htl4⟩
                    obtain ⟨j1, j2⟩ := HR8.out t4 r hr
                    have hgo := HGO.out (by omega)
                    have hwo := HWO.out (by omega)
                    subst hgo hwo
                    have x5 := index26z (b := gg) (n := n4 + R.length) (c := gcap) (k := n4 + t4) (by omega)
                    rw [show ((n4 + t4 : Nat) : Int) = (n4 : Int) + (t4 : Int) by omega] at x5
                    have x6 := index26z (b := wg) (c := wcap) htl4
                    clear hr
                    go_wp2_with fail
                    go_quiet (fail)
                    go_wp2_with fail
                    go_roundw
                    case rel => exact ⟨t4 + 1, q4 + nq, by omega, by go_num, by simp⟩
                    case measure => simp [intOf]; omega
                  · have hd4 : decide ((t4 : Int) < (R.length : Int)) = false := by simp; omega
                    go_wp2_with fail
                    go_roundw
                    case rel => exact ⟨cc + 1, by omega, by go_num, HR7.out.keep ((Fr.refl w7 []).drewN q4)⟩
                    case measure => simp [intOf]; omega
        · have hd2 : decide ((cc : Int) < 2) = false := by simp; omega
          have hfq := HRUN.out.1
          have hc9 := equal_any wq (some ⟨sB, 0, none⟩) so n3 n3 scap sB 0 g 0 (casts S) (by rw [casts_len]; exact HSl.out) h3l (fun _ => rfl) HNC.out.2.2 (ZAt.of_nats fun i y hy => hfq.cell (HNC.out.1 i y hy) (by simp)) (ZAt.of_nats fun i y hy => hfq.cell (HNC.out.2.1 i y hy) (by simp))
          have HC9 : Hid (Calls Yba.prog 9 #[.slice (some ⟨sB, 0, none⟩) n3 n3, .slice so n3 scap] wq fun e w' => e = .returned (.bool true) ∧ ∃ q, w' = wq.drewN q) := hc9
          clear hfq hc9
          go_upto_region 40 with (go_at_call 9; refine HC9.out.mono ?_; rintro e w8 ⟨rfl, q8, rfl⟩)
          have hrun8 := HRUN.out.keep ((Fr.refl wq []).drewN q8)
          have HF8 : Hid (Fr w (wq.drewN q8) []) := HFC.out.trans hrun8.1
          generalize wq.drewN q8 = W8 at *
          obtain ⟨⟨oo, m6, b6, hm6, v6, v7, v8⟩, v2, v3, v4⟩ := hrun8.view
          have HV7 : Hid (0 < m6 → oo = some ⟨b6, 0, none⟩) := v7
          have HV8 : Hid (∀ i, i < m6 → W8.cell? ⟨b6, i, none⟩ = some (.bool false)) := v8
          have HV4 : Hid (∀ i, i < n → W8.cell? ⟨mk, i, none⟩ = some (.bool false)) := v4
          clear hrun8 v7 v8 v4 HC9 HRUN
          go_wp2_with fail
          go_loopw [175] (fun s175 wr => ∃ t : Nat, t ≤ m6 ∧ s175 = .int .i64 t ∧ W8 = wr) (fun s175 _ => m6 - (intOf s175).toNat)
          case atStart => exact ⟨0, Nat.zero_le _, rfl, rfl⟩
          case round =>
            obtain ⟨t5, ht5, rfl, rfl⟩ := hrel
            by_cases htl5 : t5 < m6
            · have hd5 : decide ((t5 : Int) < (m6 : Int)) = true := by simp; exact htl5
              have j1 := HV8.out t5 htl5
              have x5 := index30o (c := m6) HV7.out htl5
              go_wp2_with fail
              go_roundw
              case rel => exact ⟨t5 + 1, by omega, by go_num, trivial⟩
              case measure => simp [intOf]; omega
            · have hd5 : decide ((t5 : Int) < (m6 : Int)) = false := by simp; omega
              go_wp2_with fail
              go_loopw [189] (fun s189 wr => ∃ t : Nat, t ≤ n ∧ s189 = .int .i64 t ∧ W8 = wr) (fun s189 _ => n - (intOf s189).toNat)
              case atStart => exact ⟨0, Nat.zero_le _, rfl, rfl⟩
              case round =>
                obtain ⟨t6, ht6, rfl, rfl⟩ := hrel
                by_cases htl6 : t6 < n
                · have hd6 : decide ((t6 : Int) < (n : Int)) = true := by simp; exact htl6
                  have j1 := HV4.out t6 htl6
                  have x5 := index30 (b := mk) (c := n) htl6
                  go_wp2_with fail
                  go_roundw
                  case rel => exact ⟨t6 + 1, by omega, by go_num, trivial⟩
                  case measure => simp [intOf]; omega
                · have hd6 : decide ((t6 : Int) < (n : Int)) = false := by simp; omega
                  go_wp2_with fail
                  go_ret
                  exact ⟨rfl, HF8.out.below (by simp) (Below.refl _ _) (Nat.le_refl _)⟩
end Go.Proofs.Ybulkdxbk
