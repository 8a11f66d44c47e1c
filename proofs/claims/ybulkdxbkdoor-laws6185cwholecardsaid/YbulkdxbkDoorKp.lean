import Derived.Test.YbulkdxbkDoorKm
namespace Go.Proofs.YbulkdxbkDoor
open Go.RowKit
set_option linter.unusedVariables false
set_option linter.unusedSectionVars false

set_option maxRecDepth 100000 in
set_option maxHeartbeats 8000000 in
theorem addReached_any (wC w : World) (K cb gb mk m : Nat) (nf : Bool) (sv : Value) (ro : Option Addr) (rc : Nat) (R : List Nat) (b1 b2 nw nu : Nat) (wo : Option Addr) (wc : Nat) (od : Bool) (ko : Option Addr) (kc : Nat) (BL UL WL KL : List Nat) (p : Nat → Bool) (n : Nat) (CP : List Nat) (ML SL : List (List Nat))
    (hm : m ≤ 4096) (hn : n ≤ nw * 64) (hn2 : n ≤ 65536) (hML : ML.length = m) (hSL : SL.length = m) (hfl : SL.flatten.length ≤ 65536) (hMn : ∀ (q : Nat) L r, ML[q]? = some L → r ∈ L → r < n) (hC : CondC wC gb n m CP ML SL) (hR : ∀ x ∈ R, x < m) (hRl : R.length ≤ 4096)
    (hcl : Cl wC w K cb gb mk m nf sv (.slice ro R.length rc) R b1 b2 nw nu wo wc od ko kc BL UL WL KL) (hb : BI nw nu p od BL UL WL KL) :
    Calls Ybad.prog 31 #[.pointer (some ⟨cb, 0, none⟩), .pointer (some ⟨cb, 5, none⟩)] w fun e w' => (∃ st : Int, e = .returned (.int .i64 st)) ∧ ∃ wo' wc' od' ko' kc' BL' UL' WL' KL', SB w (.slice wo WL.length wc) (.slice ko KL.length kc) wC.heap.size K cb gb mk m nf sv (.slice ro R.length rc) b1 b2 nw nu w' wo' wc' od' ko' kc' BL' UL' WL' KL' ∧ BI nw nu (addAll p (R.flatMap (nullOf ML))) od' BL' UL' WL' KL' := by
  obtain ⟨vo, cap, gr, e1, e2, _, _⟩ := own_form hcl.clo.rown
  cases e1
  have HRD : Hid (∀ wr, Fr w wr (sbS cb b1 b2 (.slice wo WL.length wc) (.slice ko KL.length kc)) → (∀ c, c < wC.heap.size → wr.heap[c]? = wC.heap[c]?) ∧ ∀ (t k : Nat), R[t]? = some k → wr.cell? ⟨gr, t, none⟩ = some (.int .i64 (k : Int))) := by
    intro wr hf
    refine ⟨hcl.low hf, fun t k hk => ?_⟩
    have hl := (List.getElem?_eq_some_iff.1 hk).1
    have e := e2 (by omega)
    subst e
    exact hf.cell (own_cell hcl.clo.rown (ints_get hk)) (hcl.nsb (.inr (.inr rfl)))
  have HG : Hid (0 < R.length → ro = some ⟨gr, 0, none⟩) := e2
  have HS : Hid (SB w (.slice wo WL.length wc) (.slice ko KL.length kc) wC.heap.size K cb gb mk m nf sv (.slice ro R.length rc) b1 b2 nw nu w wo wc od ko kc BL UL WL KL) := hcl.sb
  have HB : Hid (BI nw nu p od BL UL WL KL) := hb
  have hblk := hcl.sb.blk
  have c4 : w.cell? ⟨cb, 4, none⟩ = some (.slice ro R.length rc) := by simp [World.cell?, hblk]
  have HR : Hid (∀ x ∈ R, x < m) := hR
  have HSUC : Hid (∀ k, k < m → ∃ L, SL[k]? = some L ∧ L.length ≤ 65536 ∧ ∃ (a : Option Addr) (c b o : Nat), (0 < L.length → a = some ⟨b, o, none⟩) ∧ NatsAt wC b o L ∧ ∀ w : World, (∀ c, c < wC.heap.size → w.heap[c]? = wC.heap[c]?) → Calls Ybad.prog 40 #[.pointer (some ⟨gb, 0, none⟩), .int .i64 (k : Int)] w fun e w' => e = .returned (.slice a L.length c) ∧ ∃ q, w' = w.drewN q) := fun k hk => by
    have hL : SL[k]? = some (SL[k]'(by omega)) := List.getElem?_eq_getElem (by omega)
    refine ⟨_, hL, ?_, succ_ex wC gb n m k CP ML SL _ hm hk hC hL hfl⟩
    have := pre_succ hL; have := pre_le (NL := SL) (k + 1); omega
  have HMEM : Hid (∀ k, k < m → ∃ L, ML[k]? = some L ∧ L.length ≤ 65536 ∧ (∀ x ∈ L, x < n) ∧ ∃ (a : Option Addr) (c b o : Nat), (0 < L.length → a = some ⟨b, o, none⟩) ∧ NatsAt wC b o L ∧ ∀ w : World, (∀ c, c < wC.heap.size → w.heap[c]? = wC.heap[c]?) → Calls Ybad.prog 41 #[.pointer (some ⟨gb, 0, none⟩), .int .i64 (k : Int)] w fun e w' => e = .returned (.slice a L.length c) ∧ ∃ q, w' = w.drewN q) := fun k hk => by
    have hL : ML[k]? = some (ML[k]'(by omega)) := List.getElem?_eq_getElem (by omega)
    refine ⟨_, hL, ?_, fun x hx => hMn k _ x hL hx, members_ex wC gb n m k CP ML SL _ hm hk hC hL hn2⟩
    have h5 : ML.flatten.length = n := by obtain ⟨_, _, _, _, _, _, _, _, h, _⟩ := hC; exact h
    have := pre_succ hL; have := pre_le (NL := ML) (k + 1); omega
  clear hcl hb hC hR hML hSL hMn e2 hblk hfl
  obtain ⟨rl, hrl⟩ : ∃ rl, R.length = rl := ⟨_, rfl⟩
  have HRL : Hid (R.length = rl) := hrl
  rw [hrl] at c4 hRl HG HS
  rw [hrl]
  clear hrl
  go_enter Ybad.func31, Ybad.ntmps31
  go_wp2_with fail
  go_loopw [21, 5] (fun s21 s5 wr => ∃ (t : Nat) (st : Int) (wo' : Option Addr) (wc' : Nat) (od' : Bool) (ko' : Option Addr) (kc' : Nat) (BL' UL' WL' KL' : List Nat), t ≤ rl ∧ s21 = .int .i64 t ∧ s5 = .int .i64 st ∧ SB w (.slice wo WL.length wc) (.slice ko KL.length kc) wC.heap.size K cb gb mk m nf sv (.slice ro rl rc) b1 b2 nw nu wr wo' wc' od' ko' kc' BL' UL' WL' KL' ∧ BI nw nu (addAll p ((R.take t).flatMap (nullOf ML))) od' BL' UL' WL' KL') (fun s _ _ => rl - (intOf s).toNat)
  case atStart => exact ⟨0, _, wo, wc, od, ko, kc, BL, UL, WL, KL, Nat.zero_le _, rfl, rfl, HS.out, by simpa [addAll_nil] using HB.out⟩
  case round =>
    clear HS HB c4
    obtain ⟨t, st, wo', wc', od', ko', kc', BL', UL', WL', KL', ht, rfl, rfl, hsb, hbi⟩ := hrel
    rename World => wr
    have HSB : Hid (SB w (.slice wo WL.length wc) (.slice ko KL.length kc) wC.heap.size K cb gb mk m nf sv (.slice ro rl rc) b1 b2 nw nu wr wo' wc' od' ko' kc' BL' UL' WL' KL' ∧ BI nw nu (addAll p ((R.take t).flatMap (nullOf ML))) od' BL' UL' WL' KL') := ⟨hsb, hbi⟩
    by_cases htl : t < rl
    · have hd : decide ((t : Int) < (rl : Int)) = true := by simp; exact htl
      obtain ⟨k, hk⟩ : ∃ k, R[t]? = some k := ⟨_, List.getElem?_eq_getElem (by rw [HRL.out]; exact htl)⟩
      have hkm : k < m := HR.out k (List.mem_of_getElem? hk)
      obtain ⟨hlow, hrd⟩ := HRD.out wr hsb.fr
      have y1 := hrd t k hk
      have x1 := index26 (c := rc) (o := 0) HG.out htl
      rw [Nat.zero_add] at x1
      have hblk := hsb.blk
      have c0 : wr.cell? ⟨cb, 0, none⟩ = some (.pointer (some ⟨gb, 0, none⟩)) := by simp [World.cell?, hblk]
      have HK : Hid (R[t]? = some k) := hk
      have HLOW : Hid (∀ c, c < wC.heap.size → wr.heap[c]? = wC.heap[c]?) := hlow
      obtain ⟨LS, hs1, hs2, a1, q1, q2, q3, _, _, hs4⟩ := HSUC.out k hkm
      obtain ⟨L, hm1, hm2, hm3, a2, p1, p2, p3, hma, hmr, hm4⟩ := HMEM.out k hkm
      have HS4 : Hid (∀ w : World, (∀ c, c < wC.heap.size → w.heap[c]? = wC.heap[c]?) → Calls Ybad.prog 40 #[.pointer (some ⟨gb, 0, none⟩), .int .i64 (k : Int)] w fun e w' => e = .returned (.slice a1 LS.length q1) ∧ ∃ q, w' = w.drewN q) := hs4
      have HM4 : Hid (∀ w : World, (∀ c, c < wC.heap.size → w.heap[c]? = wC.heap[c]?) → Calls Ybad.prog 41 #[.pointer (some ⟨gb, 0, none⟩), .int .i64 (k : Int)] w fun e w' => e = .returned (.slice a2 L.length p1) ∧ ∃ q, w' = w.drewN q) := hm4
      have HL : Hid (ML[k]? = some L ∧ (∀ x ∈ L, x < n) ∧ (0 < L.length → a2 = some ⟨p2, p3, none⟩) ∧ NatsAt wC p2 p3 L) := ⟨hm1, hm3, hma, hmr⟩
      clear hk hsb hbi hlow hrd hblk hs1 hs4 hm1 hm3 hma hmr hm4
      obtain ⟨ll, hll⟩ : ∃ ll, L.length = ll := ⟨_, rfl⟩
      have HLL : Hid (L.length = ll) := hll
      rw [hll] at HM4 hm2
      clear hll
      generalize LS.length = ls at *
      go_wp2_with fail
      go_quiet (first | (go_at_call 40; refine (HS4.out (wr.drewN _) HLOW.out).mono ?_; rintro e w1 ⟨rfl, q, rfl⟩; exact ⟨rfl, _, by rw [World.drewN_drewN]⟩) | (go_at_call 41; refine (HM4.out (wr.drewN _) HLOW.out).mono ?_; rintro e w1 ⟨rfl, q, rfl⟩; exact ⟨rfl, _, by rw [World.drewN_drewN]⟩))
      go_wp2_with (go_at_call 41; refine (HM4.out (wr.drewN _) HLOW.out).mono ?_; rintro e w' ⟨rfl, q, rfl⟩)
      generalize wrap64 (st + ((ls : Int) + (ll : Int))) = st2
      obtain ⟨PL, hPL⟩ : ∃ PL, PL = (R.take t).flatMap (nullOf ML) := ⟨_, rfl⟩
      have HPL : Hid (PL = (R.take t).flatMap (nullOf ML)) := hPL
      have HS2 : Hid (SB w (.slice wo WL.length wc) (.slice ko KL.length kc) wC.heap.size K cb gb mk m nf sv (.slice ro rl rc) b1 b2 nw nu (wr.drewN (nq + q)) wo' wc' od' ko' kc' BL' UL' WL' KL' ∧ BI nw nu (addAll p (PL ++ L.take 0)) od' BL' UL' WL' KL') := ⟨HSB.out.1.drewN _, by rw [hPL, List.take_zero, List.append_nil]; exact HSB.out.2⟩
      clear hPL HSB
      go_loopw [49] (fun s wq => ∃ (u : Nat) (wo' : Option Addr) (wc' : Nat) (od' : Bool) (ko' : Option Addr) (kc' : Nat) (BL' UL' WL' KL' : List Nat), u ≤ ll ∧ s = .int .i64 u ∧ SB w (.slice wo WL.length wc) (.slice ko KL.length kc) wC.heap.size K cb gb mk m nf sv (.slice ro rl rc) b1 b2 nw nu wq wo' wc' od' ko' kc' BL' UL' WL' KL' ∧ BI nw nu (addAll p (PL ++ L.take u)) od' BL' UL' WL' KL') (fun s _ => ll - (intOf s).toNat)
      case atStart => exact ⟨0, wo', wc', od', ko', kc', BL', UL', WL', KL', Nat.zero_le _, rfl, HS2.out.1, HS2.out.2⟩
      case round =>
        clear HS2 y1 x1 c0 hd
        obtain ⟨u, wo', wc', od', ko', kc', BL', UL', WL', KL', hu, rfl, hsb, hbi⟩ := hrel
        rename World => wq
        have HSB : Hid (SB w (.slice wo WL.length wc) (.slice ko KL.length kc) wC.heap.size K cb gb mk m nf sv (.slice ro rl rc) b1 b2 nw nu wq wo' wc' od' ko' kc' BL' UL' WL' KL' ∧ BI nw nu (addAll p (PL ++ L.take u)) od' BL' UL' WL' KL') := ⟨hsb, hbi⟩
        by_cases hul : u < ll
        · have hd : decide ((u : Int) < (ll : Int)) = true := by simp; exact hul
          obtain ⟨x, hx⟩ : ∃ x, L[u]? = some x := ⟨_, List.getElem?_eq_getElem (by rw [HLL.out]; exact hul)⟩
          have hxn : x < n := HL.out.2.1 x (List.mem_of_getElem? hx)
          have y1 : wq.cell? ⟨p2, p3 + u, none⟩ = some (.int .i64 (x : Int)) := cell_of (HL.out.2.2.2 u x hx) ((HRD.out wq hsb.fr).1 p2 (cell_lt (HL.out.2.2.2 u x hx)))
          have x1 := index26 (c := p1) (by rw [← HLL.out]; exact HL.out.2.2.1) hul
          have hcall := add_any w wq (.slice wo WL.length wc) (.slice ko KL.length kc) wC.heap.size K cb gb mk m nf sv (.slice ro rl rc) b1 b2 nw nu wo' wc' od' ko' kc' BL' UL' WL' KL' _ x (by omega) hsb hbi
          rw [addAll_snoc, List.append_assoc, ← take_snoc hx] at hcall
          have HCALL : Hid (Calls Ybad.prog 29 #[.pointer (some ⟨cb, 5, none⟩), .int .i64 (x : Int)] wq fun e w' => e = .returned (.tuple #[]) ∧ ∃ wo' wc' od' ko' kc' BL' UL' WL' KL', SB w (.slice wo WL.length wc) (.slice ko KL.length kc) wC.heap.size K cb gb mk m nf sv (.slice ro rl rc) b1 b2 nw nu w' wo' wc' od' ko' kc' BL' UL' WL' KL' ∧ BI nw nu (addAll p (PL ++ L.take (u + 1))) od' BL' UL' WL' KL') := hcall
          clear hcall hsb hbi hx
          go_wp2_with (go_at_call 29; refine HCALL.out.mono ?_; rintro e w2 ⟨rfl, hex⟩; have HEX : Hid (∃ wo' wc' od' ko' kc' BL' UL' WL' KL', SB w (.slice wo WL.length wc) (.slice ko KL.length kc) wC.heap.size K cb gb mk m nf sv (.slice ro rl rc) b1 b2 nw nu w2 wo' wc' od' ko' kc' BL' UL' WL' KL' ∧ BI nw nu (addAll p (PL ++ L.take (u + 1))) od' BL' UL' WL' KL') := hex; clear hex)
          go_roundw
          case rel =>
            obtain ⟨wo', wc', od', ko', kc', BL', UL', WL', KL', h1, h2⟩ := HEX.out
            exact ⟨u + 1, wo', wc', od', ko', kc', BL', UL', WL', KL', by omega, by go_num, h1, h2⟩
          case measure => simp [intOf]; omega
        · have hd : decide ((u : Int) < (ll : Int)) = false := by simp; omega
          clear hsb hbi
          go_wp2_with fail
          go_roundw
          case rel =>
            refine ⟨t + 1, st2, wo', wc', od', ko', kc', BL', UL', WL', KL', by omega, by go_num, rfl, HSB.out.1, ?_⟩
            have h1 := HSB.out.2
            rw [List.take_of_length_le (by rw [HLL.out]; omega)] at h1
            rw [take_snoc HK.out, List.flatMap_append, ← HPL.out, List.flatMap_singleton, nullOf_at HL.out.1]
            exact h1
          case measure => simp [intOf]; omega
    · have hd : decide ((t : Int) < (rl : Int)) = false := by simp; omega
      have htk : R.take t = R := List.take_of_length_le (by rw [HRL.out]; omega)
      rw [htk] at hbi
      have HE : Hid (SB w (.slice wo WL.length wc) (.slice ko KL.length kc) wC.heap.size K cb gb mk m nf sv (.slice ro rl rc) b1 b2 nw nu wr wo' wc' od' ko' kc' BL' UL' WL' KL' ∧ BI nw nu (addAll p (R.flatMap (nullOf ML))) od' BL' UL' WL' KL') := ⟨hsb, hbi⟩
      clear hsb hbi htk HSB
      go_wp2_with fail
      go_ret
      exact ⟨⟨_, rfl⟩, _, _, _, _, _, _, _, _, _, HE.out.1, HE.out.2⟩
end Go.Proofs.YbulkdxbkDoor
