import Derived.Test.YbulkdxbkDoorKt
namespace Go.Proofs.YbulkdxbkDoor
open Go.RowKit
set_option linter.unusedVariables false
set_option linter.unusedSectionVars false

theorem VS.push {w wr w2 : World} {H m : Nat} {p : Nat → Bool} {vo : Option Addr} {cap : Nat} {T : List Nat} (h : VS w H m wr p vo cap T) {k g c2 tl : Nat} (hl : T.length = tl) (hk : k < m) (hp : p k = false)
    (ho : w2.ownsRow (H + 1) 3 1 (.slice (some ⟨g, 0, none⟩) (tl + 1) c2) (tl + 1) (ints T ++ [.int .i64 (k : Int)])) (hf : Fr (wr.setCell ⟨H, k, none⟩ (.bool true)) w2 (blks (.slice vo tl cap))) :
    VS w H m w2 (fun i => if i = k then true else p i) (some ⟨g, 0, none⟩) c2 (T ++ [k]) := by
  subst hl
  obtain ⟨h1, h2, h3, h4⟩ := h.flip hk hp
  have e : (T ++ [k]).length = T.length + 1 := by simp
  have hu := unv_flip hk hp
  have ht := h.tot
  have hfar : ∀ c ∈ blks (.slice vo T.length cap), H + 1 ≤ c := fun c hc => (h.stk.lt c (mem_blks.1 hc)).1
  have hw := h.hw
  refine ⟨hf.own h1 fun b hb hm => ?_, by rw [e, ints_app]; exact ho, h3.then hf fun c hc => .inr (by have := hfar c hc; omega), h.hw, Nat.le_trans h4 hf.size, by rw [e]; omega⟩
  cases hb; have := hfar H hm; omega
theorem hidI {P : Prop} (h : P) : Hid P := h
theorem DS.start (w : World) : DS w (.slice none 0 0) w.heap.size [] w none 0 [] :=
  ⟨World.ownsRow_nil _ _ _ _, Fr.refl _ _, Moved.refl _ _⟩
set_option maxRecDepth 100000 in
set_option maxHeartbeats 8000000 in
theorem closure_any (w : World) (ck sb tb n m : Nat) (CP : List Nat) (SL : List (List Nat)) (a : Option Addr) (sm c b o : Nat) (SQ : List Nat)
    (hm : m ≤ 4096) (hn : n ≤ 12288) (hfl : SL.flatten.length ≤ 65536) (hSL : SL.length = m) (hSm : ∀ (q : Nat) L r, SL[q]? = some L → r ∈ L → r < m) (hCl : CP.length = n) (hC : NatsAt w ck 0 CP) (hCm : ∀ q, q < n → compOf CP q < m) (hS : NatsAt w sb 0 SL.flatten) (hF : ∀ i, i ≤ m → w.cell? ⟨tb, i, none⟩ = some (.int .i64 (pre SL i : Int)))
    (hsm : sm = SQ.length) (hsm2 : sm ≤ 65536) (hsq : ∀ x ∈ SQ, x < n) (ha : 0 < sm → a = some ⟨b, o, none⟩) (hr : NatsAt w b o SQ) :
    Calls Ybad.prog 14 #[.slice (some ⟨ck, 0, none⟩) n n, .slice (some ⟨sb, 0, none⟩) SL.flatten.length SL.flatten.length, .slice (some ⟨tb, 0, none⟩) (m + 1) (m + 1), .int .i64 (n : Int), .int .i64 (m : Int), .slice a sm c] w fun e w' => ∃ (vo : Option Addr) (cap : Nat) (P : Nat → Bool), Least (nullOf SL) (SQ.map (compOf CP)) (fun x => P x = true) ∧
      e = .returned (.slice vo ((List.range n).filter fun q => P (compOf CP q)).length cap) ∧ w'.ownsRow w.heap.size 3 1 (.slice vo ((List.range n).filter fun q => P (compOf CP q)).length cap) ((List.range n).filter fun q => P (compOf CP q)).length (ints ((List.range n).filter fun q => P (compOf CP q))) ∧ Fr w w' [] := by
  obtain ⟨SD, hSD⟩ : ∃ SD, SQ.map (compOf CP) = SD := ⟨_, rfl⟩
  rw [hSD]
  have HSD : Hid (∀ (t q : Nat), SQ[t]? = some q → SD[t]? = some (compOf CP q)) := fun t q hq => by rw [← hSD, List.getElem?_map, hq]; rfl
  have HSDl : Hid (SD.length = sm) := (by rw [← hSD, List.length_map, hsm] : SD.length = sm)
  have HCOMP : Hid (∀ q, q < n → w.cell? ⟨ck, q, none⟩ = some (.int .i64 (compOf CP q : Int))) := fun q hq => by
    have h1 : CP[q]? = some (CP[q]'(by omega)) := List.getElem?_eq_getElem (by omega)
    have h2 := hC q _ h1
    rw [Nat.zero_add] at h2
    have h3 : compOf CP q = CP[q]'(by omega) := by simp [compOf, h1]
    rw [h3]; exact h2
  have HCM : Hid (∀ q, q < n → compOf CP q < m) := hCm
  have HSUC : Hid (∀ k, k < m → ∃ (L : List Nat) (aL : Option Addr) (cL oL pk pk1 : Nat), nullOf SL k = L ∧ L.length ≤ 65536 ∧ (∀ x ∈ L, x < m) ∧ (0 < L.length → aL = some ⟨sb, oL, none⟩) ∧ NatsAt w sb oL L ∧ w.cell? ⟨tb, k, none⟩ = some (.int .i64 (pk : Int)) ∧ w.cell? ⟨tb, k + 1, none⟩ = some (.int .i64 (pk1 : Int)) ∧
      ∀ w, (Instr.sliceAt 44 (.slice (some ⟨sb, 0, none⟩) SL.flatten.length SL.flatten.length) (some (.int .i64 (pk : Int))) (some (.int .i64 (pk1 : Int))) none).run Ybad.prog w = .ok (.slice aL L.length cL) w) := fun k hk => by
    have hL : SL[k]? = some (SL[k]'(by omega)) := List.getElem?_eq_getElem (by omega)
    generalize SL[k]'(by omega) = L at hL
    have p1 := pre_succ hL
    have p2 := pre_le (NL := SL) (k + 1)
    obtain ⟨a', e1, e2, x3⟩ := slice26 (a := some ⟨sb, 0, none⟩) (n := SL.flatten.length) (c := SL.flatten.length) (b := sb) (o := 0) (i := pre SL k) (j := pre SL (k + 1)) (fun _ => rfl) (fun h => by cases h) (by omega) p2 (Nat.le_refl _)
    rw [show pre SL (k + 1) - pre SL k = L.length by omega] at x3 e1
    refine ⟨L, a', _, pre SL k, pre SL k, pre SL (k + 1), nullOf_at hL, by omega, fun x hx => hSm k L x hL hx, fun h => by rw [e1 h, Nat.zero_add], fun i x hx => ?_, hF k (by omega), hF (k + 1) (by omega), x3⟩
    have := hS (pre SL k + i) x (pre_get hL hx)
    rwa [Nat.zero_add] at this
  have HR : Hid (NatsAt w b o SQ) := hr
  have HA : Hid (0 < sm → a = some ⟨b, o, none⟩) := ha
  have HSM : Hid (sm = SQ.length) := hsm
  have HSQ : Hid (∀ x ∈ SQ, x < n) := hsq
  obtain ⟨C1, hC1, mk1⟩ := make_ex 61 4 Ybad.underlying61 info4 rfl (by omega) m (by omega)
  obtain ⟨C2, hC2, mk2⟩ := make_cap m (by omega)
  obtain ⟨H, hH⟩ : ∃ H, w.heap.size = H := ⟨_, rfl⟩
  have HH : Hid (w.heap.size = H) := hH
  have HV0 : Hid (VS w H m ((w.alloc (.cells C1 4)).alloc (.cells C2 3)) (fun _ => false) (some ⟨H + 1, 0, none⟩) m []) := by
    have h1 := made_own (w := w) (E := 4) (B := H) hC1 (by omega) (by omega)
    rw [replicate_bools, hH] at h1
    have hs1 : (w.alloc (.cells C1 4)).heap.size = H + 1 := by simp [hH]
    refine ⟨h1.alloc _, ⟨rfl, .inr ⟨H + 1, m, C2, rfl, Nat.le_refl _, ?_, Nat.zero_le _, by unfold maxLen; omega, by rw [hC2, Nat.mul_one], by simp [ints]⟩⟩, ((Fr.refl w _).alloc _).alloc _, by omega, by simp [hH], by rw [unv_start]; simp⟩
    have := heap_new (w.alloc (.cells C1 4)) (.cells C2 3)
    rw [hs1] at this
    exact this
  rw [hH]
  clear hSD hC hCm hS hF hCl hSL hSm hr ha hsm hsq hC1 hC2
  generalize SL.flatten.length = fl at *
  obtain ⟨S, hS⟩ : ∃ S, nullOf SL = S := ⟨_, rfl⟩
  rw [hS] at HSUC ⊢
  clear hS
  go_enter Ybad.func14, Ybad.ntmps14
  go_wp2_with fail
  clear hH
  go_loopw [29, 14] (fun s29 s14 wr => ∃ (t tl : Nat) (p : Nat → Bool) (vo : Option Addr) (cap : Nat) (T : List Nat), t ≤ sm ∧ s29 = .int .i64 t ∧ s14 = .slice vo tl cap ∧ Hid (T.length = tl ∧ VS w H m wr p vo cap T ∧ DG S (SD.take t) SD p T none ∧ ∀ x ∈ T, x < m)) (fun s _ _ => sm - (intOf s).toNat)
  case atStart =>
    refine ⟨0, 0, fun _ => false, some ⟨H + 1, 0, none⟩, m, [], Nat.zero_le _, rfl, rfl, ?_⟩
    exact (hidI ⟨rfl, HV0.out, ⟨fun x hx => by simp at hx, fun x hx => by simp at hx, (fun k hk => by simp at hk), (fun C _ _ x hx => by simp at hx)⟩, fun x hx => by simp at hx⟩)
  case round =>
    clear HV0
    obtain ⟨t, tl, p, vo, cap, T, ht, rfl, rfl, HI⟩ := hrel
    rename World => wr
    by_cases htl : t < sm
    · have hd : decide ((t : Int) < (sm : Int)) = true := by simp; exact htl
      obtain ⟨q, hq⟩ : ∃ q, SQ[t]? = some q := ⟨_, List.getElem?_eq_getElem (by rw [← HSM.out]; exact htl)⟩
      have hqn : q < n := HSQ.out q (List.mem_of_getElem? hq)
      have hfr := HI.out.2.1.fr
      have y1 : wr.cell? ⟨b, o + t, none⟩ = some (.int .i64 (q : Int)) := hfr.cell (HR.out t q hq) (by simp)
      have x1 := index26 (c := c) HA.out htl
      have y2 : wr.cell? ⟨ck, q, none⟩ = some (.int .i64 (compOf CP q : Int)) := hfr.cell (HCOMP.out q hqn) (by simp)
      have x2 := index26z (b := ck) (c := n) hqn
      have hkm := HCM.out q hqn
      have HK : Hid (SD[t]? = some (compOf CP q)) := HSD.out t q hq
      obtain ⟨k, hk⟩ : ∃ k, compOf CP q = k := ⟨_, rfl⟩
      rw [hk] at y2 hkm HK
      have x3 := index30 (b := H) (c := m) hkm
      have y3 := own_cell HI.out.2.1.vis (bools_get hkm)
      have z3 := own_frozen HI.out.2.1.vis k
      clear hq hfr hk
      by_cases hp : p k = true
      · have HP : Hid (p k = true) := hp
        rw [hp] at y3
        clear hp
        go_wp2_with fail
        go_roundw
        case rel =>
          refine ⟨t + 1, tl, p, vo, cap, T, by omega, by go_num, rfl, ?_⟩
          refine (hidI ⟨HI.out.1, HI.out.2.1, ?_, HI.out.2.2.2⟩)
          rw [take_snoc HK.out]
          exact HI.out.2.2.1.seedStep HP.out
        case measure => simp [intOf]; omega
      · have hp' : p k = false := by simpa using hp
        have HP : Hid (p k = false) := hp'
        rw [hp'] at y3
        clear hp hp'
        go_upto_region 9 with fail
        obtain ⟨g1, g2, g3, g4⟩ := HI.out.2.1.flip hkm HP.out
        obtain ⟨W, hW⟩ : ∃ W, wr.setCell ⟨H, k, none⟩ (.bool true) = W := ⟨_, rfl⟩
        have HW : Hid (wr.setCell ⟨H, k, none⟩ (.bool true) = W) := hW
        rw [hW] at g2 g4 ⊢
        have HOWN : Hid (W.ownsRow (H + 1) 3 1 (.slice vo tl cap) tl (ints T)) := by rw [← HI.out.1]; exact g2
        have htm : tl ≤ 4096 := by rw [← HI.out.1]; have := HI.out.2.1.tot; omega
        clear g1 g2 g3 hW y1 y2 y3 z3
        go_wp2_with (first | (at_builtin; refine wpList_app1 rfl _ _ rfl W (k : Int) rfl HOWN.out rfl (by omega) g4 ?_; intro g cap2 w2 h1 h2 h3; have H1 : Hid (w2.ownsRow (H + 1) 3 1 (.slice (some ⟨g, 0, none⟩) (tl + 1) cap2) (tl + 1) (ints T ++ [.int .i64 (k : Int)])) := h1; have H2 : Hid (Fr W w2 (blks (.slice vo tl cap))) := h2; clear h1 h2 h3))
        go_roundw
        case rel =>
          refine ⟨t + 1, tl + 1, (fun i => if i = k then true else p i), some ⟨g, 0, none⟩, cap2, T ++ [k], by omega, by go_num, rfl, ?_⟩
          refine (hidI ⟨by simp [HI.out.1], HI.out.2.1.push HI.out.1 hkm HP.out H1.out (by rw [HW.out]; exact H2.out), ?_, fun x hx => ?_⟩)
          · rw [take_snoc HK.out]
            exact (HI.out.2.2.1.mark fun C h1 _ => h1 k (List.mem_of_getElem? HK.out)).seedStep (by simp)
          · rcases List.mem_append.1 hx with h | h
            · exact HI.out.2.2.2 x h
            · simp at h; omega
        case measure => simp [intOf]; omega
    · have hd : decide ((t : Int) < (sm : Int)) = false := by simp; omega
      have hI := HI.out
      rw [List.take_of_length_le (by rw [HSDl.out]; omega)] at hI
      have HI2 : Hid (T.length = tl ∧ VS w H m wr p vo cap T ∧ DG S SD SD p T none ∧ ∀ x ∈ T, x < m) := hI
      clear hI HI HR HA HSM HSQ HSD HSDl
      go_wp2_with fail
      go_loopw [14] (fun s14 wr => ∃ (tl : Nat) (p : Nat → Bool) (vo : Option Addr) (cap : Nat) (T : List Nat), s14 = .slice vo tl cap ∧ Hid (T.length = tl ∧ VS w H m wr p vo cap T ∧ DG S SD SD p T none ∧ ∀ x ∈ T, x < m)) (fun s14 wr => unvis wr H + vlen s14)
      case atStart => exact ⟨tl, p, vo, cap, T, rfl, HI2⟩
      case round =>
        clear HI2
        obtain ⟨tl, p, vo, cap, T, rfl, HI⟩ := hrel
        rename World => wr
        by_cases h0 : 0 < tl
        · have hd1 : decide ((0 : Int) < (tl : Int)) = true := by simp; omega
          have hd2 : decide (0 < tl) = true := by simp; omega
          have hTne : T ≠ [] := fun e => by have := HI.out.1; rw [e] at this; simp at this; omega
          obtain ⟨T0, k, hTk⟩ : ∃ T0 k, T = T0 ++ [k] := ⟨T.dropLast, T.getLast hTne, (List.dropLast_concat_getLast hTne).symm⟩
          subst hTk
          have hkm : k < m := HI.out.2.2.2 k (by simp)
          obtain ⟨t0, ht0⟩ : ∃ t0, tl = t0 + 1 := ⟨tl - 1, by omega⟩
          have hT0 : T0.length = t0 := by have := HI.out.1; simp at this; omega
          have hw1 : IntKind.i64.wrap ((tl : Int) - 1) = (t0 : Int) := by
            have := HI.out.2.1.tot; have := HI.out.1
            simp [IntKind.wrap, IntKind.signed, IntKind.bits]; omega
          have hw2 : (tl : Int) - 1 = (t0 : Int) := by omega
          have htm : tl ≤ 4096 := by rw [← HI.out.1]; have := HI.out.2.1.tot; omega
          have hstk := HI.out.2.1.stk
          rw [HI.out.1] at hstk
          obtain ⟨vo', cap', g, e1, e2, _, _⟩ := own_form hstk
          cases e1
          have e3 := e2 h0
          subst e3
          obtain ⟨cur, _, _, hcap, _⟩ := own_blk hstk
          have y1 : wr.cell? ⟨g, t0, none⟩ = some (.int .i64 (k : Int)) := own_cell hstk (ints_get (by rw [← hT0]; simp))
          have x1 := index26z (b := g) (c := cap) (show t0 < tl by omega)
          have x2 := slice26t (x := ⟨g, 0, none⟩) (n := tl) (c := cap) (j := t0) (by omega)
          obtain ⟨L, aL, cL, oL, pk, pk1, hL1, hL2, hL3, hL4, hL5, hL6, hL7, x5⟩ := HSUC.out k hkm
          have hfr := HI.out.2.1.fr
          have y3 : wr.cell? ⟨tb, k, none⟩ = some (.int .i64 (pk : Int)) := hfr.cell hL6 (by simp)
          have y4 : wr.cell? ⟨tb, k + 1, none⟩ = some (.int .i64 (pk1 : Int)) := hfr.cell hL7 (by simp)
          have x3 := index26z (b := tb) (c := m + 1) (show k < m + 1 by omega)
          have x4 := index26z (b := tb) (c := m + 1) (show k + 1 < m + 1 by omega)
          rw [show ((k + 1 : Nat) : Int) = (k : Int) + 1 by omega] at x4
          have HL : Hid (S k = L ∧ (∀ x ∈ L, x < m) ∧ (0 < L.length → aL = some ⟨sb, oL, none⟩) ∧ NatsAt w sb oL L) := ⟨hL1, hL3, hL4, hL5⟩
          have HI0 : Hid (T0.length = t0 ∧ VS w H m wr p (some ⟨g, 0, none⟩) cap T0 ∧ DG S SD SD p T0 (some k) ∧ (∀ x ∈ T0, x < m) ∧ p k = true ∧ unv m p + T0.length < unv m p + tl) := by
            refine ⟨hT0, ⟨HI.out.2.1.vis, ?_, hfr, HI.out.2.1.hw, HI.out.2.1.h2, ?_⟩, HI.out.2.2.1.pop, fun x hx => HI.out.2.2.2 x (List.mem_append_left _ hx), HI.out.2.2.1.stk k (by simp), by omega⟩
            · have := own_take (s := 1) hstk (k := t0) (by omega)
              rw [hT0]
              have e5 : (ints (T0 ++ [k])).take t0 = ints T0 := by rw [ints_app, List.take_left' (by rw [ints_len, hT0])]
              rw [e5] at this
              exact this
            · have := HI.out.2.1.tot; simp at this; omega
          have HV : Hid (VS w H m wr p (some ⟨g, 0, none⟩) cap (T0 ++ [k]) ∧ unvis wr H = unv m p) := ⟨HI.out.2.1, unvis_eq HI.out.2.1.vis⟩
          obtain ⟨ll, hll⟩ : ∃ ll, L.length = ll := ⟨_, rfl⟩
          have HLL : Hid (L.length = ll) := hll
          rw [hll] at x5 hL2
          clear hL1 hL3 hL4 hL5 hL6 hL7 hfr hstk e2 hcap hTne hT0 hll HI ht0
          go_wp2_with fail
          go_quiet (fail)
          go_wp2_with fail
          clear y1 y3 y4 x1 x2 x3 x4 x5 hw1 hw2 hd1 hd2
          go_loopw [76, 14] (fun s76 s14 wq => ∃ (u tl' : Nat) (p' : Nat → Bool) (vo : Option Addr) (cap : Nat) (T : List Nat), u ≤ ll ∧ s76 = .int .i64 u ∧ s14 = .slice vo tl' cap ∧ Hid (T.length = tl' ∧ VS w H m wq p' vo cap T ∧ DG S SD SD p' T (some k) ∧ (∀ x ∈ T, x < m) ∧ p' k = true ∧ (∀ x ∈ L.take u, p' x = true) ∧ unv m p' + T.length < unv m p + tl)) (fun s _ _ => ll - (intOf s).toNat)
          case atStart =>
            refine ⟨0, t0, p, some ⟨g, 0, none⟩, cap, T0, Nat.zero_le _, rfl, rfl, ?_⟩
            obtain ⟨i1, i2, i3, i4, i5, i6⟩ := HI0.out
            exact (hidI ⟨i1, ⟨own_same i2.vis fun _ _ => rfl, own_same i2.stk fun _ _ => rfl, i2.fr.drewN _, i2.hw, i2.h2, i2.tot⟩, i3, i4, i5, fun x hx => by simp at hx, i6⟩)
          case round =>
            clear HI0
            obtain ⟨u, tl', p', vo, cap, T, hu, rfl, rfl, HI⟩ := hrel
            rename World => wq
            by_cases hul : u < ll
            · have hd : decide ((u : Int) < (ll : Int)) = true := by simp; exact hul
              obtain ⟨j, hj⟩ : ∃ j, L[u]? = some j := ⟨_, List.getElem?_eq_getElem (by rw [HLL.out]; exact hul)⟩
              have hjm : j < m := HL.out.2.1 j (List.mem_of_getElem? hj)
              have y1 : wq.cell? ⟨sb, oL + u, none⟩ = some (.int .i64 (j : Int)) := HI.out.2.1.fr.cell (HL.out.2.2.2 u j hj) (by simp)
              have x1 := index26 (c := cL) (by rw [← HLL.out]; exact HL.out.2.2.1) hul
              have x3 := index30 (b := H) (c := m) hjm
              have y3 := own_cell HI.out.2.1.vis (bools_get hjm)
              have z3 := own_frozen HI.out.2.1.vis j
              have HJ : Hid (L[u]? = some j) := hj
              clear hj
              by_cases hp : p' j = true
              · have HP : Hid (p' j = true) := hp
                rw [hp] at y3
                clear hp
                go_wp2_with fail
                go_roundw
                case rel =>
                  refine ⟨u + 1, tl', p', vo, cap, T, by omega, by go_num, rfl, ?_⟩
                  obtain ⟨i1, i2, i3, i4, i5, i6, i7⟩ := HI.out
                  refine (hidI ⟨i1, i2, i3, i4, i5, ?_, i7⟩)
                  intro x hx
                  rw [take_snoc HJ.out] at hx
                  rcases List.mem_append.1 hx with h | h
                  · exact i6 x h
                  · simp at h; subst h; exact HP.out
                case measure => simp [intOf]; omega
              · have hp' : p' j = false := by simpa using hp
                have HP : Hid (p' j = false) := hp'
                rw [hp'] at y3
                clear hp hp'
                go_upto_region 19 with fail
                obtain ⟨g1, g2, g3, g4⟩ := HI.out.2.1.flip hjm HP.out
                obtain ⟨W, hW⟩ : ∃ W, wq.setCell ⟨H, j, none⟩ (.bool true) = W := ⟨_, rfl⟩
                have HW : Hid (wq.setCell ⟨H, j, none⟩ (.bool true) = W) := hW
                rw [hW] at g2 g4 ⊢
                have HOWN : Hid (W.ownsRow (H + 1) 3 1 (.slice vo tl' cap) tl' (ints T)) := by rw [← HI.out.1]; exact g2
                have htm2 : tl' ≤ 4096 := by rw [← HI.out.1]; have := HI.out.2.1.tot; omega
                clear g1 g2 g3 hW y1 y3 z3
                go_wp2_with (first | (at_builtin; refine wpList_app1 rfl _ _ rfl W (j : Int) rfl HOWN.out rfl (by omega) g4 ?_; intro g cap2 w2 h1 h2 h3; have H1 : Hid (w2.ownsRow (H + 1) 3 1 (.slice (some ⟨g, 0, none⟩) (tl' + 1) cap2) (tl' + 1) (ints T ++ [.int .i64 (j : Int)])) := h1; have H2 : Hid (Fr W w2 (blks (.slice vo tl' cap))) := h2; clear h1 h2 h3))
                go_roundw
                case rel =>
                  refine ⟨u + 1, tl' + 1, (fun i => if i = j then true else p' i), some ⟨g, 0, none⟩, cap2, T ++ [j], by omega, by go_num, rfl, ?_⟩
                  obtain ⟨i1, i2, i3, i4, i5, i6, i7⟩ := HI.out
                  have hfl := unv_flip hjm HP.out
                  refine (hidI ⟨by simp [i1], i2.push i1 hjm HP.out H1.out (by rw [HW.out]; exact H2.out), ?_, fun x hx => ?_, ?_, fun x hx => ?_, ?_⟩)
                  · exact i3.mark fun C h1 h2 => h2 k (i3.least C h1 h2 k i5) j (by rw [HL.out.1]; exact List.mem_of_getElem? HJ.out)
                  · rcases List.mem_append.1 hx with h | h
                    · exact i4 x h
                    · simp at h; omega
                  · by_cases e : k = j
                    · simp [e]
                    · simp [e, i5]
                  · rw [take_snoc HJ.out] at hx
                    by_cases e : x = j
                    · simp [e]
                    · rcases List.mem_append.1 hx with h | h
                      · simp [e, i6 x h]
                      · simp at h; exact absurd h e
                  · rw [List.length_append, List.length_singleton]; omega
                case measure => simp [intOf]; omega
            · have hd : decide ((u : Int) < (ll : Int)) = false := by simp; omega
              go_wp2_with fail
              go_roundw
              case rel =>
                refine ⟨tl', p', vo, cap, T, rfl, ?_⟩
                obtain ⟨i1, i2, i3, i4, i5, i6, i7⟩ := HI.out
                refine (hidI ⟨i1, i2, i3.fin fun x hx => i6 x ?_, i4⟩)
                rw [List.take_of_length_le (by rw [HLL.out]; omega), ← HL.out.1]; exact hx
              case measure =>
                obtain ⟨i1, i2, i3, i4, i5, i6, i7⟩ := HI.out
                rw [HV.out.2, unvis_eq i2.vis]
                simp only [vlen]
                omega
        · have hd1 : decide ((0 : Int) < (tl : Int)) = false := by simp; omega
          have hd2 : decide (0 < tl) = false := by simp; omega
          have htl0 : tl = 0 := by omega
          have hT : T = [] := List.eq_nil_of_length_eq_zero (by rw [HI.out.1, htl0])
          subst hT
          clear htl0
          have HLE : Hid (Least S SD (fun x => p x = true)) := HI.out.2.2.1.done
          have HRD : Hid (∀ wz, Fr wr wz [] → (∀ q, q < n → wz.cell? ⟨ck, q, none⟩ = some (.int .i64 (compOf CP q : Int))) ∧ ∀ k, k < m → wz.cell? ⟨H, k, none⟩ = some (.bool (p k))) := fun wz hf => ⟨fun q hq => (HI.out.2.1.fr.trans hf).cell (HCOMP.out q hq) (by simp), fun k hk => hf.cell (own_cell HI.out.2.1.vis (bools_get hk)) (by simp)⟩
          have HFR : Hid (Fr w wr []) := HI.out.2.1.fr
          clear HI
          go_wp2_with fail
          go_loopw [22, 21] (fun s22 s21 wz => ∃ (q el : Nat) (oo : Option Addr) (oc : Nat), q ≤ n ∧ s22 = .int .i64 q ∧ s21 = .slice oo el oc ∧ Hid (([] : List Int).length + ((List.range q).filter fun q => p (compOf CP q)).length = el ∧ DS wr (.slice none 0 0) wr.heap.size [] wz oo oc ((List.range q).filter fun q => p (compOf CP q)))) (fun s _ _ => n - (intOf s).toNat)
          case atStart => exact ⟨0, 0, none, 0, Nat.zero_le _, rfl, rfl, (hidI ⟨rfl, DS.start wr⟩)⟩
          case round =>
            obtain ⟨q, el, oo, oc, hq, rfl, rfl, HI⟩ := hrel
            rename World => wz
            by_cases hql : q < n
            · have hd : decide ((q : Int) < (n : Int)) = true := by simp; exact hql
              obtain ⟨r1, r2⟩ := HRD.out wz HI.out.2.fr
              have y1 := r1 q hql
              have x1 := index26z (b := ck) (c := n) hql
              have hkm := HCM.out q hql
              obtain ⟨k, hk⟩ : ∃ k, compOf CP q = k := ⟨_, rfl⟩
              have HK : Hid (compOf CP q = k) := hk
              rw [hk] at y1 hkm
              have y2 := r2 k hkm
              have x2 := index30 (b := H) (c := m) hkm
              have hel : el ≤ 12288 := by
                rw [← HI.out.1]
                have := List.length_filter_le (fun q => p (compOf CP q)) (List.range q)
                simp at this ⊢
                omega
              clear r1 r2 hk
              by_cases hp : p k = true
              · have HP : Hid (p k = true) := hp
                rw [hp] at y2
                have HOWN : Hid (wz.ownsRow wr.heap.size 3 1 (.slice oo el oc) el (zints [] ++ ints ((List.range q).filter fun q => p (compOf CP q)))) := by
                  have := HI.out.2.own
                  rw [HI.out.1] at this
                  exact this
                have hBz : wr.heap.size ≤ wz.heap.size := HI.out.2.fr.size
                clear hp
                go_wp2_with (first | (at_builtin; refine wpList_app1 rfl _ _ rfl wz (q : Int) rfl HOWN.out rfl (by omega) hBz ?_; intro g cap2 w2 h1 h2 h3; have H1 : Hid (w2.ownsRow wr.heap.size 3 1 (.slice (some ⟨g, 0, none⟩) (el + 1) cap2) (el + 1) (zints [] ++ ints ((List.range q).filter fun q => p (compOf CP q)) ++ [.int .i64 (q : Int)])) := h1; have H2 : Hid (Fr wz w2 (blks (.slice oo el oc))) := h2; have H3 : Hid (Moved wz (.slice oo el oc) (.slice (some ⟨g, 0, none⟩) (el + 1) cap2)) := h3; clear h1 h2 h3))
                go_roundw
                case rel =>
                  refine ⟨q + 1, el + 1, some ⟨g, 0, none⟩, cap2, by omega, by go_num, rfl, ?_⟩
                  have e : (List.range (q + 1)).filter (fun q => p (compOf CP q)) = (List.range q).filter (fun q => p (compOf CP q)) ++ [q] := by
                    rw [List.range_succ, List.filter_append]; simp [HK.out, HP.out]
                  rw [e]
                  exact (hidI ⟨by rw [List.length_append, ← Nat.add_assoc, HI.out.1]; rfl, HI.out.2.push HI.out.1 H1.out H2.out H3.out⟩)
                case measure => simp [intOf]; omega
              · have hp' : p k = false := by simpa using hp
                have HP : Hid (p k = false) := hp'
                rw [hp'] at y2
                clear hp hp'
                go_wp2_with fail
                go_roundw
                case rel =>
                  refine ⟨q + 1, el, oo, oc, by omega, by go_num, rfl, ?_⟩
                  have e : (List.range (q + 1)).filter (fun q => p (compOf CP q)) = (List.range q).filter (fun q => p (compOf CP q)) := by
                    rw [List.range_succ, List.filter_append]; simp [HK.out, HP.out]
                  rw [e]
                  exact HI
                case measure => simp [intOf]; omega
            · have hd : decide ((q : Int) < (n : Int)) = false := by simp; omega
              obtain rfl : q = n := by omega
              go_wp2_with fail
              go_ret
              have hl0 : ([] : List Int).length + ((List.range q).filter fun q => p (compOf CP q)).length = ((List.range q).filter fun q => p (compOf CP q)).length := by simp
              have e := HI.out.1
              rw [hl0] at e
              subst e
              have hown := HI.out.2.own
              rw [hl0] at hown
              refine ⟨oo, oc, p, HLE.out, rfl, own_base (by simpa [zints] using hown) (fun g hg => ?_), HFR.out.trans HI.out.2.fr⟩
              · have h1 := (hown.lt g hg).1
                have h2 := HFR.out.size
                have h3 := HH.out
                omega
end Go.Proofs.YbulkdxbkDoor
