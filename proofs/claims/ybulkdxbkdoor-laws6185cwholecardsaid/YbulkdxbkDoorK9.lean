import Derived.Test.YbulkdxbkDoorK8
namespace Go.Proofs.YbulkdxbkDoor
open Go.RowKit
set_option linter.unusedVariables false

/-- what reach leaves -/
structure Reached (wC w : World) (K cb gb mk n : Nat) (nf : Bool) (v0 sv x5 x6 x7 x8 x9 : Value) (w' : World) (R : List Nat) : Prop where
  ex : ∃ ro rc, RS wC w K cb gb mk n nf v0 sv x5 x6 x7 x8 x9 w' ro rc R (fun _ => false)

set_option maxRecDepth 100000 in
set_option maxHeartbeats 8000000 in
theorem reach_any (wC w : World) (K cb gb mk n : Nat) (nf : Bool) (sv x5 x6 x7 x8 x9 : Value) (ro0 : Option Addr) (rn0 rc0 : Nat) (rx0 : List Value) (sN : Nat) (CP : List Nat) (ML NL : List (List Nat)) (so : Option Addr) (sn sc sb sf : Nat) (SD : List Nat)
    (hn : n ≤ 4096) (hNL : NL.length = n) (hnto : ∀ (q : Nat) L r, NL[q]? = some L → r ∈ L → r < n) (hfl : NL.flatten.length ≤ 65536) (hC : CondC wC gb sN n CP ML NL)
    (lie : Lie wC w K cb mk (.slice ro0 rn0 rc0)) (hblk : w.heap[cb]? = some (cloBlk gb mk n nf sv (.slice ro0 rn0 rc0) x5 x6 x7 x8 x9))
    (hmark : w.ownsRow wC.heap.size 4 1 (.slice (some ⟨mk, 0, none⟩) n n) n (bools n fun _ => false)) (hown : w.ownsRow K 3 1 (.slice ro0 rn0 rc0) rn0 rx0)
    (hsn : sn = SD.length) (hsn2 : sn ≤ 1099511627776) (hsd : ∀ x ∈ SD, x < n) (hsa : 0 < sn → so = some ⟨sb, sf, none⟩) (hsr : NatsAt w sb sf SD) (hsb : 0 < sn → sb ∉ cb :: mk :: blks (.slice ro0 rn0 rc0)) :
    Calls Ybad.prog 39 #[.pointer (some ⟨cb, 0, none⟩), .slice so sn sc, .slice none 0 0, .int .i64 0] w fun e w' => e = .returned (.bool true) ∧
      Reached wC w K cb gb mk n nf (.slice ro0 rn0 rc0) sv x5 x6 x7 x8 x9 w' (bfs (nullOf NL) n (addNew [] SD) 0) := by
  have q26n : ∀ (w : World) (a : Option Addr) (n c n' c' : Nat), (binOp .neq 44 (.slice a n c) (.slice none n' c')).run Ybad.prog w = .ok (.bool (!a.isNone)) w := fun w a n c n' c' => run_neq_slice_nil_any w _ _ a n c n' c' Ybad.underlying44
  obtain ⟨R, hR⟩ : ∃ R, R = bfs (nullOf NL) n (addNew [] SD) 0 := ⟨_, rfl⟩
  rw [← hR]
  have HR0 : Hid (bfs (nullOf NL) (n - 0) (addNew [] SD) 0 = R) := hR.symm
  clear hR
  have HNTO : Hid (∀ (q : Nat) L r, NL[q]? = some L → r ∈ L → r < n) := hnto
  have HNL : Hid (NL.length = n) := hNL
  have HC : Hid (CondC wC gb sN n CP ML NL) := hC
  have HSN : Hid (sn = SD.length) := hsn
  have HSD : Hid (∀ x ∈ SD, x < n) := hsd
  have HSA : Hid (0 < sn → so = some ⟨sb, sf, none⟩) := hsa
  have HSR : Hid (NatsAt w sb sf SD) := hsr
  have HSB : Hid (0 < sn → sb ∉ cb :: mk :: blks (.slice ro0 rn0 rc0)) := hsb
  -- the slice cut to nothing
  have g4 : w.cell? ⟨cb, 4, none⟩ = some (.slice ro0 rn0 rc0) := by simp [World.cell?, hblk]
  have z4 : w.frozen? ⟨cb, 4, none⟩ = false := by simp [World.frozen?, hblk]
  have hs0 := slice0 (a := ro0) (n := rn0) (c := rc0) (fun h => by
    subst h
    rcases hown.2 with ⟨h1, h2⟩ | ⟨_, _, _, h1, _⟩
    · cases h1; exact ⟨rfl, rfl⟩
    · cases h1)
  have HRS0 : Hid (RS wC w K cb gb mk n nf (.slice ro0 rn0 rc0) sv x5 x6 x7 x8 x9 (w.setCell ⟨cb, 4, none⟩ (.slice ro0 0 rc0)) ro0 rc0 [] (fun i => decide (i ∈ addNew [] (SD.take 0)))) := by
    refine ⟨lie, setCell_at hblk _ _, ?_, ?_, (Fr.refl w _).set (.inl (by simp)) _ _, fun b hb => .inl ((ownBlock_len _ _ _ _ _).trans hb)⟩
    · have : bools n (fun i => decide (i ∈ addNew [] (SD.take 0))) = bools n fun _ => false := bools_congr fun i _ => by simp [addNew_nil]
      rw [this]
      exact own_same hmark fun b hb => setCell_far (fun e => by cases hb; exact lie.ne e.symm) _ _
    · refine own_same (own_zero hown) fun b hb => setCell_far (fun e => ?_) _ _
      subst e
      have := (hown.lt b ((ownBlock_len _ _ _ _ _).trans hb)).1
      have := lie.c2
      omega
  clear hnto hNL hC hsn hsd hsa hsr hsb lie hblk hmark hown
  go_enter Ybad.func39, Ybad.ntmps39
  go_upto_region 2 with fail
  clear g4 z4 hs0
  go_wp2_with fail
  go_loopw [28] (fun s wr => ∃ (t : Nat) (ro : Option Addr) (rc : Nat), t ≤ sn ∧ s = .int .i64 t ∧ RS wC w K cb gb mk n nf (.slice ro0 rn0 rc0) sv x5 x6 x7 x8 x9 wr ro rc (addNew [] (SD.take t)) (fun i => decide (i ∈ addNew [] (SD.take t)))) (fun s _ => sn - (intOf s).toNat)
  case atStart => exact ⟨0, ro0, rc0, Nat.zero_le _, rfl, HRS0.out⟩
  case round =>
    clear HRS0
    obtain ⟨t, ro, rc, ht, rfl, hrs⟩ := hrel
    rename World => wr
    have HR : Hid (RS wC w K cb gb mk n nf (.slice ro0 rn0 rc0) sv x5 x6 x7 x8 x9 wr ro rc (addNew [] (SD.take t)) (fun i => decide (i ∈ addNew [] (SD.take t)))) := hrs
    by_cases htl : t < sn
    · have hd : decide ((t : Int) < (sn : Int)) = true := by simp; exact htl
      obtain ⟨k, hk⟩ : ∃ k, SD[t]? = some k := ⟨_, List.getElem?_eq_getElem (by rw [← HSN.out]; exact htl)⟩
      have hkn : k < n := HSD.out k (List.mem_of_getElem? hk)
      have y1 : wr.cell? ⟨sb, sf + t, none⟩ = some (.int .i64 (k : Int)) := hrs.fr.cell (HSR.out t k hk) (HSB.out (by omega))
      have x1 := index26 (c := sc) HSA.out htl
      have x2 := index30 (b := mk) (c := n) hkn
      obtain ⟨c0, c2, c3, c4, f3, f4⟩ := hrs.cells
      obtain ⟨ck, fk⟩ := hrs.at hkn
      have HK : Hid (SD[t]? = some k) := hk
      clear hk hrs c0 c3 f3
      by_cases hmem : k ∈ addNew [] (SD.take t)
      · have e1 : decide (k ∈ addNew [] (SD.take t)) = true := by simp [hmem]
        rw [e1] at ck
        clear e1
        go_wp2_with fail
        go_roundw
        case rel =>
          refine ⟨t + 1, ro, rc, by omega, by go_num, ?_⟩
          rw [take_snoc HK.out, addNew_snoc_in hmem]
          exact HR.out
        case measure => simp [intOf]; omega
      · have e1 : decide (k ∈ addNew [] (SD.take t)) = false := by simp [hmem]
        rw [e1] at ck
        clear e1
        go_upto_region 7 with fail
        have hfl := HR.out.flip k true
        rw [marks_push] at hfl
        clear c2 c4 f4 ck fk
        generalize wr.setCell ⟨mk, k, none⟩ (.bool true) = W at *
        obtain ⟨c0, c2, c3, c4, f3, f4⟩ := hfl.cells
        have HW : Hid (RS wC w K cb gb mk n nf (.slice ro0 rn0 rc0) sv x5 x6 x7 x8 x9 W ro rc (addNew [] (SD.take t)) (fun i => decide (i ∈ addNew [] (SD.take t) ++ [k]))) := hfl
        have hlen : (addNew [] (SD.take t)).length ≤ 5000 := by
          have := len_le_of_nodup n _ (addNew_nodup (out := []) (by simp) (SD.take t)) (fun x hx => by
            rcases addNew_mem.1 hx with h | h
            · simp at h
            · exact HSD.out x (List.mem_of_mem_take h))
          omega
        have hKW : K ≤ W.heap.size := Nat.le_trans hfl.lie.kw hfl.fr.size
        have HKEEP : Hid (∀ w2, Fr W w2 (blks (.slice ro (addNew [] (SD.take t)).length rc)) → w2.cell? ⟨cb, 4, none⟩ = some (.slice ro (addNew [] (SD.take t)).length rc) ∧ w2.frozen? ⟨cb, 4, none⟩ = false) := fun w2 hf => by
          have := hf.blk hfl.blk (fun hm => by have := (hfl.own.lt cb (mem_blks.1 hm)).1; have := hfl.lie.c2; omega)
          exact ⟨by simp [World.cell?, this], by simp [World.frozen?, this]⟩
        have HOWN : Hid (W.ownsRow K 3 1 (.slice ro (addNew [] (SD.take t)).length rc) (addNew [] (SD.take t)).length (ints (addNew [] (SD.take t)))) := hfl.own
        clear c0 c2 c3 f3 hfl HR
        generalize hol : (addNew [] (SD.take t)).length = ol at *
        have HOL : Hid ((addNew [] (SD.take t)).length = ol) := hol
        clear hol
        go_wp2_with (first | (at_builtin; refine wpList_app1 rfl _ _ rfl W (k : Int) rfl HOWN.out rfl (by omega) hKW ?_; intro g cap w2 h1 h2 h3; have H1 : Hid (w2.ownsRow K 3 1 (.slice (some ⟨g, 0, none⟩) (ol + 1) cap) (ol + 1) (ints (addNew [] (SD.take t)) ++ [.int .i64 (k : Int)])) := h1; have H2 : Hid (Fr W w2 (blks (.slice ro ol rc))) := h2; have H3 : Hid (Moved W (.slice ro ol rc) (.slice (some ⟨g, 0, none⟩) (ol + 1) cap)) := h3; obtain ⟨d4, e4⟩ := HKEEP.out w2 h2; clear h1 h2 h3))
        go_roundw
        case rel =>
          refine ⟨t + 1, some ⟨g, 0, none⟩, cap, by omega, by go_num, ?_⟩
          rw [take_snoc HK.out, addNew_snoc_out hmem]
          have a1 := H1.out
          have a2 := H2.out
          have a3 := H3.out
          rw [← HOL.out] at a1 a2 a3 ⊢
          exact HW.out.push a1 a2 a3
        case measure => simp [intOf]; omega
    · have hd : decide ((t : Int) < (sn : Int)) = false := by simp; omega
      obtain ⟨out, hout⟩ : ∃ out, out = addNew [] SD := ⟨_, rfl⟩
      have htk : SD.take t = SD := List.take_of_length_le (by rw [← HSN.out]; omega)
      rw [htk, ← hout] at hrs
      have HRR : Hid (bfs (nullOf NL) (n - 0) out 0 = R) := by rw [hout]; exact HR0.out
      have hnd : out.Nodup := by rw [hout]; exact addNew_nodup (by simp) SD
      have hlt : ∀ x ∈ out, x < n := fun x hx => by
        rw [hout] at hx
        rcases addNew_mem.1 hx with h | h
        · simp at h
        · exact HSD.out x h
      have HI : Hid (RS wC w K cb gb mk n nf (.slice ro0 rn0 rc0) sv x5 x6 x7 x8 x9 wr ro rc out (fun i => decide (i ∈ out)) ∧ out.Nodup ∧ ∀ x ∈ out, x < n) := ⟨hrs, hnd, hlt⟩
      clear hrs HR htk hnd hlt hout HSN HSD HSA HSR HSB
      go_wp2_with fail
      go_loopw [11, 12] (fun s11 s12 wq => ∃ (i : Nat) (ro : Option Addr) (rc : Nat) (out : List Nat), i ≤ n ∧ s11 = .int .i64 0 ∧ s12 = .int .i64 i ∧ RS wC w K cb gb mk n nf (.slice ro0 rn0 rc0) sv x5 x6 x7 x8 x9 wq ro rc out (fun i => decide (i ∈ out)) ∧ Hid (out.Nodup ∧ (∀ x ∈ out, x < n) ∧ bfs (nullOf NL) (n - i) out i = R)) (fun _ s12 _ => n - (intOf s12).toNat)
      case atStart => exact ⟨0, ro, rc, out, Nat.zero_le _, rfl, rfl, HI.out.1, (⟨HI.out.2.1, HI.out.2.2, HRR.out⟩ : out.Nodup ∧ (∀ x ∈ out, x < n) ∧ bfs (nullOf NL) (n - 0) out 0 = R)⟩
      case round =>
        clear HI HRR
        obtain ⟨i, ro, rc, out, hin, rfl, rfl, hrs, HB⟩ := hrel
        rename World => wq
        have HR : Hid (RS wC w K cb gb mk n nf (.slice ro0 rn0 rc0) sv x5 x6 x7 x8 x9 wq ro rc out (fun i => decide (i ∈ out))) := hrs
        have hol : out.length ≤ n := len_le_of_nodup n out HB.out.1 HB.out.2.1
        obtain ⟨g, hg1, hg2, hg3⟩ := hrs.form
        obtain ⟨c0, c2, c3, c4, f3, f4⟩ := hrs.cells
        by_cases hil : i < out.length
        · have hd2 : decide ((i : Int) < (out.length : Int)) = true := by simp; exact hil
          obtain ⟨k, hk⟩ : ∃ k, out[i]? = some k := ⟨_, List.getElem?_eq_getElem hil⟩
          have hkn : k < n := HB.out.2.1 k (List.mem_of_getElem? hk)
          have y1 : wq.cell? ⟨g, i, none⟩ = some (.int .i64 (k : Int)) := hg3 i k hk
          have x1 := index26 (c := rc) (o := 0) hg1 hil
          rw [Nat.zero_add] at x1
          obtain ⟨L, hL⟩ : ∃ L, NL[k]? = some L := ⟨_, List.getElem?_eq_getElem (by rw [HNL.out]; exact hkn)⟩
          have hLl : ∀ x ∈ L, x < n := fun x hx => HNTO.out k L x hL hx
          have hLn : L.length ≤ 65536 := by have := pre_succ hL; have := pre_le (NL := NL) (k + 1); omega
          have HLl : Hid (∀ x ∈ L, x < n) := hLl
          have HNEXT : Hid (bfs (nullOf NL) (n - (i + 1)) (addNew out L) (i + 1) = R) := by
            have h1 := HB.out.2.2
            rw [show n - i = n - (i + 1) + 1 by omega, bfs_step hk, nullOf_at hL] at h1
            exact h1
          have hcall := succ_any wC wq gb sN n k CP ML NL L hn hkn HC.out hrs.low hL hfl
          have HCALL : Hid (Calls Ybad.prog 40 #[.pointer (some ⟨gb, 0, none⟩), .int .i64 (k : Int)] wq fun e w' => ∃ (a : Option Addr) (c b o q : Nat), e = .returned (.slice a L.length c) ∧ (0 < L.length → a = some ⟨b, o, none⟩) ∧ NatsAt wC b o L ∧ w' = wq.drewN q) := hcall
          clear hcall hrs hg1 hg2 hg3 hL hLl hk
          generalize hgl : out.length = ol at *
          have HOL : Hid (out.length = ol) := hgl
          clear hgl
          go_wp2_with (go_at_call 40; refine HCALL.out.mono ?_)
          rintro e w' ⟨a, c, b, o, q, rfl, ha, hLr, rfl⟩
          have HA : Hid (0 < L.length → a = some ⟨b, o, none⟩) := ha
          have HLR : Hid (NatsAt wC b o L) := hLr
          clear HCALL ha hLr
          go_wp2_with fail
          have HR2 : Hid (RS wC w K cb gb mk n nf (.slice ro0 rn0 rc0) sv x5 x6 x7 x8 x9 (wq.drewN q) ro rc out (fun i => decide (i ∈ out))) := HR.out.drewN q
          clear HR
          go_loopw [91] (fun s wr => ∃ (t : Nat) (ro : Option Addr) (rc : Nat), t ≤ L.length ∧ s = .int .i64 t ∧ RS wC w K cb gb mk n nf (.slice ro0 rn0 rc0) sv x5 x6 x7 x8 x9 wr ro rc (addNew out (L.take t)) (fun i => decide (i ∈ addNew out (L.take t)))) (fun s _ => L.length - (intOf s).toNat)
          case atStart => exact ⟨0, ro, rc, Nat.zero_le _, rfl, HR2.out⟩
          case round =>
            clear HR2 y1 x1 c0 c2 c3 c4 f3 f4 hd2
            obtain ⟨t, ro, rc, ht, rfl, hrs⟩ := hrel
            rename World => wr
            have HR : Hid (RS wC w K cb gb mk n nf (.slice ro0 rn0 rc0) sv x5 x6 x7 x8 x9 wr ro rc (addNew out (L.take t)) (fun i => decide (i ∈ addNew out (L.take t)))) := hrs
            by_cases htl : t < L.length
            · have hd : decide ((t : Int) < (L.length : Int)) = true := by simp; exact htl
              obtain ⟨j, hj⟩ : ∃ j, L[t]? = some j := ⟨_, List.getElem?_eq_getElem htl⟩
              have hjn : j < n := HLl.out j (List.mem_of_getElem? hj)
              have y1 : wr.cell? ⟨b, o + t, none⟩ = some (.int .i64 (j : Int)) := cell_of (HLR.out t j hj) (hrs.low b (cell_lt (HLR.out t j hj)))
              have x1 := index26 (c := c) HA.out htl
              have x2 := index30 (b := mk) (c := n) hjn
              obtain ⟨c0, c2, c3, c4, f3, f4⟩ := hrs.cells
              obtain ⟨ck, fk⟩ := hrs.at hjn
              have HK : Hid (L[t]? = some j) := hj
              clear hj hrs c0 c3 f3
              by_cases hmem : j ∈ addNew out (L.take t)
              · have e1 : decide (j ∈ addNew out (L.take t)) = true := by simp [hmem]
                rw [e1] at ck
                clear e1
                go_wp2_with fail
                go_roundw
                case rel =>
                  refine ⟨t + 1, ro, rc, by omega, by go_num, ?_⟩
                  rw [take_snoc HK.out, addNew_snoc_in hmem]
                  exact HR.out
                case measure => simp [intOf]; omega
              · have e1 : decide (j ∈ addNew out (L.take t)) = false := by simp [hmem]
                rw [e1] at ck
                clear e1
                go_upto_region 22 with fail
                have hfl := HR.out.flip j true
                rw [marks_push] at hfl
                clear c2 c4 f4 ck fk
                generalize wr.setCell ⟨mk, j, none⟩ (.bool true) = W at *
                obtain ⟨c0, c2, c3, c4, f3, f4⟩ := hfl.cells
                have HW : Hid (RS wC w K cb gb mk n nf (.slice ro0 rn0 rc0) sv x5 x6 x7 x8 x9 W ro rc (addNew out (L.take t)) (fun i => decide (i ∈ addNew out (L.take t) ++ [j]))) := hfl
                have hlen : (addNew out (L.take t)).length ≤ 5000 := by
                  have := len_le_of_nodup n _ (addNew_nodup (out := out) HB.out.1 (L.take t)) (fun x hx => by
                    rcases addNew_mem.1 hx with h | h
                    · exact HB.out.2.1 x h
                    · exact HLl.out x (List.mem_of_mem_take h))
                  omega
                have hKW : K ≤ W.heap.size := Nat.le_trans hfl.lie.kw hfl.fr.size
                have HKEEP : Hid (∀ w2, Fr W w2 (blks (.slice ro (addNew out (L.take t)).length rc)) → w2.cell? ⟨cb, 4, none⟩ = some (.slice ro (addNew out (L.take t)).length rc) ∧ w2.frozen? ⟨cb, 4, none⟩ = false) := fun w2 hf => by
                  have := hf.blk hfl.blk (fun hm => by have := (hfl.own.lt cb (mem_blks.1 hm)).1; have := hfl.lie.c2; omega)
                  exact ⟨by simp [World.cell?, this], by simp [World.frozen?, this]⟩
                have HOWN : Hid (W.ownsRow K 3 1 (.slice ro (addNew out (L.take t)).length rc) (addNew out (L.take t)).length (ints (addNew out (L.take t)))) := hfl.own
                clear c0 c2 c3 f3 hfl HR
                generalize hol' : (addNew out (L.take t)).length = ol' at *
                have HOL' : Hid ((addNew out (L.take t)).length = ol') := hol'
                clear hol'
                go_wp2_with (first | (at_builtin; refine wpList_app1 rfl _ _ rfl W (j : Int) rfl HOWN.out rfl (by omega) hKW ?_; intro g cap w2 h1 h2 h3; have H1 : Hid (w2.ownsRow K 3 1 (.slice (some ⟨g, 0, none⟩) (ol' + 1) cap) (ol' + 1) (ints (addNew out (L.take t)) ++ [.int .i64 (j : Int)])) := h1; have H2 : Hid (Fr W w2 (blks (.slice ro ol' rc))) := h2; have H3 : Hid (Moved W (.slice ro ol' rc) (.slice (some ⟨g, 0, none⟩) (ol' + 1) cap)) := h3; obtain ⟨d4, e4⟩ := HKEEP.out w2 h2; clear h1 h2 h3))
                go_roundw
                case rel =>
                  refine ⟨t + 1, some ⟨g, 0, none⟩, cap, by omega, by go_num, ?_⟩
                  rw [take_snoc HK.out, addNew_snoc_out hmem]
                  have a1 := H1.out
                  have a2 := H2.out
                  have a3 := H3.out
                  rw [← HOL'.out] at a1 a2 a3 ⊢
                  exact HW.out.push a1 a2 a3
                case measure => simp [intOf]; omega
            · have hd : decide ((t : Int) < (L.length : Int)) = false := by simp; omega
              have htk : L.take t = L := List.take_of_length_le (by omega)
              rw [htk] at hrs
              have HRE : Hid (RS wC w K cb gb mk n nf (.slice ro0 rn0 rc0) sv x5 x6 x7 x8 x9 wr ro rc (addNew out L) (fun i => decide (i ∈ addNew out L))) := hrs
              clear hrs HR htk
              go_wp2_with fail
              go_roundw
              case rel =>
                refine ⟨i + 1, ro, rc, addNew out L, by omega, rfl, by go_num, HRE.out, ?_⟩
                exact (⟨addNew_nodup HB.out.1 L, fun x hx => by
                  rcases addNew_mem.1 hx with h | h
                  · exact HB.out.2.1 x h
                  · exact HLl.out x h, HNEXT.out⟩ : (addNew out L).Nodup ∧ (∀ x ∈ addNew out L, x < n) ∧ bfs (nullOf NL) (n - (i + 1)) (addNew out L) (i + 1) = R)
              case measure => simp [intOf]; omega
        · have hd2 : decide ((i : Int) < (out.length : Int)) = false := by simp; omega
          have hRo : R = out := by rw [← HB.out.2.2]; exact bfs_done (by omega)
          subst hRo
          have hnd := HB.out.1
          have hlt := HB.out.2.1
          have HX : Hid (R.Nodup ∧ ∀ x ∈ R, x < n) := ⟨hnd, hlt⟩
          have HG : Hid ((0 < R.length → ro = some ⟨g, 0, none⟩)) := hg1
          clear HB hnd hlt hrs hg2 hg3 hg1
          generalize hgl : R.length = ol at *
          have HOL : Hid (R.length = ol) := hgl
          clear hgl
          go_wp2_with fail
          go_loopw [125] (fun s wr => ∃ (t : Nat), t ≤ ol ∧ s = .int .i64 t ∧ RS wC w K cb gb mk n nf (.slice ro0 rn0 rc0) sv x5 x6 x7 x8 x9 wr ro rc R (fun i => decide (i ∈ R.drop t))) (fun s _ => ol - (intOf s).toNat)
          case atStart => exact ⟨0, Nat.zero_le _, rfl, HR.out⟩
          case round =>
            clear HR c0 c2 c3 c4 f3 f4 hd2
            obtain ⟨t, ht, rfl, hrs⟩ := hrel
            rename World => wr
            have HR : Hid (RS wC w K cb gb mk n nf (.slice ro0 rn0 rc0) sv x5 x6 x7 x8 x9 wr ro rc R (fun i => decide (i ∈ R.drop t))) := hrs
            by_cases htl : t < ol
            · have hd : decide ((t : Int) < (ol : Int)) = true := by simp; exact htl
              obtain ⟨k, hk⟩ : ∃ k, R[t]? = some k := ⟨_, List.getElem?_eq_getElem (by rw [HOL.out]; exact htl)⟩
              have hkn : k < n := HX.out.2 k (List.mem_of_getElem? hk)
              have hro := HG.out (by omega)
              subst hro
              have y1 : wr.cell? ⟨g, t, none⟩ = some (.int .i64 (k : Int)) := own_cell hrs.own (ints_get hk)
              have x1 := index26z (b := g) (c := rc) htl
              have x2 := index30 (b := mk) (c := n) hkn
              obtain ⟨c0, c2, c3, c4, f3, f4⟩ := hrs.cells
              obtain ⟨ck, fk⟩ := hrs.at hkn
              generalize decide (k ∈ R.drop t) = bb at ck
              have HK : Hid (R[t]? = some k) := hk
              clear hk hrs c0 c3 f3 c4 f4
              go_wp2_with fail
              go_roundw
              case rel =>
                refine ⟨t + 1, by omega, by go_num, ?_⟩
                have := HR.out.flip k false
                rw [marks_pop HX.out.1 HK.out] at this
                exact this
              case measure => simp [intOf]; omega
            · have hd : decide ((t : Int) < (ol : Int)) = false := by simp; omega
              have e : (fun i => decide (i ∈ R.drop t)) = fun _ => false := by
                funext i
                rw [List.drop_of_length_le (by rw [HOL.out]; omega)]
                simp
              rw [e] at hrs
              have HRE : Hid (RS wC w K cb gb mk n nf (.slice ro0 rn0 rc0) sv x5 x6 x7 x8 x9 wr ro rc R (fun _ => false)) := hrs
              clear hrs HR e
              go_wp2_with fail
              go_ret
              exact ⟨rfl, ⟨_, _, HRE.out⟩⟩
end Go.Proofs.YbulkdxbkDoor
