import Derived.Test.YbulkdxbkDoorKa
import Derived.BigRegion
namespace Go.Proofs.YbulkdxbkDoor
open Go.RowKit
set_option linter.unusedVariables false

def compOf (CP : List Nat) (q : Nat) : Nat := (CP[q]?).getD 0
set_option maxRecDepth 100000 in
set_option maxHeartbeats 8000000 in
theorem reachFrom_any (wC w : World) (K cb gb mk n : Nat) (nf : Bool) (x5 x6 x7 x8 x9 : Value) (so0 : Option Addr) (sn0 sc0 : Nat) (ro0 : Option Addr) (rn0 rc0 : Nat) (R0 : List Nat) (sN : Nat) (CP : List Nat) (ML NL : List (List Nat)) (a : Option Addr) (m c b o : Nat) (SQ SD : List Nat)
    (hn : n ≤ 4096) (hNL : NL.length = n) (hnto : ∀ (q : Nat) L r, NL[q]? = some L → r ∈ L → r < n) (hfl : NL.flatten.length ≤ 65536) (hC : CondC wC gb sN n CP ML NL) (hsN : sN ≤ 65536) (hSQ : SD = SQ.map (compOf CP))
    (hcl : Clo wC w K cb gb mk n nf x5 x6 x7 x8 x9 (.slice so0 sn0 sc0) (.slice ro0 rn0 rc0) R0)
    (hm : m = SQ.length) (hm2 : m ≤ 1073741824) (hsq : ∀ x ∈ SQ, x < sN) (hsd : ∀ x ∈ SD, x < n) (ha : 0 < m → a = some ⟨b, o, none⟩) (hr : NatsAt w b o SQ) (hb : 0 < m → b ∉ cloS cb mk (.slice so0 sn0 sc0) (.slice ro0 rn0 rc0)) :
    Calls Ybad.prog 30 #[.pointer (some ⟨cb, 0, none⟩), .slice a m c] w fun e w' => e = .returned (.tuple #[]) ∧ ∃ so' sc' ro' rc',
      Clo wC w' K cb gb mk n nf x5 x6 x7 x8 x9 (.slice so' SD.length sc') (.slice ro' (bfs (nullOf NL) n (addNew [] SD) 0).length rc') (bfs (nullOf NL) n (addNew [] SD) 0) ∧ Fr w w' (cloS cb mk (.slice so0 sn0 sc0) (.slice ro0 rn0 rc0)) ∧ Moved w (.slice so0 sn0 sc0) (.slice so' SD.length sc') ∧ Moved w (.slice ro0 rn0 rc0) (.slice ro' (bfs (nullOf NL) n (addNew [] SD) 0).length rc') := by
  have HNTO : Hid (∀ (q : Nat) L r, NL[q]? = some L → r ∈ L → r < n) := hnto
  have HNL : Hid (NL.length = n) := hNL
  have HC : Hid (CondC wC gb sN n CP ML NL) := hC
  have HCL : Hid (Clo wC w K cb gb mk n nf x5 x6 x7 x8 x9 (.slice so0 sn0 sc0) (.slice ro0 rn0 rc0) R0) := hcl
  have HM : Hid (m = SD.length) := (by rw [hSQ, List.length_map]; exact hm : m = SD.length)
  have HSQ : Hid (SD = SQ.map (compOf CP)) := hSQ
  have HQN : Hid (∀ x ∈ SQ, x < sN) := hsq
  have HMQ : Hid (m = SQ.length) := hm
  have HSD : Hid (∀ x ∈ SD, x < n) := hsd
  have HA : Hid (0 < m → a = some ⟨b, o, none⟩) := ha
  have HR : Hid (NatsAt w b o SQ) := hr
  have HB : Hid (0 < m → b ∉ cloS cb mk (.slice so0 sn0 sc0) (.slice ro0 rn0 rc0)) := hb
  have hblk := hcl.blk
  have g3 : w.cell? ⟨cb, 3, none⟩ = some (.slice so0 sn0 sc0) := by simp [World.cell?, hblk]
  have z3 : w.frozen? ⟨cb, 3, none⟩ = false := by simp [World.frozen?, hblk]
  obtain ⟨sn, sx, hsown⟩ := hcl.sown
  have hsn : sn = sn0 := by obtain ⟨_, _, _, e, _⟩ := own_form hsown; cases e; rfl
  subst hsn
  have hs0 := slice0 (a := so0) (n := sn) (c := sc0) (fun h => by
    subst h
    rcases hsown.2 with ⟨h1, h2⟩ | ⟨_, _, _, h1, _⟩
    · cases h1; exact ⟨rfl, rfl⟩
    · cases h1)
  have HS0 : Hid (SS w K cb gb mk n nf (.slice so0 sn sc0) (.slice ro0 rn0 rc0) x5 x6 x7 x8 x9 (w.setCell ⟨cb, 3, none⟩ (.slice so0 0 sc0)) so0 sc0 (SD.take 0)) := by
    refine ⟨setCell_at hblk _ _, ?_, (Fr.refl w _).set (.inl (by simp)) _ _, fun b' hb' => .inl ((ownBlock_len _ _ _ _ _).trans hb')⟩
    refine own_same (own_zero hsown) fun b' hb' => setCell_far (fun e => ?_) _ _
    have := (hsown.lt b' ((ownBlock_len _ _ _ _ _).trans hb')).1
    have := hcl.c2
    omega
  obtain ⟨ck, mb9, fb9, sb9, tb9, q1, q2, q3, _⟩ := hC
  have HG0 : Hid (wC.cell? ⟨gb, 0, none⟩ = some (.slice (some ⟨ck, 0, none⟩) sN sN)) := (by simp [World.cell?, q1] : wC.cell? ⟨gb, 0, none⟩ = some (.slice (some ⟨ck, 0, none⟩) sN sN))
  have HCK : Hid (∀ (q k : Nat), CP[q]? = some k → wC.cell? ⟨ck, q, none⟩ = some (.int .i64 (k : Int))) := fun q k hq => by have := q3 q k hq; rwa [Nat.zero_add] at this
  have HCPL : Hid (CP.length = sN) := q2
  have hcK := hcl.c2
  have HLOW : Hid (∀ wr, Fr w wr (cb :: blks (.slice so0 sn sc0)) → ∀ c, c < wC.heap.size → wr.heap[c]? = wC.heap[c]?) := fun wr hf c hc => by
    have h1 := hcl.kw
    have h2 := hcl.c1
    refine (hf.same c (by omega) fun hm => ?_).trans (hcl.low c hc)
    rcases List.mem_cons.1 hm with h | h
    · omega
    · have := (hcl.sv_ge c (mem_blks.1 h)).1; omega
  clear hnto hNL hcl hm hsd hsq hSQ ha hr hb hblk hsown q1 q2 q3
  go_enter Ybad.func30, Ybad.ntmps30
  go_upto_region 1 with fail
  clear g3 z3 hs0
  go_wp2_with fail
  go_loopw [16] (fun s wr => ∃ (t : Nat) (so : Option Addr) (sc : Nat), t ≤ m ∧ s = .int .i64 t ∧ SS w K cb gb mk n nf (.slice so0 sn sc0) (.slice ro0 rn0 rc0) x5 x6 x7 x8 x9 wr so sc (SD.take t)) (fun s _ => m - (intOf s).toNat)
  case atStart => exact ⟨0, so0, sc0, Nat.zero_le _, rfl, HS0.out⟩
  case round =>
    clear HS0
    obtain ⟨t, so, sc, ht, rfl, hss⟩ := hrel
    rename World => wr
    have htl2 : (SD.take t).length = t := by rw [List.length_take, ← HM.out]; omega
    have HSS : Hid (SS w K cb gb mk n nf (.slice so0 sn sc0) (.slice ro0 rn0 rc0) x5 x6 x7 x8 x9 wr so sc (SD.take t)) := hss
    have hbk := hss.blk
    rw [htl2] at hbk
    have c0 : wr.cell? ⟨cb, 0, none⟩ = some (.pointer (some ⟨gb, 0, none⟩)) := by simp [World.cell?, hbk]
    have c3 : wr.cell? ⟨cb, 3, none⟩ = some (.slice so t sc) := by simp [World.cell?, hbk]
    by_cases htl : t < m
    · have hd : decide ((t : Int) < (m : Int)) = true := by simp; exact htl
      obtain ⟨q, hq⟩ : ∃ q, SQ[t]? = some q := ⟨_, List.getElem?_eq_getElem (by rw [← HMQ.out]; exact htl)⟩
      have hqn : q < sN := HQN.out q (List.mem_of_getElem? hq)
      obtain ⟨k, hkc⟩ : ∃ k, CP[q]? = some k := ⟨_, List.getElem?_eq_getElem (by rw [HCPL.out]; exact hqn)⟩
      have hk : SD[t]? = some k := by rw [HSQ.out, List.getElem?_map, hq]; simp [compOf, hkc]
      have y1 : wr.cell? ⟨b, o + t, none⟩ = some (.int .i64 (q : Int)) := hss.fr.cell (HR.out t q hq) (fun hm => HB.out (by omega) (by
        simp only [cloS, List.mem_cons, List.mem_append] at hm ⊢
        rcases hm with h | h
        · exact .inl h
        · exact .inr (.inr (.inl h))))
      have x1 := index26 (c := c) HA.out htl
      have x2 := index26z (b := ck) (c := sN) hqn
      have g0 : wr.cell? ⟨gb, 0, none⟩ = some (.slice (some ⟨ck, 0, none⟩) sN sN) := cell_of HG0.out (HLOW.out wr hss.fr gb (cell_lt HG0.out))
      have yk : wr.cell? ⟨ck, q, none⟩ = some (.int .i64 (k : Int)) := cell_of (HCK.out q k hkc) (HLOW.out wr hss.fr ck (cell_lt (HCK.out q k hkc)))
      have hgK : gb < wC.heap.size := cell_lt HG0.out
      have hown : wr.ownsRow K 3 1 (.slice so t sc) t (ints (SD.take t)) := by have := hss.own; rwa [htl2] at this
      have hbg : gb ∉ blks (.slice so t sc) := fun hm => by have := (hown.lt gb (mem_blks.1 hm)).1; have := HCL.out.c1; omega
      have hbc : cb ∉ blks (.slice so t sc) := fun hm => by have := (hown.lt cb (mem_blks.1 hm)).1; omega
      have hbck : ck ∉ blks (.slice so t sc) := fun hm => by have := (hown.lt ck (mem_blks.1 hm)).1; have := HCL.out.c1; have := cell_lt (HCK.out q k hkc); omega
      have HKEEP : Hid (∀ w2, Fr ((wr.alloc (.cells #[.int .i64 (k : Int)] 3)).drew) w2 (blks (.slice so t sc)) → (w2.cell? ⟨cb, 3, none⟩ = some (.slice so t sc) ∧ w2.cell? ⟨cb, 0, none⟩ = some (.pointer (some ⟨gb, 0, none⟩)) ∧ w2.cell? ⟨gb, 0, none⟩ = some (.slice (some ⟨ck, 0, none⟩) sN sN) ∧ w2.cell? ⟨ck, q, none⟩ = some (.int .i64 (k : Int))) ∧ w2.frozen? ⟨cb, 3, none⟩ = false) := fun w2 hf => by
        have hf' : Fr wr w2 (blks (.slice so t sc)) := (((Fr.refl wr _).alloc _).drew).then hf fun c hc => .inl hc
        have hb2 := hf'.blk hbk hbc
        exact ⟨⟨by simp [World.cell?, hb2], by simp [World.cell?, hb2], hf'.cell g0 hbg, hf'.cell yk hbck⟩, by simp [World.frozen?, hb2]⟩
      have HOA : Hid (((wr.alloc (.cells #[.int .i64 (k : Int)] 3)).drew).ownsRow K 3 1 (.slice so t sc) t (ints (SD.take t))) := own_same hown fun b hb => heap_old _ _ (hown.lt b hb).2
      have hnA : ((wr.alloc (.cells #[.int .i64 (k : Int)] 3)).drew).heap[wr.heap.size]? = some (.cells #[.int .i64 (k : Int)] 3 (0, 0)) := heap_new wr _
      have hKA : K ≤ ((wr.alloc (.cells #[.int .i64 (k : Int)] 3)).drew).heap.size := by have := HCL.out.kw; have := hss.fr.size; simp; omega
      have HK : Hid (SD[t]? = some k) := hk
      have HNA : Hid (((wr.alloc (.cells #[.int .i64 (k : Int)] 3)).drew).heap[wr.heap.size]? = some (.cells #[.int .i64 (k : Int)] 3 (0, 0))) := hnA
      have c3A : (wr.alloc (.cells #[.int .i64 (k : Int)] 3)).cell? ⟨cb, 3, none⟩ = some (.slice so t sc) := cell_of c3 (heap_old _ _ (cell_lt c3))
      clear hk hq hkc hss hbk hown hbg hbc hbck hnA
      go_wp2_with fail
      go_region_law (first | (refine step_app1 rfl _ _ rfl wr.heap.size (k : Int) rfl HOA.out rfl HNA.out (by omega) hKA ?_; intro g cap w2 h1 h2 h3; obtain ⟨⟨v0, v1, v2, v3⟩, v4⟩ := HKEEP.out w2 h2; have H1 : Hid (w2.ownsRow K 3 1 (.slice (some ⟨g, 0, none⟩) (t + 1) cap) (t + 1) (ints (SD.take t) ++ [.int .i64 (k : Int)])) := h1; have H2 : Hid (Fr ((wr.alloc (.cells #[.int .i64 (k : Int)] 3)).drew) w2 (blks (.slice so t sc))) := h2; have H3 : Hid (Moved ((wr.alloc (.cells #[.int .i64 (k : Int)] 3)).drew) (.slice so t sc) (.slice (some ⟨g, 0, none⟩) (t + 1) cap)) := h3; clear h1 h2 h3))
      all_goals
        go_wp2_with fail
        go_roundw
        case rel =>
          refine ⟨t + 1, some ⟨g, 0, none⟩, cap, by omega, by go_num, ?_⟩
          rw [take_snoc HK.out]
          have a1 := H1.out
          have a2 : Fr wr w2 (blks (.slice so t sc)) := (((Fr.refl wr _).alloc _).drew).then H2.out fun c hc => .inl hc
          have a3 : Moved wr (.slice so t sc) (.slice (some ⟨g, 0, none⟩) (t + 1) cap) := fun b hb => by
            rcases H3.out b hb with h | h
            · exact .inl h
            · exact .inr (by simp at h; omega)
          have hp := HSS.out.push hcK (k := k) (g := g) (cap := cap) (w2 := w2)
          rw [htl2] at hp
          exact hp a1 a2 a3
        case measure => simp [intOf]; omega
    · have hd : decide ((t : Int) < (m : Int)) = false := by simp; omega
      have htm : t = m := by omega
      subst htm
      have htk : SD.take t = SD := List.take_of_length_le (by rw [← HM.out]; exact Nat.le_refl _)
      rw [htk] at hss
      have hf := hss.fr
      have l1 := HCL.out
      have hge := l1.sv_ge
      have hown := hss.own
      rw [← HM.out] at hown
      obtain ⟨vo, cap, g, e1, e2, e3, e4⟩ := own_form hown
      cases e1
      have hdis : ∀ b, (Value.slice so t sc).ownBlock = some b → b ∉ cb :: mk :: blks (.slice ro0 rn0 rc0) := fun b' hb' => by
        have h1 := (hown.lt b' hb').1
        have h2 := l1.m2
        simp only [List.mem_cons, not_or]
        refine ⟨by omega, by omega, fun hm' => ?_⟩
        have hm'' := mem_blks.1 hm'
        have hmv := hss.mv b' (by rw [← HM.out]; exact hb')
        rcases hmv with h | h
        · exact l1.dis b' h hm''
        · have := (l1.rown.lt b' hm'').2; omega
      have hnr : ∀ b, (Value.slice ro0 rn0 rc0).ownBlock = some b → b ∉ cb :: blks (.slice so0 sn sc0) := fun b' hb' => by
        have h1 := (l1.rown.lt b' hb').1
        simp only [List.mem_cons, not_or]
        exact ⟨by omega, fun hm' => l1.dis b' (mem_blks.1 hm') hb'⟩
      have hrown := hf.own l1.rown hnr
      have hrn : R0.length = rn0 := by obtain ⟨_, _, _, e, _⟩ := own_form hrown; cases e; rfl
      rw [hrn] at hrown
      have lie : Lie wC wr K cb mk (.slice ro0 rn0 rc0) := ⟨l1.c1, l1.m1, l1.c2, l1.m2, l1.ne, Nat.le_trans l1.kw hf.size, HLOW.out wr hf, fun b' hb' => (l1.rown.lt b' hb').1⟩
      have hmark := hf.own l1.mark (fun b' hb' => by
        cases hb'
        simp only [List.mem_cons, not_or]
        exact ⟨fun e => l1.ne e.symm, fun hm' => by have := (hge mk (mem_blks.1 hm')).1; have := l1.m2; omega⟩)
      have hblk := hss.blk
      rw [← HM.out] at hblk
      have hcall := reach_any wC wr K cb gb mk n nf (.slice so t sc) x5 x6 x7 x8 x9 ro0 rn0 rc0 _ sN CP ML NL so t sc g 0 SD hn HNL.out HNTO.out hfl HC.out lie hblk hmark hrown HM.out (by omega) HSD.out e2
        (fun i x hx => by
          have hl := (List.getElem?_eq_some_iff.1 hx).1
          have e5 := e2 (by rw [HM.out]; omega)
          subst e5
          rw [Nat.zero_add]
          exact own_cell hown (ints_get hx)) (fun h0 => by have e5 := e2 h0; subst e5; exact hdis g rfl)
      have HCALL : Hid (Calls Ybad.prog 39 #[.pointer (some ⟨cb, 0, none⟩), .slice so t sc, .slice none 0 0, .int .i64 0] wr fun e w' => e = .returned (.bool true) ∧ Reached wC wr K cb gb mk n nf (.slice ro0 rn0 rc0) (.slice so t sc) x5 x6 x7 x8 x9 w' (bfs (nullOf NL) n (addNew [] SD) 0)) := hcall
      have HEND : Hid (∀ w', Reached wC wr K cb gb mk n nf (.slice ro0 rn0 rc0) (.slice so t sc) x5 x6 x7 x8 x9 w' (bfs (nullOf NL) n (addNew [] SD) 0) → ∃ so' sc' ro' rc',
          Clo wC w' K cb gb mk n nf x5 x6 x7 x8 x9 (.slice so' SD.length sc') (.slice ro' (bfs (nullOf NL) n (addNew [] SD) 0).length rc') (bfs (nullOf NL) n (addNew [] SD) 0) ∧ Fr w w' (cloS cb mk (.slice so0 sn sc0) (.slice ro0 rn0 rc0)) ∧ Moved w (.slice so0 sn sc0) (.slice so' SD.length sc') ∧ Moved w (.slice ro0 rn0 rc0) (.slice ro' (bfs (nullOf NL) n (addNew [] SD) 0).length rc')) := by
        rintro w' ⟨ro', rc', hrs⟩
        refine ⟨so, sc, ro', rc', ⟨l1.c1, l1.m1, l1.c2, l1.m2, l1.ne, Nat.le_trans lie.kw hrs.fr.size, hrs.low, ?_, hrs.mark, ⟨t, ints SD, ?_⟩, hrs.own, ?_⟩, ?_, ?_, ?_⟩
        · rw [← HM.out]; exact hrs.blk
        · rw [← HM.out]; exact hrs.fr.own hown hdis
        · intro b' h1 h2
          rw [← HM.out] at h1
          rcases hrs.mv b' h2 with h | h
          · exact hdis b' h1 (by simp [mem_blks.2 h])
          · have := (hown.lt b' h1).2; omega
        · refine (hf.mono (S' := cloS cb mk (.slice so0 sn sc0) (.slice ro0 rn0 rc0)) fun c hc => .inl ?_).then hrs.fr fun c hc => .inl ?_
          · simp only [cloS, List.mem_cons, List.mem_append] at hc ⊢
            rcases hc with h | h
            · exact .inl h
            · exact .inr (.inr (.inl h))
          · simp only [cloS, List.mem_cons, List.mem_append] at hc ⊢
            rcases hc with h | h | h
            · exact .inl h
            · exact .inr (.inl h)
            · exact .inr (.inr (.inr h))
        · exact hss.mv
        · exact fun b' hb' => by
            rcases hrs.mv b' hb' with h | h
            · exact .inl h
            · exact .inr (Nat.le_trans hf.size h)
      clear hcall hss hf l1 hge hown e2 e3 e4 hdis hnr hrown hrn lie hmark hblk htk HSS HR HB HA HSD HLOW HCK HG0 HCPL HSQ HQN HMQ
      go_wp2_with (go_at_call 39; refine HCALL.out.mono ?_; rintro e w' ⟨rfl, hre⟩; have HRE : Hid _ := hre; clear hre)
      go_end0
      exact ⟨rfl, HEND.out _ HRE.out⟩
end Go.Proofs.YbulkdxbkDoor
