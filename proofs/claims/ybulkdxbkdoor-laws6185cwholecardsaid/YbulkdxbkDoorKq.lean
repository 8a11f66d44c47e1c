import Derived.Test.YbulkdxbkDoorKp
namespace Go.Proofs.YbulkdxbkDoor
open Go.RowKit
set_option linter.unusedVariables false
set_option linter.unusedSectionVars false

/-- the blocks that the closer may turn -/
def clS (cb mk b1 b2 : Nat) (sv rv wv kv : Value) : List Nat := cloS cb mk sv rv ++ sbS cb b1 b2 wv kv
theorem clS_moved {w : World} {cb mk b1 b2 : Nat} {sv rv wv kv sv' rv' wv' kv' : Value} (h1 : Moved w sv sv') (h2 : Moved w rv rv') (h3 : Moved w wv wv') (h4 : Moved w kv kv') : ∀ c ∈ clS cb mk b1 b2 sv' rv' wv' kv', c ∈ clS cb mk b1 b2 sv rv wv kv ∨ w.heap.size ≤ c := fun c hc => by
  rcases List.mem_append.1 hc with h | h
  · rcases cloS_moved h1 h2 c h with h | h
    · exact .inl (List.mem_append_left _ h)
    · exact .inr h
  · rcases sbS_moved h3 h4 c h with h | h
    · exact .inl (List.mem_append_right _ h)
    · exact .inr h
section
variable {wC w w' : World} {K cb gb mk m : Nat} {nf : Bool} {sv rv sv' rv' : Value} {R R' : List Nat} {b1 b2 nw nu : Nat} {wo wo' : Option Addr} {wc wc' : Nat} {od od' : Bool} {ko ko' : Option Addr} {kc kc' : Nat} {BL UL WL KL BL' UL' WL' KL' : List Nat}
theorem Cl.ge (h : Cl wC w K cb gb mk m nf sv rv R b1 b2 nw nu wo wc od ko kc BL UL WL KL) : ∀ c ∈ clS cb mk b1 b2 sv rv (.slice wo WL.length wc) (.slice ko KL.length kc), wC.heap.size ≤ c := fun c hc => by
  rcases List.mem_append.1 hc with h1 | h1
  · exact h.clo.S_ge c h1
  · exact (h.sb.ge c h1).1
/-- what lies elsewhere leaves the closer as it is, and the set's builder turns -/
theorem Cl.after2 (h : Cl wC w K cb gb mk m nf sv rv R b1 b2 nw nu wo wc od ko kc BL UL WL KL) {T : List Nat}
    (hs : SB w' (.slice wo' WL'.length wc') (.slice ko' KL'.length kc') wC.heap.size K cb gb mk m nf sv rv b1 b2 nw nu w' wo' wc' od' ko' kc' BL' UL' WL' KL') (hf : Fr w w' T) (hT : ∀ c ∈ T, wC.heap.size ≤ c ∧ (c ∈ sbS cb b1 b2 (.slice wo WL.length wc) (.slice ko KL.length kc) ∨ c ∉ cloS cb mk sv rv))
    (mw : Moved w (.slice wo WL.length wc) (.slice wo' WL'.length wc')) (mk2 : Moved w (.slice ko KL.length kc) (.slice ko' KL'.length kc')) : Cl wC w' K cb gb mk m nf sv rv R b1 b2 nw nu wo' wc' od' ko' kc' BL' UL' WL' KL' := by
  have hc := h.clo
  have hn : ∀ c, (c = mk ∨ sv.ownBlock = some c ∨ rv.ownBlock = some c) → c ∉ T := fun c h1 h2 => by
    rcases (hT c h2).2 with h3 | h3
    · exact h.nsb h1 h3
    · apply h3
      rcases h1 with rfl | h1 | h1
      · simp [cloS]
      · simp [cloS, mem_blks.2 h1]
      · simp [cloS, mem_blks.2 h1]
  have k1 := hc.kw
  have k2 := hc.c1
  have k3 := hc.c2
  refine ⟨⟨hc.c1, hc.m1, hc.c2, hc.m2, hc.ne, hs.kw, fun c h1 => (hf.same c (by omega) fun hm => by have := (hT c hm).1; omega).trans (hc.low c h1), hs.blk, hf.own hc.mark fun b hb => by cases hb; exact hn mk (.inl rfl), ?_, hf.own hc.rown fun b hb => hn b (.inr (.inr hb)), hc.dis⟩, hs, h.q1, h.q2, fun b h1 h2 => ?_, fun b h1 h2 => ?_, fun b h1 h2 => ?_, fun b h1 h2 => ?_⟩
  · obtain ⟨sn, sx, ho⟩ := hc.sown
    exact ⟨sn, sx, hf.own ho fun b hb => hn b (.inr (.inl hb))⟩
  · rcases mw b h2 with h3 | h3
    · exact h.sw b h1 h3
    · have := (hc.sv_ge b h1).2; omega
  · rcases mk2 b h2 with h3 | h3
    · exact h.sk b h1 h3
    · have := (hc.sv_ge b h1).2; omega
  · rcases mw b h2 with h3 | h3
    · exact h.rw b h1 h3
    · have := (hc.rown.lt b h1).2; omega
  · rcases mk2 b h2 with h3 | h3
    · exact h.rk b h1 h3
    · have := (hc.rown.lt b h1).2; omega
end
/-- what the law lays, said once -/
structure Gr (wC : World) (gb n m nw : Nat) (CP : List Nat) (ML SL : List (List Nat)) : Prop where
  hm : m ≤ 4096
  hn : n ≤ nw * 64
  hn2 : n ≤ 12288
  hML : ML.length = m
  hSL : SL.length = m
  hfl : SL.flatten.length ≤ 65536
  hMn : ∀ (q : Nat) L r, ML[q]? = some L → r ∈ L → r < n
  hSm : ∀ (q : Nat) L r, SL[q]? = some L → r ∈ L → r < m
  hC : CondC wC gb n m CP ML SL
  hCm : ∀ q, q < n → compOf CP q < m
/-- the states that the closer finds -/
def found (nf : Bool) (m : Nat) (CP : List Nat) (ML SL : List (List Nat)) (SQ : List Nat) : List Nat :=
  if nf then SQ else (bfs (nullOf SL) m (addNew [] (SQ.map (compOf CP))) 0).flatMap (nullOf ML)
/-- the closer, turned -/
structure ClTo (wC w w' : World) (K cb gb mk m : Nat) (nf : Bool) (sv rv wv kv : Value) (b1 b2 nw nu : Nat) (p : Nat → Bool) (so : Option Addr) (sn sc : Nat) (ro : Option Addr) (rc : Nat) (R : List Nat) (wo : Option Addr) (wc : Nat) (od : Bool) (ko : Option Addr) (kc : Nat) (BL UL WL KL : List Nat) : Prop where
  cl : Cl wC w' K cb gb mk m nf (.slice so sn sc) (.slice ro R.length rc) R b1 b2 nw nu wo wc od ko kc BL UL WL KL
  bi : BI nw nu p od BL UL WL KL
  fr : Fr w w' (clS cb mk b1 b2 sv rv wv kv)
  ms : Moved w sv (.slice so sn sc)
  mr : Moved w rv (.slice ro R.length rc)
  mw : Moved w wv (.slice wo WL.length wc)
  mk2 : Moved w kv (.slice ko KL.length kc)
set_option maxRecDepth 100000 in
set_option maxHeartbeats 8000000 in
theorem addClosure_any (wC w : World) (K cb gb mk m : Nat) (nf : Bool) (so : Option Addr) (sn sc : Nat) (ro : Option Addr) (rc : Nat) (R : List Nat) (b1 b2 nw nu : Nat) (wo : Option Addr) (wc : Nat) (od : Bool) (ko : Option Addr) (kc : Nat) (BL UL WL KL : List Nat) (p : Nat → Bool) (n : Nat) (CP : List Nat) (ML SL : List (List Nat)) (a : Option Addr) (sm c b o : Nat) (SQ : List Nat)
    (hg : Gr wC gb n m nw CP ML SL) (hcl : Cl wC w K cb gb mk m nf (.slice so sn sc) (.slice ro R.length rc) R b1 b2 nw nu wo wc od ko kc BL UL WL KL) (hb : BI nw nu p od BL UL WL KL)
    (hsm : sm = SQ.length) (hsm2 : sm ≤ 65536) (hsq : ∀ x ∈ SQ, x < n) (ha : 0 < sm → a = some ⟨b, o, none⟩) (hr : NatsAt w b o SQ) (hbS : 0 < sm → b ∉ clS cb mk b1 b2 (.slice so sn sc) (.slice ro R.length rc) (.slice wo WL.length wc) (.slice ko KL.length kc)) :
    Calls Ybad.prog 21 #[.pointer (some ⟨cb, 0, none⟩), .pointer (some ⟨cb, 5, none⟩), .slice a sm c] w fun e w' => e = .returned (.tuple #[]) ∧ ∃ so' sn' sc' ro' rc' R' wo' wc' od' ko' kc' BL' UL' WL' KL',
      ClTo wC w w' K cb gb mk m nf (.slice so sn sc) (.slice ro R.length rc) (.slice wo WL.length wc) (.slice ko KL.length kc) b1 b2 nw nu (addAll p (found nf m CP ML SL SQ)) so' sn' sc' ro' rc' R' wo' wc' od' ko' kc' BL' UL' WL' KL' := by
  have hblk := hcl.sb.blk
  have c1 : w.cell? ⟨cb, 1, none⟩ = some (.bool nf) := by simp [World.cell?, hblk]
  have HG : Hid (Gr wC gb n m nw CP ML SL) := hg
  have HCL : Hid (Cl wC w K cb gb mk m nf (.slice so sn sc) (.slice ro R.length rc) R b1 b2 nw nu wo wc od ko kc BL UL WL KL) := hcl
  have HB : Hid (BI nw nu p od BL UL WL KL) := hb
  have HSM : Hid (sm = SQ.length) := hsm
  have HSQ : Hid (∀ x ∈ SQ, x < n) := hsq
  have HA : Hid (0 < sm → a = some ⟨b, o, none⟩) := ha
  have HR : Hid (NatsAt w b o SQ) := hr
  have HBS : Hid (0 < sm → b ∉ clS cb mk b1 b2 (.slice so sn sc) (.slice ro R.length rc) (.slice wo WL.length wc) (.slice ko KL.length kc)) := hbS
  cases nf with
  | true =>
    have HEND : Hid (∀ (w' : World) (wo' : Option Addr) (wc' : Nat) (od' : Bool) (ko' : Option Addr) (kc' : Nat) (BL' UL' WL' KL' : List Nat), SB w (.slice wo WL.length wc) (.slice ko KL.length kc) wC.heap.size K cb gb mk m true (.slice so sn sc) (.slice ro R.length rc) b1 b2 nw nu w' wo' wc' od' ko' kc' BL' UL' WL' KL' → BI nw nu (addAll p SQ) od' BL' UL' WL' KL' → ∃ so' sn' sc' ro' rc' R' wo' wc' od' ko' kc' BL' UL' WL' KL',
        ClTo wC w w' K cb gb mk m true (.slice so sn sc) (.slice ro R.length rc) (.slice wo WL.length wc) (.slice ko KL.length kc) b1 b2 nw nu (addAll p (found true m CP ML SL SQ)) so' sn' sc' ro' rc' R' wo' wc' od' ko' kc' BL' UL' WL' KL') := by
      intro w' wo' wc' od' ko' kc' BL' UL' WL' KL' h1 h2
      exact ⟨so, sn, sc, ro, rc, R, wo', wc', od', ko', kc', BL', UL', WL', KL', hcl.afterSet h1, h2, h1.fr.mono fun c hc => .inl (List.mem_append_right _ hc), Moved.refl _ _, Moved.refl _ _, h1.mw, h1.mk2⟩
    have HS : Hid (SB w (.slice wo WL.length wc) (.slice ko KL.length kc) wC.heap.size K cb gb mk m true (.slice so sn sc) (.slice ro R.length rc) b1 b2 nw nu w wo wc od ko kc BL UL WL KL) := hcl.sb
    have hnn := hg.hn
    clear hg hcl hb hsm hsq ha hr hbS hblk
    go_enter Ybad.func21, Ybad.ntmps21
    go_wp2_with fail
    go_loopw [14] (fun s wr => ∃ (t : Nat) (wo' : Option Addr) (wc' : Nat) (od' : Bool) (ko' : Option Addr) (kc' : Nat) (BL' UL' WL' KL' : List Nat), t ≤ sm ∧ s = .int .i64 t ∧ SB w (.slice wo WL.length wc) (.slice ko KL.length kc) wC.heap.size K cb gb mk m true (.slice so sn sc) (.slice ro R.length rc) b1 b2 nw nu wr wo' wc' od' ko' kc' BL' UL' WL' KL' ∧ BI nw nu (addAll p (SQ.take t)) od' BL' UL' WL' KL') (fun s _ => sm - (intOf s).toNat)
    case atStart => exact ⟨0, wo, wc, od, ko, kc, BL, UL, WL, KL, Nat.zero_le _, rfl, HS.out, by rw [List.take_zero, addAll_nil]; exact HB.out⟩
    case round =>
      clear HS c1
      obtain ⟨t, wo', wc', od', ko', kc', BL', UL', WL', KL', ht, rfl, hsb, hbi⟩ := hrel
      rename World => wr
      by_cases htl : t < sm
      · have hd : decide ((t : Int) < (sm : Int)) = true := by simp; exact htl
        obtain ⟨x, hx⟩ : ∃ x, SQ[t]? = some x := ⟨_, List.getElem?_eq_getElem (by rw [← HSM.out]; exact htl)⟩
        have hxn : x < n := HSQ.out x (List.mem_of_getElem? hx)
        have y1 : wr.cell? ⟨b, o + t, none⟩ = some (.int .i64 (x : Int)) := hsb.fr.cell (HR.out t x hx) (fun hm => HBS.out (by omega) (List.mem_append_right _ hm))
        have x1 := index26 (c := c) HA.out htl
        have hcall := add_any w wr (.slice wo WL.length wc) (.slice ko KL.length kc) wC.heap.size K cb gb mk m true (.slice so sn sc) (.slice ro R.length rc) b1 b2 nw nu wo' wc' od' ko' kc' BL' UL' WL' KL' _ x (by omega) hsb hbi
        rw [addAll_snoc, ← take_snoc hx] at hcall
        have HCALL : Hid (Calls Ybad.prog 29 #[.pointer (some ⟨cb, 5, none⟩), .int .i64 (x : Int)] wr fun e w' => e = .returned (.tuple #[]) ∧ ∃ wo' wc' od' ko' kc' BL' UL' WL' KL', SB w (.slice wo WL.length wc) (.slice ko KL.length kc) wC.heap.size K cb gb mk m true (.slice so sn sc) (.slice ro R.length rc) b1 b2 nw nu w' wo' wc' od' ko' kc' BL' UL' WL' KL' ∧ BI nw nu (addAll p (SQ.take (t + 1))) od' BL' UL' WL' KL') := hcall
        clear hcall hsb hbi hx
        go_wp2_with (go_at_call 29; refine HCALL.out.mono ?_; rintro e w2 ⟨rfl, hex⟩; have HEX : Hid (∃ wo' wc' od' ko' kc' BL' UL' WL' KL', SB w (.slice wo WL.length wc) (.slice ko KL.length kc) wC.heap.size K cb gb mk m true (.slice so sn sc) (.slice ro R.length rc) b1 b2 nw nu w2 wo' wc' od' ko' kc' BL' UL' WL' KL' ∧ BI nw nu (addAll p (SQ.take (t + 1))) od' BL' UL' WL' KL') := hex; clear hex)
        go_roundw
        case rel =>
          obtain ⟨wo', wc', od', ko', kc', BL', UL', WL', KL', h1, h2⟩ := HEX.out
          exact ⟨t + 1, wo', wc', od', ko', kc', BL', UL', WL', KL', by omega, by go_num, h1, h2⟩
        case measure => simp [intOf]; omega
      · have hd : decide ((t : Int) < (sm : Int)) = false := by simp; omega
        rw [List.take_of_length_le (by rw [← HSM.out]; omega)] at hbi
        have HE : Hid _ := HEND.out wr _ _ _ _ _ _ _ _ _ hsb hbi
        clear hsb hbi
        go_wp2_with fail
        refine bodyPost_ret (results_none rfl _ _ _) rfl ?_
        exact ⟨rfl, HE.out⟩
  | false =>
    have hSDl : ∀ x ∈ SQ.map (compOf CP), x < m := fun x hx => by
      obtain ⟨q, hq, rfl⟩ := List.mem_map.1 hx
      exact hg.hCm q (hsq q hq)
    have hreach := reachFrom_any wC w K cb gb mk m false (.slice (some ⟨b1, 0, none⟩) nw nw) (.slice wo WL.length wc) (.bool od) (.slice (some ⟨b2, 0, none⟩) nu nu) (.slice ko KL.length kc) so sn sc ro R.length rc R n CP ML SL a sm c b o SQ (SQ.map (compOf CP)) hg.hm hg.hSL hg.hSm hg.hfl hg.hC (by have := hg.hn2; omega) rfl hcl.clo hsm (by omega) hsq hSDl ha hr (fun h0 hm => hbS h0 (List.mem_append_left _ hm))
    have hgood := bfs_good (nullOf_lt hg.hSm) m (addNew [] (SQ.map (compOf CP))) 0 (addNew_nodup (by simp) _) (fun x hx => by
      rcases addNew_mem.1 hx with h | h
      · simp at h
      · exact hSDl x h)
    have hfound : found false m CP ML SL SQ = (bfs (nullOf SL) m (addNew [] (SQ.map (compOf CP))) 0).flatMap (nullOf ML) := rfl
    rw [hfound]
    obtain ⟨RR, hRR⟩ : ∃ RR, bfs (nullOf SL) m (addNew [] (SQ.map (compOf CP))) 0 = RR := ⟨_, rfl⟩
    rw [hRR] at hreach hgood ⊢
    have hRl := len_le_of_nodup m RR hgood.1 hgood.2
    have hm4 := hg.hm
    obtain ⟨sdl, hsdl⟩ : ∃ sdl, (SQ.map (compOf CP)).length = sdl := ⟨_, rfl⟩
    rw [hsdl] at hreach
    have HREACH : Hid (Calls Ybad.prog 30 #[.pointer (some ⟨cb, 0, none⟩), .slice a sm c] w fun e w' => e = .returned (.tuple #[]) ∧ ∃ so' sc' ro' rc',
      Clo wC w' K cb gb mk m false (.slice (some ⟨b1, 0, none⟩) nw nw) (.slice wo WL.length wc) (.bool od) (.slice (some ⟨b2, 0, none⟩) nu nu) (.slice ko KL.length kc) (.slice so' sdl sc') (.slice ro' RR.length rc') RR ∧ Fr w w' (cloS cb mk (.slice so sn sc) (.slice ro R.length rc)) ∧ Moved w (.slice so sn sc) (.slice so' sdl sc') ∧ Moved w (.slice ro R.length rc) (.slice ro' RR.length rc')) := hreach
    have HADD : Hid (∀ (w1 : World) (so' : Option Addr) (sc' : Nat) (ro' : Option Addr) (rc' : Nat), Clo wC w1 K cb gb mk m false (.slice (some ⟨b1, 0, none⟩) nw nw) (.slice wo WL.length wc) (.bool od) (.slice (some ⟨b2, 0, none⟩) nu nu) (.slice ko KL.length kc) (.slice so' sdl sc') (.slice ro' RR.length rc') RR → Fr w w1 (cloS cb mk (.slice so sn sc) (.slice ro R.length rc)) → Moved w (.slice so sn sc) (.slice so' sdl sc') → Moved w (.slice ro R.length rc) (.slice ro' RR.length rc') →
        Calls Ybad.prog 31 #[.pointer (some ⟨cb, 0, none⟩), .pointer (some ⟨cb, 5, none⟩)] w1 fun e w' => (∃ st : Int, e = .returned (.int .i64 st)) ∧ ∃ so' sn' sc' ro' rc' R' wo' wc' od' ko' kc' BL' UL' WL' KL',
          ClTo wC w w' K cb gb mk m false (.slice so sn sc) (.slice ro R.length rc) (.slice wo WL.length wc) (.slice ko KL.length kc) b1 b2 nw nu (addAll p (RR.flatMap (nullOf ML))) so' sn' sc' ro' rc' R' wo' wc' od' ko' kc' BL' UL' WL' KL') := by
      intro w1 so' sc' ro' rc' h1 h2 h3 h4
      have hcl1 := hcl.afterReach h1 h2 h3 h4
      refine (addReached_any wC w1 K cb gb mk m false (.slice so' sdl sc') ro' rc' RR b1 b2 nw nu wo wc od ko kc BL UL WL KL p n CP ML SL hg.hm hg.hn (by have := hg.hn2; omega) hg.hML hg.hSL hg.hfl hg.hMn hg.hC hgood.2 (by omega) hcl1 hb).mono ?_
      rintro e w' ⟨he, wo', wc', od', ko', kc', BL', UL', WL', KL', h5, h6⟩
      have hms : ∀ {v v'}, Moved w1 v v' → Moved w v v' := fun hmv b hb => by
        rcases hmv b hb with h | h
        · exact .inl h
        · exact .inr (Nat.le_trans h2.size h)
      exact ⟨he, so', sdl, sc', ro', rc', RR, wo', wc', od', ko', kc', BL', UL', WL', KL', hcl1.afterSet h5, h6, (h2.mono fun c hc => .inl (List.mem_append_left _ hc)).then h5.fr fun c hc => .inl (List.mem_append_right _ hc), h3, h4, hms h5.mw, hms h5.mk2⟩
    clear hg hcl hb hsm hsq ha hr hbS hblk hSDl hreach hgood hfound hRR hRl hm4 hsdl HG HCL HB HSM HSQ HA HR HBS
    go_enter Ybad.func21, Ybad.ntmps21
    go_wp2_with (first | (go_at_call 30; refine HREACH.out.mono ?_; rintro e w1 ⟨rfl, so1, sc1, ro1, rc1, h1, h2, h3, h4⟩; have HAD : Hid _ := HADD.out w1 so1 sc1 ro1 rc1 h1 h2 h3 h4; clear h1 h2 h3 h4) | (go_at_call 31; refine Calls.mono HAD.out ?_; rintro e w2 ⟨⟨st, rfl⟩, hex⟩; have HEX : Hid _ := hex; clear hex))
    go_end0
    exact ⟨rfl, HEX.out⟩
end Go.Proofs.YbulkdxbkDoor
