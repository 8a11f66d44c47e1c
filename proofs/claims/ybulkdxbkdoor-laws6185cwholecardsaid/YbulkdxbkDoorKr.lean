import Derived.Test.YbulkdxbkDoorKq
namespace Go.Proofs.YbulkdxbkDoor
open Go.RowKit
set_option linter.unusedVariables false
set_option linter.unusedSectionVars false

/-- the closer and the row that grows, in the midst of appendClosure -/
structure Mid (wC w w' : World) (K cb gb mk m : Nat) (nf : Bool) (sv rv wv kv dv : Value) (b1 b2 nw nu : Nat) (p : Nat → Bool) (Bd : Nat) (xs : List Value) (vo : Option Addr) (dl cap : Nat) (so : Option Addr) (sn sc : Nat) (ro : Option Addr) (rc : Nat) (R : List Nat) (wo : Option Addr) (wc : Nat) (od : Bool) (ko : Option Addr) (kc : Nat) (BL UL WL KL : List Nat) : Prop where
  cl : Cl wC w' K cb gb mk m nf (.slice so sn sc) (.slice ro R.length rc) R b1 b2 nw nu wo wc od ko kc BL UL WL KL
  bi : BI nw nu p od BL UL WL KL
  fr : Fr w w' (clS cb mk b1 b2 sv rv wv kv ++ blks dv)
  ms : Moved w sv (.slice so sn sc)
  mr : Moved w rv (.slice ro R.length rc)
  mw : Moved w wv (.slice wo WL.length wc)
  mk2 : Moved w kv (.slice ko KL.length kc)
  own : w'.ownsRow Bd 3 1 (.slice vo dl cap) dl xs
  md : Moved w dv (.slice vo dl cap)
  far : ∀ b, (Value.slice vo dl cap).ownBlock = some b → b ∉ clS cb mk b1 b2 (.slice so sn sc) (.slice ro R.length rc) (.slice wo WL.length wc) (.slice ko KL.length kc)
theorem Moved.up {w w1 : World} {S : List Nat} {v v' : Value} (hf : Fr w w1 S) (h : Moved w1 v v') : Moved w v v' := fun b hb => by
  rcases h b hb with h | h
  · exact .inl h
  · exact .inr (Nat.le_trans hf.size h)
theorem row_far {w' : World} {Bd dl : Nat} {xs : List Value} {v : Value} (h : w'.ownsRow Bd 3 1 v dl xs) : ∀ b, v.ownBlock = some b → b < w'.heap.size := fun b hb => (h.lt b hb).2
set_option maxRecDepth 100000 in
set_option maxHeartbeats 8000000 in
theorem appendClosure_any (wC w : World) (K cb gb mk m : Nat) (nf : Bool) (so : Option Addr) (sn sc : Nat) (ro : Option Addr) (rc : Nat) (R : List Nat) (b1 b2 nw nu : Nat) (wo : Option Addr) (wc : Nat) (od : Bool) (ko : Option Addr) (kc : Nat) (n : Nat) (CP : List Nat) (ML SL : List (List Nat)) (a : Option Addr) (sm c b o : Nat) (SQ : List Nat) (dd : Option Addr) (dc Bd : Nat) (D : List Int)
    (hg : Gr wC gb n m nw CP ML SL) (hnu : nw ≤ nu * 64) (hnu3 : nu ≤ 3) (h3 : 3 < wC.heap.size) (hT : TabAt w)
    (hcl : Cl wC w K cb gb mk m nf (.slice so sn sc) (.slice ro R.length rc) R b1 b2 nw nu wo wc od ko kc (List.replicate nw 0) (List.replicate nu 0) [] [])
    (hsm : sm = SQ.length) (hsm2 : sm ≤ 65536) (hsq : ∀ x ∈ SQ, x < n) (ha : 0 < sm → a = some ⟨b, o, none⟩) (hr : NatsAt w b o SQ) (hbS : 0 < sm → b ∉ clS cb mk b1 b2 (.slice so sn sc) (.slice ro R.length rc) (.slice wo 0 wc) (.slice ko 0 kc))
    (hd : w.ownsRow Bd 3 1 (.slice dd D.length dc) D.length (zints D)) (hdl : D.length ≤ 65536) (hBd : Bd ≤ w.heap.size) (h3d : wC.heap.size ≤ Bd) (hdS : ∀ b, (Value.slice dd D.length dc).ownBlock = some b → b ∉ clS cb mk b1 b2 (.slice so sn sc) (.slice ro R.length rc) (.slice wo 0 wc) (.slice ko 0 kc)) :
    Calls Ybad.prog 15 #[.pointer (some ⟨cb, 0, none⟩), .slice dd D.length dc, .slice a sm c] w fun e w' => ∃ vo cap so' sn' sc' ro' rc' R' wo' wc' od' ko' kc', e = .returned (.slice vo (D.length + ((List.range (nw * 64)).filter (addAll (fun _ => false) (found nf m CP ML SL SQ))).length) cap) ∧
      Mid wC w w' K cb gb mk m nf (.slice so sn sc) (.slice ro R.length rc) (.slice wo 0 wc) (.slice ko 0 kc) (.slice dd D.length dc) b1 b2 nw nu (fun _ => false) Bd (zints D ++ ints ((List.range (nw * 64)).filter (addAll (fun _ => false) (found nf m CP ML SL SQ)))) vo (D.length + ((List.range (nw * 64)).filter (addAll (fun _ => false) (found nf m CP ML SL SQ))).length) cap so' sn' sc' ro' rc' R' wo' wc' od' ko' kc' (List.replicate nw 0) (List.replicate nu 0) [] [] := by
  have hbi := BI.empty nw nu od hnu hnu3
  have hadd := addClosure_any wC w K cb gb mk m nf so sn sc ro rc R b1 b2 nw nu wo wc od ko kc (List.replicate nw 0) (List.replicate nu 0) [] [] (fun _ => false) n CP ML SL a sm c b o SQ hg hcl hbi hsm hsm2 hsq ha hr hbS
  obtain ⟨P, hP⟩ : ∃ P, addAll (fun _ => false) (found nf m CP ML SL SQ) = P := ⟨_, rfl⟩
  rw [hP] at hadd ⊢
  obtain ⟨E, hE⟩ : ∃ E, (List.range (nw * 64)).filter P = E := ⟨_, rfl⟩
  rw [hE]
  have HADD : Hid (Calls Ybad.prog 21 #[.pointer (some ⟨cb, 0, none⟩), .pointer (some ⟨cb, 5, none⟩), .slice a sm c] w fun e w' => e = .returned (.tuple #[]) ∧ ∃ so' sn' sc' ro' rc' R' wo' wc' od' ko' kc' BL' UL' WL' KL',
      ClTo wC w w' K cb gb mk m nf (.slice so sn sc) (.slice ro R.length rc) (.slice wo 0 wc) (.slice ko 0 kc) b1 b2 nw nu P so' sn' sc' ro' rc' R' wo' wc' od' ko' kc' BL' UL' WL' KL') := hadd
  have HTWO : Hid (∀ w1, (∃ so' sn' sc' ro' rc' R' wo' wc' od' ko' kc' BL' UL' WL' KL', ClTo wC w w1 K cb gb mk m nf (.slice so sn sc) (.slice ro R.length rc) (.slice wo 0 wc) (.slice ko 0 kc) b1 b2 nw nu P so' sn' sc' ro' rc' R' wo' wc' od' ko' kc' BL' UL' WL' KL') →
      Calls Ybad.prog 22 #[.pointer (some ⟨cb, 5, none⟩), .slice dd D.length dc] w1 fun e w2 => ∃ vo cap, e = .returned (.slice vo (D.length + E.length) cap) ∧ ∃ so' sn' sc' ro' rc' R' wo' wc' od' ko' kc' BL' UL' WL' KL',
        Mid wC w w2 K cb gb mk m nf (.slice so sn sc) (.slice ro R.length rc) (.slice wo 0 wc) (.slice ko 0 kc) (.slice dd D.length dc) b1 b2 nw nu P Bd (zints D ++ ints E) vo (D.length + E.length) cap so' sn' sc' ro' rc' R' wo' wc' od' ko' kc' BL' UL' WL' KL') := by
    rintro w1 ⟨so', sn', sc', ro', rc', R', wo', wc', od', ko', kc', BL', UL', WL', KL', h⟩
    have hS1 := clS_moved (cb := cb) (mk := mk) (b1 := b1) (b2 := b2) h.ms h.mr h.mw h.mk2
    have hge := hcl.ge
    have hdS1 : ∀ b, (Value.slice dd D.length dc).ownBlock = some b → b ∉ clS cb mk b1 b2 (.slice so' sn' sc') (.slice ro' R'.length rc') (.slice wo' WL'.length wc') (.slice ko' KL'.length kc') := fun b hb hm => by
      rcases hS1 b hm with h1 | h1
      · exact hdS b hb h1
      · have := (hd.lt b hb).2; omega
    have hd1 := h.fr.own hd hdS
    have hT1 := tab_fr h.fr hT (fun hm => by have := hge 3 hm; omega)
    refine (appendStates_any w1 wC.heap.size K cb gb mk m nf (.slice so' sn' sc') (.slice ro' R'.length rc') b1 b2 nw nu wo' wc' od' ko' kc' BL' UL' WL' KL' P dd dc Bd D hT1 h3 h.cl.sb h.bi hd1 hdl (Nat.le_trans hBd h.fr.size) (by omega) (fun b hb hm => hdS1 b hb (List.mem_append_right _ hm))).mono ?_
    rw [hE]
    rintro e w2 ⟨vo, cap, wo2, wc2, od2, WL2, KL2, rfl, g1, g2, g3, g4, g5, g6, g7, g8⟩
    refine ⟨vo, cap, rfl, so', sn', sc', ro', rc', R', wo2, wc2, od2, ko', kc', BL', UL', WL2, KL2, ?_⟩
    have hcl2 := h.cl.after2 g2 g4 (fun c hc => by
      rcases List.mem_append.1 hc with h1 | h1
      · exact ⟨(h.cl.sb.ge c h1).1, .inl h1⟩
      · have hb' := mem_blks.1 h1
        exact ⟨by have := (hd.lt c hb').1; omega, .inr fun hm => hdS1 c hb' (List.mem_append_left _ hm)⟩) g5 g6
    refine ⟨hcl2, g3, ?_, h.ms, h.mr, h.mw.trans h.fr g5, h.mk2.trans h.fr g6, g1, Moved.up h.fr g7, fun b hb hm => ?_⟩
    · refine (h.fr.mono fun c hc => .inl (List.mem_append_left _ hc)).then g4 fun c hc => ?_
      rcases List.mem_append.1 hc with h1 | h1
      · rcases hS1 c (List.mem_append_right _ h1) with h2 | h2
        · exact .inl (List.mem_append_left _ h2)
        · exact .inr h2
      · exact .inl (List.mem_append_right _ h1)
    · rcases List.mem_append.1 hm with h1 | h1
      · rcases g7 b hb with h2 | h2
        · exact hdS1 b h2 (List.mem_append_left _ h1)
        · have hk := h.cl.clo.kw
          have h3' := h.cl.clo.c2
          have h4' := h.cl.clo.m2
          simp only [cloS, List.mem_cons, List.mem_append] at h1
          rcases h1 with h1 | h1 | h1 | h1
          · omega
          · omega
          · have := (h.cl.clo.sv_ge b (mem_blks.1 h1)).2; omega
          · have := (h.cl.clo.rown.lt b (mem_blks.1 h1)).2; omega
      · exact g8 b hb h1
  have HTHREE : Hid (∀ (w2 : World) (vo : Option Addr) (cap : Nat), (∃ so' sn' sc' ro' rc' R' wo' wc' od' ko' kc' BL' UL' WL' KL', Mid wC w w2 K cb gb mk m nf (.slice so sn sc) (.slice ro R.length rc) (.slice wo 0 wc) (.slice ko 0 kc) (.slice dd D.length dc) b1 b2 nw nu P Bd (zints D ++ ints E) vo (D.length + E.length) cap so' sn' sc' ro' rc' R' wo' wc' od' ko' kc' BL' UL' WL' KL') →
      Calls Ybad.prog 23 #[.pointer (some ⟨cb, 5, none⟩)] w2 fun e w3 => e = .returned (.tuple #[]) ∧ ∃ so' sn' sc' ro' rc' R' wo' wc' od' ko' kc',
        Mid wC w w3 K cb gb mk m nf (.slice so sn sc) (.slice ro R.length rc) (.slice wo 0 wc) (.slice ko 0 kc) (.slice dd D.length dc) b1 b2 nw nu (fun _ => false) Bd (zints D ++ ints E) vo (D.length + E.length) cap so' sn' sc' ro' rc' R' wo' wc' od' ko' kc' (List.replicate nw 0) (List.replicate nu 0) [] []) := by
    rintro w2 vo cap ⟨so', sn', sc', ro', rc', R', wo', wc', od', ko', kc', BL', UL', WL', KL', h⟩
    refine (clear_any w2 w2 _ _ wC.heap.size K cb gb mk m nf (.slice so' sn' sc') (.slice ro' R'.length rc') b1 b2 nw nu wo' wc' od' ko' kc' BL' UL' WL' KL' P h.cl.sb h.bi).mono ?_
    rintro e w3 ⟨rfl, hs⟩
    have hS2 := clS_moved (cb := cb) (mk := mk) (b1 := b1) (b2 := b2) h.ms h.mr h.mw h.mk2
    refine ⟨rfl, so', sn', sc', ro', rc', R', wo', wc', od', ko', kc', h.cl.afterSet hs, BI.empty nw nu od' hnu hnu3, ?_, h.ms, h.mr, h.mw.trans h.fr hs.mw, h.mk2.trans h.fr hs.mk2, hs.fr.own h.own (fun b hb hm => h.far b hb (List.mem_append_right _ hm)), h.md, fun b hb hm => ?_⟩
    · refine h.fr.then hs.fr fun c hc => ?_
      rcases hS2 c (List.mem_append_right _ hc) with h2 | h2
      · exact .inl (List.mem_append_left _ h2)
      · exact .inr h2
    · refine h.far b hb ?_
      rcases clS_moved (Moved.refl w2 _) (Moved.refl w2 _) hs.mw hs.mk2 b hm with h1 | h1
      · exact h1
      · have := (h.own.lt b hb).2; omega
  clear hg hT hcl hsm hsq ha hr hbS hd hdS hbi hadd hP hE
  obtain ⟨dn, hdn⟩ : ∃ dn, D.length = dn := ⟨_, rfl⟩
  rw [hdn] at HTWO HTHREE hdl ⊢
  clear hdn
  obtain ⟨en, hen⟩ : ∃ en, dn + E.length = en := ⟨_, rfl⟩
  rw [hen] at HTWO HTHREE ⊢
  clear hen
  go_enter Ybad.func15, Ybad.ntmps15
  go_wp2_with (first | (go_at_call 21; refine HADD.out.mono ?_; rintro e w1 ⟨rfl, hex⟩; have HT2 : Hid _ := HTWO.out w1 hex; clear hex) | (go_at_call 22; refine Calls.mono HT2.out ?_; rintro e w2 ⟨vo, cap, rfl, hex⟩; have HT3 : Hid _ := HTHREE.out w2 vo cap hex; clear hex) | (go_at_call 23; refine Calls.mono HT3.out ?_; rintro e w3 ⟨rfl, hex⟩; have HT4 : Hid _ := hex; clear hex))
  go_ret
  obtain ⟨so', sn', sc', ro', rc', R', wo', wc', od', ko', kc', h⟩ := HT4.out
  exact ⟨vo, cap, so', sn', sc', ro', rc', R', wo', wc', od', ko', kc', rfl, h⟩
end Go.Proofs.YbulkdxbkDoor
