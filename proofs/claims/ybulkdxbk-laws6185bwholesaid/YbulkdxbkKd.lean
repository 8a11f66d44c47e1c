import Derived.Test.YbulkdxbkKb
namespace Go.Proofs.Ybulkdxbk
open Go.RowKit
set_option linter.unusedVariables false

theorem wpList_app1h {ops : Array Oper} {rest : List Oper} {o : Oper} {a : Act} {Q : Exit → Act → World → Prop} (hgd : o.guard = none) (s x : Operand)
    (ho : o.op = .call { callee := .builtin .append, args := #[s, x], argTypes := #[26, 26] }) (w0 : World) (k : Int) {B n : Nat} {v : Value} {xs : List Value} (hs : a.eval s = v) (own : w0.ownsRow B 3 1 v n xs)
    (H : Nat) (hH : w0.heap.size = H) (hx : a.eval x = .slice (some ⟨H, 0, none⟩) 1 1) (hn : n < 1099511627776) (hB : B ≤ w0.heap.size)
    (h : ∀ g cap w', w'.ownsRow B 3 1 (.slice (some ⟨g, 0, none⟩) (n + 1) cap) (n + 1) (xs ++ [.int .i64 k]) → Fr w0 w' (blks v) → Moved w0 v (.slice (some ⟨g, 0, none⟩) (n + 1) cap) → wpList Yba.prog ops Q rest (a.put o.dst (.slice (some ⟨g, 0, none⟩) (n + 1) cap)) w') :
    wpList Yba.prog ops Q (o :: rest) a (w0.alloc (.cells #[.int .i64 k] 3)) := by
  subst hH
  exact wpList_app1 hgd s x ho w0 k hs own hx hn hB h
def movesOf (MV : List (List (Nat × Nat))) (q : Nat) : List (Nat × Nat) := (MV[q]?).getD []
theorem movesOf_at {MV : List (List (Nat × Nat))} {q : Nat} {L : List (Nat × Nat)} (h : MV[q]? = some L) : movesOf MV q = L := by simp [movesOf, h]
def onTo (MV : List (List (Nat × Nat))) (x q : Nat) : List Nat := (onSym x (movesOf MV q)).map (·.2)
def targetsOf (MV : List (List (Nat × Nat))) (x : Nat) (S : List Nat) : List Nat := S.flatMap (onTo MV x)
theorem targetsOf_snoc {MV : List (List (Nat × Nat))} {x t k : Nat} {S : List Nat} (h : S[t]? = some k) : targetsOf MV x (S.take (t + 1)) = targetsOf MV x (S.take t) ++ onTo MV x k := by
  rw [take_snoc h]; simp [targetsOf]
theorem onSym_len (x : Nat) (L : List (Nat × Nat)) : (onSym x L).length ≤ L.length := List.length_filter_le _ _
theorem members_low (wC w : World) (gb n k : Nat) (NL : List (List Nat)) (hn : n ≤ 256) (hk : k < n) (hC : Cond wC gb n NL) (hw : ∀ c, c < wC.heap.size → w.heap[c]? = wC.heap[c]?) :
    Calls Yba.prog 20 #[.pointer (some ⟨gb, 0, none⟩), .int .i64 (k : Int)] w fun e w' => ∃ b q, e = .returned (.slice (some ⟨b, k, none⟩) 1 (n + 1 - k)) ∧ w' = w.drewN q ∧ wC.cell? ⟨b, k, none⟩ = some (.int .i64 (k : Int)) := by
  obtain ⟨cb, so, sc, sb, fb, fc, h1, h2, h3, h4, h5, h6, h7⟩ := hC
  have g1 : w.heap[gb]? = _ := (hw gb (blk_lt h1)).trans h1
  have c1 : w.cell? ⟨gb, 1, none⟩ = some (.slice (some ⟨cb, 0, none⟩) n (n + 1)) := by simp [World.cell?, g1]
  have c2 : w.cell? ⟨gb, 2, none⟩ = some (.slice (some ⟨cb, 0, none⟩) (n + 1) (n + 1)) := by simp [World.cell?, g1]
  have D1 : Hid (wC.cell? ⟨cb, k, none⟩ = some (.int .i64 (k : Int))) := by have := h2 k k (by rw [List.getElem?_range (by omega)]); rwa [Nat.zero_add] at this
  have d1 : w.cell? ⟨cb, k, none⟩ = some (.int .i64 (k : Int)) := cell_of D1.out (hw _ (cell_lt D1.out))
  have d2' : wC.cell? ⟨cb, k + 1, none⟩ = some (.int .i64 ((k : Int) + 1)) := by have := h2 (k + 1) (k + 1) (by rw [List.getElem?_range (by omega)]); simpa using this
  have d2 : w.cell? ⟨cb, k + 1, none⟩ = some (.int .i64 ((k : Int) + 1)) := cell_of d2' (hw _ (cell_lt d2'))
  have x1 := index26z (b := cb) (c := n + 1) (show k < n + 1 by omega)
  have x2 := index26z (b := cb) (c := n + 1) (show k + 1 < n + 1 by omega)
  rw [show ((k + 1 : Nat) : Int) = (k : Int) + 1 by omega] at x2
  have x3 := sliceMem (b := cb) hk
  clear h1 h2 h3 h4 h5 h6 h7 d2' g1
  go_enter Yba.func20, Yba.ntmps20
  go_wp2_with fail
  go_quiet (fail)
  go_wp2_with fail
  go_ret
  exact ⟨_, _, rfl, rfl, D1.out⟩
/-- dst as it grows -/
structure AT (w : World) (B : Nat) (v0 : Value) (dn : Nat) (dx : List Value) (wr : World) (vo : Option Addr) (cap : Nat) (T : List Nat) : Prop where
  own : wr.ownsRow B 3 1 (.slice vo (dn + T.length) cap) (dn + T.length) (dx ++ ints T)
  fr : Fr w wr (blks v0)
  mv : Moved w v0 (.slice vo (dn + T.length) cap)
section
variable {w wr w2 : World} {B dn cap : Nat} {v0 : Value} {dx : List Value} {vo : Option Addr} {T : List Nat}
theorem AT.drewN (h : AT w B v0 dn dx wr vo cap T) (q : Nat) : AT w B v0 dn dx (wr.drewN q) vo cap T := ⟨own_same h.own fun _ _ => rfl, h.fr.drewN q, h.mv⟩
theorem AT.alloc (h : AT w B v0 dn dx wr vo cap T) (o : Obj) : AT w B v0 dn dx (wr.alloc o) vo cap T := ⟨h.own.alloc o, h.fr.alloc o, h.mv⟩
theorem AT.push (h : AT w B v0 dn dx wr vo cap T) {k g cap' : Nat} (ho : w2.ownsRow B 3 1 (.slice (some ⟨g, 0, none⟩) (dn + T.length + 1) cap') (dn + T.length + 1) (dx ++ ints T ++ [.int .i64 (k : Int)])) (hf : Fr wr w2 (blks (.slice vo (dn + T.length) cap))) (hm : Moved wr (.slice vo (dn + T.length) cap) (.slice (some ⟨g, 0, none⟩) (dn + T.length + 1) cap')) :
    AT w B v0 dn dx w2 (some ⟨g, 0, none⟩) cap' (T ++ [k]) := by
  have hlen : dn + (T ++ [k]).length = dn + T.length + 1 := by simp; omega
  refine ⟨?_, ?_, ?_⟩
  · rw [hlen, ints_app, ← List.append_assoc]; exact ho
  · refine h.fr.then hf fun c hc => ?_
    rcases h.mv c (mem_blks.1 hc) with h1 | h1
    · exact .inl (mem_blks.2 h1)
    · exact .inr h1
  · rw [hlen]; exact h.mv.trans h.fr hm
end

set_option maxRecDepth 100000 in
set_option maxHeartbeats 8000000 in
theorem appendTargets_any (wC w : World) (ab gb rb n ns st x : Nat) (MV : List (List (Nat × Nat))) (NL : List (List Nat)) (a : Option Addr) (m c b o : Nat) (S : List Nat) (dd : Option Addr) (dn dc B : Nat) (dx : List Value)
    (hG : Good n MV NL) (hx : x ≤ 65536) (hC : Cond wC gb n NL) (hA : Aut wC ab n ns st MV NL) (low : ∀ c, c < wC.heap.size → w.heap[c]? = wC.heap[c]?) (hw : wC.heap.size ≤ w.heap.size)
    (hm : m = S.length) (hm2 : m ≤ 65536) (hs : ∀ q ∈ S, q < n) (ha : 0 < m → a = some ⟨b, o, none⟩) (hr : NatsAt w b o S)
    (r0 : w.cell? ⟨rb, 0, none⟩ = some (.pointer (some ⟨ab, 0, none⟩))) (r1 : w.cell? ⟨rb, 1, none⟩ = some (.pointer (some ⟨gb, 0, none⟩)))
    (hd : w.ownsRow B 3 1 (.slice dd dn dc) dn dx) (hdn : dn ≤ 65536) (hB : B ≤ w.heap.size) (hB2 : wC.heap.size ≤ B) (hdb : 0 < m → b ∉ blks (.slice dd dn dc)) (hdr : rb ∉ blks (.slice dd dn dc)) :
    Calls Yba.prog 16 #[.pointer (some ⟨rb, 0, none⟩), .slice dd dn dc, .slice a m c, .int .i64 (x : Int)] w fun e w' => ∃ vo cap, e = .returned (.slice vo (dn + (targetsOf MV x S).length) cap) ∧ AT w B (.slice dd dn dc) dn dx w' vo cap (targetsOf MV x S) := by
  have HG : Hid (Good n MV NL) := hG
  have HC : Hid (Cond wC gb n NL) := hC
  have HA : Hid (Aut wC ab n ns st MV NL) := hA
  have HM : Hid (m = S.length) := hm
  have HS : Hid (∀ q ∈ S, q < n) := hs
  have HAA : Hid (0 < m → a = some ⟨b, o, none⟩) := ha
  have HR : Hid (NatsAt w b o S) := hr
  have HDB : Hid (0 < m → b ∉ blks (.slice dd dn dc)) := hdb
  have HDR : Hid (rb ∉ blks (.slice dd dn dc)) := hdr
  have HR0 : Hid (w.cell? ⟨rb, 0, none⟩ = some (.pointer (some ⟨ab, 0, none⟩))) := r0
  have HR1 : Hid (w.cell? ⟨rb, 1, none⟩ = some (.pointer (some ⟨gb, 0, none⟩))) := r1
  have hn2 := hG.n2
  have HLOW : Hid (∀ wr, Fr w wr (blks (.slice dd dn dc)) → ∀ c, c < wC.heap.size → wr.heap[c]? = wC.heap[c]?) := fun wr hf c hc =>
    (hf.same c (by omega) fun hm => by have := (hd.lt c (mem_blks.1 hm)).1; omega).trans (low c hc)
  have HI : Hid (AT w B (.slice dd dn dc) dn dx w dd dc (targetsOf MV x (S.take 0))) := ⟨by simpa [targetsOf, ints] using hd, Fr.refl _ _, Moved.refl _ _⟩
  have HTL : Hid (∀ t, t ≤ m → (targetsOf MV x (S.take t)).length ≤ t * 1024) := by
    intro t
    induction t with
    | zero => intro _; simp [targetsOf]
    | succ t ih =>
      intro ht
      have hl : t < S.length := by rw [← hm]; omega
      rw [targetsOf_snoc (List.getElem?_eq_getElem hl), List.length_append]
      have h1 := ih (by omega)
      have h2 : (onTo MV x S[t]).length ≤ 1024 := by
        unfold onTo
        rw [List.length_map]
        refine Nat.le_trans (onSym_len _ _) ?_
        have hq := hs S[t] (List.getElem_mem hl)
        have hq' : S[t] < MV.length := by rw [hG.ml]; exact hq
        obtain ⟨L, hL⟩ : ∃ L, MV[S[t]]? = some L := ⟨_, List.getElem?_eq_getElem hq'⟩
        rw [movesOf_at hL]
        exact hG.mlen _ _ hL
      omega
  obtain ⟨sb, yb, fb, mb, nb, a1, a2, a3, a4⟩ := hA
  have HA4 : Hid (wC.cell? ⟨ab, 4, none⟩ = some (.slice (some ⟨mb, 0, none⟩) n n)) := (by simp [World.cell?, a1] : wC.cell? ⟨ab, 4, none⟩ = some (.slice (some ⟨mb, 0, none⟩) n n))
  have HMV : Hid (∀ (q : Nat) L, MV[q]? = some L → ∃ v, wC.cell? ⟨mb, q, none⟩ = some v ∧ IsMoves wC v L) := a3
  clear hG hC low hm hs ha hr r0 r1 hd hdb hdr a1 a2 a3 a4
  go_enter Yba.func16, Yba.ntmps16
  go_wp2_with fail
  go_loopw [1, 17] (fun s1 s17 wr => ∃ (t : Nat) (vo : Option Addr) (cap : Nat), t ≤ m ∧ s17 = .int .i64 t ∧ s1 = .slice vo (dn + (targetsOf MV x (S.take t)).length) cap ∧ AT w B (.slice dd dn dc) dn dx wr vo cap (targetsOf MV x (S.take t))) (fun _ s17 _ => m - (intOf s17).toNat)
  case atStart => exact ⟨0, dd, dc, Nat.zero_le _, rfl, by simp [targetsOf], HI.out⟩
  case round =>
    clear HI
    obtain ⟨t, vo, cap, ht, rfl, rfl, hat⟩ := hrel
    rename World => wr
    have HAT : Hid (AT w B (.slice dd dn dc) dn dx wr vo cap (targetsOf MV x (S.take t))) := hat
    have htl2 := HTL.out t ht
    by_cases htl : t < m
    · have hd : decide ((t : Int) < (m : Int)) = true := by simp; exact htl
      obtain ⟨k, hk⟩ : ∃ k, S[t]? = some k := ⟨_, List.getElem?_eq_getElem (by rw [← HM.out]; exact htl)⟩
      have hkn : k < n := HS.out k (List.mem_of_getElem? hk)
      have y1 : wr.cell? ⟨b, o + t, none⟩ = some (.int .i64 (k : Int)) := hat.fr.cell (HR.out t k hk) (HDB.out (by omega))
      have z1 : wr.cell? ⟨rb, 1, none⟩ = some (.pointer (some ⟨gb, 0, none⟩)) := hat.fr.cell HR1.out HDR.out
      have x1 := index26 (c := c) HAA.out htl
      have hcall := members_low wC wr gb n k NL hn2 hkn HC.out (HLOW.out wr hat.fr)
      have HK : Hid (S[t]? = some k) := hk
      clear hk
      generalize htt : (targetsOf MV x (S.take t)) = TT at *
      have HTT : Hid ((targetsOf MV x (S.take t)) = TT) := htt
      clear htt
      go_wp2_with (go_at_call 20; refine hcall.mono ?_; rintro e w' ⟨bk, q, rfl, rfl, hbk⟩; have HBK : Hid (wC.cell? ⟨bk, k, none⟩ = some (.int .i64 (k : Int))) := hbk; clear hbk)
      have HAT2 : Hid (AT w B (.slice dd dn dc) dn dx (wr.drewN q) vo cap (TT ++ (if (0 : Nat) = 0 then [] else onTo MV x k))) := (by have := HAT.out.drewN q; simpa using this : AT w B (.slice dd dn dc) dn dx (wr.drewN q) vo cap (TT ++ (if (0 : Nat) = 0 then [] else onTo MV x k)))
      clear HAT hat hcall y1 z1 x1 hd
      go_loopw [1, 28] (fun s1 s28 wr => ∃ (j : Nat) (vo : Option Addr) (cap : Nat), j ≤ 1 ∧ s28 = .int .i64 j ∧ s1 = .slice vo (dn + (TT ++ (if j = 0 then [] else onTo MV x k)).length) cap ∧ AT w B (.slice dd dn dc) dn dx wr vo cap (TT ++ (if j = 0 then [] else onTo MV x k))) (fun _ s28 _ => 1 - (intOf s28).toNat)
      case atStart => exact ⟨0, vo, cap, Nat.zero_le _, rfl, by simp, HAT2.out⟩
      case round =>
        clear HAT2
        obtain ⟨j, vo, cap, hj, rfl, rfl, hat⟩ := hrel
        rename World => wq
        by_cases hj0 : j = 0
        · subst hj0
          simp only [if_true, List.append_nil] at hat ⊢
          have HAT : Hid (AT w B (.slice dd dn dc) dn dx wq vo cap TT) := hat
          have lowq := HLOW.out wq hat.fr
          have y2 : wq.cell? ⟨bk, k, none⟩ = some (.int .i64 (k : Int)) := cell_of HBK.out (lowq _ (cell_lt HBK.out))
          have x2 := index26c (a := some ⟨bk, k, none⟩) (n := 1) (c := n + 1 - k) (b := bk) (o := k) (fun _ => rfl) (by omega)
          have z0 : wq.cell? ⟨rb, 0, none⟩ = some (.pointer (some ⟨ab, 0, none⟩)) := hat.fr.cell HR0.out HDR.out
          have z4 : wq.cell? ⟨ab, 4, none⟩ = some (.slice (some ⟨mb, 0, none⟩) n n) := cell_of HA4.out (lowq _ (cell_lt HA4.out))
          have x3 := index31 (b := mb) (c := n) hkn
          obtain ⟨L, hL⟩ : ∃ L, MV[k]? = some L := ⟨_, List.getElem?_eq_getElem (by rw [HG.out.ml]; exact hkn)⟩
          obtain ⟨v, hv, hvm⟩ := HMV.out k L hL
          have z5 : wq.cell? ⟨mb, k, none⟩ = some v := cell_of hv (lowq _ (cell_lt hv))
          have hcall := movesOn_any wC wq v x L hx (HG.out.mlen k L hL) (HG.out.msort k L hL) hvm lowq
          obtain ⟨va, vc, vb, vf, rfl, _⟩ := hvm
          have HTO : Hid (onTo MV x k = (onSym x L).map (·.2)) := (by unfold onTo; rw [movesOf_at hL] : onTo MV x k = (onSym x L).map (·.2))
          have hFl : (onSym x L).length ≤ 1024 := Nat.le_trans (onSym_len x L) (HG.out.mlen k L hL)
          clear hv hL lowq hat
          go_wp2_with (go_at_call 25; refine hcall.mono ?_; rintro e w' ⟨v', rfl, ⟨fa, fc, fb', fo, rfl, f1, f2, f3, f4⟩, rfl⟩; have HF1 : Hid (0 < (onSym x L).length → fa = some ⟨fb', fo, none⟩) := f1; have HF4 : Hid (MovesAt wC fb' fo (onSym x L)) := f4; clear f1 f2 f3 f4)
          clear hcall y2 x2 z0 z4 x3 z5
          generalize onSym x L = F at *
          have HAT3 : Hid (AT w B (.slice dd dn dc) dn dx w' vo cap (TT ++ (F.take 0).map (·.2))) := (by have := HAT.out; simpa using this : AT w B (.slice dd dn dc) dn dx w' vo cap (TT ++ (F.take 0).map (·.2)))
          go_loopw [1, 45] (fun s1 s45 wr => ∃ (i : Nat) (vo : Option Addr) (cap : Nat), i ≤ F.length ∧ s45 = .int .i64 i ∧ s1 = .slice vo (dn + (TT ++ (F.take i).map (·.2)).length) cap ∧ AT w B (.slice dd dn dc) dn dx wr vo cap (TT ++ (F.take i).map (·.2))) (fun _ s45 _ => F.length - (intOf s45).toNat)
          case atStart => exact ⟨0, vo, cap, Nat.zero_le _, rfl, by simp, HAT3.out⟩
          case round =>
            clear HAT3 HAT
            obtain ⟨i, vo, cap, hi, rfl, rfl, hat⟩ := hrel
            rename World => wp
            have HAT : Hid (AT w B (.slice dd dn dc) dn dx wp vo cap (TT ++ (F.take i).map (·.2))) := hat
            by_cases hil : i < F.length
            · have hd : decide ((i : Int) < (F.length : Int)) = true := by simp; exact hil
              obtain ⟨mm, hmm⟩ : ∃ mm, F[i]? = some mm := ⟨_, List.getElem?_eq_getElem hil⟩
              have lowp := HLOW.out wp hat.fr
              obtain ⟨f5, f6⟩ := HF4.out i mm hmm
              have y5 : wp.cell? ⟨fb', fo + i * 2, none⟩ = some (.int .i64 (mm.1 : Int)) := cell_of f5 (lowp _ (cell_lt f5))
              have y6 : wp.cell? ⟨fb', fo + i * 2 + 1, none⟩ = some (.int .i64 (mm.2 : Int)) := cell_of f6 (lowp _ (cell_lt f6))
              have x5 := index54 (c := fc) HF1.out hil
              have hlen : (TT ++ (F.take i).map (·.2)).length ≤ 200000000 := by simp; omega
              have hBp : B ≤ (wp.alloc (.cells #[.int .i64 (mm.1 : Int), .int .i64 (mm.2 : Int)] 56)).heap.size := by have := hat.fr.size; simp; omega
              have HMM : Hid (F[i]? = some mm) := hmm
              have HOW : Hid ((wp.alloc (.cells #[.int .i64 (mm.1 : Int), .int .i64 (mm.2 : Int)] 56)).ownsRow B 3 1 (.slice vo (dn + (TT ++ (F.take i).map (·.2)).length) cap) (dn + (TT ++ (F.take i).map (·.2)).length) (dx ++ ints (TT ++ (F.take i).map (·.2)))) := hat.own.alloc _
              have HSZ : Hid ((wp.alloc (.cells #[.int .i64 (mm.1 : Int), .int .i64 (mm.2 : Int)] 56)).heap.size = wp.heap.size + 1) := (by simp : (wp.alloc (.cells #[.int .i64 (mm.1 : Int), .int .i64 (mm.2 : Int)] 56)).heap.size = wp.heap.size + 1)
              clear f5 f6 lowp hat hmm
              generalize hTT : TT ++ (F.take i).map (·.2) = T3 at *
              have HT3 : Hid (TT ++ (F.take i).map (·.2) = T3) := hTT
              clear hTT
              go_wp2_with (first | (at_builtin; refine wpList_app1h rfl _ _ rfl (wp.alloc (.cells #[.int .i64 (mm.1 : Int), .int .i64 (mm.2 : Int)] 56)) (mm.2 : Int) rfl HOW.out (wp.heap.size + 1) HSZ.out rfl (by omega) hBp ?_; intro g cap' w2 h1 h2 h3; have H1 : Hid (w2.ownsRow B 3 1 (.slice (some ⟨g, 0, none⟩) (dn + T3.length + 1) cap') (dn + T3.length + 1) (dx ++ ints T3 ++ [.int .i64 (mm.2 : Int)])) := h1; have H2 : Hid (Fr (wp.alloc (.cells #[.int .i64 (mm.1 : Int), .int .i64 (mm.2 : Int)] 56)) w2 (blks (.slice vo (dn + T3.length) cap))) := h2; have H3 : Hid (Moved (wp.alloc (.cells #[.int .i64 (mm.1 : Int), .int .i64 (mm.2 : Int)] 56)) (.slice vo (dn + T3.length) cap) (.slice (some ⟨g, 0, none⟩) (dn + T3.length + 1) cap')) := h3; clear h1 h2 h3))
              go_roundw
              case rel =>
                have e6 : TT ++ (F.take (i + 1)).map (·.2) = T3 ++ [mm.2] := by rw [take_snoc HMM.out, List.map_append, ← List.append_assoc, HT3.out]; rfl
                refine ⟨i + 1, some ⟨g, 0, none⟩, cap', by omega, by go_num, ?_, ?_⟩
                · rw [e6]; simp; omega
                · rw [e6]; exact (HAT.out.alloc _).push H1.out H2.out H3.out
              case measure => simp [intOf]; omega
            · have hd : decide ((i : Int) < (F.length : Int)) = false := by simp; omega
              have htk : F.take i = F := List.take_of_length_le (by omega)
              rw [htk] at hat
              have HATE : Hid (AT w B (.slice dd dn dc) dn dx wp vo cap (TT ++ onTo MV x k)) := by rw [HTO.out]; exact hat
              have hl2 : (TT ++ (F.take i).map (·.2)).length = (TT ++ onTo MV x k).length := by rw [htk, HTO.out]
              rw [hl2]
              clear hat HAT htk hl2
              go_wp2_with fail
              go_roundw
              case rel => exact ⟨1, vo, cap, Nat.le_refl _, by go_num, by simp, HATE.out⟩
              case measure => simp [intOf]
        · obtain rfl : j = 1 := by omega
          have e7 : (if (1 : Nat) = 0 then ([] : List Nat) else onTo MV x k) = onTo MV x k := by simp
          rw [e7] at hat ⊢
          have HAT : Hid (AT w B (.slice dd dn dc) dn dx wq vo cap (targetsOf MV x (S.take (t + 1)))) := by rw [targetsOf_snoc HK.out, HTT.out]; exact hat
          have hl3 : (TT ++ onTo MV x k).length = (targetsOf MV x (S.take (t + 1))).length := by rw [targetsOf_snoc HK.out, HTT.out]
          rw [hl3]
          clear hat hl3 e7
          go_wp2_with fail
          go_roundw
          case rel => exact ⟨t + 1, vo, cap, by omega, by go_num, rfl, HAT.out⟩
          case measure => simp [intOf]; omega
    · have hd : decide ((t : Int) < (m : Int)) = false := by simp; omega
      have htk : S.take t = S := List.take_of_length_le (by rw [← HM.out]; omega)
      rw [htk] at hat ⊢
      have HE : Hid (AT w B (.slice dd dn dc) dn dx wr vo cap (targetsOf MV x S)) := hat
      clear hat HAT htk
      go_wp2_with fail
      go_ret
      exact ⟨vo, cap, rfl, HE.out⟩
end Go.Proofs.Ybulkdxbk
