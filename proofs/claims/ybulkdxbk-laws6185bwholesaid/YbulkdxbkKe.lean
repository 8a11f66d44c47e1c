import Derived.Test.YbulkdxbkKd
namespace Go.Proofs.Ybulkdxbk
open Go.RowKit
set_option linter.unusedVariables false
set_option linter.unusedSectionVars false

theorem onSym_nodup {L : List (Nat × Nat)} (x : Nat) (h : L.Pairwise (fun a b => a.1 < b.1 ∨ (a.1 = b.1 ∧ a.2 < b.2))) : ((onSym x L).map (·.2)).Nodup := by
  unfold onSym
  have h1 := h.sublist (List.filter_sublist (p := fun m => m.1 == x) (l := L))
  rw [List.nodup_iff_pairwise_ne, List.pairwise_map]
  refine h1.imp_of_mem fun {a b} ha hb hab => ?_
  have e1 : a.1 = x := by have := (List.mem_filter.1 ha).2; simpa using this
  have e2 : b.1 = x := by have := (List.mem_filter.1 hb).2; simpa using this
  rcases hab with h | h <;> omega
/-- dst as it grows, the marks beside it -/
structure BT (w : World) (M B sk n : Nat) (v0 : Value) (dn : Nat) (dx : List Value) (wr : World) (vo : Option Addr) (cap : Nat) (T : List Nat) (p : Nat → Bool) : Prop where
  lt : sk < B
  own : wr.ownsRow B 3 1 (.slice vo (dn + T.length) cap) (dn + T.length) (dx ++ ints T)
  mark : wr.ownsRow M 4 1 (.slice (some ⟨sk, 0, none⟩) n n) n (bools n p)
  fr : Fr w wr (sk :: blks v0)
  mv : Moved w v0 (.slice vo (dn + T.length) cap)
section
variable {w wr w2 : World} {M B sk n dn cap : Nat} {v0 : Value} {dx : List Value} {vo : Option Addr} {T : List Nat} {p : Nat → Bool}
theorem BT.drewN (h : BT w M B sk n v0 dn dx wr vo cap T p) (q : Nat) : BT w M B sk n v0 dn dx (wr.drewN q) vo cap T p := ⟨h.lt, own_same h.own fun _ _ => rfl, own_same h.mark fun _ _ => rfl, h.fr.drewN q, h.mv⟩
theorem BT.alloc (h : BT w M B sk n v0 dn dx wr vo cap T p) (o : Obj) : BT w M B sk n v0 dn dx (wr.alloc o) vo cap T p := ⟨h.lt, h.own.alloc o, h.mark.alloc o, h.fr.alloc o, h.mv⟩
theorem BT.at (h : BT w M B sk n v0 dn dx wr vo cap T p) {k : Nat} (hk : k < n) : wr.cell? ⟨sk, k, none⟩ = some (.bool (p k)) ∧ wr.frozen? ⟨sk, k, none⟩ = false :=
  ⟨own_cell h.mark (bools_get hk), own_frozen h.mark k⟩
theorem BT.flip (h : BT w M B sk n v0 dn dx wr vo cap T p) (k : Nat) (b : Bool) : BT w M B sk n v0 dn dx (wr.setCell ⟨sk, k, none⟩ (.bool b)) vo cap T (fun i => if i = k then b else p i) := by
  refine ⟨h.lt, own_same h.own fun b' hb => setCell_far ?_ _ _, ?_, h.fr.set (.inl (by simp)) _ _, h.mv⟩
  · have := (h.own.lt b' hb).1
    have := h.lt
    omega
  · have := own_set h.mark k (.bool b)
    rwa [bools_set] at this
theorem BT.push (h : BT w M B sk n v0 dn dx wr vo cap T p) {k g cap' : Nat} (ho : w2.ownsRow B 3 1 (.slice (some ⟨g, 0, none⟩) (dn + T.length + 1) cap') (dn + T.length + 1) (dx ++ ints T ++ [.int .i64 (k : Int)])) (hf : Fr wr w2 (blks (.slice vo (dn + T.length) cap))) (hm : Moved wr (.slice vo (dn + T.length) cap) (.slice (some ⟨g, 0, none⟩) (dn + T.length + 1) cap')) :
    BT w M B sk n v0 dn dx w2 (some ⟨g, 0, none⟩) cap' (T ++ [k]) p := by
  have hlen : dn + (T ++ [k]).length = dn + T.length + 1 := by simp; omega
  have hlt := h.lt
  refine ⟨h.lt, ?_, hf.own h.mark fun b hb => ?_, ?_, ?_⟩
  · rw [hlen, ints_app, ← List.append_assoc]; exact ho
  · cases hb
    exact fun hm' => by have := (h.own.lt sk (mem_blks.1 hm')).1; omega
  · refine h.fr.then hf fun c hc => ?_
    rcases h.mv c (mem_blks.1 hc) with h1 | h1
    · exact .inl (by simp [mem_blks.2 h1])
    · exact .inr h1
  · rw [hlen]; exact h.mv.trans h.fr hm
end
theorem targets_lt {n : Nat} {MV : List (List (Nat × Nat))} {NL : List (List Nat)} (hG : Good n MV NL) (x : Nat) (S : List Nat) : ∀ y ∈ targetsOf MV x S, y < n := fun y hy => by
  simp only [targetsOf, List.mem_flatMap] at hy
  obtain ⟨q, _, hy⟩ := hy
  simp only [onTo, List.mem_map] at hy
  obtain ⟨mm, hm, rfl⟩ := hy
  have hm' := (List.mem_filter.1 hm).1
  unfold movesOf at hm'
  cases hq : MV[q]? with
  | none => rw [hq] at hm'; simp at hm'
  | some L => rw [hq] at hm'; exact hG.mto q L mm hq (by simpa using hm')

set_option maxRecDepth 100000 in
set_option maxHeartbeats 8000000 in
theorem once_any (wC w : World) (ab rb sk n ns st x M : Nat) (MV : List (List (Nat × Nat))) (NL : List (List Nat)) (a : Option Addr) (m c b o : Nat) (S : List Nat) (dd : Option Addr) (dn dc B : Nat) (dx : List Value)
    (hG : Good n MV NL) (hx : x ≤ 65536) (hA : Aut wC ab n ns st MV NL) (low : ∀ c, c < wC.heap.size → w.heap[c]? = wC.heap[c]?) (hw : wC.heap.size ≤ w.heap.size)
    (hm : m = S.length) (hm2 : m ≤ 65536) (hs : ∀ q ∈ S, q < n) (ha : 0 < m → a = some ⟨b, o, none⟩) (hr : NatsAt w b o S)
    (r0 : w.cell? ⟨rb, 0, none⟩ = some (.pointer (some ⟨ab, 0, none⟩))) (r6 : w.cell? ⟨rb, 6, none⟩ = some (.slice (some ⟨sk, 0, none⟩) n n)) (hsk : wC.heap.size ≤ sk) (hskB : sk < B)
    (hmark : w.ownsRow M 4 1 (.slice (some ⟨sk, 0, none⟩) n n) n (bools n fun _ => false))
    (hd : w.ownsRow B 3 1 (.slice dd dn dc) dn dx) (hdn : dn ≤ 65536) (hB : B ≤ w.heap.size) (hdb : 0 < m → b ∉ sk :: blks (.slice dd dn dc)) :
    Calls Yba.prog 15 #[.pointer (some ⟨rb, 0, none⟩), .slice dd dn dc, .slice a m c, .int .i64 (x : Int)] w fun e w' => ∃ vo cap, e = .returned (.slice vo (dn + (addNew [] (targetsOf MV x S)).length) cap) ∧ BT w M B sk n (.slice dd dn dc) dn dx w' vo cap (addNew [] (targetsOf MV x S)) (fun _ => false) := by
  have HG : Hid (Good n MV NL) := hG
  have HM : Hid (m = S.length) := hm
  have HS : Hid (∀ q ∈ S, q < n) := hs
  have HAA : Hid (0 < m → a = some ⟨b, o, none⟩) := ha
  have HR : Hid (NatsAt w b o S) := hr
  have HDB : Hid (0 < m → b ∉ sk :: blks (.slice dd dn dc)) := hdb
  have hn2 := hG.n2
  have HLOW : Hid (∀ wr, Fr w wr (sk :: blks (.slice dd dn dc)) → ∀ c, c < wC.heap.size → wr.heap[c]? = wC.heap[c]?) := fun wr hf c hc =>
    (hf.same c (by omega) fun hm => by
      rcases List.mem_cons.1 hm with h | h
      · omega
      · have := (hd.lt c (mem_blks.1 h)).1; omega).trans (low c hc)
  have HI : Hid (BT w M B sk n (.slice dd dn dc) dn dx w dd dc [] (fun _ => false)) := ⟨hskB, by simpa [ints] using hd, hmark, Fr.refl _ _, Moved.refl _ _⟩
  obtain ⟨sb, yb, fb, mb, nb, a1, a2, a3, a4⟩ := hA
  have HA4 : Hid (wC.cell? ⟨ab, 4, none⟩ = some (.slice (some ⟨mb, 0, none⟩) n n)) := (by simp [World.cell?, a1] : wC.cell? ⟨ab, 4, none⟩ = some (.slice (some ⟨mb, 0, none⟩) n n))
  have z4 : w.cell? ⟨ab, 4, none⟩ = some (.slice (some ⟨mb, 0, none⟩) n n) := cell_of HA4.out (low _ (cell_lt HA4.out))
  have HMV : Hid (∀ (q : Nat) L, MV[q]? = some L → ∃ v, wC.cell? ⟨mb, q, none⟩ = some v ∧ IsMoves wC v L) := a3
  have HTG : Hid (∀ y ∈ targetsOf MV x S, y < n) := targets_lt hG x S
  have HDX : Hid (dx.length = dn) := (by have := hd.1; omega : dx.length = dn)
  clear hG low hm hs ha hr hd hdb a1 a2 a3 a4 hmark
  go_enter Yba.func15, Yba.ntmps15
  go_wp2_with fail
  go_quiet (fail)
  clear r0 r6 z4
  have HI2 : Hid (BT w M B sk n (.slice dd dn dc) dn dx (w.drewN nq) dd dc [] (fun _ => false)) := HI.out.drewN nq
  clear HI
  generalize w.drewN nq = W0 at *
  by_cases h1 : m = 1
  · subst h1
    obtain ⟨k, hk⟩ : ∃ k, S[0]? = some k := ⟨_, List.getElem?_eq_getElem (by rw [← HM.out]; omega)⟩
    have hkn : k < n := HS.out k (List.mem_of_getElem? hk)
    have y1 : W0.cell? ⟨b, o, none⟩ = some (.int .i64 (k : Int)) := by have := HI2.out.fr.cell (HR.out 0 k hk) (HDB.out (by omega)); simpa using this
    have x1 := index26c (a := a) (n := 1) (c := c) HAA.out (by omega)
    have x3 := index31 (b := mb) (c := n) hkn
    have lowq := HLOW.out W0 HI2.out.fr
    obtain ⟨L, hL⟩ : ∃ L, MV[k]? = some L := ⟨_, List.getElem?_eq_getElem (by rw [HG.out.ml]; exact hkn)⟩
    obtain ⟨v, hv, hvm⟩ := HMV.out k L hL
    have z5 : W0.cell? ⟨mb, k, none⟩ = some v := cell_of hv (lowq _ (cell_lt hv))
    have hcall := movesOn_any wC W0 v x L hx (HG.out.mlen k L hL) (HG.out.msort k L hL) hvm lowq
    obtain ⟨va, vc, vb, vf, rfl, _⟩ := hvm
    have hFl : (onSym x L).length ≤ 1024 := Nat.le_trans (onSym_len x L) (HG.out.mlen k L hL)
    have HTO : Hid (addNew [] (targetsOf MV x S) = (onSym x L).map (·.2)) := (by
      have hS : S = [k] := by
        have := HM.out
        match S, this with
        | [y], _ => simp at hk; rw [hk]
      have e : targetsOf MV x S = (onSym x L).map (·.2) := by rw [hS]; simp [targetsOf, onTo, movesOf_at hL]
      rw [e, addNew_fresh (onSym_nodup x (HG.out.msort k L hL)) (by simp)]; simp : addNew [] (targetsOf MV x S) = (onSym x L).map (·.2))
    clear hv hL lowq hk
    go_wp2_with (go_at_call 25; refine hcall.mono ?_; rintro e w' ⟨v', rfl, ⟨fa, fc, fb', fo, rfl, f1, f2, f3, f4⟩, rfl⟩; have HF1 : Hid (0 < (onSym x L).length → fa = some ⟨fb', fo, none⟩) := f1; have HF4 : Hid (MovesAt wC fb' fo (onSym x L)) := f4; clear f1 f2 f3 f4)
    clear hcall y1 x1 x3 z5
    generalize onSym x L = F at *
    go_loopw [1, 43] (fun s1 s43 wr => ∃ (i : Nat) (vo : Option Addr) (cap : Nat), i ≤ F.length ∧ s43 = .int .i64 i ∧ s1 = .slice vo (dn + ((F.take i).map (·.2)).length) cap ∧ BT w M B sk n (.slice dd dn dc) dn dx wr vo cap ((F.take i).map (·.2)) (fun _ => false)) (fun _ s43 _ => F.length - (intOf s43).toNat)
    case atStart => exact ⟨0, dd, dc, Nat.zero_le _, rfl, rfl, HI2.out⟩
    case round =>
      clear HI2
      obtain ⟨i, vo, cap, hi, rfl, rfl, hat⟩ := hrel
      rename World => wp
      have HAT : Hid (BT w M B sk n (.slice dd dn dc) dn dx wp vo cap ((F.take i).map (·.2)) (fun _ => false)) := hat
      by_cases hil : i < F.length
      · have hd : decide ((i : Int) < (F.length : Int)) = true := by simp; exact hil
        obtain ⟨mm, hmm⟩ : ∃ mm, F[i]? = some mm := ⟨_, List.getElem?_eq_getElem hil⟩
        have lowp := HLOW.out wp hat.fr
        obtain ⟨f5, f6⟩ := HF4.out i mm hmm
        have y5 : wp.cell? ⟨fb', fo + i * 2, none⟩ = some (.int .i64 (mm.1 : Int)) := cell_of f5 (lowp _ (cell_lt f5))
        have y6 : wp.cell? ⟨fb', fo + i * 2 + 1, none⟩ = some (.int .i64 (mm.2 : Int)) := cell_of f6 (lowp _ (cell_lt f6))
        have x5 := index54 (c := fc) HF1.out hil
        have hlen : ((F.take i).map (·.2)).length ≤ 200000000 := by simp; omega
        have hBp : B ≤ (wp.alloc (.cells #[.int .i64 (mm.1 : Int), .int .i64 (mm.2 : Int)] 56)).heap.size := by have := hat.fr.size; simp; omega
        have HMM : Hid (F[i]? = some mm) := hmm
        have HOW : Hid ((wp.alloc (.cells #[.int .i64 (mm.1 : Int), .int .i64 (mm.2 : Int)] 56)).ownsRow B 3 1 (.slice vo (dn + ((F.take i).map (·.2)).length) cap) (dn + ((F.take i).map (·.2)).length) (dx ++ ints ((F.take i).map (·.2)))) := hat.own.alloc _
        have HSZ : Hid ((wp.alloc (.cells #[.int .i64 (mm.1 : Int), .int .i64 (mm.2 : Int)] 56)).heap.size = wp.heap.size + 1) := (by simp : (wp.alloc (.cells #[.int .i64 (mm.1 : Int), .int .i64 (mm.2 : Int)] 56)).heap.size = wp.heap.size + 1)
        clear f5 f6 lowp hat hmm
        generalize hTT : (F.take i).map (·.2) = T3 at *
        have HT3 : Hid ((F.take i).map (·.2) = T3) := hTT
        clear hTT
        go_wp2_with (first | (at_builtin; refine wpList_app1h rfl _ _ rfl (wp.alloc (.cells #[.int .i64 (mm.1 : Int), .int .i64 (mm.2 : Int)] 56)) (mm.2 : Int) rfl HOW.out (wp.heap.size + 1) HSZ.out rfl (by omega) hBp ?_; intro g cap' w2 h1 h2 h3; have H1 : Hid (w2.ownsRow B 3 1 (.slice (some ⟨g, 0, none⟩) (dn + T3.length + 1) cap') (dn + T3.length + 1) (dx ++ ints T3 ++ [.int .i64 (mm.2 : Int)])) := h1; have H2 : Hid (Fr (wp.alloc (.cells #[.int .i64 (mm.1 : Int), .int .i64 (mm.2 : Int)] 56)) w2 (blks (.slice vo (dn + T3.length) cap))) := h2; have H3 : Hid (Moved (wp.alloc (.cells #[.int .i64 (mm.1 : Int), .int .i64 (mm.2 : Int)] 56)) (.slice vo (dn + T3.length) cap) (.slice (some ⟨g, 0, none⟩) (dn + T3.length + 1) cap')) := h3; clear h1 h2 h3))
        go_roundw
        case rel =>
          have e6 : (F.take (i + 1)).map (·.2) = T3 ++ [mm.2] := by rw [take_snoc HMM.out, List.map_append, HT3.out]; rfl
          refine ⟨i + 1, some ⟨g, 0, none⟩, cap', by omega, by go_num, ?_, ?_⟩
          · rw [e6]; simp; omega
          · rw [e6]; exact (HAT.out.alloc _).push H1.out H2.out H3.out
        case measure => simp [intOf]; omega
      · have hd : decide ((i : Int) < (F.length : Int)) = false := by simp; omega
        have htk : F.take i = F := List.take_of_length_le (by omega)
        rw [htk, ← HTO.out] at hat
        rw [htk, ← HTO.out]
        have HE : Hid (BT w M B sk n (.slice dd dn dc) dn dx wp vo cap (addNew [] (targetsOf MV x S)) (fun _ => false)) := hat
        clear hat HAT htk
        go_wp2_with fail
        go_ret
        exact ⟨vo, cap, rfl, HE.out⟩
  · have h1' : ¬ ((m : Int) = 1) := by omega
    have h1'' : ((m : Int) == 1) = false := by simp; omega
    go_wp2_with fail
    have HI3 : Hid (BT w M B sk n (.slice dd dn dc) dn dx W0 dd dc (addNew [] (targetsOf MV x (S.take 0))) (fun i => decide (i ∈ addNew [] (targetsOf MV x (S.take 0))))) := (by
      have e : (fun i => decide (i ∈ addNew [] (targetsOf MV x (S.take 0)))) = fun _ => false := by funext i; simp [targetsOf, addNew_nil]
      rw [e]; exact HI2.out : BT w M B sk n (.slice dd dn dc) dn dx W0 dd dc (addNew [] (targetsOf MV x (S.take 0))) (fun i => decide (i ∈ addNew [] (targetsOf MV x (S.take 0)))))
    clear HI2
    go_loopw [1, 58] (fun s1 s58 wr => ∃ (t : Nat) (vo : Option Addr) (cap : Nat), t ≤ m ∧ s58 = .int .i64 t ∧ s1 = .slice vo (dn + (addNew [] (targetsOf MV x (S.take t))).length) cap ∧ BT w M B sk n (.slice dd dn dc) dn dx wr vo cap (addNew [] (targetsOf MV x (S.take t))) (fun i => decide (i ∈ addNew [] (targetsOf MV x (S.take t))))) (fun _ s58 _ => m - (intOf s58).toNat)
    case atStart => exact ⟨0, dd, dc, Nat.zero_le _, rfl, rfl, HI3.out⟩
    case round =>
      clear HI3
      obtain ⟨t, vo, cap, ht, rfl, rfl, hat⟩ := hrel
      rename World => wr
      by_cases htl : t < m
      · have hd : decide ((t : Int) < (m : Int)) = true := by simp; exact htl
        obtain ⟨k, hk⟩ : ∃ k, S[t]? = some k := ⟨_, List.getElem?_eq_getElem (by rw [← HM.out]; exact htl)⟩
        have hkn : k < n := HS.out k (List.mem_of_getElem? hk)
        have y1 : wr.cell? ⟨b, o + t, none⟩ = some (.int .i64 (k : Int)) := hat.fr.cell (HR.out t k hk) (HDB.out (by omega))
        have x1 := index26 (c := c) HAA.out htl
        have x3 := index31 (b := mb) (c := n) hkn
        have lowq := HLOW.out wr hat.fr
        obtain ⟨L, hL⟩ : ∃ L, MV[k]? = some L := ⟨_, List.getElem?_eq_getElem (by rw [HG.out.ml]; exact hkn)⟩
        obtain ⟨v, hv, hvm⟩ := HMV.out k L hL
        have z5 : wr.cell? ⟨mb, k, none⟩ = some v := cell_of hv (lowq _ (cell_lt hv))
        have hcall := movesOn_any wC wr v x L hx (HG.out.mlen k L hL) (HG.out.msort k L hL) hvm lowq
        obtain ⟨va, vc, vb, vf, rfl, _⟩ := hvm
        have HTO : Hid (onTo MV x k = (onSym x L).map (·.2)) := (by unfold onTo; rw [movesOf_at hL] : onTo MV x k = (onSym x L).map (·.2))
        have hFl : (onSym x L).length ≤ 1024 := Nat.le_trans (onSym_len x L) (HG.out.mlen k L hL)
        have HFT : Hid (∀ mm ∈ onSym x L, mm.2 < n) := fun mm hm' => HG.out.mto k L mm hL (List.mem_filter.1 hm').1
        have HK : Hid (S[t]? = some k) := hk
        clear hv hL lowq hk
        obtain ⟨TT, hTT⟩ : ∃ TT, TT = addNew [] (targetsOf MV x (S.take t)) := ⟨_, rfl⟩
        rw [← hTT] at hat ⊢
        have HTT : Hid (TT = addNew [] (targetsOf MV x (S.take t))) := hTT
        have hTnd : TT.Nodup := by rw [hTT]; exact addNew_nodup (by simp) _
        have hTlt : ∀ y ∈ TT, y < n := fun y hy => by
          rw [hTT] at hy
          rcases addNew_mem.1 hy with h | h
          · simp at h
          · exact targets_lt HG.out x _ y h
        have HTI : Hid (TT.Nodup ∧ ∀ y ∈ TT, y < n) := ⟨hTnd, hTlt⟩
        have HAT : Hid (BT w M B sk n (.slice dd dn dc) dn dx wr vo cap TT (fun i => decide (i ∈ TT))) := hat
        clear hTT hTnd hTlt hat
        go_wp2_with (go_at_call 25; refine hcall.mono ?_; rintro e w' ⟨v', rfl, ⟨fa, fc, fb', fo, rfl, f1, f2, f3, f4⟩, rfl⟩; have HF1 : Hid (0 < (onSym x L).length → fa = some ⟨fb', fo, none⟩) := f1; have HF4 : Hid (MovesAt wC fb' fo (onSym x L)) := f4; clear f1 f2 f3 f4)
        clear hcall y1 x1 x3 z5 hd
        generalize onSym x L = F at *
        go_loopw [1, 69] (fun s1 s69 wr => ∃ (i : Nat) (vo : Option Addr) (cap : Nat), i ≤ F.length ∧ s69 = .int .i64 i ∧ s1 = .slice vo (dn + (addNew TT ((F.take i).map (·.2))).length) cap ∧ BT w M B sk n (.slice dd dn dc) dn dx wr vo cap (addNew TT ((F.take i).map (·.2))) (fun y => decide (y ∈ addNew TT ((F.take i).map (·.2))))) (fun _ s69 _ => F.length - (intOf s69).toNat)
        case atStart => exact ⟨0, vo, cap, Nat.zero_le _, rfl, rfl, HAT.out⟩
        case round =>
          clear HAT
          obtain ⟨i, vo, cap, hi, rfl, rfl, hat⟩ := hrel
          rename World => wp
          by_cases hil : i < F.length
          · have hd : decide ((i : Int) < (F.length : Int)) = true := by simp; exact hil
            obtain ⟨mm, hmm⟩ : ∃ mm, F[i]? = some mm := ⟨_, List.getElem?_eq_getElem hil⟩
            have hmn : mm.2 < n := HFT.out mm (List.mem_of_getElem? hmm)
            have lowp := HLOW.out wp hat.fr
            obtain ⟨f5, f6⟩ := HF4.out i mm hmm
            have y5 : wp.cell? ⟨fb', fo + i * 2, none⟩ = some (.int .i64 (mm.1 : Int)) := cell_of f5 (lowp _ (cell_lt f5))
            have y6 : wp.cell? ⟨fb', fo + i * 2 + 1, none⟩ = some (.int .i64 (mm.2 : Int)) := cell_of f6 (lowp _ (cell_lt f6))
            have x5 := index54 (c := fc) HF1.out hil
            have x6 := index30 (b := sk) (c := n) hmn
            have HMM : Hid (F[i]? = some mm) := hmm
            have hat1 := hat.alloc (.cells #[.int .i64 (mm.1 : Int), .int .i64 (mm.2 : Int)] 56)
            obtain ⟨ck, fk⟩ := hat1.at hmn
            have hBw : B ≤ wp.heap.size := Nat.le_trans hB hat.fr.size
            have HAT : Hid (BT w M B sk n (.slice dd dn dc) dn dx (wp.alloc (.cells #[.int .i64 (mm.1 : Int), .int .i64 (mm.2 : Int)] 56)) vo cap (addNew TT ((F.take i).map (·.2))) (fun y => decide (y ∈ addNew TT ((F.take i).map (·.2))))) := hat1
            clear f5 f6 lowp hat hat1 hmm
            have e8 : (F.take (i + 1)).map (·.2) = (F.take i).map (·.2) ++ [mm.2] := by rw [take_snoc HMM.out, List.map_append]; rfl
            have HE8 : Hid ((F.take (i + 1)).map (·.2) = (F.take i).map (·.2) ++ [mm.2]) := e8
            clear e8
            by_cases hmem : mm.2 ∈ addNew TT ((F.take i).map (·.2))
            · have e1 : decide (mm.2 ∈ addNew TT ((F.take i).map (·.2))) = true := decide_eq_true hmem
              rw [e1] at ck
              clear e1
              go_wp2_with fail
              go_roundw
              case rel =>
                have e9 : addNew TT ((F.take (i + 1)).map (·.2)) = addNew TT ((F.take i).map (·.2)) := by rw [HE8.out, addNew_snoc_in hmem]
                exact ⟨i + 1, vo, cap, by omega, by go_num, by rw [e9], by rw [e9]; exact HAT.out⟩
              case measure => simp [intOf]; omega
            · have e1 : decide (mm.2 ∈ addNew TT ((F.take i).map (·.2))) = false := decide_eq_false hmem
              rw [e1] at ck
              clear e1
              go_upto_region 18 with fail
              have hfl := HAT.out.flip mm.2 true
              rw [marks_push] at hfl
              have hb1 : ((wp.alloc (.cells #[.int .i64 (mm.1 : Int), .int .i64 (mm.2 : Int)] 56)).setCell ⟨sk, mm.2, none⟩ (.bool true)).heap[wp.heap.size]? = some (.cells #[.int .i64 (mm.1 : Int), .int .i64 (mm.2 : Int)] 56) := (setCell_far (by omega) _ _).trans (heap_new _ _)
              have hBW : B ≤ ((wp.alloc (.cells #[.int .i64 (mm.1 : Int), .int .i64 (mm.2 : Int)] 56)).setCell ⟨sk, mm.2, none⟩ (.bool true)).heap.size := by rw [setCell_size]; simp; omega
              clear ck fk y5 y6
              generalize (wp.alloc (.cells #[.int .i64 (mm.1 : Int), .int .i64 (mm.2 : Int)] 56)).setCell ⟨sk, mm.2, none⟩ (.bool true) = W at *
              have cb1 : W.cell? ⟨wp.heap.size, 1, none⟩ = some (.int .i64 (mm.2 : Int)) := by simp [World.cell?, hb1]
              have hlen : (addNew TT ((F.take i).map (·.2))).length ≤ 1000 := by
                have := len_le_of_nodup n _ (addNew_nodup HTI.out.1 ((F.take i).map (·.2))) (fun y hy => by
                  rcases addNew_mem.1 hy with h | h
                  · exact HTI.out.2 y h
                  · obtain ⟨m', hm', rfl⟩ := List.mem_map.1 h
                    exact HFT.out m' (List.mem_of_mem_take hm'))
                omega
              have HW : Hid (BT w M B sk n (.slice dd dn dc) dn dx W vo cap (addNew TT ((F.take i).map (·.2))) (fun y => decide (y ∈ addNew TT ((F.take i).map (·.2)) ++ [mm.2]))) := hfl
              have HOW : Hid (W.ownsRow B 3 1 (.slice vo (dn + (addNew TT ((F.take i).map (·.2))).length) cap) (dn + (addNew TT ((F.take i).map (·.2))).length) (dx ++ ints (addNew TT ((F.take i).map (·.2))))) := hfl.own
              clear hfl hb1 HAT
              generalize hT3 : addNew TT ((F.take i).map (·.2)) = T3 at *
              have HT3 : Hid (addNew TT ((F.take i).map (·.2)) = T3) := hT3
              clear hT3
              go_wp2_with (first | (at_builtin; refine wpList_app1 rfl _ _ rfl W (mm.2 : Int) rfl HOW.out rfl (by omega) hBW ?_; intro g cap' w2 h1 h2 h3; have H1 : Hid (w2.ownsRow B 3 1 (.slice (some ⟨g, 0, none⟩) (dn + T3.length + 1) cap') (dn + T3.length + 1) (dx ++ ints T3 ++ [.int .i64 (mm.2 : Int)])) := h1; have H2 : Hid (Fr W w2 (blks (.slice vo (dn + T3.length) cap))) := h2; have H3 : Hid (Moved W (.slice vo (dn + T3.length) cap) (.slice (some ⟨g, 0, none⟩) (dn + T3.length + 1) cap')) := h3; clear h1 h2 h3))
              go_roundw
              case rel =>
                have e9 : addNew TT ((F.take (i + 1)).map (·.2)) = T3 ++ [mm.2] := by rw [HE8.out, addNew_snoc_out (by rw [HT3.out]; exact hmem), HT3.out]
                refine ⟨i + 1, some ⟨g, 0, none⟩, cap', by omega, by go_num, ?_, ?_⟩
                · rw [e9]; simp; omega
                · rw [e9]; exact HW.out.push H1.out H2.out H3.out
              case measure => simp [intOf]; omega
          · have hd : decide ((i : Int) < (F.length : Int)) = false := by simp; omega
            have htk : F.take i = F := List.take_of_length_le (by omega)
            have e10 : addNew TT ((F.take i).map (·.2)) = addNew [] (targetsOf MV x (S.take (t + 1))) := by rw [htk, ← HTO.out, HTT.out, targetsOf_snoc HK.out, addNew_app]
            rw [e10] at hat ⊢
            have HATE : Hid (BT w M B sk n (.slice dd dn dc) dn dx wp vo cap (addNew [] (targetsOf MV x (S.take (t + 1)))) (fun y => decide (y ∈ addNew [] (targetsOf MV x (S.take (t + 1)))))) := hat
            clear hat htk e10
            go_wp2_with fail
            go_roundw
            case rel => exact ⟨t + 1, vo, cap, by omega, by go_num, rfl, HATE.out⟩
            case measure => simp [intOf]; omega
      · have hd : decide ((t : Int) < (m : Int)) = false := by simp; omega
        have htk : S.take t = S := List.take_of_length_le (by rw [← HM.out]; omega)
        rw [htk] at hat ⊢
        have hnd : (addNew [] (targetsOf MV x S)).Nodup := addNew_nodup (by simp) _
        have hlt : ∀ y ∈ addNew [] (targetsOf MV x S), y < n := fun y hy => by
          rcases addNew_mem.1 hy with h | h
          · simp at h
          · exact HTG.out y h
        obtain ⟨T, hT⟩ : ∃ T, T = addNew [] (targetsOf MV x S) := ⟨_, rfl⟩
        rw [← hT] at hat hnd hlt ⊢
        have HT : Hid (T = addNew [] (targetsOf MV x S)) := hT
        have HX : Hid (T.Nodup ∧ ∀ y ∈ T, y < n) := ⟨hnd, hlt⟩
        have hTl : T.length ≤ n := len_le_of_nodup n T hnd hlt
        have HAT : Hid (BT w M B sk n (.slice dd dn dc) dn dx wr vo cap T (fun y => decide (y ∈ T.drop 0))) := hat
        obtain ⟨vo', cap', g, e1, e2, e3, e4⟩ := own_form hat.own
        cases e1
        have hc : dn + T.length ≤ cap := by
          rcases e3 with h | h
          · subst h
            have h0 : dn + T.length = 0 := by rcases Nat.eq_zero_or_pos (dn + T.length) with h | h; exact h; cases e2 h
            omega
          · subst h; obtain ⟨_, _, _, h, _⟩ := own_blk hat.own; exact h
        obtain ⟨a', s1, s2, s3⟩ := slice26f (a := vo) (n := dn + T.length) (c := cap) (b := g) (o := 0) (i := dn) e2 (fun h => ⟨by have := e4 h; omega, e4 h⟩) (by omega) hc
        rw [show dn + T.length - dn = T.length by omega, Nat.zero_add] at s1
        rw [show dn + T.length - dn = T.length by omega] at s3
        have HS1 : Hid (0 < T.length → a' = some ⟨g, dn, none⟩) := s1
        have HVO : Hid (0 < dn + T.length → vo = some ⟨g, 0, none⟩) := e2
        clear hat htk hT hnd hlt e2 e3 e4 s1 s2 hc
        go_wp2_with fail
        go_loopw [94] (fun s94 wr => ∃ (i : Nat), i ≤ T.length ∧ s94 = .int .i64 i ∧ BT w M B sk n (.slice dd dn dc) dn dx wr vo cap T (fun y => decide (y ∈ T.drop i))) (fun s94 _ => T.length - (intOf s94).toNat)
        case atStart => exact ⟨0, Nat.zero_le _, rfl, HAT.out⟩
        case round =>
          clear HAT s3
          obtain ⟨i, hi, rfl, hat⟩ := hrel
          rename World => wp
          have HAT : Hid (BT w M B sk n (.slice dd dn dc) dn dx wp vo cap T (fun y => decide (y ∈ T.drop i))) := hat
          by_cases hil : i < T.length
          · have hd2 : decide ((i : Int) < (T.length : Int)) = true := by simp; exact hil
            obtain ⟨k, hk⟩ : ∃ k, T[i]? = some k := ⟨_, List.getElem?_eq_getElem hil⟩
            have hkn : k < n := HX.out.2 k (List.mem_of_getElem? hk)
            have hvo := HVO.out (by omega)
            subst hvo
            have y1 : wp.cell? ⟨g, dn + i, none⟩ = some (.int .i64 (k : Int)) := own_cell hat.own (by
              rw [List.getElem?_append_right (by rw [HDX.out]; omega), HDX.out, Nat.add_sub_cancel_left]
              exact ints_get hk)
            have x1 := index26 (c := cap - dn) HS1.out hil
            have x2 := index30 (b := sk) (c := n) hkn
            obtain ⟨ck, fk⟩ := hat.at hkn
            generalize decide (k ∈ T.drop i) = bb at ck
            have HK : Hid (T[i]? = some k) := hk
            clear hk hat
            go_wp2_with fail
            go_roundw
            case rel =>
              refine ⟨i + 1, by omega, by go_num, ?_⟩
              have := HAT.out.flip k false
              rw [marks_pop HX.out.1 HK.out] at this
              exact this
            case measure => simp [intOf]; omega
          · have hd2 : decide ((i : Int) < (T.length : Int)) = false := by simp; omega
            have e : (fun y => decide (y ∈ T.drop i)) = fun _ => false := by
              funext y
              rw [List.drop_of_length_le (by omega)]
              simp
            rw [e] at hat
            have HE : Hid (BT w M B sk n (.slice dd dn dc) dn dx wp vo cap T (fun _ => false)) := hat
            clear hat HAT e
            go_wp2_with fail
            go_ret
            refine ⟨vo, cap, ?_, ?_⟩
            · rw [← HT.out]; rfl
            · rw [← HT.out]; exact HE.out
end Go.Proofs.Ybulkdxbk
