import Derived.Test.YbulkdxbkKc
import Derived.Test.YbulkdxbkKe
namespace Go.Proofs.Ybulkdxbk
open Go.RowKit
set_option linter.unusedVariables false
set_option linter.unusedSectionVars false

theorem targets_len {n : Nat} {MV : List (List (Nat × Nat))} {NL : List (List Nat)} (hG : Good n MV NL) (x : Nat) (S : List Nat) : (targetsOf MV x S).length ≤ S.length * 1024 := by
  induction S with
  | nil => simp [targetsOf]
  | cons q S ih =>
    have e : targetsOf MV x (q :: S) = onTo MV x q ++ targetsOf MV x S := by simp [targetsOf]
    rw [e, List.length_append, List.length_cons]
    have : (onTo MV x q).length ≤ 1024 := by
      unfold onTo
      rw [List.length_map]
      refine Nat.le_trans (onSym_len _ _) ?_
      unfold movesOf
      cases hq : MV[q]? with
      | none => simp
      | some L => simpa using hG.mlen q L hq
    omega
abbrev runBlk (ab gb cb : Nat) (fv stv : Value) (nf : Bool) (sev tv : Value) : Obj := .cells #[.pointer (some ⟨ab, 0, none⟩), .pointer (some ⟨gb, 0, none⟩), .pointer (some ⟨cb, 0, none⟩), fv, stv, .bool nf, sev, tv] 44 (0, 0)
/-- the runner between two steps, where there are null moves -/
structure RunA (wC w : World) (K cb gb mk n ab rb : Nat) (cnf : Bool) (x5 x6 x7 x8 x9 fv stv sev sv rv tv : Value) (R : List Nat) : Prop where
  clo : Clo wC w K cb gb mk n cnf x5 x6 x7 x8 x9 sv rv R
  blk : w.heap[rb]? = some (runBlk ab gb cb fv stv false sev tv)
  r1 : wC.heap.size ≤ rb
  r2 : rb < K
  rc : rb ≠ cb
  rm : rb ≠ mk
  town : ∃ tn tx, w.ownsRow K 3 1 tv tn tx
  tdis : ∀ b, tv.ownBlock = some b → b ∉ cloS cb mk sv rv
/-- the blocks that a step may turn -/
def runS (rb cb mk : Nat) (sv rv tv : Value) : List Nat := rb :: (cloS cb mk sv rv ++ blks tv)
section
variable {wC w w' : World} {K cb gb mk n ab rb : Nat} {cnf : Bool} {x5 x6 x7 x8 x9 fv stv sev sv rv tv sv' rv' tv' : Value} {R : List Nat}
theorem RunA.ge (h : RunA wC w K cb gb mk n ab rb cnf x5 x6 x7 x8 x9 fv stv sev sv rv tv R) : ∀ c ∈ runS rb cb mk sv rv tv, wC.heap.size ≤ c ∧ c < w.heap.size := fun c hc => by
  have h1 := h.r1
  have h2 := h.r2
  have h3 := h.clo.kw
  have h4 := h.clo.c1
  have h5 := h.clo.c2
  have h6 := h.clo.m1
  have h7 := h.clo.m2
  simp only [runS, cloS, List.mem_cons, List.mem_append] at hc
  rcases hc with rfl | (rfl | rfl | hc | hc) | hc
  · omega
  · omega
  · omega
  · have := h.clo.sv_ge c (mem_blks.1 hc); omega
  · have := h.clo.rown.lt c (mem_blks.1 hc); omega
  · obtain ⟨tn, tx, ho⟩ := h.town
    have := ho.lt c (mem_blks.1 hc); omega
theorem RunA.keep (h : RunA wC w K cb gb mk n ab rb cnf x5 x6 x7 x8 x9 fv stv sev sv rv tv R) {S : List Nat} (hf : Fr w w' S) (hS : ∀ c ∈ S, wC.heap.size ≤ c ∧ c ∉ runS rb cb mk sv rv tv) : RunA wC w' K cb gb mk n ab rb cnf x5 x6 x7 x8 x9 fv stv sev sv rv tv R := by
  have hn : ∀ c, c ∈ runS rb cb mk sv rv tv → c ∉ S := fun c hc hs => (hS c hs).2 hc
  refine ⟨h.clo.keep hf fun c hc => ⟨(hS c hc).1, fun hm => (hS c hc).2 (by simp [runS, hm])⟩, hf.blk h.blk (hn rb (by simp [runS])), h.r1, h.r2, h.rc, h.rm, ?_, h.tdis⟩
  obtain ⟨tn, tx, ho⟩ := h.town
  exact ⟨tn, tx, hf.own ho fun b hb => hn b (by simp [runS, mem_blks.2 hb])⟩
theorem runS_moved (h1 : Moved w sv sv') (h2 : Moved w rv rv') (h3 : Moved w tv tv') : ∀ c ∈ runS rb cb mk sv' rv' tv', c ∈ runS rb cb mk sv rv tv ∨ w.heap.size ≤ c := fun c hc => by
  simp only [runS, List.mem_cons, List.mem_append] at hc ⊢
  rcases hc with rfl | hc | hc
  · exact .inl (.inl rfl)
  · rcases cloS_moved h1 h2 c hc with h | h
    · exact .inl (.inr (.inl h))
    · exact .inr h
  · rcases h3 c (mem_blks.1 hc) with h | h
    · exact .inl (.inr (.inr (mem_blks.2 h)))
    · exact .inr h
end
def stepOf (MV : List (List (Nat × Nat))) (NL : List (List Nat)) (n x : Nat) (S : List Nat) : List Nat := bfs (nullOf NL) n (addNew [] (targetsOf MV x S)) 0

set_option maxRecDepth 100000 in
set_option maxHeartbeats 8000000 in
theorem stepA_any (wC w : World) (K cb gb mk n ab rb ns st x : Nat) (cnf : Bool) (x5 x6 x7 x8 x9 fv stv sev : Value) (so0 : Option Addr) (sn0 sc0 : Nat) (ro0 : Option Addr) (rn0 rc0 : Nat) (to0 : Option Addr) (tn0 tc0 : Nat) (R0 : List Nat) (MV : List (List (Nat × Nat))) (NL : List (List Nat))
    (a : Option Addr) (m c b o : Nat) (S : List Nat) (dd : Option Addr) (dn dc B : Nat) (dx : List Value)
    (hG : Good n MV NL) (hx : x ≤ 65536) (hC : Cond wC gb n NL) (hA : Aut wC ab n ns st MV NL) (hfl : NL.flatten.length ≤ 65536)
    (hrun : RunA wC w K cb gb mk n ab rb cnf x5 x6 x7 x8 x9 fv stv sev (.slice so0 sn0 sc0) (.slice ro0 rn0 rc0) (.slice to0 tn0 tc0) R0)
    (hm : m = S.length) (hm2 : m ≤ 65536) (hs : ∀ q ∈ S, q < n) (ha : 0 < m → a = some ⟨b, o, none⟩) (hr : NatsAt wC b o S)
    (hd : w.ownsRow B 3 1 (.slice dd dn dc) dn dx) (hdn : dn ≤ 65536) (hB : B ≤ w.heap.size) (hdS : ∀ c ∈ runS rb cb mk (.slice so0 sn0 sc0) (.slice ro0 rn0 rc0) (.slice to0 tn0 tc0), c < B) :
    Calls Yba.prog 7 #[.pointer (some ⟨rb, 0, none⟩), .slice dd dn dc, .slice a m c, .int .i64 (x : Int)] w fun e w' => ∃ vo cap so' sn' sc' ro' rn' rc' to' tn' tc' R', e = .returned (.slice vo (dn + (stepOf MV NL n x S).length) cap) ∧
      w'.ownsRow B 3 1 (.slice vo (dn + (stepOf MV NL n x S).length) cap) (dn + (stepOf MV NL n x S).length) (dx ++ ints (stepOf MV NL n x S)) ∧
      RunA wC w' K cb gb mk n ab rb cnf x5 x6 x7 x8 x9 fv stv sev (.slice so' sn' sc') (.slice ro' rn' rc') (.slice to' tn' tc') R' ∧ Fr w w' (runS rb cb mk (.slice so0 sn0 sc0) (.slice ro0 rn0 rc0) (.slice to0 tn0 tc0) ++ blks (.slice dd dn dc)) ∧
      (∀ y, (Value.slice vo (dn + (stepOf MV NL n x S).length) cap).ownBlock = some y → y ∉ runS rb cb mk (.slice so' sn' sc') (.slice ro' rn' rc') (.slice to' tn' tc')) := by
  have HG : Hid (Good n MV NL) := hG
  have HC : Hid (Cond wC gb n NL) := hC
  have HRUN : Hid (RunA wC w K cb gb mk n ab rb cnf x5 x6 x7 x8 x9 fv stv sev (.slice so0 sn0 sc0) (.slice ro0 rn0 rc0) (.slice to0 tn0 tc0) R0) := hrun
  have hn2 := hG.n2
  have hblk := hrun.blk
  have r5 : w.cell? ⟨rb, 5, none⟩ = some (.bool false) := by simp [World.cell?, hblk]
  have r7 : w.cell? ⟨rb, 7, none⟩ = some (.slice to0 tn0 tc0) := by simp [World.cell?, hblk]
  have q0 : w.cell? ⟨rb, 0, none⟩ = some (.pointer (some ⟨ab, 0, none⟩)) := by simp [World.cell?, hblk]
  have q1 : w.cell? ⟨rb, 1, none⟩ = some (.pointer (some ⟨gb, 0, none⟩)) := by simp [World.cell?, hblk]
  obtain ⟨tn, tx, htown⟩ := hrun.town
  have htn : tn = tn0 := by obtain ⟨_, _, _, e, _⟩ := own_form htown; cases e; rfl
  subst htn
  have hs0 := slice0 (a := to0) (n := tn) (c := tc0) (fun h => by
    subst h
    rcases htown.2 with ⟨h1, h2⟩ | ⟨_, _, _, h1, _⟩
    · cases h1; exact ⟨rfl, rfl⟩
    · cases h1)
  have hge := hrun.ge
  have hblkT : blks (.slice to0 0 tc0) = blks (.slice to0 tn tc0) := by unfold blks; rw [ownBlock_len]
  have hbS : 0 < m → b < wC.heap.size := fun h => hr.lt (by rw [← hm]; exact h)
  have hrbT : rb ∉ blks (.slice to0 tn tc0) := fun hm' => by have := (htown.lt rb (mem_blks.1 hm')).1; have := hrun.r2; omega
  have hcall := appendTargets_any wC w ab gb rb n ns st x MV NL a m c b o S to0 0 tc0 K [] hG hx hC hA hrun.clo.low (by have := hrun.clo.kw; have := hrun.clo.c1; have := hrun.clo.c2; omega) hm hm2 hs ha
    (fun i y hy => cell_of (hr i y hy) (hrun.clo.low _ (cell_lt (hr i y hy)))) q0 q1 (own_zero htown) (by omega) hrun.clo.kw (by have := hrun.clo.c1; have := hrun.clo.c2; omega)
    (fun h0 hm' => by
      rw [hblkT] at hm'
      have := (htown.lt b (mem_blks.1 hm')).1
      have := hbS h0
      have := hrun.clo.c1
      have := hrun.clo.c2
      omega) (by rw [hblkT]; exact hrbT)
  have hTl := targets_len hG x S
  have hTn := targets_lt hG x S
  obtain ⟨T, hT⟩ : ∃ T, T = targetsOf MV x S := ⟨_, rfl⟩
  have hstep : stepOf MV NL n x S = bfs (nullOf NL) n (addNew [] T) 0 := by rw [hT]; rfl
  rw [hstep]
  rw [← hT] at hcall hTl hTn
  have HCALL : Hid (Calls Yba.prog 16 #[.pointer (some ⟨rb, 0, none⟩), .slice to0 0 tc0, .slice a m c, .int .i64 (x : Int)] w fun e w' => ∃ vo cap, e = .returned (.slice vo (0 + T.length) cap) ∧ AT w K (.slice to0 0 tc0) 0 [] w' vo cap T) := hcall
  have HT : Hid (T.length ≤ S.length * 1024 ∧ (∀ y ∈ T, y < n) ∧ m = S.length) := ⟨hTl, hTn, hm⟩
  have HD : Hid (w.ownsRow B 3 1 (.slice dd dn dc) dn dx) := hd
  have HDS : Hid (∀ c ∈ runS rb cb mk (.slice so0 sn0 sc0) (.slice ro0 rn0 rc0) (.slice to0 tn tc0), c < B) := hdS
  have HBT : Hid (blks (.slice to0 0 tc0) = blks (.slice to0 tn tc0) ∧ rb ∉ blks (.slice to0 tn tc0)) := ⟨hblkT, hrbT⟩
  clear hG hC hA hrun hm hs ha hr hd hdS hblk htown hge hblkT hbS hrbT hcall hTl hTn hT hstep q0 q1
  go_enter Yba.func7, Yba.ntmps7
  go_wp2_with (go_at_call 16; refine HCALL.out.mono ?_)
  rintro e w1 ⟨vo, cap, rfl, hat⟩
  have hf1 : Fr w w1 (blks (.slice to0 tn tc0)) := by have := hat.fr; rwa [HBT.out.1] at this
  have hb1 := hf1.blk HRUN.out.blk HBT.out.2
  have hown1 : w1.ownsRow K 3 1 (.slice vo T.length cap) T.length (ints T) := by have := hat.own; simpa using this
  have hmv1 : Moved w (.slice to0 tn tc0) (.slice vo T.length cap) := fun y hy => by
    rcases hat.mv y ((ownBlock_len _ _ _ _ _).trans hy) with h | h
    · exact .inl ((ownBlock_len _ _ _ _ _).trans h)
    · exact .inr h
  have k7 : w1.cell? ⟨rb, 7, none⟩ = some (.slice to0 tn tc0) := by simp [World.cell?, hb1]
  have z7 : w1.frozen? ⟨rb, 7, none⟩ = false := by simp [World.frozen?, hb1]
  have HF1 : Hid (Fr w w1 (blks (.slice to0 tn tc0))) := hf1
  have HB1 : Hid (w1.heap[rb]? = some (runBlk ab gb cb fv stv false sev (.slice to0 tn tc0))) := hb1
  have HOWN1 : Hid (w1.ownsRow K 3 1 (.slice vo T.length cap) T.length (ints T)) := hown1
  have HMV1 : Hid (Moved w (.slice to0 tn tc0) (.slice vo T.length cap)) := hmv1
  clear hat hf1 hb1 hown1 hmv1 HCALL r5 r7 hs0
  rw [Nat.zero_add]
  go_upto_region 4 with fail
  have l1 := HRUN.out.clo
  have lr2 := HRUN.out.r2
  have hb2 : (w1.setCell ⟨rb, 7, none⟩ (.slice vo T.length cap)).heap[rb]? = some (runBlk ab gb cb fv stv false sev (.slice vo T.length cap)) := setCell_at HB1.out _ _
  have hf2 : Fr w (w1.setCell ⟨rb, 7, none⟩ (.slice vo T.length cap)) (rb :: blks (.slice to0 tn tc0)) := (HF1.out.mono fun c hc => .inl (List.mem_cons_of_mem _ hc)).set (.inl (by simp)) _ _
  have hown2 : (w1.setCell ⟨rb, 7, none⟩ (.slice vo T.length cap)).ownsRow K 3 1 (.slice vo T.length cap) T.length (ints T) := own_same HOWN1.out fun y hy => setCell_far (by have := (HOWN1.out.lt y hy).1; omega) _ _
  clear k7 z7
  generalize w1.setCell ⟨rb, 7, none⟩ (.slice vo T.length cap) = W2 at *
  have k7 : W2.cell? ⟨rb, 7, none⟩ = some (.slice vo T.length cap) := by simp [World.cell?, hb2]
  have k2 : W2.cell? ⟨rb, 2, none⟩ = some (.pointer (some ⟨cb, 0, none⟩)) := by simp [World.cell?, hb2]
  have hrbS : rb ∉ cloS cb mk (.slice so0 sn0 sc0) (.slice ro0 rn0 rc0) := fun hm' => by
    simp only [cloS, List.mem_cons, List.mem_append] at hm'
    rcases hm' with h | h | h | h
    · exact HRUN.out.rc h
    · exact HRUN.out.rm h
    · have := (l1.sv_ge rb (mem_blks.1 h)).1; omega
    · have := (l1.rown.lt rb (mem_blks.1 h)).1; omega
  have hgeA := HRUN.out.ge
  have hclo2 := l1.keep hf2 (fun c hc => by
    rcases List.mem_cons.1 hc with h | h
    · subst h; exact ⟨HRUN.out.r1, hrbS⟩
    · exact ⟨(hgeA c (by simp [runS, h])).1, HRUN.out.tdis c (mem_blks.1 h)⟩)
  have hdb : ∀ y, (Value.slice dd dn dc).ownBlock = some y → y ∉ runS rb cb mk (.slice so0 sn0 sc0) (.slice ro0 rn0 rc0) (.slice to0 tn tc0) := fun y hy hm' => by
    have := (HD.out.lt y hy).1
    have := HDS.out y hm'
    omega
  have hd2 := hf2.own HD.out (fun y hy hm' => hdb y hy (by
    rcases List.mem_cons.1 hm' with h | h
    · simp [runS, h]
    · simp [runS, h]))
  obtain ⟨vo', cap', g, e1, e2, e3, e4⟩ := own_form hown2
  cases e1
  have hTb : ∀ y, (Value.slice vo T.length cap).ownBlock = some y → y ∉ cloS cb mk (.slice so0 sn0 sc0) (.slice ro0 rn0 rc0) := fun y hy hm' => by
    rcases HMV1.out y hy with h | h
    · exact HRUN.out.tdis y h hm'
    · have := (hgeA y (by simp [runS, hm'])).2; omega
  have hT := HT.out
  have hcall := appendSet_any wC W2 K cb gb mk n rb cnf x5 x6 x7 x8 x9 so0 sn0 sc0 ro0 rn0 rc0 R0 NL vo T.length cap g 0 T dd dn dc B dx hn2 HG.out.nl (fun q L r hq hr => (HG.out.nto q L r hq hr).2) hfl HC.out hclo2 rfl (by omega) hT.2.1 e2
    (fun i y hy => by
      have hl := (List.getElem?_eq_some_iff.1 hy).1
      have e5 := e2 (by omega)
      subst e5
      rw [Nat.zero_add]
      exact own_cell hown2 (ints_get hy)) (fun h0 => by have e5 := e2 h0; subst e5; exact hTb g rfl) k2 hrbS hd2 (by omega) (Nat.le_trans hB hf2.size) (fun y hy => ⟨fun hm' => hdb y hy (by simp [runS, hm']), by
        have h1 := (HD.out.lt y hy).1
        have h2 := HDS.out rb (by simp [runS])
        have h3 := HRUN.out.r1
        omega⟩)
  obtain ⟨R, hR⟩ : ∃ R, R = bfs (nullOf NL) n (addNew [] T) 0 := ⟨_, rfl⟩
  rw [← hR] at hcall
  have HR : Hid (R = bfs (nullOf NL) n (addNew [] T) 0) := hR
  have HCALL : Hid (Calls Yba.prog 14 #[.pointer (some ⟨rb, 0, none⟩), .slice dd dn dc, .slice vo T.length cap] W2 fun e w' => ∃ vo1 cap1 so' sc' ro' rc', e = .returned (.slice vo1 (dn + R.length) cap1) ∧
      w'.ownsRow B 3 1 (.slice vo1 (dn + R.length) cap1) (dn + R.length) (dx ++ ints R) ∧
      Clo wC w' K cb gb mk n cnf x5 x6 x7 x8 x9 (.slice so' T.length sc') (.slice ro' R.length rc') R ∧ Fr W2 w' (cloS cb mk (.slice so0 sn0 sc0) (.slice ro0 rn0 rc0) ++ blks (.slice dd dn dc)) ∧
      Moved W2 (.slice so0 sn0 sc0) (.slice so' T.length sc') ∧ Moved W2 (.slice ro0 rn0 rc0) (.slice ro' R.length rc') ∧ Moved W2 (.slice dd dn dc) (.slice vo1 (dn + R.length) cap1) ∧ ∀ y, (Value.slice vo1 (dn + R.length) cap1).ownBlock = some y → y ∉ cloS cb mk (.slice so' T.length sc') (.slice ro' R.length rc')) := hcall
  have HF2 : Hid (Fr w W2 (rb :: blks (.slice to0 tn tc0))) := hf2
  have HB2 : Hid (W2.heap[rb]? = some (runBlk ab gb cb fv stv false sev (.slice vo T.length cap))) := hb2
  have HOWN2 : Hid (W2.ownsRow K 3 1 (.slice vo T.length cap) T.length (ints T)) := hown2
  have HTB : Hid (∀ y, (Value.slice vo T.length cap).ownBlock = some y → y ∉ cloS cb mk (.slice so0 sn0 sc0) (.slice ro0 rn0 rc0)) := hTb
  have HDB : Hid (∀ y, (Value.slice dd dn dc).ownBlock = some y → y ∉ runS rb cb mk (.slice so0 sn0 sc0) (.slice ro0 rn0 rc0) (.slice to0 tn tc0)) := hdb
  have HRBS : Hid (rb ∉ cloS cb mk (.slice so0 sn0 sc0) (.slice ro0 rn0 rc0)) := hrbS
  clear hcall hR hT hf2 hb2 hown2 hTb hdb hrbS l1 hgeA hclo2 hd2 e2 e3 e4 HF1 HB1 HOWN1
  go_wp2_with (go_at_call 14; refine HCALL.out.mono ?_)
  rintro e w' ⟨vo1, cap1, so', sc', ro', rc', rfl, ho, hcl, hf, hms, hmr, hmd, hmx⟩
  go_wp2_with fail
  go_ret
  rw [← HR.out]
  have hge3 := HRUN.out.ge
  have hdlt : ∀ y, (Value.slice dd dn dc).ownBlock = some y → y < w.heap.size := fun y hy => (HD.out.lt y hy).2
  have htd : ∀ y, (Value.slice vo T.length cap).ownBlock = some y → y ∉ blks (.slice dd dn dc) := fun y hy hm' => by
    have hy' := mem_blks.1 hm'
    rcases HMV1.out y hy with h | h
    · exact HDB.out y hy' (by simp [runS, mem_blks.2 h])
    · have := hdlt y hy'; omega
  have hrd : rb ∉ blks (.slice dd dn dc) := fun hm' => HDB.out rb (mem_blks.1 hm') (by simp [runS])
  refine ⟨vo1, cap1, so', T.length, sc', ro', R.length, rc', vo, T.length, cap, R, rfl, ho, ⟨hcl, hf.blk HB2.out ?_, HRUN.out.r1, lr2, HRUN.out.rc, HRUN.out.rm, ⟨T.length, ints T, hf.own HOWN2.out ?_⟩, ?_⟩, ?_, ?_⟩
  · intro hm'
    rcases List.mem_append.1 hm' with h | h
    · exact HRBS.out h
    · exact hrd h
  · intro y hy hm'
    rcases List.mem_append.1 hm' with h | h
    · exact HTB.out y hy h
    · exact htd y hy h
  · intro y hy hm'
    rcases cloS_moved hms hmr y hm' with h | h
    · exact HTB.out y hy h
    · have := (HOWN2.out.lt y hy).2; omega
  · refine (HF2.out.mono (S' := runS rb cb mk (.slice so0 sn0 sc0) (.slice ro0 rn0 rc0) (.slice to0 tn tc0) ++ blks (.slice dd dn dc)) fun c hc => .inl ?_).then hf fun c hc => .inl ?_
    · rcases List.mem_cons.1 hc with h | h
      · simp [runS, h]
      · simp [runS, h]
    · rcases List.mem_append.1 hc with h | h
      · simp [runS, h]
      · simp [h]
  · intro y hy hm'
    rcases hmd y hy with h | h
    · -- the old row
      have hylt := hdlt y h
      simp only [runS, List.mem_cons, List.mem_append] at hm'
      rcases hm' with h1 | h1 | h1
      · subst h1; exact hrd (mem_blks.2 h)
      · rcases cloS_moved hms hmr y h1 with h2 | h2
        · exact HDB.out y h (by simp [runS, h2])
        · have := HF2.out.size; omega
      · exact htd y (mem_blks.1 h1) (mem_blks.2 h)
    · -- a new one
      simp only [runS, List.mem_cons, List.mem_append] at hm'
      rcases hm' with h1 | h1 | h1
      · have := blk_lt HB2.out; omega
      · exact hmx y hy h1
      · have := (HOWN2.out.lt y (mem_blks.1 h1)).2; omega

/-- the runner between two steps, where there are no null moves -/
structure RunB (wC w : World) (cb gb mk n ab rb sk : Nat) (fv stv tv : Value) : Prop where
  blk : w.heap[rb]? = some (runBlk ab gb cb fv stv true (.slice (some ⟨sk, 0, none⟩) n n) tv)
  seen : w.ownsRow wC.heap.size 4 1 (.slice (some ⟨sk, 0, none⟩) n n) n (bools n fun _ => false)
  cblk : w.cell? ⟨cb, 2, none⟩ = some (.slice (some ⟨mk, 0, none⟩) n n)
  mark : w.ownsRow wC.heap.size 4 1 (.slice (some ⟨mk, 0, none⟩) n n) n (bools n fun _ => false)
  low : ∀ c, c < wC.heap.size → w.heap[c]? = wC.heap[c]?
  size : wC.heap.size ≤ w.heap.size
  r1 : wC.heap.size ≤ rb
  c1 : wC.heap.size ≤ cb
  s1 : sk ≠ rb
  s2 : sk ≠ cb
  s3 : sk ≠ mk
theorem RunB.keep {wC w w' : World} {cb gb mk n ab rb sk : Nat} {fv stv tv : Value} (h : RunB wC w cb gb mk n ab rb sk fv stv tv) {S : List Nat} (hf : Fr w w' S) (hS : ∀ c ∈ S, wC.heap.size ≤ c ∧ c ≠ rb ∧ c ≠ cb ∧ c ≠ mk)
    (hs : w'.ownsRow wC.heap.size 4 1 (.slice (some ⟨sk, 0, none⟩) n n) n (bools n fun _ => false)) : RunB wC w' cb gb mk n ab rb sk fv stv tv := by
  have hz := h.size
  refine ⟨hf.blk h.blk fun hm => (hS _ hm).2.1 rfl, hs, hf.cell h.cblk fun hm => (hS _ hm).2.2.1 rfl, hf.own h.mark fun b hb => ?_, fun c hc => (hf.same c (by omega) fun hm => ?_).trans (h.low c hc), Nat.le_trans hz hf.size, h.r1, h.c1, h.s1, h.s2, h.s3⟩
  · cases hb; exact fun hm => (hS _ hm).2.2.2 rfl
  · have := (hS c hm).1; omega
set_option maxRecDepth 100000 in
set_option maxHeartbeats 8000000 in
theorem stepB_any (wC w : World) (cb gb mk n ab rb sk ns st x : Nat) (fv stv tv : Value) (MV : List (List (Nat × Nat))) (NL : List (List Nat))
    (a : Option Addr) (m c b o : Nat) (S : List Nat) (dd : Option Addr) (dn dc B : Nat) (dx : List Value)
    (hG : Good n MV NL) (hx : x ≤ 65536) (hA : Aut wC ab n ns st MV NL) (hnull : hasNull NL = false)
    (hrun : RunB wC w cb gb mk n ab rb sk fv stv tv)
    (hm : m = S.length) (hm2 : m ≤ 65536) (hs : ∀ q ∈ S, q < n) (ha : 0 < m → a = some ⟨b, o, none⟩) (hr : NatsAt wC b o S)
    (hd : w.ownsRow B 3 1 (.slice dd dn dc) dn dx) (hdn : dn ≤ 65536) (hB : B ≤ w.heap.size) (hBs : sk < B ∧ rb < B ∧ cb < B ∧ mk < B) :
    Calls Yba.prog 7 #[.pointer (some ⟨rb, 0, none⟩), .slice dd dn dc, .slice a m c, .int .i64 (x : Int)] w fun e w' => ∃ vo cap, e = .returned (.slice vo (dn + (stepOf MV NL n x S).length) cap) ∧
      w'.ownsRow B 3 1 (.slice vo (dn + (stepOf MV NL n x S).length) cap) (dn + (stepOf MV NL n x S).length) (dx ++ ints (stepOf MV NL n x S)) ∧ RunB wC w' cb gb mk n ab rb sk fv stv tv ∧ Fr w w' (sk :: blks (.slice dd dn dc)) := by
  have hblk := hrun.blk
  have r5 : w.cell? ⟨rb, 5, none⟩ = some (.bool true) := by simp [World.cell?, hblk]
  have r6 : w.cell? ⟨rb, 6, none⟩ = some (.slice (some ⟨sk, 0, none⟩) n n) := by simp [World.cell?, hblk]
  have q0 : w.cell? ⟨rb, 0, none⟩ = some (.pointer (some ⟨ab, 0, none⟩)) := by simp [World.cell?, hblk]
  have hskz : wC.heap.size ≤ sk := (hrun.seen.lt sk rfl).1
  have hcall := once_any wC w ab rb sk n ns st x wC.heap.size MV NL a m c b o S dd dn dc B dx hG hx hA hrun.low hrun.size hm hm2 hs ha (fun i y hy => cell_of (hr i y hy) (hrun.low _ (cell_lt (hr i y hy)))) q0 r6 hskz hBs.1 hrun.seen hd hdn hB
    (fun h0 hm' => by
      have hb := hr.lt (by rw [← hm]; exact h0)
      rcases List.mem_cons.1 hm' with h | h
      · omega
      · have := (hd.lt b (mem_blks.1 h)).1; omega)
  have hstep : stepOf MV NL n x S = addNew [] (targetsOf MV x S) := bfs_none (fun k => by
    unfold nullOf
    cases hk : NL[k]? with
    | none => rfl
    | some L => rw [hasNull_false_iff hnull hk]; rfl) n 0 _
  rw [← hstep] at hcall
  have HCALL : Hid (Calls Yba.prog 15 #[.pointer (some ⟨rb, 0, none⟩), .slice dd dn dc, .slice a m c, .int .i64 (x : Int)] w fun e w' => ∃ vo cap, e = .returned (.slice vo (dn + (stepOf MV NL n x S).length) cap) ∧ BT w wC.heap.size B sk n (.slice dd dn dc) dn dx w' vo cap (stepOf MV NL n x S) (fun _ => false)) := hcall
  have HRUN : Hid (RunB wC w cb gb mk n ab rb sk fv stv tv) := hrun
  have HD : Hid (w.ownsRow B 3 1 (.slice dd dn dc) dn dx) := hd
  clear hG hA hrun hm hs ha hr hd hblk hcall hstep r6 q0
  go_enter Yba.func7, Yba.ntmps7
  go_wp2_with (go_at_call 15; refine HCALL.out.mono ?_)
  rintro e w' ⟨vo, cap, rfl, hbt⟩
  go_wp2_with fail
  go_ret
  refine ⟨vo, cap, rfl, hbt.own, HRUN.out.keep hbt.fr (fun c hc => ?_) hbt.mark, hbt.fr⟩
  rcases List.mem_cons.1 hc with h | h
  · subst h; exact ⟨hskz, HRUN.out.s1, HRUN.out.s2, HRUN.out.s3⟩
  · have h1 := (HD.out.lt c (mem_blks.1 h)).1
    exact ⟨by omega, by omega, by omega, by omega⟩
end Go.Proofs.Ybulkdxbk
