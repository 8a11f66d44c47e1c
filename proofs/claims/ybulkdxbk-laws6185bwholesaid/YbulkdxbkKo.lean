import Derived.Test.YbulkdxbkKm
import Derived.Test.YbulkdxbkKn
import Derived.Test.YbulkdxbkKf
namespace Go.Proofs.Ybulkdxbk
open Go.RowKit
set_option linter.unusedVariables false

/-- the runner as it is laid -/
structure Start (w1 w' : World) (ab gb cb mk rb n : Nat) (cnf nf : Bool) (x5 x6 x7 x8 x9 fv : Value) : Prop where
  rblk : w'.heap[rb]? = some (runBlk ab gb cb fv (.slice none 0 0) nf (.slice none 0 0) (.slice none 0 0))
  cblk : w'.heap[cb]? = some (cloBlk gb mk n cnf (.slice none 0 0) (.slice none 0 0) x5 x6 x7 x8 x9)
  mark : w'.ownsRow w1.heap.size 4 1 (.slice (some ⟨mk, 0, none⟩) n n) n (bools n fun _ => false)
  fr : Fr w1 w' []
  c1 : w1.heap.size ≤ cb
  r1 : w1.heap.size ≤ rb
  cm : cb ≠ mk
  rc : rb ≠ cb
  rm : rb ≠ mk
theorem start_of {w1 w2 : World} {ab gb cb mk n : Nat} {cnf nf : Bool} {x5 x6 x7 x8 x9 fv : Value} (hb : w2.heap[cb]? = some (cloBlk gb mk n cnf (.slice none 0 0) (.slice none 0 0) x5 x6 x7 x8 x9))
    (hm : w2.ownsRow w1.heap.size 4 1 (.slice (some ⟨mk, 0, none⟩) n n) n (bools n fun _ => false)) (hf : Fr w1 w2 []) (hc : w1.heap.size ≤ cb) (hcm : cb ≠ mk) (W : World) (hW : Fr w2 W []) (rb : Nat) (hrb : rb = W.heap.size) :
    Start w1 (W.alloc (runBlk ab gb cb fv (.slice none 0 0) nf (.slice none 0 0) (.slice none 0 0))) ab gb cb mk rb n cnf nf x5 x6 x7 x8 x9 fv := by
  have h1 := blk_lt hb
  have h2 := (hm.lt mk rfl).2
  have h3 := hW.size
  have h4 := hf.size
  subst hrb
  exact ⟨heap_new _ _, (heap_old _ _ (by omega)).trans (hW.blk hb (by simp)), (hW.own hm (by simp)).alloc _, (hf.trans hW).alloc _, hc, by omega, hcm, by omega, by omega⟩

theorem runB_of {wC W : World} {K cb gb mk n ab rb : Nat} {cnf : Bool} {x5 x6 x7 x8 x9 fv stv sv rv tv : Value} {R : List Nat} {C1 : Array Value} (hC : C1.toList = List.replicate n (.bool false)) (hn : n ≤ 256)
    (hcl : Clo wC W K cb gb mk n cnf x5 x6 x7 x8 x9 sv rv R) (hb : W.heap[rb]? = some (runBlk ab gb cb fv stv true (.slice none 0 0) tv)) (hf : Fr wC W []) (hr : wC.heap.size ≤ rb) (hrc : rb ≠ cb) (hrm : rb ≠ mk) :
    RunB wC ((W.setCell ⟨rb, 6, none⟩ (.slice (some ⟨W.heap.size, 0, none⟩) n n)).alloc (.cells C1 4)) cb gb mk n ab rb W.heap.size fv stv tv ∧ Fr wC ((W.setCell ⟨rb, 6, none⟩ (.slice (some ⟨W.heap.size, 0, none⟩) n n)).alloc (.cells C1 4)) [] := by
  have hz := setCell_size W rb 6 (.slice (some ⟨W.heap.size, 0, none⟩) n n)
  have h1 := blk_lt hb
  have h2 := blk_lt hcl.blk
  have h3 := (hcl.mark.lt mk rfl).2
  have h4 := hf.size
  have ho := made_own (w := W.setCell ⟨rb, 6, none⟩ (.slice (some ⟨W.heap.size, 0, none⟩) n n)) (E := 4) (B := wC.heap.size) hC (by omega) (by omega)
  rw [replicate_bools, hz] at ho
  have hf' : Fr wC ((W.setCell ⟨rb, 6, none⟩ (.slice (some ⟨W.heap.size, 0, none⟩) n n)).alloc (.cells C1 4)) [] := (hf.set (.inr hr) _ _).alloc _
  refine ⟨⟨(heap_old _ _ (by omega)).trans (setCell_at hb _ _), ho, ?_, ?_, fun c hc => hf'.same c hc (by simp), hf'.size, hr, hcl.c1, by omega, by omega, by omega⟩, hf'⟩
  · have : ((W.setCell ⟨rb, 6, none⟩ (.slice (some ⟨W.heap.size, 0, none⟩) n n)).alloc (.cells C1 4)).heap[cb]? = some (cloBlk gb mk n cnf sv rv x5 x6 x7 x8 x9) := (heap_old _ _ (by omega)).trans ((setCell_far hrc.symm _ _).trans hcl.blk)
    simp only [World.cell?]; rw [this]; rfl
  · exact (own_same hcl.mark fun b hb' => setCell_far (by have e : mk = b := by cases hb'; rfl
                                                          omega) _ _).alloc _
set_option maxRecDepth 100000 in
set_option maxHeartbeats 8000000 in
theorem newRunner_any (w : World) (ab n ns st : Nat) (MV : List (List (Nat × Nat))) (NL : List (List Nat)) (hG : Good n MV NL) (hA : Aut w ab n ns st MV NL) (hst : st < n) :
    Calls Yba.prog 6 #[.pointer (some ⟨ab, 0, none⟩)] w fun e w' => ∃ wC gb cb mk rb, e = .returned (.pointer (some ⟨rb, 0, none⟩)) ∧ Cond wC gb n NL ∧ Fr w wC [] ∧ Fr wC w' [] ∧
      ((hasNull NL = true ∧ ∃ K cnf x5 x6 x7 x8 x9 fv stv sev so sn sc ro rn rc tt tn tc R, RunA wC w' K cb gb mk n ab rb cnf x5 x6 x7 x8 x9 fv stv sev (.slice so sn sc) (.slice ro rn rc) (.slice tt tn tc) R ∧ sev = .slice none 0 0) ∨
       (hasNull NL = false ∧ ∃ sk fv stv tv, RunB wC w' cb gb mk n ab rb sk fv stv tv)) := by
  have HG : Hid (Good n MV NL) := hG
  have hn1 := hG.n1
  have hn2 := hG.n2
  have hfl := hG.flat
  have hc10 := condense_any w ab n ns st MV NL hG hA
  have HA : Hid (Aut w ab n ns st MV NL) := hA
  obtain ⟨C1, hC1, mk1⟩ := make_ex 30 4 Yba.underlying30 info4 rfl (by omega) n (by omega)
  have HC1 : Hid (C1.toList = List.replicate n (.bool false)) := hC1
  clear hG hA hC1
  go_enter Yba.func6, Yba.ntmps6
  go_upto_region 2 with (go_at_call 10; refine hc10.mono ?_; rintro e w1 ⟨gb, rfl, hC, hgw, hf1⟩; have HCO : Hid (Cond w1 gb n NL) := hC; have HF1 : Hid (Fr w w1 []) := hf1; clear hC hf1)
  clear hc10
  go_cut [4] from 9 to 20 (fun s4 w' => ∃ rb cb mk cnf x5 x6 x7 x8 x9 fv, s4 = .pointer (some ⟨rb, 0, none⟩) ∧ Start w1 w' ab gb cb mk rb n cnf (!hasNull NL) x5 x6 x7 x8 x9 fv)
  case first =>
    have HK12 : Hid (∀ X, Fr w1 X [] → ∃ ck, X.cell? ⟨gb, 2, none⟩ = some (.slice (some ⟨ck, 0, none⟩) (n + 1) (n + 1))) := fun X hf => by
      obtain ⟨ck, so, sc, sb, fb, fc, h1, _⟩ := HCO.out
      have := hf.blk h1 (by simp)
      exact ⟨ck, by simp [World.cell?, this]⟩
    have H12 : Hid (∀ X, Fr w1 X [] → Calls Yba.prog 12 #[.pointer (some ⟨gb, 0, none⟩)] X fun e w' => e = .returned (.int .i64 (n : Int)) ∧ w' = X) := fun X hf => by
      obtain ⟨ck, h⟩ := HK12.out X hf
      exact len_any X gb n (n + 1) ⟨ck, 0, none⟩ hn2 h
    have H13 : Hid (∀ X, Fr w1 X [] → Calls Yba.prog 13 #[.pointer (some ⟨ab, 0, none⟩)] X fun e w' => e = .returned (.bool (hasNull NL)) ∧ w' = X) := fun X hf => by
      obtain ⟨sb, yb, fb, mb, nb, a1, a2, a3, a4⟩ := HA.out.grown (w' := X) fun c hc => ((HF1.out.trans hf).same c hc (by simp))
      exact hasNullMoves_any X ab nb n NL hn2 HG.out.nl (fun q L hq => Nat.le_trans (HG.out.nlen hq) hn2) a4 (by simp [World.cell?, a1])
    have H11 : Hid (∀ X, Fr w1 X [] → Calls Yba.prog 11 #[.pointer (some ⟨gb, 0, none⟩)] X fun e w' => ∃ cb mk nf x5 x6 x7 x8 x9, e = .returned (.pointer (some ⟨cb, 0, none⟩)) ∧ w'.heap[cb]? = some (cloBlk gb mk n nf (.slice none 0 0) (.slice none 0 0) x5 x6 x7 x8 x9) ∧
      w'.ownsRow w1.heap.size 4 1 (.slice (some ⟨mk, 0, none⟩) n n) n (bools n fun _ => false) ∧ Fr w1 w' [] ∧ w1.heap.size ≤ cb ∧ cb ≠ mk) := fun X hf => by
      refine (newCloser_any X gb n NL hn1 hn2 hfl (HCO.out.grown fun c hc => hf.same c hc (by simp))).mono ?_
      rintro e w' ⟨cb, mk, nf, x5, x6, x7, x8, x9, rfl, h1, h2, h3, h4, h5⟩
      have hs := hf.size
      exact ⟨cb, mk, nf, x5, x6, x7, x8, x9, rfl, h1, own_base h2 (fun g hg => by have := (h2.lt g hg).1; omega), hf.trans h3, by omega, h5⟩
    go_region_held3 (fun w' => True) (trivial)
      (first
        | (go_at_call 12; refine (H12.out _ (by first | exact (Fr.refl w1 []).drew | exact ((Fr.refl w1 []).alloc _).drew | exact HFR.out | exact HFR.out.alloc _)).mono ?_; rintro e w' ⟨rfl, rfl⟩)
        | (go_at_call 13; refine (H13.out _ (by first | exact (Fr.refl w1 []).drew | exact ((Fr.refl w1 []).alloc _).drew | exact HFR.out | exact HFR.out.alloc _)).mono ?_; rintro e w' ⟨rfl, rfl⟩)
        | (go_at_call 11; refine (H11.out _ (by first | exact (Fr.refl w1 []).drew | exact ((Fr.refl w1 []).alloc _).drew)).mono ?_; rintro e w2 ⟨cb, mk, cnf, x5, x6, x7, x8, x9, rfl, e1, e2, e3, e4, e5⟩; have E1 : Hid _ := e1; have E2 : Hid _ := e2; have HFR : Hid (Fr w1 w2 []) := e3; have E4 : Hid _ := e4; have E5 : Hid _ := e5; clear e1 e2 e3 e4 e5))
    all_goals
      go_wp2_with fail
      go_meet
      case rel =>
        first
          | exact ⟨_, _, _, _, _, _, _, _, _, _, rfl, start_of E1.out E2.out HFR.out E4.out E5.out _ (Fr.refl _ []) _ rfl⟩
          | exact ⟨_, _, _, _, _, _, _, _, _, _, rfl, start_of E1.out E2.out HFR.out E4.out E5.out _ ((Fr.refl _ []).alloc _) _ (by simp)⟩
  case rest =>
    obtain ⟨rb, cb, mk, cnf, x5, x6, x7, x8, x9, fv, rfl, hS⟩ := hcut
    rename World => w2
    have HS : Hid (Start w1 w2 ab gb cb mk rb n cnf (!hasNull NL) x5 x6 x7 x8 x9 fv) := hS
    have hAut := HA.out.grown (w' := w2) fun c hc => ((HF1.out.trans hS.fr).same c hc (by simp))
    obtain ⟨sb, yb, fb, mb, nb, a1, a2, a3, a4⟩ := hAut
    have z3 : w2.cell? ⟨ab, 3, none⟩ = some (.slice (some ⟨fb, 0, none⟩) n n) := by simp [World.cell?, a1]
    have z2 : w2.cell? ⟨ab, 2, none⟩ = some (.int .i64 (st : Int)) := by simp [World.cell?, a1]
    have z0 : w2.cell? ⟨ab, 0, none⟩ = some (.slice (some ⟨sb, 0, none⟩) n n) := by simp [World.cell?, a1]
    have HFIN : Hid (∀ i, i < n → w2.cell? ⟨fb, i, none⟩ = some (.bool false)) := a2
    have habz : ab < w2.heap.size := blk_lt a1
    clear hS a1 a2 a3 a4 z0
    go_wp2_with fail
    go_loopw [26] (fun s26 wr => ∃ t : Nat, t ≤ n ∧ s26 = .int .i64 t ∧ w2 = wr) (fun s26 _ => n - (intOf s26).toNat)
    case atStart => exact ⟨0, Nat.zero_le _, rfl, rfl⟩
    case round =>
      obtain ⟨t, ht, rfl, rfl⟩ := hrel
      by_cases htl : t < n
      · have hd : decide ((t : Int) < (n : Int)) = true := by simp; exact htl
        have y1 := HFIN.out t htl
        have x1 := index30 (b := fb) (c := n) htl
        go_wp2_with fail
        go_roundw
        case rel => exact ⟨t + 1, by omega, by go_num, trivial⟩
        case measure => simp [intOf]; omega
      · have hd : decide ((t : Int) < (n : Int)) = false := by simp; omega
        obtain ⟨K, hK⟩ : ∃ K, K = w2.heap.size := ⟨_, rfl⟩
        have hs := HS.out
        have l1 := blk_lt hs.cblk
        have l2 := blk_lt hs.rblk
        have l3 := (hs.mark.lt mk rfl)
        have hK1 := hs.fr.size
        have hclo : Clo w1 (w2.alloc (.cells #[.int .i64 (st : Int)] 3)) K cb gb mk n cnf x5 x6 x7 x8 x9 (.slice none 0 0) (.slice none 0 0) [] :=
          ⟨hs.c1, l3.1, by omega, by omega, hs.cm, by simp; omega, fun c hc => (heap_old _ _ (by omega)).trans (hs.fr.same c hc (by simp)), (heap_old _ _ l1).trans hs.cblk, hs.mark.alloc _, ⟨0, [], World.ownsRow_nil _ _ _ _⟩, World.ownsRow_nil _ _ _ _, fun b h => (by cases h)⟩
        have hrbS : rb ∉ cloS cb mk (.slice none 0 0) (.slice none 0 0) := by
          simp only [cloS, List.mem_cons, List.mem_append, not_or]
          exact ⟨hs.rc, hs.rm, by simp [blks, Value.ownBlock], by simp [blks, Value.ownBlock]⟩
        have hcall := appendSet_any w1 (w2.alloc (.cells #[.int .i64 (st : Int)] 3)) K cb gb mk n rb cnf x5 x6 x7 x8 x9 none 0 0 none 0 0 [] NL (some ⟨w2.heap.size, 0, none⟩) 1 1 w2.heap.size 0 [st] none 0 0 K [] hn2 HG.out.nl (fun q L r hq hr => (HG.out.nto q L r hq hr).2) hfl HCO.out hclo rfl (by omega) (by simp; exact hst) (fun _ => rfl)
          (fun i y hy => by
            have hnew := heap_new w2 (.cells #[.int .i64 (st : Int)] 3)
            cases i with
            | zero => simp at hy; subst hy; simp only [World.cell?]; rw [hnew]; rfl
            | succ i => simp at hy)
          (fun _ => by
            simp only [cloS, List.mem_cons, List.mem_append, not_or]
            exact ⟨by omega, by omega, by simp [blks, Value.ownBlock], by simp [blks, Value.ownBlock]⟩)
          (by have h := (heap_old w2 (.cells #[.int .i64 (st : Int)] 3) l2).trans hs.rblk; simp only [World.cell?]; rw [h]; rfl) hrbS (World.ownsRow_nil _ _ _ _) (by omega) (by simp; omega) (fun x hx => by cases hx)
        obtain ⟨R, hR⟩ : ∃ R, R = bfs (nullOf NL) n (addNew [] [st]) 0 := ⟨_, rfl⟩
        rw [← hR] at hcall
        have HCALL : Hid (Calls Yba.prog 14 #[.pointer (some ⟨rb, 0, none⟩), .slice none 0 0, .slice (some ⟨w2.heap.size, 0, none⟩) 1 1] (w2.alloc (.cells #[.int .i64 (st : Int)] 3)) fun e w' => ∃ vo cap so' sc' ro' rc', e = .returned (.slice vo (0 + R.length) cap) ∧
          w'.ownsRow K 3 1 (.slice vo (0 + R.length) cap) (0 + R.length) ([] ++ ints R) ∧
          Clo w1 w' K cb gb mk n cnf x5 x6 x7 x8 x9 (.slice so' [st].length sc') (.slice ro' R.length rc') R ∧ Fr (w2.alloc (.cells #[.int .i64 (st : Int)] 3)) w' (cloS cb mk (.slice none 0 0) (.slice none 0 0) ++ blks (.slice none 0 0)) ∧
          Moved (w2.alloc (.cells #[.int .i64 (st : Int)] 3)) (.slice none 0 0) (.slice so' [st].length sc') ∧ Moved (w2.alloc (.cells #[.int .i64 (st : Int)] 3)) (.slice none 0 0) (.slice ro' R.length rc') ∧ Moved (w2.alloc (.cells #[.int .i64 (st : Int)] 3)) (.slice none 0 0) (.slice vo (0 + R.length) cap) ∧
          ∀ y, (Value.slice vo (0 + R.length) cap).ownBlock = some y → y ∉ cloS cb mk (.slice so' [st].length sc') (.slice ro' R.length rc')) := hcall
        have HKK : Hid (K = w2.heap.size) := hK
        have HRB : Hid (rb ∉ cloS cb mk (.slice none 0 0) (.slice none 0 0)) := hrbS
        clear hs hclo hrbS hcall hR hK l1 l3
        go_wp2_with (go_at_call 14; refine HCALL.out.mono ?_)
        rintro e w3 ⟨vo, cap, so', sc', ro', rc', rfl, hvo, hcl3, hf3, _, _, _, _⟩
        rw [Nat.zero_add]
        have hf23 : Fr w2 w3 (cloS cb mk (.slice none 0 0) (.slice none 0 0)) := ((Fr.refl w2 _).alloc _).then hf3 (fun c hc => by
          rcases List.mem_append.1 hc with h | h
          · exact .inl h
          · simp [blks, Value.ownBlock] at h)
        have hrb3 := hf23.blk HS.out.rblk HRB.out
        have k4 : w3.cell? ⟨rb, 4, none⟩ = some (.slice none 0 0) := by simp [World.cell?, hrb3]
        have f4 : w3.frozen? ⟨rb, 4, none⟩ = false := by simp [World.frozen?, hrb3]
        have HRB3 : Hid (w3.heap[rb]? = some (runBlk ab gb cb fv (.slice none 0 0) (!hasNull NL) (.slice none 0 0) (.slice none 0 0))) := hrb3
        have HCL3 : Hid (Clo w1 w3 K cb gb mk n cnf x5 x6 x7 x8 x9 (.slice so' [st].length sc') (.slice ro' R.length rc') R) := hcl3
        have HF23 : Hid (Fr w2 w3 (cloS cb mk (.slice none 0 0) (.slice none 0 0))) := hf23
        clear hcl3 hf3 hf23 hrb3 hvo HCALL z2 z3
        go_upto_region 10 with fail
        have hrw : w1.heap.size ≤ rb := HS.out.r1
        have hcw : w1.heap.size ≤ cb := HS.out.c1
        have hmw : w1.heap.size ≤ mk := (HS.out.mark.lt mk rfl).1
        have hkk := HKK.out
        have hrS3 : rb ∉ cloS cb mk (.slice so' [st].length sc') (.slice ro' R.length rc') := fun hm => by
          simp only [cloS, List.mem_cons, List.mem_append] at hm
          rcases hm with h | h | h | h
          · exact HS.out.rc h
          · exact HS.out.rm h
          · have := (HCL3.out.sv_ge rb (mem_blks.1 h)).1; omega
          · have := (HCL3.out.rown.lt rb (mem_blks.1 h)).1; omega
        have hcl4 := HCL3.out.keep (w' := w3.setCell ⟨rb, 4, none⟩ (.slice vo R.length cap)) (S := [rb]) ((Fr.refl w3 _).set (.inl (by simp)) _ _) (fun c hc => by simp at hc; subst hc; exact ⟨hrw, hrS3⟩)
        have hb4 : (w3.setCell ⟨rb, 4, none⟩ (.slice vo R.length cap)).heap[rb]? = some (runBlk ab gb cb fv (.slice vo R.length cap) (!hasNull NL) (.slice none 0 0) (.slice none 0 0)) := setCell_at HRB3.out _ _
        have hf4 : Fr w1 (w3.setCell ⟨rb, 4, none⟩ (.slice vo R.length cap)) [] := (HS.out.fr.then HF23.out (fun c hc => by
          simp only [cloS, List.mem_cons, List.mem_append] at hc
          rcases hc with h | h | h | h
          · exact .inr (by omega)
          · exact .inr (by omega)
          · simp [blks, Value.ownBlock] at h
          · simp [blks, Value.ownBlock] at h)).set (.inr hrw) _ _
        clear k4 f4
        generalize w3.setCell ⟨rb, 4, none⟩ (.slice vo R.length cap) = W4 at *
        have HCL4 : Hid (Clo w1 W4 K cb gb mk n cnf x5 x6 x7 x8 x9 (.slice so' [st].length sc') (.slice ro' R.length rc') R) := hcl4
        have HB4 : Hid (W4.heap[rb]? = some (runBlk ab gb cb fv (.slice vo R.length cap) (!hasNull NL) (.slice none 0 0) (.slice none 0 0))) := hb4
        have HF4 : Hid (Fr w1 W4 []) := hf4
        have HRW : Hid (w1.heap.size ≤ rb ∧ rb < K ∧ rb ≠ cb ∧ rb ≠ mk) := ⟨hrw, by omega, HS.out.rc, HS.out.rm⟩
        have hrz : rb < W4.heap.size := blk_lt hb4
        cases hnull : hasNull NL with
        | true =>
          have k5 : W4.cell? ⟨rb, 5, none⟩ = some (.bool false) := by rw [hnull] at hb4; simp [World.cell?, hb4]
          clear hcl4 hb4 hf4 hrS3 hkk
          go_wp2_with fail
          go_ret
          refine ⟨w1, gb, cb, mk, rb, rfl, HCO.out, HF1.out, HF4.out, .inl ⟨hnull, K, cnf, x5, x6, x7, x8, x9, fv, .slice vo R.length cap, .slice none 0 0, so', _, sc', ro', _, rc', none, 0, 0, R, ⟨HCL4.out, ?_, HRW.out.1, HRW.out.2.1, HRW.out.2.2.1, HRW.out.2.2.2, ⟨0, [], World.ownsRow_nil _ _ _ _⟩, fun b h => (by cases h)⟩, rfl⟩⟩
          have := HB4.out
          rw [hnull] at this
          exact this
        | false =>
          have k5 : W4.cell? ⟨rb, 5, none⟩ = some (.bool true) := by rw [hnull] at hb4; simp [World.cell?, hb4]
          have hbA : (W4.alloc (.cells C1 4)).heap[rb]? = _ := (heap_old W4 (.cells C1 4) hrz).trans hb4
          have k6 : (W4.alloc (.cells C1 4)).cell? ⟨rb, 6, none⟩ = some (.slice none 0 0) := by simp only [World.cell?]; rw [hbA]; rfl
          have f6 : (W4.alloc (.cells C1 4)).frozen? ⟨rb, 6, none⟩ = false := by simp only [World.frozen?]; rw [hbA]; rfl
          obtain ⟨sb2, _, _, _, _, q1, _⟩ := HA.out.grown (w' := W4) fun c hc => ((HF1.out.trans hf4).same c hc (by simp))
          have za : W4.cell? ⟨ab, 0, none⟩ = some (.slice (some ⟨sb2, 0, none⟩) n n) := by simp [World.cell?, q1]
          clear q1
          clear hcl4 hb4 hf4 hrS3 hkk hbA
          go_wp2_with fail
          go_ret
          have hB := HB4.out
          rw [hnull] at hB
          obtain ⟨hrun, hfr⟩ := runB_of HC1.out hn2 HCL4.out hB HF4.out HRW.out.1 HRW.out.2.2.1 HRW.out.2.2.2
          exact ⟨w1, gb, cb, mk, rb, rfl, HCO.out, HF1.out, hfr, .inr ⟨hnull, _, _, _, _, hrun⟩⟩
end Go.Proofs.Ybulkdxbk
