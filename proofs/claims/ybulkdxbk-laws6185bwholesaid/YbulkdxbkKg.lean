import Derived.Test.YbulkdxbkKf
namespace Go.Proofs.Ybulkdxbk
open Go.RowKit
set_option linter.unusedVariables false

theorem onSym_snoc_in {x i : Nat} {L : List (Nat × Nat)} {m : Nat × Nat} (h : L[i]? = some m) (hx : m.1 = x) : (onSym x (L.take (i + 1))).map (·.2) = (onSym x (L.take i)).map (·.2) ++ [m.2] := by
  rw [take_snoc h]; simp [onSym, List.filter_append, hx]
theorem onSym_snoc_out {x i : Nat} {L : List (Nat × Nat)} {m : Nat × Nat} (h : L[i]? = some m) (hx : ¬ m.1 = x) : (onSym x (L.take (i + 1))).map (·.2) = (onSym x (L.take i)).map (·.2) := by
  rw [take_snoc h]; simp [onSym, List.filter_append, hx]

section
variable {w wr w2 : World} {M B sk n cap : Nat} {v0 : Value} {vo : Option Addr} {T : List Nat} {p : Nat → Bool}
theorem BT.own0 (h : BT w M B sk n v0 0 [] wr vo cap T p) : wr.ownsRow B 3 1 (.slice vo T.length cap) T.length (ints T) := by simpa using h.own
theorem BT.push0 (h : BT w M B sk n v0 0 [] wr vo cap T p) {k g cap' : Nat} (ho : w2.ownsRow B 3 1 (.slice (some ⟨g, 0, none⟩) (T.length + 1) cap') (T.length + 1) (ints T ++ [.int .i64 (k : Int)])) (hf : Fr wr w2 (blks (.slice vo T.length cap))) (hm : Moved wr (.slice vo T.length cap) (.slice (some ⟨g, 0, none⟩) (T.length + 1) cap')) :
    BT w M B sk n v0 0 [] w2 (some ⟨g, 0, none⟩) cap' (T ++ [k]) p := h.push (by simpa using ho) (by simpa using hf) (by simpa using hm)
end
set_option maxRecDepth 100000 in
set_option maxHeartbeats 8000000 in
theorem model_any (wA w : World) (ab n ns st x : Nat) (MV : List (List (Nat × Nat))) (NL : List (List Nat)) (a : Option Addr) (m c b o : Nat) (S : List Nat)
    (hG : Good n MV NL) (hx : x ≤ 65536) (hA : Aut wA ab n ns st MV NL) (low : ∀ c, c < wA.heap.size → w.heap[c]? = wA.heap[c]?) (hw : wA.heap.size ≤ w.heap.size)
    (hm : m = S.length) (hm2 : m ≤ 65536) (hs : ∀ q ∈ S, q < n) (ha : 0 < m → a = some ⟨b, o, none⟩) (hr : NatsAt wA b o S) :
    Calls Yba.prog 8 #[.pointer (some ⟨ab, 0, none⟩), .slice a m c, .int .i64 (x : Int)] w fun e w' => ∃ vo cap, e = .returned (.slice vo (stepOf MV NL n x S).length cap) ∧ w'.ownsRow w.heap.size 3 1 (.slice vo (stepOf MV NL n x S).length cap) (stepOf MV NL n x S).length (ints (stepOf MV NL n x S)) ∧ Fr w w' [] := by
  have HG : Hid (Good n MV NL) := hG
  have HM : Hid (m = S.length) := hm
  have HS : Hid (∀ q ∈ S, q < n) := hs
  have HAA : Hid (0 < m → a = some ⟨b, o, none⟩) := ha
  have HR : Hid (NatsAt wA b o S) := hr
  have hn2 := hG.n2
  obtain ⟨sk, hsk⟩ : ∃ sk, sk = w.heap.size := ⟨_, rfl⟩
  have HLOW : Hid (∀ wr, Fr w wr (sk :: blks (.slice none 0 0)) → ∀ c, c < wA.heap.size → wr.heap[c]? = wA.heap[c]?) := fun wr hf c hc =>
    (hf.same c (by omega) fun hm => by
      rcases List.mem_cons.1 hm with h | h
      · omega
      · simp [blks, Value.ownBlock] at h).trans (low c hc)
  have HEND : Hid (∀ wr vo cap T p, BT w w.heap.size (w.heap.size + 1) sk n (.slice none 0 0) 0 [] wr vo cap T p → wr.ownsRow w.heap.size 3 1 (.slice vo T.length cap) T.length (ints T) ∧ Fr w wr []) := fun wr vo cap T p h => by
    refine ⟨own_base (by have := h.own; simpa using this) (fun g hg => ?_), h.fr.mono fun c hc => .inr ?_⟩
    · have := (h.own.lt g ((ownBlock_len _ _ _ _ _).trans hg)).1; omega
    · rcases List.mem_cons.1 hc with h | h
      · omega
      · simp [blks, Value.ownBlock] at h
  obtain ⟨sb, yb, fb, mb, nb, a1, a2, a3, a4⟩ := hA
  have g1 : w.heap[ab]? = _ := (low ab (blk_lt a1)).trans a1
  have z0 : w.cell? ⟨ab, 0, none⟩ = some (.slice (some ⟨sb, 0, none⟩) n n) := by simp [World.cell?, g1]
  have HA4 : Hid (wA.cell? ⟨ab, 4, none⟩ = some (.slice (some ⟨mb, 0, none⟩) n n)) := (by simp [World.cell?, a1] : wA.cell? ⟨ab, 4, none⟩ = some (.slice (some ⟨mb, 0, none⟩) n n))
  have HA5 : Hid (wA.cell? ⟨ab, 5, none⟩ = some (.slice (some ⟨nb, 0, none⟩) n n)) := (by simp [World.cell?, a1] : wA.cell? ⟨ab, 5, none⟩ = some (.slice (some ⟨nb, 0, none⟩) n n))
  have HMV : Hid (∀ (q : Nat) L, MV[q]? = some L → ∃ v, wA.cell? ⟨mb, q, none⟩ = some v ∧ IsMoves wA v L) := a3
  have HNV : Hid (NullsAt wA nb NL) := a4
  obtain ⟨i4, hi4, hz04, hz14, hz24⟩ := info_parts info4
  have mk1 : i4.bytes * n ≤ 281474976710656 := by rw [hz24]; omega
  have mk2 : n ≤ maxLen := by unfold maxLen; omega
  clear hG low hm hs ha hr a1 a2 a3 a4 g1
  go_enter Yba.func8, Yba.ntmps8
  go_wp2_with (first | (at_make; refine wpList_make_full _ rfl _ _ 30 rfl w.heap.size 4 i4 (.bool false) 1 Yba.underlying30 hi4 hz04 hz14 .i64 .i64 _ _ n rfl rfl rfl rfl mk1 mk2 (Nat.le_refl _) ?_; intro W4 hown4 hgrow4; have HOWN4 : Hid (W4.ownsRow w.heap.size 4 1 (.slice (some ⟨w.heap.size, 0, none⟩) n n) n (madeCells (Value.bool false).cells (n * 1)).toList) := hown4; have HGROW4 : Hid (w.grownBy W4 none) := hgrow4; clear hown4 hgrow4))
  rw [← hsk]
  have HI3 : Hid (BT w w.heap.size (w.heap.size + 1) sk n (.slice none 0 0) 0 [] W4 none 0 (addNew [] (targetsOf MV x (S.take 0))) (fun i => decide (i ∈ addNew [] (targetsOf MV x (S.take 0))))) := (by
    have e : (fun i => decide (i ∈ addNew [] (targetsOf MV x (S.take 0)))) = fun _ => false := by funext i; simp [targetsOf, addNew_nil]
    rw [e]
    refine ⟨by omega, World.ownsRow_nil _ _ _ _, ?_, (Fr.refl w _).grown HGROW4.out (fun b hb => by cases hb), Moved.refl _ _⟩
    have := HOWN4.out
    rw [made_bools, ← hsk] at this
    rw [← hsk]; exact this : BT w w.heap.size (w.heap.size + 1) sk n (.slice none 0 0) 0 [] W4 none 0 (addNew [] (targetsOf MV x (S.take 0))) (fun i => decide (i ∈ addNew [] (targetsOf MV x (S.take 0)))))
  have HSK : Hid (sk = w.heap.size) := hsk
  clear HOWN4 HGROW4 mk1 mk2 hi4 hz04 hz14 hz24 z0 hsk
  obtain ⟨M, hMM⟩ : ∃ M, M = w.heap.size := ⟨_, rfl⟩
  obtain ⟨B, hBB⟩ : ∃ B, B = w.heap.size + 1 := ⟨_, rfl⟩
  rw [← hBB, ← hMM] at HI3 HEND
  have hBw : B ≤ w.heap.size + 1 := by omega
  have hskB : sk + 1 = B := by have := HSK.out; omega
  have HMS : Hid (M = w.heap.size) := hMM
  clear hBB hMM
  go_loopw [9, 26] (fun s9 s26 wr => ∃ (t : Nat) (vo : Option Addr) (cap : Nat), t ≤ m ∧ s26 = .int .i64 t ∧ s9 = .slice vo (addNew [] (targetsOf MV x (S.take t))).length cap ∧ B ≤ wr.heap.size ∧ BT w M B sk n (.slice none 0 0) 0 [] wr vo cap (addNew [] (targetsOf MV x (S.take t))) (fun i => decide (i ∈ addNew [] (targetsOf MV x (S.take t))))) (fun _ s26 _ => m - (intOf s26).toNat)
  case atStart => exact ⟨0, none, 0, Nat.zero_le _, rfl, rfl, by have := (HI3.out.mark.lt sk rfl).2; omega, HI3.out⟩
  case round =>
    clear HI3
    obtain ⟨t, vo, cap, ht, rfl, rfl, hBr, hat⟩ := hrel
    rename World => wr
    by_cases htl : t < m
    · have hd : decide ((t : Int) < (m : Int)) = true := by simp; exact htl
      obtain ⟨k, hk⟩ : ∃ k, S[t]? = some k := ⟨_, List.getElem?_eq_getElem (by rw [← HM.out]; exact htl)⟩
      have hkn : k < n := HS.out k (List.mem_of_getElem? hk)
      have lowq := HLOW.out wr hat.fr
      have y1 : wr.cell? ⟨b, o + t, none⟩ = some (.int .i64 (k : Int)) := cell_of (HR.out t k hk) (lowq _ (cell_lt (HR.out t k hk)))
      have x1 := index26 (c := c) HAA.out htl
      have z4 : wr.cell? ⟨ab, 4, none⟩ = some (.slice (some ⟨mb, 0, none⟩) n n) := cell_of HA4.out (lowq _ (cell_lt HA4.out))
      have x3 := index31 (b := mb) (c := n) hkn
      obtain ⟨L, hL⟩ : ∃ L, MV[k]? = some L := ⟨_, List.getElem?_eq_getElem (by rw [HG.out.ml]; exact hkn)⟩
      obtain ⟨v, hv, hvm⟩ := HMV.out k L hL
      have z5 : wr.cell? ⟨mb, k, none⟩ = some v := cell_of hv (lowq _ (cell_lt hv))
      obtain ⟨fa, fc, fb', fo, rfl, f1, f2, f3, f4⟩ := hvm
      have hFl : L.length ≤ 1024 := HG.out.mlen k L hL
      have HF1 : Hid (0 < L.length → fa = some ⟨fb', fo, none⟩) := f1
      have HF4 : Hid (MovesAt wA fb' fo L) := f4
      have HFT : Hid (∀ mm ∈ L, mm.2 < n) := fun mm hm' => HG.out.mto k L mm hL hm'
      have HTO : Hid (onTo MV x k = (onSym x L).map (·.2)) := (by unfold onTo; rw [movesOf_at hL] : onTo MV x k = (onSym x L).map (·.2))
      have HK : Hid (S[t]? = some k) := hk
      clear hv hL lowq hk f1 f2 f3 f4
      obtain ⟨TT, hTT⟩ : ∃ TT, TT = addNew [] (targetsOf MV x (S.take t)) := ⟨_, rfl⟩
      rw [← hTT] at hat ⊢
      have HTT : Hid (TT = addNew [] (targetsOf MV x (S.take t))) := hTT
      have hTnd : TT.Nodup := by rw [hTT]; exact addNew_nodup (by simp) _
      have hTlt : ∀ y ∈ TT, y < n := fun y hy => by
        rw [hTT] at hy
        rcases addNew_mem.1 hy with h | h
        · simp at h
        · exact targets_lt HG.out x _ y h
      have HTI : Hid (TT.Nodup ∧ ∀ y ∈ TT, y < n) := ⟨hTnd, hTlt⟩
      have HAT : Hid (BT w M B sk n (.slice none 0 0) 0 [] wr vo cap TT (fun i => decide (i ∈ TT))) := hat
      clear hTT hTnd hTlt hat
      go_wp2_with fail
      clear y1 x1 x3 z4 z5 hd
      go_loopw [9, 38] (fun s9 s38 wr => ∃ (i : Nat) (vo : Option Addr) (cap : Nat), i ≤ L.length ∧ s38 = .int .i64 i ∧ s9 = .slice vo (addNew TT ((onSym x (L.take i)).map (·.2))).length cap ∧ B ≤ wr.heap.size ∧ BT w M B sk n (.slice none 0 0) 0 [] wr vo cap (addNew TT ((onSym x (L.take i)).map (·.2))) (fun y => decide (y ∈ addNew TT ((onSym x (L.take i)).map (·.2))))) (fun _ s38 _ => L.length - (intOf s38).toNat)
      case atStart => exact ⟨0, vo, cap, Nat.zero_le _, rfl, rfl, hBr, HAT.out⟩
      case round =>
        clear HAT hBr
        obtain ⟨i, vo, cap, hi, rfl, rfl, hBr, hat⟩ := hrel
        rename World => wp
        by_cases hil : i < L.length
        · have hd : decide ((i : Int) < (L.length : Int)) = true := by simp; exact hil
          obtain ⟨⟨ms, mt⟩, hmm⟩ : ∃ mm, L[i]? = some mm := ⟨_, List.getElem?_eq_getElem hil⟩
          have hmn : mt < n := HFT.out (ms, mt) (List.mem_of_getElem? hmm)
          have lowp := HLOW.out wp hat.fr
          obtain ⟨f5, f6⟩ := HF4.out i (ms, mt) hmm
          have y5 : wp.cell? ⟨fb', fo + i * 2, none⟩ = some (.int .i64 (ms : Int)) := cell_of f5 (lowp _ (cell_lt f5))
          have y6 : wp.cell? ⟨fb', fo + i * 2 + 1, none⟩ = some (.int .i64 (mt : Int)) := cell_of f6 (lowp _ (cell_lt f6))
          have x5 := index54 (c := fc) HF1.out hil
          have x6 := index30 (b := sk) (c := n) hmn
          have HMM : Hid (L[i]? = some (ms, mt)) := hmm
          have hat1 := hat.alloc (.cells #[.int .i64 (ms : Int), .int .i64 (mt : Int)] 56)
          obtain ⟨ck, fk⟩ := hat1.at hmn
          have HAT : Hid (BT w M B sk n (.slice none 0 0) 0 [] (wp.alloc (.cells #[.int .i64 (ms : Int), .int .i64 (mt : Int)] 56)) vo cap (addNew TT ((onSym x (L.take i)).map (·.2))) (fun y => decide (y ∈ addNew TT ((onSym x (L.take i)).map (·.2))))) := hat1
          clear f5 f6 lowp hat hat1 hmm
          have HBR : Hid (B ≤ wp.heap.size) := hBr
          by_cases hsx : ms = x
          · obtain rfl : x = ms := hsx.symm
            have HE8 : Hid ((onSym x (L.take (i + 1))).map (·.2) = (onSym x (L.take i)).map (·.2) ++ [mt]) := onSym_snoc_in HMM.out rfl
            by_cases hmem : mt ∈ addNew TT ((onSym x (L.take i)).map (·.2))
            · have e1 : decide (mt ∈ addNew TT ((onSym x (L.take i)).map (·.2))) = true := decide_eq_true hmem
              rw [e1] at ck
              clear e1
              go_wp2_with fail
              go_roundw
              case rel =>
                have e9 : addNew TT ((onSym x (L.take (i + 1))).map (·.2)) = addNew TT ((onSym x (L.take i)).map (·.2)) := by rw [HE8.out, addNew_snoc_in hmem]
                refine ⟨i + 1, vo, cap, by omega, by go_num, by rw [e9], ?_, by rw [e9]; exact HAT.out⟩
                have := HBR.out; simp; omega
              case measure => simp [intOf]; omega
            · have e1 : decide (mt ∈ addNew TT ((onSym x (L.take i)).map (·.2))) = false := decide_eq_false hmem
              rw [e1] at ck
              clear e1 hBr
              go_upto_region 12 with fail
              have hfl := HAT.out.flip mt true
              rw [marks_push] at hfl
              have hb1 : ((wp.alloc (.cells #[.int .i64 (x : Int), .int .i64 (mt : Int)] 56)).setCell ⟨sk, mt, none⟩ (.bool true)).heap[wp.heap.size]? = some (.cells #[.int .i64 (x : Int), .int .i64 (mt : Int)] 56) := (setCell_far (by have := HBR.out; omega) _ _).trans (heap_new _ _)
              have hBW : B ≤ ((wp.alloc (.cells #[.int .i64 (x : Int), .int .i64 (mt : Int)] 56)).setCell ⟨sk, mt, none⟩ (.bool true)).heap.size := by rw [setCell_size]; have := HBR.out; simp; omega
              clear ck fk y5 y6
              generalize (wp.alloc (.cells #[.int .i64 (x : Int), .int .i64 (mt : Int)] 56)).setCell ⟨sk, mt, none⟩ (.bool true) = W at *
              have cb1 : W.cell? ⟨wp.heap.size, 1, none⟩ = some (.int .i64 (mt : Int)) := by simp [World.cell?, hb1]
              have hlen : (addNew TT ((onSym x (L.take i)).map (·.2))).length ≤ 1000 := by
                have := len_le_of_nodup n _ (addNew_nodup HTI.out.1 ((onSym x (L.take i)).map (·.2))) (fun y hy => by
                  rcases addNew_mem.1 hy with h | h
                  · exact HTI.out.2 y h
                  · obtain ⟨m', hm', rfl⟩ := List.mem_map.1 h
                    exact HFT.out m' (List.mem_of_mem_take (List.mem_filter.1 hm').1))
                omega
              have HW : Hid (BT w M B sk n (.slice none 0 0) 0 [] W vo cap (addNew TT ((onSym x (L.take i)).map (·.2))) (fun y => decide (y ∈ addNew TT ((onSym x (L.take i)).map (·.2)) ++ [mt]))) := hfl
              have HOW : Hid (W.ownsRow B 3 1 (.slice vo (addNew TT ((onSym x (L.take i)).map (·.2))).length cap) (addNew TT ((onSym x (L.take i)).map (·.2))).length (ints (addNew TT ((onSym x (L.take i)).map (·.2))))) := hfl.own0
              clear hfl hb1 HAT
              generalize hT3 : addNew TT ((onSym x (L.take i)).map (·.2)) = T3 at *
              have HT3 : Hid (addNew TT ((onSym x (L.take i)).map (·.2)) = T3) := hT3
              clear hT3
              go_wp2_with (first | (at_builtin; refine wpList_app1 rfl _ _ rfl W (mt : Int) rfl HOW.out rfl (by omega) hBW ?_; intro g cap' w2 h1 h2 h3; have H1 : Hid (w2.ownsRow B 3 1 (.slice (some ⟨g, 0, none⟩) (T3.length + 1) cap') (T3.length + 1) (ints T3 ++ [.int .i64 (mt : Int)])) := h1; have H2 : Hid (Fr W w2 (blks (.slice vo T3.length cap))) := h2; have H3 : Hid (Moved W (.slice vo T3.length cap) (.slice (some ⟨g, 0, none⟩) (T3.length + 1) cap')) := h3; clear h1 h2 h3))
              go_roundw
              case rel =>
                have e9 : addNew TT ((onSym x (L.take (i + 1))).map (·.2)) = T3 ++ [mt] := by rw [HE8.out, addNew_snoc_out (by rw [HT3.out]; exact hmem), HT3.out]
                refine ⟨i + 1, some ⟨g, 0, none⟩, cap', by omega, by go_num, ?_, Nat.le_trans hBW H2.out.size, ?_⟩
                · rw [e9]; simp
                · rw [e9]; exact HW.out.push0 H1.out H2.out H3.out
              case measure => simp [intOf]; omega
          · have hsd : ((ms : Int) == (x : Int)) = false := by simp; omega
            have hsd' : ¬ (((ms : Nat) : Int) = (x : Int)) := by omega
            have HE8 : Hid ((onSym x (L.take (i + 1))).map (·.2) = (onSym x (L.take i)).map (·.2)) := onSym_snoc_out HMM.out hsx
            clear hsx ck fk
            go_wp2_with fail
            go_roundw
            case rel =>
              have e9 : addNew TT ((onSym x (L.take (i + 1))).map (·.2)) = addNew TT ((onSym x (L.take i)).map (·.2)) := by rw [HE8.out]
              refine ⟨i + 1, vo, cap, by omega, by go_num, by rw [e9], ?_, by rw [e9]; exact HAT.out⟩
              have := HBR.out; simp; omega
            case measure => simp [intOf]; omega
        · have hd : decide ((i : Int) < (L.length : Int)) = false := by simp; omega
          have htk : L.take i = L := List.take_of_length_le (by omega)
          have e10 : addNew TT ((onSym x (L.take i)).map (·.2)) = addNew [] (targetsOf MV x (S.take (t + 1))) := by rw [htk, ← HTO.out, HTT.out, targetsOf_snoc HK.out, addNew_app]
          rw [e10] at hat ⊢
          have HATE : Hid (BT w M B sk n (.slice none 0 0) 0 [] wp vo cap (addNew [] (targetsOf MV x (S.take (t + 1)))) (fun y => decide (y ∈ addNew [] (targetsOf MV x (S.take (t + 1)))))) := hat
          clear hat htk e10
          go_wp2_with fail
          go_roundw
          case rel => exact ⟨t + 1, vo, cap, by omega, by go_num, rfl, hBr, HATE.out⟩
          case measure => simp [intOf]; omega
    · have hd : decide ((t : Int) < (m : Int)) = false := by simp; omega
      have htk : S.take t = S := List.take_of_length_le (by rw [← HM.out]; omega)
      rw [htk] at hat ⊢
      have hnd : (addNew [] (targetsOf MV x S)).Nodup := addNew_nodup (by simp) _
      have hlt : ∀ y ∈ addNew [] (targetsOf MV x S), y < n := fun y hy => by
        rcases addNew_mem.1 hy with h | h
        · simp at h
        · exact targets_lt HG.out x S y h
      obtain ⟨out, hout⟩ : ∃ out, out = addNew [] (targetsOf MV x S) := ⟨_, rfl⟩
      rw [← hout] at hat hnd hlt ⊢
      have HI : Hid (BT w M B sk n (.slice none 0 0) 0 [] wr vo cap out (fun i => decide (i ∈ out)) ∧ out.Nodup ∧ (∀ y ∈ out, y < n) ∧ bfs (nullOf NL) (n - 0) out 0 = stepOf MV NL n x S) := ⟨hat, hnd, hlt, by rw [hout]; rfl⟩
      clear hat hnd hlt hout htk HAA HR HS HM
      go_wp2_with fail
      go_loopw [9, 14] (fun s9 s14 wq => ∃ (i : Nat) (vo : Option Addr) (cap : Nat) (out : List Nat), i ≤ n ∧ s14 = .int .i64 i ∧ s9 = .slice vo out.length cap ∧ B ≤ wq.heap.size ∧ BT w M B sk n (.slice none 0 0) 0 [] wq vo cap out (fun i => decide (i ∈ out)) ∧ Hid (out.Nodup ∧ (∀ y ∈ out, y < n) ∧ bfs (nullOf NL) (n - i) out i = stepOf MV NL n x S)) (fun _ s14 _ => n - (intOf s14).toNat)
      case atStart => exact ⟨0, vo, cap, out, Nat.zero_le _, rfl, rfl, hBr, HI.out.1, HI.out.2⟩
      case round =>
        clear HI hBr
        obtain ⟨i, vo, cap, out, hin, rfl, rfl, hBr, hat, HB⟩ := hrel
        rename World => wq
        have hol : out.length ≤ n := len_le_of_nodup n out HB.out.1 HB.out.2.1
        by_cases hil : i < out.length
        · have hd2 : decide ((i : Int) < (out.length : Int)) = true := by simp; exact hil
          obtain ⟨k, hk⟩ : ∃ k, out[i]? = some k := ⟨_, List.getElem?_eq_getElem hil⟩
          have hkn : k < n := HB.out.2.1 k (List.mem_of_getElem? hk)
          obtain ⟨vo', cap', g, e1, e2, e3, e4⟩ := own_form hat.own0
          cases e1
          have e5 := e2 (by omega)
          subst e5
          have y1 : wq.cell? ⟨g, i, none⟩ = some (.int .i64 (k : Int)) := own_cell hat.own0 (ints_get hk)
          have x1 := index26z (b := g) (c := cap) hil
          have lowq := HLOW.out wq hat.fr
          have z5 : wq.cell? ⟨ab, 5, none⟩ = some (.slice (some ⟨nb, 0, none⟩) n n) := cell_of HA5.out (lowq _ (cell_lt HA5.out))
          have x3 := index32 (b := nb) (c := n) hkn
          obtain ⟨L, hL⟩ : ∃ L, NL[k]? = some L := ⟨_, List.getElem?_eq_getElem (by rw [HG.out.nl]; exact hkn)⟩
          obtain ⟨na, nc, nb', no, hv, f1, f2, f3, f4⟩ := HNV.out.get hL
          have z6 : wq.cell? ⟨nb, k, none⟩ = some (.slice na L.length nc) := cell_of hv (lowq _ (cell_lt hv))
          have hLn : L.length ≤ 256 := Nat.le_trans (HG.out.nlen hL) hn2
          have HLl : Hid (∀ y ∈ L, y < n) := fun y hy => (HG.out.nto k L y hL hy).2
          have HNEXT : Hid (bfs (nullOf NL) (n - (i + 1)) (addNew out L) (i + 1) = stepOf MV NL n x S) := by
            have h1 := HB.out.2.2
            rw [show n - i = n - (i + 1) + 1 by omega, bfs_step hk, nullOf_at hL] at h1
            exact h1
          have HF1 : Hid (0 < L.length → na = some ⟨nb', no, none⟩) := f1
          have HF4 : Hid (NatsAt wA nb' no L) := f4
          have HAT : Hid (BT w M B sk n (.slice none 0 0) 0 [] wq (some ⟨g, 0, none⟩) cap out (fun i => decide (i ∈ out))) := hat
          clear hat e2 e3 e4 hk lowq hL hv f1 f2 f3 f4
          go_wp2_with fail
          go_quiet (fail)
          have HAT2 : Hid (BT w M B sk n (.slice none 0 0) 0 [] (wq.drewN nq) (some ⟨g, 0, none⟩) cap out (fun i => decide (i ∈ out))) := HAT.out.drewN nq
          have hBr2 : B ≤ (wq.drewN nq).heap.size := hBr
          clear HAT y1 z5 z6 x1 x3 hBr
          go_wp2_with fail
          go_loopw [9, 82] (fun s9 s82 wr => ∃ (t : Nat) (vo : Option Addr) (cap : Nat), t ≤ L.length ∧ s82 = .int .i64 t ∧ s9 = .slice vo (addNew out (L.take t)).length cap ∧ B ≤ wr.heap.size ∧ BT w M B sk n (.slice none 0 0) 0 [] wr vo cap (addNew out (L.take t)) (fun i => decide (i ∈ addNew out (L.take t)))) (fun _ s82 _ => L.length - (intOf s82).toNat)
          case atStart => exact ⟨0, some ⟨g, 0, none⟩, cap, Nat.zero_le _, rfl, rfl, hBr2, HAT2.out⟩
          case round =>
            clear HAT2 hBr2 hd2
            obtain ⟨t, vo, cap, ht, rfl, rfl, hBr, hat⟩ := hrel
            rename World => wp
            by_cases htl : t < L.length
            · have hd : decide ((t : Int) < (L.length : Int)) = true := by simp; exact htl
              obtain ⟨j, hj⟩ : ∃ j, L[t]? = some j := ⟨_, List.getElem?_eq_getElem htl⟩
              have hjn : j < n := HLl.out j (List.mem_of_getElem? hj)
              have lowp := HLOW.out wp hat.fr
              have y1 : wp.cell? ⟨nb', no + t, none⟩ = some (.int .i64 (j : Int)) := cell_of (HF4.out t j hj) (lowp _ (cell_lt (HF4.out t j hj)))
              have x1 := index26 (c := nc) HF1.out htl
              have x2 := index30 (b := sk) (c := n) hjn
              obtain ⟨ck, fk⟩ := hat.at hjn
              have HAT : Hid (BT w M B sk n (.slice none 0 0) 0 [] wp vo cap (addNew out (L.take t)) (fun i => decide (i ∈ addNew out (L.take t)))) := hat
              have HK : Hid (L[t]? = some j) := hj
              have HBR : Hid (B ≤ wp.heap.size) := hBr
              clear hj hat lowp hBr
              by_cases hmem : j ∈ addNew out (L.take t)
              · have e1 : decide (j ∈ addNew out (L.take t)) = true := decide_eq_true hmem
                rw [e1] at ck
                clear e1
                go_wp2_with fail
                go_roundw
                case rel =>
                  have e9 : addNew out (L.take (t + 1)) = addNew out (L.take t) := by rw [take_snoc HK.out, addNew_snoc_in hmem]
                  exact ⟨t + 1, vo, cap, by omega, by go_num, by rw [e9], HBR.out, by rw [e9]; exact HAT.out⟩
                case measure => simp [intOf]; omega
              · have e1 : decide (j ∈ addNew out (L.take t)) = false := decide_eq_false hmem
                rw [e1] at ck
                clear e1
                go_upto_region 23 with fail
                have hfl := HAT.out.flip j true
                rw [marks_push] at hfl
                have hBW : B ≤ (wp.setCell ⟨sk, j, none⟩ (.bool true)).heap.size := by rw [setCell_size]; exact HBR.out
                clear ck fk y1
                generalize wp.setCell ⟨sk, j, none⟩ (.bool true) = W at *
                have hlen : (addNew out (L.take t)).length ≤ 1000 := by
                  have := len_le_of_nodup n _ (addNew_nodup HB.out.1 (L.take t)) (fun y hy => by
                    rcases addNew_mem.1 hy with h | h
                    · exact HB.out.2.1 y h
                    · exact HLl.out y (List.mem_of_mem_take h))
                  omega
                have HW : Hid (BT w M B sk n (.slice none 0 0) 0 [] W vo cap (addNew out (L.take t)) (fun y => decide (y ∈ addNew out (L.take t) ++ [j]))) := hfl
                have HOW : Hid (W.ownsRow B 3 1 (.slice vo (addNew out (L.take t)).length cap) (addNew out (L.take t)).length (ints (addNew out (L.take t)))) := hfl.own0
                clear hfl HAT
                generalize hT3 : addNew out (L.take t) = T3 at *
                have HT3 : Hid (addNew out (L.take t) = T3) := hT3
                clear hT3
                go_wp2_with (first | (at_builtin; refine wpList_app1 rfl _ _ rfl W (j : Int) rfl HOW.out rfl (by omega) hBW ?_; intro g cap' w2 h1 h2 h3; have H1 : Hid (w2.ownsRow B 3 1 (.slice (some ⟨g, 0, none⟩) (T3.length + 1) cap') (T3.length + 1) (ints T3 ++ [.int .i64 (j : Int)])) := h1; have H2 : Hid (Fr W w2 (blks (.slice vo T3.length cap))) := h2; have H3 : Hid (Moved W (.slice vo T3.length cap) (.slice (some ⟨g, 0, none⟩) (T3.length + 1) cap')) := h3; clear h1 h2 h3))
                go_roundw
                case rel =>
                  have e9 : addNew out (L.take (t + 1)) = T3 ++ [j] := by rw [take_snoc HK.out, addNew_snoc_out (by rw [HT3.out]; exact hmem), HT3.out]
                  refine ⟨t + 1, some ⟨g, 0, none⟩, cap', by omega, by go_num, ?_, Nat.le_trans hBW H2.out.size, ?_⟩
                  · rw [e9]; simp
                  · rw [e9]; exact HW.out.push0 H1.out H2.out H3.out
                case measure => simp [intOf]; omega
            · have hd : decide ((t : Int) < (L.length : Int)) = false := by simp; omega
              have htk : L.take t = L := List.take_of_length_le (by omega)
              rw [htk] at hat ⊢
              have HATE : Hid (BT w M B sk n (.slice none 0 0) 0 [] wp vo cap (addNew out L) (fun y => decide (y ∈ addNew out L))) := hat
              clear hat htk
              go_wp2_with fail
              go_roundw
              case rel =>
                refine ⟨i + 1, vo, cap, addNew out L, by omega, by go_num, rfl, hBr, HATE.out, ?_⟩
                exact (⟨addNew_nodup HB.out.1 L, fun y hy => by
                  rcases addNew_mem.1 hy with h | h
                  · exact HB.out.2.1 y h
                  · exact HLl.out y h, HNEXT.out⟩ : (addNew out L).Nodup ∧ (∀ y ∈ addNew out L, y < n) ∧ bfs (nullOf NL) (n - (i + 1)) (addNew out L) (i + 1) = stepOf MV NL n x S)
              case measure => simp [intOf]; omega
        · have hd2 : decide ((i : Int) < (out.length : Int)) = false := by simp; omega
          have hRo : out = stepOf MV NL n x S := by rw [← HB.out.2.2]; exact (bfs_done (by omega)).symm
          have HRO : Hid (out = stepOf MV NL n x S) := hRo
          have HE : Hid (wq.ownsRow w.heap.size 3 1 (.slice vo out.length cap) out.length (ints out) ∧ Fr w wq []) := by
            have := HEND.out wq vo cap out _ hat
            rw [HMS.out] at this; exact this
          clear hRo hat
          go_wp2_with fail
          go_ret
          refine ⟨vo, cap, ?_, ?_, HE.out.2⟩
          · rw [← HRO.out]; rfl
          · rw [← HRO.out]; exact HE.out.1
end Go.Proofs.Ybulkdxbk
