import Derived.Test.YbulkdxeqBb
namespace Go.Proofs.Ybulkdxeq
open Go.RowKit
set_option linter.unusedVariables false

set_option maxRecDepth 100000 in
set_option maxHeartbeats 8000000 in
theorem law (br ub : Bool) (id flags : Int) (a1 : Option Addr) (n1 cp1 : Nat) (key value : ByteArray) (E : List SE) (eb eo : Nat) (w : World)
    (hn1 : n1 ≤ 4096) (hE : E.length = n1) (ha1 : 0 < n1 → a1 = some ⟨eb, eo, none⟩) (hb1 : 0 < n1 → eb < w.heap.size) (hr1 : RowIn w eb eo E) :
    Calls Yba.prog 3 #[.bool br, .int .u64 id, .bool ub, .slice a1 n1 cp1, .int .u32 flags, .string key, .string value] w fun e w' => e = .returned (.bool true) ∧ Below w.heap.size w w' := by
  have hn1' : (n1 : Int) ≤ 4096 := by omega
  have hd1 : decide ((4096 : Int) < (n1 : Int)) = false := by simp; omega
  have HE : Hid (E.length = n1) := hE
  have HA1 : Hid (0 < n1 → a1 = some ⟨eb, eo, none⟩) := ha1
  have HB1 : Hid (0 < n1 → eb < w.heap.size) := hb1
  have HR1 : Hid (RowIn w eb eo E) := hr1
  clear hE ha1 hb1 hr1
  go_enter Yba.func3, Yba.ntmps3
  go_wp2_with fail
  go_loopw [15, 38] (fun v i wr => ∃ (k : Nat) (L : List SE), k ≤ n1 ∧ i = .int .i64 k ∧ Srt w.heap.size wr v L ∧ L.length ≤ k ∧ Below w.heap.size w wr) (fun _ i _ => n1 - (intOf i).toNat)
  case atStart => exact ⟨0, [], Nat.zero_le _, rfl, ⟨⟨rfl, .inl ⟨rfl, rfl⟩⟩, by simp [Asc]⟩, Nat.le_refl _, Below.refl _ _⟩
  case round =>
    obtain ⟨k, L, hk, rfl, hsrt, hLk, hbel⟩ := hrel
    have HBEL : Hid (Below w.heap.size w wr) := hbel
    obtain ⟨vo, cp, g, rfl, hvo, hvo2, hvo3⟩ := hsrt.form
    have HS : Hid (Srt w.heap.size wr (.slice vo L.length cp) L) := hsrt
    have HVO : Hid ((0 < L.length → vo = some ⟨g, 0, none⟩) ∧ (vo = none ∨ vo = some ⟨g, 0, none⟩) ∧ (vo = none → cp = 0)) := ⟨hvo, hvo2, hvo3⟩
    have hbz := hbel.size
    have hL96 : L.length ≤ 4096 := by omega
    obtain ⟨n, hn⟩ : ∃ n, n = L.length := ⟨_, rfl⟩
    have HN : Hid (n = L.length) := hn
    rw [← hn] at hLk hL96 ⊢
    clear hsrt hbel hvo hvo2 hvo3 hn
    by_cases hlt : k < n1
    · obtain ⟨e, he⟩ : ∃ e, E[k]? = some e := ⟨_, List.getElem?_eq_getElem (by rw [HE.out]; exact hlt)⟩
      obtain ⟨q1, q2, q3, q4⟩ := HR1.out k e he
      have hix := index23 (c := cp1) HA1.out hlt
      have hbe := HB1.out (by omega)
      have g1 := (HBEL.out.cell (p := ⟨eb, _, none⟩) hbe).trans q1
      have g2 := (HBEL.out.cell (p := ⟨eb, _, none⟩) hbe).trans q2
      have g3 := (HBEL.out.cell (p := ⟨eb, _, none⟩) hbe).trans q3
      have g4 := (HBEL.out.cell (p := ⟨eb, _, none⟩) hbe).trans q4
      clear q1 q2 q3 q4 he
      go_upto_region 7 with fail
      have hsW : Srt w.heap.size (wr.alloc (ebox e)) (.slice vo L.length cp) L := HS.out.grown (fun c hc => heap_old _ _ hc)
      have heb : (wr.alloc (ebox e)).heap[wr.heap.size]? = some (ebox e) := heap_new _ _
      have hbW : Below w.heap.size w (wr.alloc (ebox e)) := HBEL.out.alloc (by omega) _
      obtain ⟨eB, heB⟩ : ∃ eB, eB = wr.heap.size := ⟨_, rfl⟩
      rw [← heB] at heb ⊢
      have hzW : w.heap.size ≤ eB := by omega
      have HGE : Hid (∀ b, (Value.slice vo n cp).ownBlock = some b → b < eB) := by
        intro b hb; rw [heB]; rw [HN.out] at hb; exact (HS.out.own.lt b hb).2
      clear HS HBEL g1 g2 g3 g4 hix hbz heB
      generalize wr.alloc (ebox e) = W at *
      have HSW : Hid (Srt w.heap.size W (.slice vo L.length cp) L) := hsW
      have HEB : Hid (W.heap[eB]? = some (ebox e)) := heb
      have HBW : Hid (Below w.heap.size w W) := hbW
      have x0 : W.cell? ⟨eB, 0, none⟩ = some (.int .u32 e.f) := by simp [World.cell?, heb]
      have x1 : W.cell? ⟨eB, 1, none⟩ = some (.string e.k) := by simp [World.cell?, heb]
      have x2 : W.cell? ⟨eB, 2, none⟩ = some (.string e.v) := by simp [World.cell?, heb]
      have x3 : W.cell? ⟨eB, 3, none⟩ = some (.int .u64 e.c) := by simp [World.cell?, heb]
      clear hsW heb hbW
      go_wp2_with fail
      go_loopw [18] (fun p wx => ∃ pn q : Nat, pn ≤ n ∧ p = .int .i64 pn ∧ wx = W.drewN q ∧ Hid (∀ t e', t < pn → L[t]? = some e' → Lt e'.k e.k)) (fun p _ => n - (intOf p).toNat)
      case atStart => exact ⟨0, 0, Nat.zero_le _, rfl, rfl, (fun t e' ht => absurd ht (Nat.not_lt_zero _) : ∀ t e', t < 0 → L[t]? = some e' → Lt e'.k e.k)⟩
      case round =>
        obtain ⟨pn, q, hpn, rfl, rfl, HLO⟩ := hrel
        go_upto_region 8 with fail
        go_cut [56] from 42 to 56 (fun s wx => ∃ (b : Bool) (q' : Nat), s = .bool b ∧ wx = W.drewN q' ∧ Hid ((b = true → pn < n ∧ ∀ e', L[pn]? = some e' → Lt e'.k e.k) ∧ (b = false → ∀ e', L[pn]? = some e' → ¬ Lt e'.k e.k)))
        case first =>
          by_cases hpl : pn < n
          · have hpd : decide ((pn : Int) < (n : Int)) = true := by simp; exact hpl
            obtain ⟨e', he'⟩ : ∃ e', L[pn]? = some e' := ⟨_, List.getElem?_eq_getElem (by rw [← HN.out]; exact hpl)⟩
            obtain ⟨y0, y1, y2, y3⟩ := HSW.out.cell HVO.out.1 he'
            have hxp := index23o (vo := vo) (g := g) (c := cp) (by rw [HN.out]; exact HVO.out.1) hpl
            have HE' : Hid (L[pn]? = some e') := he'
            clear y0 y2 y3 he'
            go_quiet ((go_at_call 5; refine (stringsCompare _ _ _).mono ?_; rintro e w' ⟨rfl, rfl⟩; exact ⟨rfl, _, rfl⟩))
            go_wp2_with fail
            go_meet
            case rel =>
              refine ⟨_, q + nq, rfl, by simp, ?_⟩
              refine (⟨fun h => ⟨hpl, fun x hx => ?_⟩, fun h x hx => ?_⟩ : (decide (Lib.compareBytes e'.k.data.toList e.k.data.toList < 0) = true → pn < n ∧ ∀ e', L[pn]? = some e' → Lt e'.k e.k) ∧ (decide (Lib.compareBytes e'.k.data.toList e.k.data.toList < 0) = false → ∀ e', L[pn]? = some e' → ¬ Lt e'.k e.k))
              · rw [HE'.out] at hx; cases hx; show Lib.compareBytes _ _ < 0; exact of_decide_eq_true h
              · rw [HE'.out] at hx; cases hx; show ¬ (Lib.compareBytes _ _ < 0); exact of_decide_eq_false h
          · have hpd : decide ((pn : Int) < (n : Int)) = false := by simp; omega
            go_quiet (fail)
            go_wp2_with fail
            go_meet
            case rel =>
              refine ⟨_, q + nq, rfl, by simp, ?_⟩
              refine (⟨(fun h => by cases h), fun h x hx => ?_⟩ : (false = true → pn < n ∧ ∀ e', L[pn]? = some e' → Lt e'.k e.k) ∧ (false = false → ∀ e', L[pn]? = some e' → ¬ Lt e'.k e.k))
              have := (List.getElem?_eq_some_iff.1 hx).1
              rw [← HN.out] at this; omega
        case rest =>
          obtain ⟨b, q', rfl, rfl, HB⟩ := hcut
          cases b with
          | true =>
            have hpl : pn < n := (HB.out.1 rfl).1
            go_wp2_with fail
            go_roundw
            case rel =>
              refine ⟨pn + 1, q', by omega, by go_num, rfl, ?_⟩
              refine (fun t e' ht hx => ?_ : ∀ t e', t < pn + 1 → L[t]? = some e' → Lt e'.k e.k)
              by_cases ht' : t < pn
              · exact HLO.out t e' ht' hx
              · rw [show t = pn by omega] at hx; exact (HB.out.1 rfl).2 e' hx
            case measure => simp [intOf]; omega
          | false =>
            have HSP : Hid (Spot (L.map (·.k)) e.k pn) := spot_keys HSW.out.asc HN.out hpn HLO.out (HB.out.2 rfl)
            clear HB HLO
            go_upto_region 10 with fail
            go_cut [72] from 59 to 72 (fun s wx => ∃ (b : Bool) (q' : Nat), s = .bool b ∧ wx = W.drewN q' ∧ Hid (b = false → (L.map (·.k))[pn]? ≠ some e.k))
            case first =>
              by_cases hpl : pn < n
              · have hpd : decide ((pn : Int) < (n : Int)) = true := by simp; exact hpl
                obtain ⟨e', he'⟩ : ∃ e', L[pn]? = some e' := ⟨_, List.getElem?_eq_getElem (by rw [← HN.out]; exact hpl)⟩
                obtain ⟨y0, y1, y2, y3⟩ := HSW.out.cell HVO.out.1 he'
                have hxp := index23o (vo := vo) (g := g) (c := cp) (by rw [HN.out]; exact HVO.out.1) hpl
                have HE' : Hid (L[pn]? = some e') := he'
                clear y0 y2 y3 he'
                go_quiet (fail)
                go_wp2_with fail
                go_meet
                case rel =>
                  refine ⟨_, q' + nq, rfl, by simp, ?_⟩
                  refine (fun h hx => ?_ : (e'.k.toList == e.k.toList) = false → (L.map (·.k))[pn]? ≠ some e.k)
                  rw [List.getElem?_map, HE'.out] at hx
                  simp at hx
                  exact (Lib.bytes_beq_false_iff _ _).1 h hx
              · have hpd : decide ((pn : Int) < (n : Int)) = false := by simp; omega
                go_quiet (fail)
                go_wp2_with fail
                go_meet
                case rel =>
                  refine ⟨_, q' + nq, rfl, by simp, ?_⟩
                  refine (fun h hx => ?_ : false = false → (L.map (·.k))[pn]? ≠ some e.k)
                  have := (List.getElem?_eq_some_iff.1 hx).1
                  simp at this
                  rw [← HN.out] at this; omega
            case rest =>
              obtain ⟨b, q'', rfl, rfl, HB⟩ := hcut
              cases b with
              | true =>
                go_wp2_with fail
                go_roundw
                case rel =>
                  exact ⟨k + 1, L, by omega, by go_num, by rw [HN.out]; exact HSW.out.same (fun _ _ => rfl), by rw [← HN.out]; omega, bel_drewN HBW.out _⟩
                case measure => simp [intOf]; omega
              | false =>
                have HNE : Hid ((L.map (·.k))[pn]? ≠ some e.k) := HB.out rfl
                clear HB x0 x1 x2 x3
                have HS2 : Hid (Srt w.heap.size (W.drewN q'') (.slice vo L.length cp) L) := HSW.out.same (fun _ _ => rfl)
                have HEB2 : Hid ((W.drewN q'').heap[eB]? = some (ebox e)) := HEB.out
                have HBW2 : Hid (Below w.heap.size w (W.drewN q'')) := bel_drewN HBW.out _
                have HASC : Hid (Asc (L.map (·.k))) := HSW.out.asc
                clear HSW HEB HBW
                generalize W.drewN q'' = W2 at *
                obtain ⟨i0, hi, hz0, hz1, hz2⟩ := info_parts info26
                have hown : W2.ownsRow w.heap.size 26 4 (.slice vo n cp) n (L.flatMap cells4) := by have := HS2.out.own; rw [← HN.out] at this; exact this
                have HOWN : Hid (W2.ownsRow w.heap.size 26 4 (.slice vo n cp) n (L.flatMap cells4)) := hown
                have hbz := HBW2.out.size
                have hebz : eB < W2.heap.size := blk_lt' HEB2.out
                have hn1 : ∀ j u, (cells4 Z4)[j]? = some u → (W2.alloc (.cells (cells4 Z4).toArray 26)).cell? ((⟨W2.heap.size, 0, none⟩ : Addr).add j) = some u := fun j u hu => World.news_of_block (heap_new W2 _) j u hu
                have hn2 := one4 Z4
                have hn3 : n + 1 ≤ maxLen := by unfold maxLen; omega
                have hn4 : (n + 1) * 48 ≤ 140737488355328 := by omega
                have hn5 : w.heap.size ≤ (W2.alloc (.cells (cells4 Z4).toArray 26)).heap.size := by simp; omega
                have hn6 : (W2.alloc (.cells (cells4 Z4).toArray 26)).heap.size = W2.heap.size + 1 := by simp
                clear hown
                go_wp2_with (first | (at_builtin; refine wpList_append_lies _ rfl _ _ 23 rfl w.heap.size 26 i0 (.agg #[.int .u32 0, .string ⟨#[]⟩, .string ⟨#[]⟩, .int .u64 0]) 4 48 Yba.underlying23 hi hz0 hz1 hz2 rfl (by decide) (.slice vo n cp) n (L.flatMap cells4) rfl (HOWN.out.alloc _) ⟨W2.heap.size, 0, none⟩ 1 1 (cells4 Z4) rfl rfl hn1 hn2 (by omega) hn3 hn4 hn5 (W2.heap.size + 1) hn6 ?_; intro g2 cap2 W3 hown3 hgrow3 hat3 hlt3; have HOWN3 : Hid _ := hown3; have HGROW3 : Hid _ := hgrow3; have HAT3 : Hid _ := hat3; clear hown3 hgrow3 hat3))
                have hg2e : g2 ≠ eB := by
                  rcases HAT3.out with h | h
                  · have := HGE.out g2 h; omega
                  · omega
                have hg2w : w.heap.size ≤ g2 := by
                  rcases HAT3.out with h | h
                  · exact (HOWN.out.lt g2 h).1
                  · omega
                have heb3 : W3.heap[eB]? = some (ebox e) := (HGROW3.out.block eB (by simp; omega) (fun h => by have := HGE.out eB h.symm; omega)).trans ((heap_old _ _ hebz).trans HEB2.out)
                have hbel3 : Below w.heap.size w W3 := (HBW2.out.alloc (by omega) _).grown HGROW3.out (by simp; omega) (fun b hb => (HOWN.out.lt b hb).1)
                have hown3 : W3.ownsRow w.heap.size 26 4 (.slice (some ⟨g2, 0, none⟩) (n + 1) cap2) (n + 1) ((L.take n ++ Z4 :: L.drop n).flatMap cells4) := by
                  have := HOWN3.out
                  rw [HN.out, List.take_length, List.drop_length]
                  rw [HN.out] at this
                  rw [show (L ++ [Z4]).flatMap cells4 = L.flatMap cells4 ++ cells4 Z4 by simp]
                  exact this
                have hpnn : pn ≤ n := hpn
                have HI3 : Hid (W3.heap[eB]? = some (ebox e) ∧ Below w.heap.size w W3 ∧ W3.ownsRow w.heap.size 26 4 (.slice (some ⟨g2, 0, none⟩) (n + 1) cap2) (n + 1) ((L.take n ++ Z4 :: L.drop n).flatMap cells4)) := ⟨heb3, hbel3, hown3⟩
                clear HOWN3 HGROW3 HAT3 HOWN hn1 hn2 hn3 hn4 hn5 hn6 HS2 HEB2 HBW2 heb3 hbel3 hown3
                go_loopw [19] (fun s wx => ∃ (qn : Nat) (X : SE), pn ≤ qn ∧ qn ≤ n ∧ s = .int .i64 qn ∧ wx.ownsRow w.heap.size 26 4 (.slice (some ⟨g2, 0, none⟩) (n + 1) cap2) (n + 1) ((L.take qn ++ X :: L.drop qn).flatMap cells4) ∧ wx.heap[eB]? = some (ebox e) ∧ Below w.heap.size w wx) (fun s _ => (intOf s).toNat)
                case atStart => exact ⟨n, Z4, hpn, Nat.le_refl _, rfl, HI3.out.2.2, HI3.out.1, HI3.out.2.1⟩
                case round =>
                  clear HI3
                  obtain ⟨qn, X, hpq, hqn, rfl, hown, heb, hbel⟩ := hrel
                  rename World => wx
                  have HOX : Hid (wx.ownsRow w.heap.size 26 4 (.slice (some ⟨g2, 0, none⟩) (n + 1) cap2) (n + 1) ((L.take qn ++ X :: L.drop qn).flatMap cells4)) := hown
                  have HEX : Hid (wx.heap[eB]? = some (ebox e)) := heb
                  have HBX : Hid (Below w.heap.size w wx) := hbel
                  by_cases hgt : pn < qn
                  · obtain ⟨m, rfl⟩ : ∃ m, qn = m + 1 := ⟨qn - 1, by omega⟩
                    have hgd : decide ((pn : Int) < (m : Int) + 1) = true := by simp; omega
                    obtain ⟨y, hy⟩ : ∃ y, L[m]? = some y := ⟨_, List.getElem?_eq_getElem (by rw [← HN.out]; omega)⟩
                    have hy' : (L.take (m + 1) ++ X :: L.drop (m + 1))[m]? = some y := by rw [mid_get_lt _ _ _ _ (by omega), if_pos (by rw [← HN.out]; exact hqn)]; exact hy
                    have hX' : (L.take (m + 1) ++ X :: L.drop (m + 1))[m + 1]? = some X := mid_get _ _ _ (by rw [← HN.out]; exact hqn)
                    obtain ⟨r0, r1, r2, r3⟩ := row_cells hown hy'
                    obtain ⟨s0, s1, s2, s3⟩ := row_cells hown hX'
                    have f0 := own_frozen hown ((m + 1) * 4); have f1 := own_frozen hown ((m + 1) * 4 + 1); have f2 := own_frozen hown ((m + 1) * 4 + 2); have f3 := own_frozen hown ((m + 1) * 4 + 3)
                    have ix1 := index23x (g := g2) (n := n + 1) (c := cap2) (k := m) (x := (m : Int)) rfl (by omega)
                    have ix2 := index23x (g := g2) (n := n + 1) (c := cap2) (k := m + 1) (x := (m : Int) + 1) (by omega) (by omega)
                    have HY : Hid (L[m]? = some y) := hy
                    clear hown heb hbel hy hy' hX'
                    go_wp2_with fail
                    go_roundw
                    case rel =>
                      refine ⟨m, y, by omega, by omega, by go_num, ?_, ?_, ?_⟩
                      · have := row_set HOX.out (i := m + 1) (by rw [mid_len _ _ _ (by rw [← HN.out]; exact hqn)]; rw [← HN.out]; omega) y
                        rw [shift_step L m X y HY.out] at this
                        exact this
                      · exact (setCell_far (Ne.symm hg2e) _ _).trans ((setCell_far (Ne.symm hg2e) _ _).trans ((setCell_far (Ne.symm hg2e) _ _).trans ((setCell_far (Ne.symm hg2e) _ _).trans HEX.out)))
                      · exact (((HBX.out.setCell hg2w _).setCell hg2w _).setCell hg2w _).setCell hg2w _
                    case measure => simp [intOf]
                  · have e : qn = pn := by omega
                    subst e
                    obtain ⟨s0, s1, s2, s3⟩ := row_cells hown (mid_get _ _ _ (by rw [← HN.out]; exact hqn))
                    have f0 := own_frozen hown (qn * 4); have f1 := own_frozen hown (qn * 4 + 1); have f2 := own_frozen hown (qn * 4 + 2); have f3 := own_frozen hown (qn * 4 + 3)
                    have ix2 := index23x (g := g2) (n := n + 1) (c := cap2) (k := qn) (x := (qn : Int)) rfl (by omega)
                    have x0 : wx.cell? ⟨eB, 0, none⟩ = some (.int .u32 e.f) := by simp [World.cell?, heb]
                    have x1 : wx.cell? ⟨eB, 1, none⟩ = some (.string e.k) := by simp [World.cell?, heb]
                    have x2 : wx.cell? ⟨eB, 2, none⟩ = some (.string e.v) := by simp [World.cell?, heb]
                    have x3 : wx.cell? ⟨eB, 3, none⟩ = some (.int .u64 e.c) := by simp [World.cell?, heb]
                    clear hown heb hbel
                    go_wp2_with fail
                    go_roundw
                    case rel =>
                      refine ⟨k + 1, L.take qn ++ e :: L.drop qn, by omega, by go_num, ⟨?_, ?_⟩, ?_, ?_⟩
                      · have := row_set HOX.out (i := qn) (by rw [mid_len _ _ _ (by rw [← HN.out]; exact hqn)]; rw [← HN.out]; omega) e
                        rw [mid_set _ _ _ _ (by rw [← HN.out]; exact hqn)] at this
                        rw [mid_len _ _ _ (by rw [← HN.out]; exact hqn), ← HN.out]
                        exact this
                      · have := asc_insert HASC.out HSP.out HNE.out
                        rw [List.map_append, List.map_cons, List.map_take, List.map_drop]
                        exact this
                      · rw [mid_len _ _ _ (by rw [← HN.out]; exact hqn), ← HN.out]; omega
                      · exact (((HBX.out.setCell hg2w _).setCell hg2w _).setCell hg2w _).setCell hg2w _
                    case measure => simp [intOf]; omega
    · have hkd : decide ((k : Int) < (n1 : Int)) = false := by simp; omega
      obtain ⟨i34, hi34, hz034, hz134, hz234⟩ := info_parts info34
      have mk1 : i34.bytes * n ≤ 281474976710656 := by rw [hz234]; omega
      have mk2 : n ≤ maxLen := by unfold maxLen; omega
      go_wp2_with (first | (at_make; refine wpList_make_full _ rfl _ _ 29 rfl w.heap.size 34 i34 (.agg #[.int .u32 0, .slice none 0 0, .slice none 0 0, .int .u64 0, .pointer none]) 5 Yba.underlying29 hi34 hz034 hz134 .i64 .i64 _ _ n rfl rfl rfl rfl mk1 mk2 hbz ?_; intro W4 hown4 hgrow4; have HOWN4 : Hid _ := hown4; have HGROW4 : Hid _ := hgrow4; clear hown4 hgrow4))
      have HP : Hid (Ph2 w (W4.alloc (.cells #[.bool br, .int .u64 id, .slice (some ⟨wr.heap.size, 0, none⟩) n n, .bool ub] 31)) (.slice vo n cp) L wr.heap.size W4.heap.size n 0 br ub id []) := by
        have hg := HGROW4.out
        have ho : W4.ownsRow w.heap.size 34 5 (.slice (some ⟨wr.heap.size, 0, none⟩) n n) n ((List.replicate n Z5).flatMap cells5) := by have := HOWN4.out; rw [made5] at this; exact this
        have hlt : wr.heap.size < W4.heap.size := (ho.lt wr.heap.size rfl).2
        have hs := HS.out
        rw [← HN.out] at hs
        have old : ∀ c, c < wr.heap.size → (W4.alloc (.cells #[.bool br, .int .u64 id, .slice (some ⟨wr.heap.size, 0, none⟩) n n, .bool ub] 31)).heap[c]? = wr.heap[c]? := fun c hc => (heap_old _ _ (by omega)).trans (hg.block c hc (by simp))
        refine ⟨hs.same fun b hb => old b (hs.own.lt b hb).2, ?_, rfl, heap_new _ _, ?_, fun b hb => (hs.own.lt b hb).2, hlt, ?_⟩
        · simp only [List.nil_append, Nat.sub_zero]
          exact ho.alloc _
        · intro t e l he; simp at he
        · exact (HBEL.out.grown hg (by omega) (fun b hb => by cases hb)).alloc (by omega) _
      clear HS HOWN4 HGROW4 HBEL hi34 hz034 hz134 hz234 mk1 mk2
      obtain ⟨eg, heg⟩ : ∃ eg, eg = wr.heap.size := ⟨_, rfl⟩
      obtain ⟨nb, hnb⟩ : ∃ nb, nb = W4.heap.size := ⟨_, rfl⟩
      rw [← heg, ← hnb] at HP ⊢
      clear heg hnb
      go_loopw [108] (fun i wx => ∃ (t : Nat) (ES : List EE), t ≤ n ∧ i = .int .i64 t ∧ Ph2 w wx (.slice vo n cp) L eg nb n t br ub id ES) (fun i _ => n - (intOf i).toNat)
      case atStart => exact ⟨0, [], Nat.zero_le _, rfl, HP.out⟩
      case round =>
        clear HP
        obtain ⟨t, ES, ht, rfl, hph⟩ := hrel
        rename World => wx
        have HPH : Hid (Ph2 w wx (.slice vo n cp) L eg nb n t br ub id ES) := hph
        by_cases htl : t < n
        · obtain ⟨l, hl⟩ : ∃ l, L[t]? = some l := ⟨_, List.getElem?_eq_getElem (by rw [← HN.out]; exact htl)⟩
          have HL : Hid (L[t]? = some l) := hl
          have hsr := hph.srt
          rw [HN.out] at hsr
          obtain ⟨y0, y1, y2, y3⟩ := hsr.cell HVO.out.1 hl
          have hgb : g < eg := by
            have := HVO.out.1 (by rw [← HN.out]; omega)
            exact hph.lt1 g (by rw [this]; rfl)
          have hlt2 := hph.lt2
          have hnz : nb < wx.heap.size := blk_lt' hph.node
          have ne1 : nb ≠ eg := by omega
          have ne2 : g ≠ eg := by omega
          have ixs := index23o (vo := vo) (g := g) (c := cp) (by rw [HN.out]; exact HVO.out.1) htl
          have ixe := index29 (g := eg) (n := n) (cap := n) htl
          have nc : wx.cell? ⟨nb, 2, none⟩ = some (.slice (some ⟨eg, 0, none⟩) n n) := by simp [World.cell?, hph.node]
          have hZ : (ES ++ List.replicate (n - t) Z5)[t]? = some Z5 := by
            rw [List.getElem?_append_right (by rw [hph.len]; exact Nat.le_refl _), hph.len, Nat.sub_self, List.getElem?_replicate, if_pos (by omega)]
          have zz : ∀ r, r < 5 → wx.cell? ⟨eg, t * 5 + r, none⟩ = (cells5 Z5)[r]? := fun r hr => by
            have : (cells5 Z5)[r]? = some ((cells5 Z5)[r]'(by simpa [cells5] using hr)) := List.getElem?_eq_getElem _
            rw [this]
            exact own_cell hph.own (by rw [flat_get len5 _ t r _ hZ hr]; exact this)
          have fz : ∀ o, wx.frozen? ⟨eg, o, none⟩ = false := fun o => own_frozen hph.own o
          obtain ⟨wa, kc, hA1, bA1, fA1, zA1⟩ := conv_ex wx.drew l.k
          obtain ⟨wb, vc, hA2, bA2, fA2, zA2⟩ := conv_ex wa l.v
          obtain ⟨wc, vc', hB1, bB1, fB1, zB1⟩ := conv_ex wx.drew l.v
          obtain ⟨wd, kc', hB2, bB2, fB2, zB2⟩ := conv_ex wc l.k
          have fra : Fr wx wa [] := (Fr.refl wx []).drew.trans fA1
          have frb : Fr wx wb [] := fra.trans fA2
          have frc : Fr wx wc [] := (Fr.refl wx []).drew.trans fB1
          have frd : Fr wx wd [] := frc.trans fB2
          have kp : ∀ {w' : World}, Fr wx w' [] → ∀ {b o : Nat} {v : Value}, wx.cell? ⟨b, o, none⟩ = some v → w'.cell? ⟨b, o, none⟩ = some v := fun hf _ _ _ h => cell_of h (hf.same _ (cell_lt h) (by simp))
          have kf : ∀ {w' : World}, Fr wx w' [] → ∀ o, w'.frozen? ⟨eg, o, none⟩ = false := fun hf o => by
            have := fz o
            simp only [World.frozen?] at *
            rw [hf.same eg (by omega) (by simp)]; exact this
          have zs : wx.drew.heap.size = wx.heap.size := rfl
          rw [zs] at hA1 hB1 bA1 bB1 zA1 zB1
          rw [zA1] at hA2 bA2
          rw [zB1] at hB2 bB2
          have s0a := kp fra y0; have s1a := kp fra y1; have s2a := kp fra y2; have s3a := kp fra y3; have sna := kp fra nc
          have s0b := kp frb y0; have s1b := kp frb y1; have s2b := kp frb y2; have s3b := kp frb y3; have snb := kp frb nc
          have s0c := kp frc y0; have s1c := kp frc y1; have s2c := kp frc y2; have s3c := kp frc y3; have snc := kp frc nc
          have s0d := kp frd y0; have s1d := kp frd y1; have s2d := kp frd y2; have s3d := kp frd y3; have snd := kp frd nc
          have z0 := zz 0 (by omega); have z1 := zz 1 (by omega); have z2 := zz 2 (by omega); have z3 := zz 3 (by omega); have z4 := zz 4 (by omega)
          simp only [cells5, Nat.add_zero, List.getElem?_cons_zero, List.getElem?_cons_succ] at z0 z1 z2 z3 z4
          have z0b := kp frb z0; have z1b := kp frb z1; have z2b := kp frb z2; have z3b := kp frb z3; have z4b := kp frb z4
          have z0d := kp frd z0; have z1d := kp frd z1; have z2d := kp frd z2; have z3d := kp frd z3; have z4d := kp frd z4
          have e0b := kf frb (t * 5); have e1b := kf frb (t * 5 + 1); have e2b := kf frb (t * 5 + 2); have e3b := kf frb (t * 5 + 3); have e4b := kf frb (t * 5 + 4)
          have e0d := kf frd (t * 5); have e1d := kf frd (t * 5 + 1); have e2d := kf frd (t * 5 + 2); have e3d := kf frd (t * 5 + 3); have e4d := kf frd (t * 5 + 4)
          have hiA1 : Hi nb (.slice (some ⟨wx.heap.size, 0, none⟩) l.k.size kc) := fun b len cap e => by cases e; omega
          have hiA2 : Hi nb (.slice (some ⟨wx.heap.size + 1, 0, none⟩) l.v.size vc) := fun b len cap e => by cases e; omega
          have hiB1 : Hi nb (.slice (some ⟨wx.heap.size, 0, none⟩) l.v.size vc') := fun b len cap e => by cases e; omega
          have hiB2 : Hi nb (.slice (some ⟨wx.heap.size + 1, 0, none⟩) l.k.size kc') := fun b len cap e => by cases e; omega
          have PA : Hid (Ph2 w (((((wb.setCell ⟨eg, t * 5, none⟩ (.int .u32 l.f)).setCell ⟨eg, t * 5 + 1, none⟩ (.slice (some ⟨wx.heap.size, 0, none⟩) l.k.size kc)).setCell ⟨eg, t * 5 + 2, none⟩ (.slice (some ⟨wx.heap.size + 1, 0, none⟩) l.v.size vc)).setCell ⟨eg, t * 5 + 3, none⟩ (.int .u64 l.c)).setCell ⟨eg, t * 5 + 4, none⟩ (.pointer none)) (.slice vo n cp) L eg nb n (t + 1) br ub id (ES ++ [⟨l.f, .slice (some ⟨wx.heap.size, 0, none⟩) l.k.size kc, .slice (some ⟨wx.heap.size + 1, 0, none⟩) l.v.size vc, l.c⟩])) :=
            hph.step htl hl frb (bA1.grown fun c hc => fA2.same c hc (by simp)) hiA1 bA2 hiA2
          have PB : Hid (Ph2 w (((((wd.setCell ⟨eg, t * 5, none⟩ (.int .u32 l.f)).setCell ⟨eg, t * 5 + 1, none⟩ (.slice (some ⟨wx.heap.size + 1, 0, none⟩) l.k.size kc')).setCell ⟨eg, t * 5 + 2, none⟩ (.slice (some ⟨wx.heap.size, 0, none⟩) l.v.size vc')).setCell ⟨eg, t * 5 + 3, none⟩ (.int .u64 l.c)).setCell ⟨eg, t * 5 + 4, none⟩ (.pointer none)) (.slice vo n cp) L eg nb n (t + 1) br ub id (ES ++ [⟨l.f, .slice (some ⟨wx.heap.size + 1, 0, none⟩) l.k.size kc', .slice (some ⟨wx.heap.size, 0, none⟩) l.v.size vc', l.c⟩])) :=
            hph.step htl hl frd bB2 hiB2 (bB1.grown fun c hc => fB2.same c hc (by simp)) hiB1
          clear hph hsr hl fz zz kp kf hZ fra frb frc frd bA1 bA2 bB1 bB2 fA1 fA2 fB1 fB2 hiA1 hiA2 hiB1 hiB2 zs
          generalize l.k.size = lks at *
          generalize l.v.size = lvs at *
          go_wp2_with fail
          go_region
          all_goals (go_wp2_with fail; go_roundw)
          case rel => exact ⟨t + 1, _, by omega, by go_num, PA.out⟩
          case measure => simp [intOf]; omega
          case rel => exact ⟨t + 1, _, by omega, by go_num, PB.out⟩
          case measure => simp [intOf]; omega
        · have htd : decide ((t : Int) < (n : Int)) = false := by simp; omega
          have etn : t = n := by omega
          subst etn
          have hsr := hph.srt
          rw [HN.out] at hsr
          have HSR : Hid (Srt w.heap.size wx (.slice vo L.length cp) L) := hsr
          have HLN : Hid (ES.length = t) := hph.len
          have hbx := hph.bel.size
          clear hph hsr
          go_wp2_with fail
          go_loopw [22] (fun s wy => ∃ j : Nat, j ≤ t ∧ s = .int .i64 j ∧ wx = wy ∧ Hid (∀ q e', q < j → L[q]? = some e' → Lt e'.k key)) (fun s _ => t - (intOf s).toNat)
          case atStart => exact ⟨0, Nat.zero_le _, rfl, rfl, (fun q e' hq => absurd hq (Nat.not_lt_zero _) : ∀ q e', q < 0 → L[q]? = some e' → Lt e'.k key)⟩
          case round =>
            obtain ⟨j, hj, rfl, rfl, HLO⟩ := hrel
            go_upto_region 25 with fail
            go_cut [154] from 141 to 154 (fun s wy => ∃ (b : Bool), s = .bool b ∧ wx = wy ∧ Hid ((b = true → j < t ∧ ∀ e', L[j]? = some e' → Lt e'.k key) ∧ (b = false → ∀ e', L[j]? = some e' → ¬ Lt e'.k key)))
            case first =>
              by_cases hjl : j < t
              · have hpd : decide ((j : Int) < (t : Int)) = true := by simp; exact hjl
                obtain ⟨e', he'⟩ : ∃ e', L[j]? = some e' := ⟨_, List.getElem?_eq_getElem (by rw [← HN.out]; exact hjl)⟩
                obtain ⟨y0, y1, y2, y3⟩ := HSR.out.cell HVO.out.1 he'
                have hxp := index23o (vo := vo) (g := g) (c := cp) (by rw [HN.out]; exact HVO.out.1) hjl
                have HE' : Hid (L[j]? = some e') := he'
                clear y0 y2 y3 he'
                go_wp2_with (go_at_call 5; refine (stringsCompare _ _ _).mono ?_; rintro e w' ⟨rfl, rfl⟩)
                go_meet
                case rel =>
                  refine ⟨_, rfl, rfl, ?_⟩
                  refine (⟨fun h => ⟨hjl, fun x hx => ?_⟩, fun h x hx => ?_⟩ : (decide (Lib.compareBytes e'.k.data.toList key.data.toList < 0) = true → j < t ∧ ∀ e', L[j]? = some e' → Lt e'.k key) ∧ (decide (Lib.compareBytes e'.k.data.toList key.data.toList < 0) = false → ∀ e', L[j]? = some e' → ¬ Lt e'.k key))
                  · rw [HE'.out] at hx; cases hx; show Lib.compareBytes _ _ < 0; exact of_decide_eq_true h
                  · rw [HE'.out] at hx; cases hx; show ¬ (Lib.compareBytes _ _ < 0); exact of_decide_eq_false h
              · have hpd : decide ((j : Int) < (t : Int)) = false := by simp; omega
                go_wp2_with fail
                go_meet
                case rel =>
                  refine ⟨_, rfl, rfl, ?_⟩
                  refine (⟨(fun h => by cases h), fun h x hx => ?_⟩ : (false = true → j < t ∧ ∀ e', L[j]? = some e' → Lt e'.k key) ∧ (false = false → ∀ e', L[j]? = some e' → ¬ Lt e'.k key))
                  have := (List.getElem?_eq_some_iff.1 hx).1
                  rw [← HN.out] at this; omega
            case rest =>
              obtain ⟨b, rfl, rfl, HB⟩ := hcut
              cases b with
              | true =>
                have hpl : j < t := (HB.out.1 rfl).1
                go_wp2_with fail
                go_roundw
                case rel =>
                  refine ⟨j + 1, by omega, by go_num, trivial, ?_⟩
                  refine (fun q e' hq hx => ?_ : ∀ q e', q < j + 1 → L[q]? = some e' → Lt e'.k key)
                  by_cases hq' : q < j
                  · exact HLO.out q e' hq' hx
                  · rw [show q = j by omega] at hx; exact (HB.out.1 rfl).2 e' hx
                case measure => simp [intOf]; omega
              | false =>
                have HSPK : Hid (Spot (L.map (·.k)) key j) := spot_keys HSR.out.asc HN.out hj HLO.out (HB.out.2 rfl)
                clear HB HLO
                go_upto_region 27 with fail
                go_cut [23] from 157 to 169 (fun s wy => ∃ (b : Bool), s = .bool b ∧ wx = wy ∧ Hid (b = true ↔ (L.map (·.k))[j]? = some key))
                case first =>
                  by_cases hjl : j < t
                  · have hpd : decide ((j : Int) < (t : Int)) = true := by simp; exact hjl
                    obtain ⟨e', he'⟩ : ∃ e', L[j]? = some e' := ⟨_, List.getElem?_eq_getElem (by rw [← HN.out]; exact hjl)⟩
                    obtain ⟨y0, y1, y2, y3⟩ := HSR.out.cell HVO.out.1 he'
                    have hxp := index23o (vo := vo) (g := g) (c := cp) (by rw [HN.out]; exact HVO.out.1) hjl
                    have HE' : Hid (L[j]? = some e') := he'
                    clear y0 y2 y3 he'
                    go_wp2_with fail
                    go_meet
                    case rel =>
                      refine ⟨_, rfl, rfl, ?_⟩
                      show _ ↔ _
                      rw [List.getElem?_map, HE'.out, Lib.bytes_beq_iff]
                      simp
                  · have hpd : decide ((j : Int) < (t : Int)) = false := by simp; omega
                    go_wp2_with fail
                    go_meet
                    case rel =>
                      refine ⟨_, rfl, rfl, ?_⟩
                      refine (⟨(fun h => by cases h), fun hx => ?_⟩ : false = true ↔ (L.map (·.k))[j]? = some key)
                      have := (List.getElem?_eq_some_iff.1 hx).1
                      simp at this
                      rw [← HN.out] at this; omega
                case rest =>
                  obtain ⟨fnd, rfl, rfl, HFND⟩ := hcut
                  obtain ⟨i37, hi37, hz037, hz137, hz237⟩ := info_parts info37
                  have mk1 : i37.bytes * (t + 1) ≤ 281474976710656 := by rw [hz237]; omega
                  have mk2 : t + 1 ≤ maxLen := by unfold maxLen; omega
                  have mk3 : Hid ((t : Int) + 1 = ((t + 1 : Nat) : Int)) := (by omega : (t : Int) + 1 = ((t + 1 : Nat) : Int))
                  go_wp2_with (first | (at_make; refine wpList_make_own _ rfl _ _ 35 rfl wx.heap.size 37 i37 (.agg #[.int .u32 0, .string ⟨#[]⟩, .string ⟨#[]⟩, .int .u64 0]) 4 Yba.underlying35 hi37 hz037 hz137 .i64 .i64 _ (t + 1) rfl rfl mk3.out mk1 mk2 (Nat.le_refl _) ?_; intro W5 hown5 hgrow5; have HOWN5 : Hid (W5.ownsRow wx.heap.size 37 4 (.slice (some ⟨wx.heap.size, 0, none⟩) 0 (t + 1)) 0 []) := hown5; have HGROW5 : Hid (wx.grownBy W5 none) := hgrow5; clear hown5 hgrow5))
                  have HI5 : Hid (W5.ownsRow wx.heap.size 37 4 (.slice (some ⟨wx.heap.size, 0, none⟩) 0 (t + 1)) 0 ((L.take 0).flatMap cells4) ∧ Fr wx W5 []) := ⟨HOWN5.out, (Fr.refl wx []).grown HGROW5.out (fun b hb => by cases hb)⟩
                  clear HOWN5 HGROW5 mk1 mk2 mk3
                  go_loopw [24, 25] (fun s24 s25 wy => ∃ (i gw capw : Nat), i ≤ j ∧ s25 = .int .i64 i ∧ s24 = .slice (some ⟨gw, 0, none⟩) i capw ∧ wy.ownsRow wx.heap.size 37 4 (.slice (some ⟨gw, 0, none⟩) i capw) i ((L.take i).flatMap cells4) ∧ Fr wx wy []) (fun _ s25 _ => j - (intOf s25).toNat)
                  case atStart => exact ⟨0, wx.heap.size, t + 1, Nat.zero_le _, rfl, rfl, HI5.out.1, HI5.out.2⟩
                  case round =>
                    clear HI5
                    obtain ⟨i, gw, capw, hij, rfl, rfl, hown, hfr⟩ := hrel
                    rename World => wy
                    have HOW : Hid (wy.ownsRow wx.heap.size 37 4 (.slice (some ⟨gw, 0, none⟩) i capw) i ((L.take i).flatMap cells4)) := hown
                    have HFY : Hid (Fr wx wy []) := hfr
                    have hzy := hfr.size
                    have hgw := (hown.lt gw rfl).1
                    have hgw2 := (hown.lt gw rfl).2
                    clear hown hfr
                    by_cases hil : i < j
                    · have hid : decide ((i : Int) < (j : Int)) = true := by simp; exact hil
                      obtain ⟨l, hl⟩ : ∃ l, L[i]? = some l := ⟨_, List.getElem?_eq_getElem (by rw [← HN.out]; omega)⟩
                      obtain ⟨y0, y1, y2, y3⟩ := HSR.out.cell HVO.out.1 hl
                      have hgb : g < wx.heap.size := cell_lt y0
                      have hxp := index23o (vo := vo) (g := g) (c := cp) (n := t) (k := i) (by rw [HN.out]; exact HVO.out.1) (by omega)
                      have hkeep : ∀ w', Fr wx w' [] → w'.cell? ⟨g, i * 4, none⟩ = some (.int .u32 l.f) ∧ w'.cell? ⟨g, i * 4 + 1, none⟩ = some (.string l.k) ∧ w'.cell? ⟨g, i * 4 + 2, none⟩ = some (.string l.v) ∧ w'.cell? ⟨g, i * 4 + 3, none⟩ = some (.int .u64 l.c) := fun w' hf =>
                        ⟨cell_of y0 (hf.same g hgb (by simp)), cell_of y1 (hf.same g hgb (by simp)), cell_of y2 (hf.same g hgb (by simp)), cell_of y3 (hf.same g hgb (by simp))⟩
                      obtain ⟨k0, k1, k2, k3⟩ := hkeep wy HFY.out
                      have hgrw : ∀ w', ((wy.alloc (.cells (cells4 l).toArray 37)).drew).grownBy w' (some gw) → Fr wx w' [] := fun w' hg => ((HFY.out.alloc _).drew).grown hg (fun b hb => by cases hb; exact .inr hgw)
                      have HKEEP : Hid (∀ w', ((wy.alloc (.cells (cells4 l).toArray 37)).drew).grownBy w' (some gw) → w'.cell? ⟨g, i * 4, none⟩ = some (.int .u32 l.f) ∧ w'.cell? ⟨g, i * 4 + 1, none⟩ = some (.string l.k) ∧ w'.cell? ⟨g, i * 4 + 2, none⟩ = some (.string l.v) ∧ w'.cell? ⟨g, i * 4 + 3, none⟩ = some (.int .u64 l.c)) := fun w' hg => hkeep w' (hgrw w' hg)
                      have HGRW : Hid (∀ w', ((wy.alloc (.cells (cells4 l).toArray 37)).drew).grownBy w' (some gw) → Fr wx w' []) := hgrw
                      have hoA : ((wy.alloc (.cells (cells4 l).toArray 37)).drew).ownsRow wx.heap.size 37 4 (.slice (some ⟨gw, 0, none⟩) i capw) i ((L.take i).flatMap cells4) := own_same HOW.out (fun b hb => heap_old _ _ (HOW.out.lt b hb).2)
                      have HOA : Hid (((wy.alloc (.cells (cells4 l).toArray 37)).drew).ownsRow wx.heap.size 37 4 (.slice (some ⟨gw, 0, none⟩) i capw) i ((L.take i).flatMap cells4)) := hoA
                      have hnA : ∀ q u, (cells4 l)[q]? = some u → ((wy.alloc (.cells (cells4 l).toArray 37)).drew).cell? ((⟨wy.heap.size, 0, none⟩ : Addr).add q) = some u := fun q u hu => World.news_of_block (w := (wy.alloc (.cells (cells4 l).toArray 37)).drew) (heap_new wy _) q u hu
                      have hn2 := one4 l
                      have hn3 : i + 1 ≤ maxLen := by unfold maxLen; omega
                      have hn4 : (i + 1) * 48 ≤ 140737488355328 := by omega
                      have hn5 : wx.heap.size ≤ ((wy.alloc (.cells (cells4 l).toArray 37)).drew).heap.size := by simp; omega
                      have hn6 : ((wy.alloc (.cells (cells4 l).toArray 37)).drew).heap.size = wy.heap.size + 1 := by simp
                      have HL : Hid (L[i]? = some l) := hl
                      clear y0 y1 y2 y3 hkeep hgrw hoA hl
                      go_wp2_with fail
                      go_region_held3 (fun w' => w'.cell? ⟨g, i * 4, none⟩ = some (.int .u32 l.f) ∧ w'.cell? ⟨g, i * 4 + 1, none⟩ = some (.string l.k) ∧ w'.cell? ⟨g, i * 4 + 2, none⟩ = some (.string l.v) ∧ w'.cell? ⟨g, i * 4 + 3, none⟩ = some (.int .u64 l.c)) (go_keep) (first | (refine step_append_lies _ rfl _ _ 35 rfl wx.heap.size 37 i37 (.agg #[.int .u32 0, .string ⟨#[]⟩, .string ⟨#[]⟩, .int .u64 0]) 4 48 Yba.underlying35 hi37 hz037 hz137 hz237 rfl (by decide) (.slice (some ⟨gw, 0, none⟩) i capw) i ((L.take i).flatMap cells4) rfl HOA.out ⟨wy.heap.size, 0, none⟩ 1 1 (cells4 l) rfl rfl hnA hn2 (by omega) hn3 hn4 hn5 (wy.heap.size + 1) hn6 ?_; intro g4 cap4 w4 hown4 hgrow4 hat4 hlt4; obtain ⟨v0, v1, v2, v3⟩ := HKEEP.out w4 hgrow4; have HOWN4 : Hid (w4.ownsRow wx.heap.size 37 4 (.slice (some ⟨g4, 0, none⟩) (i + 1) cap4) (i + 1) ((L.take i).flatMap cells4 ++ cells4 l)) := hown4; have HF4 : Hid (Fr wx w4 []) := HGRW.out w4 hgrow4; clear hown4 hgrow4 hat4))
                      go_wp2_with fail
                      go_roundw
                      case rel =>
                        refine ⟨i + 1, g4, cap4, by omega, by go_num, rfl, ?_, HF4.out⟩
                        have := HOWN4.out
                        rw [take_snoc' HL.out, List.flatMap_append, List.flatMap_cons, List.flatMap_nil, List.append_nil]
                        exact this
                      case measure => simp [intOf]; omega
                    · have hid : decide ((i : Int) < (j : Int)) = false := by simp; omega
                      have eij : i = j := by omega
                      subst eij
                      have hij' : i ≤ t := hj
                      have hoA : (wy.alloc (.cells (cells4 ⟨flags, key, value, 0⟩).toArray 37)).ownsRow wx.heap.size 37 4 (.slice (some ⟨gw, 0, none⟩) i capw) i ((L.take i).flatMap cells4) := HOW.out.alloc _
                      have HOA : Hid ((wy.alloc (.cells (cells4 ⟨flags, key, value, 0⟩).toArray 37)).ownsRow wx.heap.size 37 4 (.slice (some ⟨gw, 0, none⟩) i capw) i ((L.take i).flatMap cells4)) := hoA
                      have hnA : ∀ q u, (cells4 ⟨flags, key, value, 0⟩)[q]? = some u → (wy.alloc (.cells (cells4 ⟨flags, key, value, 0⟩).toArray 37)).cell? ((⟨wy.heap.size, 0, none⟩ : Addr).add q) = some u := fun q u hu => World.news_of_block (heap_new wy _) q u hu
                      have hn2 := one4 ⟨flags, key, value, 0⟩
                      have hn3 : i + 1 ≤ maxLen := by unfold maxLen; omega
                      have hn4 : (i + 1) * 48 ≤ 140737488355328 := by omega
                      have hn5 : wx.heap.size ≤ (wy.alloc (.cells (cells4 ⟨flags, key, value, 0⟩).toArray 37)).heap.size := by simp; omega
                      have hn6 : (wy.alloc (.cells (cells4 ⟨flags, key, value, 0⟩).toArray 37)).heap.size = wy.heap.size + 1 := by simp
                      have HGRW : Hid (∀ w', (wy.alloc (.cells (cells4 ⟨flags, key, value, 0⟩).toArray 37)).grownBy w' (some gw) → Fr wx w' []) := fun w' hg => (HFY.out.alloc _).grown hg (fun b hb => by cases hb; exact .inr hgw)
                      clear hoA
                      go_upto_if 211 with (first | (at_builtin; refine wpList_append_lies _ rfl _ _ 35 rfl wx.heap.size 37 i37 (.agg #[.int .u32 0, .string ⟨#[]⟩, .string ⟨#[]⟩, .int .u64 0]) 4 48 Yba.underlying35 hi37 hz037 hz137 hz237 rfl (by decide) (.slice (some ⟨gw, 0, none⟩) i capw) i ((L.take i).flatMap cells4) rfl HOA.out ⟨wy.heap.size, 0, none⟩ 1 1 (cells4 ⟨flags, key, value, 0⟩) rfl rfl hnA hn2 (by omega) hn3 hn4 hn5 (wy.heap.size + 1) hn6 ?_; intro g6 cap6 w6 hown6 hgrow6 hat6 hlt6; have HOWN6 : Hid (w6.ownsRow wx.heap.size 37 4 (.slice (some ⟨g6, 0, none⟩) (i + 1) cap6) (i + 1) ((L.take i).flatMap cells4 ++ cells4 ⟨flags, key, value, 0⟩)) := hown6; have HF6 : Hid (Fr wx w6 []) := HGRW.out w6 hgrow6; clear hown6 hgrow6 hat6))
                      obtain ⟨st, hst⟩ : ∃ st : Nat, st = if fnd then i + 1 else i := ⟨_, rfl⟩
                      have HST : Hid (st = if fnd then i + 1 else i) := hst
                      have hstt : st ≤ t := by
                        rw [hst]; split
                        · have := (List.getElem?_eq_some_iff.1 (HFND.out.1 (by assumption))).1
                          simp at this; rw [← HN.out] at this; omega
                        · exact hij'
                      go_cut [26] from 212 to 213 (fun s wy' => s = .int .i64 (st : Int) ∧ w6 = wy')
                      case first =>
                        cases fnd with
                        | true =>
                          simp only [if_true] at hst
                          subst hst
                          go_wp2_with fail
                          go_meet
                          case rel => exact ⟨by go_num, rfl⟩
                        | false =>
                          simp only [Bool.false_eq_true, if_false] at hst
                          subst hst
                          go_wp2_with fail
                          go_meet
                          case rel => exact ⟨rfl, rfl⟩
                      case rest =>
                        obtain ⟨rfl, rfl⟩ := hcut
                        clear hst hnA hn2 hn3 hn4 hn5 hn6 HOA HGRW HOW HFY hgw hgw2 hzy
                        go_wp2_with fail
                        go_loopw [24, 27] (fun s24 s27 wz => ∃ (u gz capz : Nat), st + u ≤ t ∧ s27 = .int .i64 ((st + u : Nat) : Int) ∧ s24 = .slice (some ⟨gz, 0, none⟩) (i + 1 + u) capz ∧ wz.ownsRow wx.heap.size 37 4 (.slice (some ⟨gz, 0, none⟩) (i + 1 + u) capz) (i + 1 + u) ((L.take i ++ ⟨flags, key, value, 0⟩ :: (L.drop st).take u).flatMap cells4) ∧ Fr wx wz []) (fun _ s27 _ => t - (intOf s27).toNat)
                        case atStart =>
                          refine ⟨0, g6, cap6, by omega, rfl, rfl, ?_, HF6.out⟩
                          have := HOWN6.out
                          rw [List.take_zero, List.flatMap_append, List.flatMap_cons, List.flatMap_nil, List.append_nil]
                          exact this
                        case round =>
                          clear HOWN6 HF6
                          obtain ⟨u, gz, capz, hu, rfl, rfl, hown, hfr⟩ := hrel
                          rename World => wz
                          have HOW : Hid (wz.ownsRow wx.heap.size 37 4 (.slice (some ⟨gz, 0, none⟩) (i + 1 + u) capz) (i + 1 + u) ((L.take i ++ ⟨flags, key, value, 0⟩ :: (L.drop st).take u).flatMap cells4)) := hown
                          have HFY : Hid (Fr wx wz []) := hfr
                          have hzy := hfr.size
                          have hgw := (hown.lt gz rfl).1
                          have hgw2 := (hown.lt gz rfl).2
                          clear hown hfr
                          by_cases hul : st + u < t
                          · obtain ⟨q0, hq0⟩ : ∃ q0, q0 = st + u := ⟨_, rfl⟩
                            rw [← hq0] at hul ⊢
                            have HQ0 : Hid (q0 = st + u) := hq0
                            have hid : decide ((q0 : Int) < (t : Int)) = true := by simp; exact hul
                            obtain ⟨l, hl⟩ : ∃ l, L[q0]? = some l := ⟨_, List.getElem?_eq_getElem (by rw [← HN.out]; omega)⟩
                            obtain ⟨y0, y1, y2, y3⟩ := HSR.out.cell HVO.out.1 hl
                            have hgb : g < wx.heap.size := cell_lt y0
                            have hxp := index23o (vo := vo) (g := g) (c := cp) (n := t) (k := q0) (by rw [HN.out]; exact HVO.out.1) (by omega)
                            have hkeep : ∀ w', Fr wx w' [] → w'.cell? ⟨g, q0 * 4, none⟩ = some (.int .u32 l.f) ∧ w'.cell? ⟨g, q0 * 4 + 1, none⟩ = some (.string l.k) ∧ w'.cell? ⟨g, q0 * 4 + 2, none⟩ = some (.string l.v) ∧ w'.cell? ⟨g, q0 * 4 + 3, none⟩ = some (.int .u64 l.c) := fun w' hf =>
                              ⟨cell_of y0 (hf.same g hgb (by simp)), cell_of y1 (hf.same g hgb (by simp)), cell_of y2 (hf.same g hgb (by simp)), cell_of y3 (hf.same g hgb (by simp))⟩
                            obtain ⟨k0, k1, k2, k3⟩ := hkeep wz HFY.out
                            have hgrw : ∀ w', ((wz.alloc (.cells (cells4 l).toArray 37)).drew).grownBy w' (some gz) → Fr wx w' [] := fun w' hg => ((HFY.out.alloc _).drew).grown hg (fun b hb => by cases hb; exact .inr hgw)
                            have HKEEP : Hid (∀ w', ((wz.alloc (.cells (cells4 l).toArray 37)).drew).grownBy w' (some gz) → w'.cell? ⟨g, q0 * 4, none⟩ = some (.int .u32 l.f) ∧ w'.cell? ⟨g, q0 * 4 + 1, none⟩ = some (.string l.k) ∧ w'.cell? ⟨g, q0 * 4 + 2, none⟩ = some (.string l.v) ∧ w'.cell? ⟨g, q0 * 4 + 3, none⟩ = some (.int .u64 l.c)) := fun w' hg => hkeep w' (hgrw w' hg)
                            have HGRW : Hid (∀ w', ((wz.alloc (.cells (cells4 l).toArray 37)).drew).grownBy w' (some gz) → Fr wx w' []) := hgrw
                            have hoA : ((wz.alloc (.cells (cells4 l).toArray 37)).drew).ownsRow wx.heap.size 37 4 (.slice (some ⟨gz, 0, none⟩) (i + 1 + u) capz) (i + 1 + u) ((L.take i ++ ⟨flags, key, value, 0⟩ :: (L.drop st).take u).flatMap cells4) := own_same HOW.out (fun b hb => heap_old _ _ (HOW.out.lt b hb).2)
                            have HOA : Hid (((wz.alloc (.cells (cells4 l).toArray 37)).drew).ownsRow wx.heap.size 37 4 (.slice (some ⟨gz, 0, none⟩) (i + 1 + u) capz) (i + 1 + u) ((L.take i ++ ⟨flags, key, value, 0⟩ :: (L.drop st).take u).flatMap cells4)) := hoA
                            have hnA : ∀ q u, (cells4 l)[q]? = some u → ((wz.alloc (.cells (cells4 l).toArray 37)).drew).cell? ((⟨wz.heap.size, 0, none⟩ : Addr).add q) = some u := fun q u hu => World.news_of_block (w := (wz.alloc (.cells (cells4 l).toArray 37)).drew) (heap_new wz _) q u hu
                            have hn2 := one4 l
                            have hn3 : i + 1 + u + 1 ≤ maxLen := by unfold maxLen; omega
                            have hn4 : (i + 1 + u + 1) * 48 ≤ 140737488355328 := by omega
                            have hn5 : wx.heap.size ≤ ((wz.alloc (.cells (cells4 l).toArray 37)).drew).heap.size := by simp; omega
                            have hn6 : ((wz.alloc (.cells (cells4 l).toArray 37)).drew).heap.size = wz.heap.size + 1 := by simp
                            have HL : Hid (L[q0]? = some l) := hl
                            clear hq0 y0 y1 y2 y3 hkeep hgrw hoA hl
                            go_wp2_with fail
                            go_region_held3 (fun w' => w'.cell? ⟨g, q0 * 4, none⟩ = some (.int .u32 l.f) ∧ w'.cell? ⟨g, q0 * 4 + 1, none⟩ = some (.string l.k) ∧ w'.cell? ⟨g, q0 * 4 + 2, none⟩ = some (.string l.v) ∧ w'.cell? ⟨g, q0 * 4 + 3, none⟩ = some (.int .u64 l.c)) (go_keep) (first | (refine step_append_lies _ rfl _ _ 35 rfl wx.heap.size 37 i37 (.agg #[.int .u32 0, .string ⟨#[]⟩, .string ⟨#[]⟩, .int .u64 0]) 4 48 Yba.underlying35 hi37 hz037 hz137 hz237 rfl (by decide) (.slice (some ⟨gz, 0, none⟩) (i + 1 + u) capz) (i + 1 + u) ((L.take i ++ ⟨flags, key, value, 0⟩ :: (L.drop st).take u).flatMap cells4) rfl HOA.out ⟨wz.heap.size, 0, none⟩ 1 1 (cells4 l) rfl rfl hnA hn2 (by omega) hn3 hn4 hn5 (wz.heap.size + 1) hn6 ?_; intro g4 cap4 w4 hown4 hgrow4 hat4 hlt4; obtain ⟨v0, v1, v2, v3⟩ := HKEEP.out w4 hgrow4; have HOWN4 : Hid (w4.ownsRow wx.heap.size 37 4 (.slice (some ⟨g4, 0, none⟩) (i + 1 + u + 1) cap4) (i + 1 + u + 1) ((L.take i ++ ⟨flags, key, value, 0⟩ :: (L.drop st).take u).flatMap cells4 ++ cells4 l)) := hown4; have HF4 : Hid (Fr wx w4 []) := HGRW.out w4 hgrow4; clear hown4 hgrow4 hat4))
                            go_wp2_with fail
                            go_roundw
                            case rel =>
                              have hq := HQ0.out
                              refine ⟨u + 1, g4, cap4, by omega, by go_num, rfl, ?_, HF4.out⟩
                              have := HOWN4.out
                              rw [take_snoc' (E := L.drop st) (k := u) (e := l) (by rw [List.getElem?_drop, ← HQ0.out]; exact HL.out), ← List.cons_append, ← List.append_assoc, List.flatMap_append, List.flatMap_cons, List.flatMap_nil, List.append_nil]
                              exact this
                            case measure => simp [intOf]; omega
                          · have hid : decide (((st : Int) + (u : Int)) < (t : Int)) = false := by simp; omega
                            have eut : st + u = t := by omega
                            have HEUT : Hid (st + u = t) := eut
                            have hid2 : ((st : Int) + (u : Int)) = (t : Int) := by omega
                            obtain ⟨wk, kcap, hck, hbk, hfk, hsk⟩ := conv_ex wz key
                            obtain ⟨wv, vcap, hcv, hbv, hfv, hsv⟩ := conv_ex wk value
                            obtain ⟨d1, d2, d3, d4, d5⟩ := HPH.out.done ((HFY.out.trans hfk).trans hfv) HN.out
                            have hFv : Fr wx wv [] := (HFY.out.trans hfk).trans hfv
                            have hbkv : BytesAt wv (.slice (some ⟨wz.heap.size, 0, none⟩) key.size kcap) key := hbk.grown fun c hc => hfv.same c hc (by simp)
                            have hnbx : nb < wx.heap.size := blk_lt' HPH.out.node
                            have HPUT0 := put_any wv nb eg t t w.heap.size br ub id flags ES (L.map (·.k)) wz.heap.size kcap wk.heap.size value.size vcap key d1 (by have := HPH.out.lt2; omega) d2 HPH.out.len d4 HSR.out.asc hbkv (by omega) (by have := HPH.out.bel.size; have := hFv.size; omega) d5
                            have HPUT : Hid (Calls Yba.prog 6 #[.pointer (some ⟨nb, 0, none⟩), .int .u32 flags, .slice (some ⟨wz.heap.size, 0, none⟩) key.size kcap, .slice (some ⟨wk.heap.size, 0, none⟩) value.size vcap] wv fun e w' =>
                              e = .returned (.tuple #[]) ∧ PutDone wv w' nb eg w.heap.size br ub id ES (L.map (·.k)) key ⟨flags, .slice (some ⟨wz.heap.size, 0, none⟩) key.size kcap, .slice (some ⟨wk.heap.size, 0, none⟩) value.size vcap, 0⟩) := HPUT0
                            have htk : (L.drop st).take u = L.drop st := List.take_of_length_le (by rw [List.length_drop, ← HN.out]; omega)
                            have HLW : Hid ((L.take i ++ ⟨flags, key, value, 0⟩ :: L.drop st).length = i + 1 + u) := (by
                              have := HN.out
                              rw [List.length_append, List.length_cons, List.length_take, List.length_drop]; omega : (L.take i ++ ⟨flags, key, value, 0⟩ :: L.drop st).length = i + 1 + u)
                            have hwant : wv.ownsRow wx.heap.size 37 4 (.slice (some ⟨gz, 0, none⟩) (i + 1 + u) capz) (i + 1 + u) ((L.take i ++ ⟨flags, key, value, 0⟩ :: L.drop st).flatMap cells4) := by
                              have h1 := HOW.out
                              rw [htk] at h1
                              exact own_same (own_same h1 fun b hb => hfk.same b (h1.lt b hb).2 (by simp)) fun b hb => hfv.same b (by have := (h1.lt b hb).2; omega) (by simp)
                            have HAFT : Hid (∀ wp, PutDone wv wp nb eg w.heap.size br ub id ES (L.map (·.k)) key ⟨flags, .slice (some ⟨wz.heap.size, 0, none⟩) key.size kcap, .slice (some ⟨wk.heap.size, 0, none⟩) value.size vcap, 0⟩ → ∃ g' n' cap' ES', Aft w wx wp nb g' n' cap' gz capz br ub id ES' (L.take i ++ ⟨flags, key, value, 0⟩ :: L.drop st) (.slice (some ⟨wz.heap.size, 0, none⟩) key.size kcap) (.slice (some ⟨wk.heap.size, 0, none⟩) value.size vcap) key value i flags) :=
                              (fun wp hd => aft_of HPH.out HN.out hFv HSPK.out HFND.out HST.out (by rw [HLW.out]; exact hwant) hbkv (fun b len cap e => by cases e; omega) hbv (fun b len cap e => by cases e; omega) hd)
                            clear HPUT0 htk hwant d1 d2 d3 d4 d5 hbkv hbk hbv hfk hfv hFv hsk hsv HOW HFY eut hul HPH HSPK HFND HST HSR HVO
                            generalize hkbg : wz.heap.size = kb at *
                            generalize hvbg : wk.heap.size = vb at *
                            clear hkbg hvbg
                            go_wp2_with fail
                            refine HPUT.out.mono ?_
                            rintro e wp ⟨rfl, hd⟩
                            obtain ⟨g', n', cap', ES', haft⟩ := HAFT.out wp hd
                            have hnn : i + 1 + u = n' := by rw [← haft.wlen, HLW.out]
                            have HLI : Hid (i < n') := (by omega : i < n')
                            have hnl : n' ≤ 8193 := by omega
                            rw [hnn]
                            have HA : Hid (Aft w wx wp nb g' n' cap' gz capz br ub id ES' (L.take i ++ ⟨flags, key, value, 0⟩ :: L.drop st) (.slice (some ⟨kb, 0, none⟩) key.size kcap) (.slice (some ⟨vb, 0, none⟩) value.size vcap) key value i flags) := haft
                            have p0 : wp.cell? ⟨nb, 0, none⟩ = some (.bool br) := by simp [World.cell?, haft.node]
                            have p1 : wp.cell? ⟨nb, 1, none⟩ = some (.int .u64 id) := by simp [World.cell?, haft.node]
                            have p2 : wp.cell? ⟨nb, 2, none⟩ = some (.slice (some ⟨g', 0, none⟩) n' cap') := by simp [World.cell?, haft.node]
                            have p3 : wp.cell? ⟨nb, 3, none⟩ = some (.bool ub) := by simp [World.cell?, haft.node]
                            have ck := haft.kb.conv
                            have cv := haft.vb.conv
                            have hbr : (br == br) = true := by simp
                            have hub : (ub == ub) = true := by simp
                            clear HPUT HAFT hd haft hck hcv HLW hnn hid hid2 HEUT hij' hstt
                            generalize L.take i ++ ⟨flags, key, value, 0⟩ :: L.drop st = WL at HA
                            go_wp2_with fail
                            clear p0 p1 p3 ck cv hbr hub
                            go_loopw [296] (fun s wq => ∃ (q : Nat), q ≤ n' ∧ s = .int .i64 q ∧ Fr wp wq []) (fun s _ => n' - (intOf s).toNat)
                            case atStart => exact ⟨0, Nat.zero_le _, rfl, Fr.refl _ _⟩
                            case round =>
                              obtain ⟨q, hq, rfl, hfr⟩ := hrel
                              rename World => wq
                              have HFQ : Hid (Fr wp wq []) := hfr
                              have hold : ∀ c, c < wp.heap.size → wq.heap[c]? = wp.heap[c]? := fun c hc => hfr.same c hc (by simp)
                              have r2 : wq.cell? ⟨nb, 2, none⟩ = some (.slice (some ⟨g', 0, none⟩) n' cap') := cell_of p2 (hold nb (cell_lt p2))
                              clear p2
                              by_cases hql : q < n'
                              · have hqd : decide ((q : Int) < (n' : Int)) = true := by simp; exact hql
                                obtain ⟨e, he⟩ : ∃ e, ES'[q]? = some e := ⟨_, List.getElem?_eq_getElem (by rw [HA.out.len]; exact hql)⟩
                                obtain ⟨l, hl⟩ : ∃ l, WL[q]? = some l := ⟨_, List.getElem?_eq_getElem (by rw [HA.out.wlen]; exact hql)⟩
                                have hrd := (HA.out.rd q e l he hl).grown hold
                                have oq : wq.ownsRow w.heap.size 34 5 (.slice (some ⟨g', 0, none⟩) n' cap') n' (ES'.flatMap cells5) := own_same HA.out.own fun b hb => hold b (HA.out.own.lt b hb).2
                                have ow : wq.ownsRow wx.heap.size 37 4 (.slice (some ⟨gz, 0, none⟩) n' capz) n' (WL.flatMap cells4) := own_same HA.out.want fun b hb => hold b (HA.out.want.lt b hb).2
                                obtain ⟨ef, ek, ev, ec⟩ := e
                                obtain ⟨lf, lk, lv, lc⟩ := l
                                obtain ⟨e1, e2, hbk, hbv⟩ := hrd
                                dsimp only at e1 e2 hbk hbv
                                subst e1 e2
                                obtain ⟨b1, c1, rfl⟩ : ∃ b1 c1, ek = .slice (some ⟨b1, 0, none⟩) lk.size c1 := by obtain ⟨b, cap, _, _, _, h, _⟩ := hbk; exact ⟨b, cap, h⟩
                                obtain ⟨b2, c2, rfl⟩ : ∃ b2 c2, ev = .slice (some ⟨b2, 0, none⟩) lv.size c2 := by obtain ⟨b, cap, _, _, _, h, _⟩ := hbv; exact ⟨b, cap, h⟩
                                have y0 : wq.cell? ⟨g', q * 5, none⟩ = some (.int .u32 ef) := own_cell oq (by have := flat_get len5 ES' q 0 _ he (by omega); simpa [cells5] using this)
                                have y1 : wq.cell? ⟨g', q * 5 + 1, none⟩ = some (.slice (some ⟨b1, 0, none⟩) lk.size c1) := own_cell oq (by rw [flat_get len5 ES' q 1 _ he (by omega)]; rfl)
                                have y2 : wq.cell? ⟨g', q * 5 + 2, none⟩ = some (.slice (some ⟨b2, 0, none⟩) lv.size c2) := own_cell oq (by rw [flat_get len5 ES' q 2 _ he (by omega)]; rfl)
                                have y3 : wq.cell? ⟨g', q * 5 + 3, none⟩ = some (.int .u64 ec) := own_cell oq (by rw [flat_get len5 ES' q 3 _ he (by omega)]; rfl)
                                have y4 : wq.cell? ⟨g', q * 5 + 4, none⟩ = some (.pointer none) := own_cell oq (by rw [flat_get len5 ES' q 4 _ he (by omega)]; rfl)
                                have z0 : wq.cell? ⟨gz, q * 4, none⟩ = some (.int .u32 ef) := own_cell ow (by have := flat_get len4 WL q 0 _ hl (by omega); simpa [cells4] using this)
                                have z1 : wq.cell? ⟨gz, q * 4 + 1, none⟩ = some (.string lk) := own_cell ow (by rw [flat_get len4 WL q 1 _ hl (by omega)]; rfl)
                                have z2 : wq.cell? ⟨gz, q * 4 + 2, none⟩ = some (.string lv) := own_cell ow (by rw [flat_get len4 WL q 2 _ hl (by omega)]; rfl)
                                have z3 : wq.cell? ⟨gz, q * 4 + 3, none⟩ = some (.int .u64 ec) := own_cell ow (by rw [flat_get len4 WL q 3 _ hl (by omega)]; rfl)
                                have hx1 := index29 (g := g') (cap := cap') hql
                                have hx2 := index35g (g := gz) (c := capz) hql
                                have HBK : Hid (BytesAt wq (.slice (some ⟨b1, 0, none⟩) lk.size c1) lk) := hbk
                                have HBV : Hid (BytesAt wq (.slice (some ⟨b2, 0, none⟩) lv.size c2) lv) := hbv
                                have hgz : g' < wq.heap.size := cell_lt y0
                                have hwz : gz < wq.heap.size := cell_lt z0
                                clear hbk hbv oq ow he hl hfr hold
                                have hck : (convert 32 9 (.slice (some ⟨b1, 0, none⟩) lk.size c1)).run Yba.prog ((wq.alloc (.cells #[.int .u32 ef, .slice (some ⟨b1, 0, none⟩) lk.size c1, .slice (some ⟨b2, 0, none⟩) lv.size c2, .int .u64 ec, .pointer none] 34)).alloc (.cells #[.int .u32 ef, .string lk, .string lv, .int .u64 ec] 37)) = .ok (.string lk) ((wq.alloc (.cells #[.int .u32 ef, .slice (some ⟨b1, 0, none⟩) lk.size c1, .slice (some ⟨b2, 0, none⟩) lv.size c2, .int .u64 ec, .pointer none] 34)).alloc (.cells #[.int .u32 ef, .string lk, .string lv, .int .u64 ec] 37)) :=
                                  BytesAt.conv (HBK.out.grown fun c hc => (heap_old _ _ (by simp; omega)).trans (heap_old _ _ hc))
                                have hcv : (convert 32 9 (.slice (some ⟨b2, 0, none⟩) lv.size c2)).run Yba.prog ((wq.alloc (.cells #[.int .u32 ef, .slice (some ⟨b1, 0, none⟩) lk.size c1, .slice (some ⟨b2, 0, none⟩) lv.size c2, .int .u64 ec, .pointer none] 34)).alloc (.cells #[.int .u32 ef, .string lk, .string lv, .int .u64 ec] 37)) = .ok (.string lv) ((wq.alloc (.cells #[.int .u32 ef, .slice (some ⟨b1, 0, none⟩) lk.size c1, .slice (some ⟨b2, 0, none⟩) lv.size c2, .int .u64 ec, .pointer none] 34)).alloc (.cells #[.int .u32 ef, .string lk, .string lv, .int .u64 ec] 37)) :=
                                  BytesAt.conv (HBV.out.grown fun c hc => (heap_old _ _ (by simp; omega)).trans (heap_old _ _ hc))
                                go_wp2_with fail
                                go_roundw
                                case rel => exact ⟨q + 1, by omega, by go_num, (HFQ.out.alloc _).alloc _⟩
                                case measure => simp [intOf]; omega
                              · have hqd : decide ((q : Int) < (n' : Int)) = false := by simp; omega
                                have oq : wq.ownsRow w.heap.size 34 5 (.slice (some ⟨g', 0, none⟩) n' cap') n' (ES'.flatMap cells5) := own_same HA.out.own fun b hb => hold b (HA.out.own.lt b hb).2
                                have y1 : wq.cell? ⟨g', i * 5 + 1, none⟩ = some (.slice (some ⟨kb, 0, none⟩) key.size kcap) := own_cell oq (by rw [flat_get len5 ES' i 1 _ HA.out.at_ (by omega)]; rfl)
                                have y2 : wq.cell? ⟨g', i * 5 + 2, none⟩ = some (.slice (some ⟨vb, 0, none⟩) value.size vcap) := own_cell oq (by rw [flat_get len5 ES' i 2 _ HA.out.at_ (by omega)]; rfl)
                                have hx1 := index29 (g := g') (cap := cap') HLI.out
                                have hE1 := neq39 ⟨kb, 0, none⟩
                                have hE2 := neq39 ⟨vb, 0, none⟩
                                have HBQ : Hid (Below w.heap.size w wq) := hfr.below (by simp) HA.out.bel HA.out.bel.size
                                clear oq hold hfr HFQ HA
                                generalize key.size = ks at *
                                generalize value.size = vs at *
                                go_upto_region 58 with fail
                                go_cut [360] from 344 to 360 (fun s wx' => ∃ q' : Nat, s = .bool false ∧ wx' = wq.drewN q')
                                case first =>
                                  by_cases hks : 0 < ks
                                  · have hkd : decide ((0 : Int) < (ks : Int)) = true := by simp; exact hks
                                    have hz := index32z (b := kb) (c := kcap) hks
                                    go_quiet (fail)
                                    go_wp2_with fail
                                    go_meet
                                    case rel => exact ⟨_, rfl, rfl⟩
                                  · have hkd : decide ((0 : Int) < (ks : Int)) = false := by simp; omega
                                    go_quiet (fail)
                                    go_wp2_with fail
                                    go_meet
                                    case rel => exact ⟨_, rfl, rfl⟩
                                case rest =>
                                  obtain ⟨q', rfl, rfl⟩ := hcut
                                  go_upto_region 60 with fail
                                  go_cut [377] from 361 to 377 (fun s wx' => ∃ q' : Nat, s = .bool false ∧ wx' = wq.drewN q')
                                  case first =>
                                    by_cases hks : 0 < vs
                                    · have hkd : decide ((0 : Int) < (vs : Int)) = true := by simp; exact hks
                                      have hz := index32z (b := vb) (c := vcap) hks
                                      go_quiet (fail)
                                      go_wp2_with fail
                                      go_meet
                                      case rel => exact ⟨q' + nq, rfl, by simp⟩
                                    · have hkd : decide ((0 : Int) < (vs : Int)) = false := by simp; omega
                                      go_quiet (fail)
                                      go_wp2_with fail
                                      go_meet
                                      case rel => exact ⟨q' + nq, rfl, by simp⟩
                                  case rest =>
                                    obtain ⟨q'', rfl, rfl⟩ := hcut
                                    go_wp2_with fail
                                    go_ret
                                    exact ⟨rfl, bel_drewN HBQ.out _⟩
end Go.Proofs.Ybulkdxeq
