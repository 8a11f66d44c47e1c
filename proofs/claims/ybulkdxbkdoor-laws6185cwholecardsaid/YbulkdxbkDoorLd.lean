import Derived.Test.YbulkdxbkDoorLc
namespace Go.Proofs.YbulkdxbkDoor
open Go.RowKit
set_option linter.unusedVariables false
set_option linter.unusedSectionVars false

set_option maxRecDepth 100000 in
set_option maxHeartbeats 16000000 in
theorem law3 (w wh wi wl : World) (H K2 K3 G n m nw nu fl : Nat) (SZ C : List Nat) (SL : List (List Nat)) (cb mk bb1 bb2 : Nat) (nf : Bool) (v1 : Option Addr) (q1 p1 g1 : Nat) (Q1 : List Nat) (v2 : Option Addr) (q2 p2 g2 : Nat) (Q2 : List Nat) (v3 : Option Addr) (p3 g3 : Nat) (a4 : Option Addr) (n4 c4 b4 o4 : Nat) (D : List Int)
    (h : St62 w wh wi wl H K2 K3 G n m nw nu fl SZ C SL cb mk bb1 bb2 nf v1 q1 p1 g1 Q1 v2 q2 p2 g2 Q2 v3 p3 g3) (hd : InDst w a4 n4 c4 b4 o4 D)
    (y0 y1 y2 y3 y5 y6 y7 y8 y9 y10 y13 y14 y16 y17 y18 y19 y20 y21 y22 y23 y24 y25 y26 y27 y29 y31 y32 y33 y34 y35 y36 y41 y42 y43 y44 y45 y46 y47 y48 y49 y50 y51 y52 y53 y54 y55 y56 y57 y58 y59 y60 y61 y62 y63 y64 y65 y66 y67 y68 y69 y70 y71 y72 y73 y74 y75 y76 y77 y78 y79 y80 y81 y82 y83 y84 y85 y86 y87 y88 y89 y90 y91 y92 y93 y94 y95 y96 y97 y98 y99 y100 y101 y102 y103 y104 y105 y106 y107 y108 y109 y110 y111 y112 y113 y114 y115 y116 y117 y118 y119 y120 y121 y122 y123 y124 y125 y126 y127 y128 y129 y130 y131 y132 y133 y134 y135 y136 y137 y138 y139 y140 y141 y142 y143 y144 y145 y146 y147 y148 y149 y150 y151 y152 y153 y154 y155 y156 y157 y158 y159 y160 y161 y162 y163 y164 y165 y166 y167 y168 y169 y170 y171 y172 y173 y174 y175 y176 y177 y178 y179 y180 y181 y182 y183 y184 y185 y186 y187 y188 y189 y190 y191 y192 y193 y194 y195 y196 y197 y198 y199 y200 y201 y202 y203 y204 y205 y206 y207 y208 y209 y210 y211 y212 y213 y214 y215 y216 y217 y218 y219 y220 y221 y222 y223 y224 y225 y226 y227 y228 y229 y230 y231 y232 y233 y234 y235 y236 y237 y238 y239 y240 y241 y242 y243 y244 y245 y246 y247 y248 y249 y250 y251 y252 y253 y254 y255 y256 y257 y258 y259 y260 y261 y262 y263 y264 y265 y266 y267 y268 y269 y270 y271 y272 y273 y274 y275 y276 y277 y278 y279 y280 y281 y282 y283 y284 y285 y286 y287 y288 y289 y290 y291 y292 y293 y294 y295 y296 y297 y298 y299 y300 y301 y302 y303 y304 y305 y306 y307 y308 y309 y310 y311 y312 y313 y314 y315 y316 y317 y318 y319 y320 y321 y322 y323 y324 y325 y326 y327 y328 y329 y330 y331 y332 y333 y334 y335 y336 y337 y338 y339 y340 y341 y342 y343 y344 y345 y346 y347 y348 y349 y350 y351 y352 y353 y354 y355 y356 y357 : Value) :
    (tail4 62).wp Ybad.prog (bodyPost Ybad.prog Ybad.f4 fun e w' => e = .returned (.bool true) ∧ Below w.heap.size w w') { tmps := #[y0, y1, y2, y3, .slice a4 n4 c4, y5, y6, y7, y8, y9, y10, .int .i64 (m : Int), .int .i64 (n : Int), y13, y14, .slice (some ⟨H, 0, none⟩) n n, y16, y17, y18, y19, y20, y21, y22, y23, y24, y25, y26, y27, .slice (some ⟨K2, 0, none⟩) (m + 1) (m + 1), y29, .slice (some ⟨K3, 0, none⟩) fl fl, y31, y32, y33, y34, y35, y36, .pointer (some ⟨cb, 0, none⟩), .slice v1 q1 p1, .slice v2 q2 p2, .slice v3 q1 p3, y41, y42, y43, y44, y45, y46, y47, y48, y49, y50, y51, y52, y53, y54, y55, y56, y57, y58, y59, y60, y61, y62, y63, y64, y65, y66, y67, y68, y69, y70, y71, y72, y73, y74, y75, y76, y77, y78, y79, y80, y81, y82, y83, y84, y85, y86, y87, y88, y89, y90, y91, y92, y93, y94, y95, y96, y97, y98, y99, y100, y101, y102, y103, y104, y105, y106, y107, y108, y109, y110, y111, y112, y113, y114, y115, y116, y117, y118, y119, y120, y121, y122, y123, y124, y125, y126, y127, y128, y129, y130, y131, y132, y133, y134, y135, y136, y137, y138, y139, y140, y141, y142, y143, y144, y145, y146, y147, y148, y149, y150, y151, y152, y153, y154, y155, y156, y157, y158, y159, y160, y161, y162, y163, y164, y165, y166, y167, y168, y169, y170, y171, y172, y173, y174, y175, y176, y177, y178, y179, y180, y181, y182, y183, y184, y185, y186, y187, y188, y189, y190, y191, y192, y193, y194, y195, y196, y197, y198, y199, y200, y201, y202, y203, y204, y205, y206, y207, y208, y209, y210, y211, y212, y213, y214, y215, y216, y217, y218, y219, y220, y221, y222, y223, y224, y225, y226, y227, y228, y229, y230, y231, y232, y233, y234, y235, y236, y237, y238, y239, y240, y241, y242, y243, y244, y245, y246, y247, y248, y249, y250, y251, y252, y253, y254, y255, y256, y257, y258, y259, y260, y261, y262, y263, y264, y265, y266, y267, y268, y269, y270, y271, y272, y273, y274, y275, y276, y277, y278, y279, y280, y281, y282, y283, y284, y285, y286, y287, y288, y289, y290, y291, y292, y293, y294, y295, y296, y297, y298, y299, y300, y301, y302, y303, y304, y305, y306, y307, y308, y309, y310, y311, y312, y313, y314, y315, y316, y317, y318, y319, y320, y321, y322, y323, y324, y325, y326, y327, y328, y329, y330, y331, y332, y333, y334, y335, y336, y337, y338, y339, y340, y341, y342, y343, y344, y345, y346, y347, y348, y349, y350, y351, y352, y353, y354, y355, y356, y357], defers := [] } wl := by
  have H4 : Hid (InDst w a4 n4 c4 b4 o4 D) := hd
  have hn4l := hd.le
  have HST : Hid (St62 w wh wi wl H K2 K3 G n m nw nu fl SZ C SL cb mk bb1 bb2 nf v1 q1 p1 g1 Q1 v2 q2 p2 g2 Q2 v3 p3 g3) := h
  have HWL : Hid (Fr w wl []) := (h.base.fr.trans h.new.fr).trans h.fr
  have q26n : ∀ (w : World) (a : Option Addr) (n c n' c' : Nat), (binOp .neq 44 (.slice a n c) (.slice none n' c')).run Ybad.prog w = .ok (.bool (!a.isNone)) w := fun w a n c n' c' => run_neq_slice_nil_any w _ _ a n c n' c' Ybad.underlying44
  obtain ⟨C5, hC5, mk5⟩ := make_ex 44 3 Ybad.underlying44 info3 rfl (by omega) n4 (by omega)
  have HC5 : Hid (C5.toList = List.replicate n4 (.int .i64 0)) := hC5
  obtain ⟨LL, hLL⟩ : ∃ LL, wl.heap.size = LL := ⟨_, rfl⟩
  have HLL : Hid (wl.heap.size = LL) := hLL
  obtain ⟨b1', b2', b3', hnl, hml, hfl⟩ := h.base.b1
  have hq1 := h.r1.le
  have hq2 := h.r2.le
  clear hC5 h hd b1' b2' b3'
  refine tail_use rfl ?_
  go_upto_if 271 with fail
  go_cut [41] (fun s41 wx => ∃ (dd : Option Addr) (dc : Nat), s41 = .slice dd n4 dc ∧ Hid (wx.ownsRow LL 3 1 (.slice dd n4 dc) n4 (zints D) ∧ Fr wl wx []))
  case first =>
    cases a4 with
    | none =>
      have HN4 : Hid (n4 = 0) := by
        rcases Nat.eq_zero_or_pos n4 with h | h
        · exact h
        · have := H4.out.at_ h; cases this
      go_wp2_with fail
      go_meet
      have hD : D = [] := List.eq_nil_of_length_eq_zero (by rw [← H4.out.len, HN4.out])
      refine ⟨none, 0, by rw [HN4.out], hidI ⟨?_, Fr.refl _ _⟩⟩
      rw [HN4.out, hD]; exact World.ownsRow_nil _ _ _ _
    | some ad =>
      have HO0 : Hid ((wl.alloc (.cells C5 3)).ownsRow LL 3 1 (.slice (some ⟨LL, 0, none⟩) n4 n4) n4 (List.replicate n4 (.int .i64 0))) := by
        have := made_own (w := wl) (E := 3) (B := LL) HC5.out (by omega) (by omega)
        rw [hLL] at this
        exact this
      have HSRC : Hid (0 < n4 → ∃ ad', some ad = some ad' ∧ ∀ j v, (zints D)[j]? = some v → (wl.alloc (.cells C5 3)).cell? (ad'.add j) = some v) := fun h0 => ⟨ad, rfl, fun j v hv => by
        have e := H4.out.at_ h0
        cases e
        rw [add_plain]
        simp [zints] at hv
        obtain ⟨x, hx, rfl⟩ := hv
        exact (HWL.out.alloc _).cell (H4.out.rd j x hx) (by simp)⟩
      have hlz : (zints D).length = n4 := by rw [zints_len]; exact H4.out.len.symm
      have HFA : Hid (Fr wl (wl.alloc (.cells C5 3)) []) := (Fr.refl _ _).alloc _
      go_wp2_with (first | (refine wpList_copyRow rfl (.tmp 275) (.tmp 276) rfl rfl HO0.out rfl hlz HSRC.out (zints_one D) ?_; intro wf k1 k2; have HF1 : Hid (wf.ownsRow LL 3 1 (.slice (some ⟨LL, 0, none⟩) n4 n4) n4 (zints D)) := k1; have HF2 : Hid (Fr (wl.alloc (.cells C5 3)) wf [LL]) := k2; clear k1 k2))
      go_meet
      exact ⟨some ⟨LL, 0, none⟩, n4, rfl, hidI ⟨HF1.out, HFA.out.then HF2.out fun c hc => .inr (by simp at hc; have := HLL.out; omega)⟩⟩
  case rest =>
    obtain ⟨dd, dc, rfl, HDR⟩ := hcut
    rename World => wx
    clear mk5 HC5 hLL q26n
    have HCH : Hid (Calls Ybad.prog 14 #[.slice (some ⟨H, 0, none⟩) n n, .slice (some ⟨K3, 0, none⟩) fl fl, .slice (some ⟨K2, 0, none⟩) (m + 1) (m + 1), .int .i64 (n : Int), .int .i64 (m : Int), .slice v1 q1 p1] wx fun e wm => ∃ (v4 : Option Addr) (el p4 : Nat), e = .returned (.slice v4 el p4) ∧ Calls Ybad.prog 15 #[.pointer (some ⟨cb, 0, none⟩), .slice dd n4 dc, .slice v1 q1 p1] wm fun e wn => ∃ (v5 : Option Addr) (tl p5 : Nat), e = .returned (.slice v5 tl p5) ∧
      ∃ (K g4 : Nat) (E1 : List Nat) (B5 : Nat) (so : Option Addr) (sn sc : Nat) (ro : Option Addr) (rc : Nat) (R : List Nat) (wo : Option Addr) (wc : Nat) (od : Bool) (ko : Option Addr) (kc : Nat), St68 w wh wn H K2 K3 G n m nw nu fl SZ C SL K cb mk bb1 bb2 nf v1 q1 p1 g1 Q1 v2 q2 p2 g2 Q2 v3 p3 g3 v4 el p4 g4 E1 v5 tl p5 B5 D so sn sc ro rc R wo wc od ko kc) := chain3 HST.out HDR.out.2 HLL.out HDR.out.1 H4.out.len hn4l
    go_upto_region 67 with (go_at_call 14; refine HCH.out.mono ?_; rintro e wm ⟨v4, el, p4, rfl, h15⟩; have H15 : Hid (Calls Ybad.prog 15 #[.pointer (some ⟨cb, 0, none⟩), .slice dd n4 dc, .slice v1 q1 p1] wm fun e wn => ∃ (v5 : Option Addr) (tl p5 : Nat), e = .returned (.slice v5 tl p5) ∧
      ∃ (K g4 : Nat) (E1 : List Nat) (B5 : Nat) (so : Option Addr) (sn sc : Nat) (ro : Option Addr) (rc : Nat) (R : List Nat) (wo : Option Addr) (wc : Nat) (od : Bool) (ko : Option Addr) (kc : Nat), St68 w wh wn H K2 K3 G n m nw nu fl SZ C SL K cb mk bb1 bb2 nf v1 q1 p1 g1 Q1 v2 q2 p2 g2 Q2 v3 p3 g3 v4 el p4 g4 E1 v5 tl p5 B5 D so sn sc ro rc R wo wc od ko kc) := h15; clear h15)
    go_cut [43] (fun s43 wn => ∃ (v5 : Option Addr) (tl p5 : Nat), s43 = .slice v5 tl p5 ∧ Hid (∃ (K g4 : Nat) (E1 : List Nat) (B5 : Nat) (so : Option Addr) (sn sc : Nat) (ro : Option Addr) (rc : Nat) (R : List Nat) (wo : Option Addr) (wc : Nat) (od : Bool) (ko : Option Addr) (kc : Nat), St68 w wh wn H K2 K3 G n m nw nu fl SZ C SL K cb mk bb1 bb2 nf v1 q1 p1 g1 Q1 v2 q2 p2 g2 Q2 v3 p3 g3 v4 el p4 g4 E1 v5 tl p5 B5 D so sn sc ro rc R wo wc od ko kc))
    case first =>
      go_wp2_with (go_at_call 15; refine Calls.mono H15.out ?_; rintro e wn ⟨v5, tl, p5, rfl, h68⟩; have H68 : Hid _ := h68; clear h68)
      go_meet
      exact ⟨v5, tl, p5, rfl, H68⟩
    case rest =>
      obtain ⟨v5, tl, p5, rfl, H68⟩ := hcut
      rename World => wn
      obtain ⟨K, g4, E1, B5, so, sn, sc, ro, rc, R, wo, wc, od, ko, kc, h68⟩ := H68.out
      have hd' := H4.out.below h68.bel
      rename_i hK
      refine hK _ _ ?_
      exact law4 w wh wn H K2 K3 G n m nw nu fl SZ C SL K cb mk bb1 bb2 nf v1 q1 p1 g1 Q1 v2 q2 p2 g2 Q2 v3 p3 g3 v4 el p4 g4 E1 v5 tl p5 B5 D so sn sc ro rc R wo wc od ko kc a4 n4 c4 b4 o4 h68 hd' _ _ _ _ _ _ _ _ _ _ _ _ _ _ _ _ _ _ _ _ _ _ _ _ _ _ _ _ _ _ _ _ _ _ _ _ _ _ _ _ _ _ _ _ _ _ _ _ _ _ _ _ _ _ _ _ _ _ _ _ _ _ _ _ _ _ _ _ _ _ _ _ _ _ _ _ _ _ _ _ _ _ _ _ _ _ _ _ _ _ _ _ _ _ _ _ _ _ _ _ _ _ _ _ _ _ _ _ _ _ _ _ _ _ _ _ _ _ _ _ _ _ _ _ _ _ _ _ _ _ _ _ _ _ _ _ _ _ _ _ _ _ _ _ _ _ _ _ _ _ _ _ _ _ _ _ _ _ _ _ _ _ _ _ _ _ _ _ _ _ _ _ _ _ _ _ _ _ _ _ _ _ _ _ _ _ _ _ _ _ _ _ _ _ _ _ _ _ _ _ _ _ _ _ _ _ _ _ _ _ _ _ _ _ _ _ _ _ _ _ _ _ _ _ _ _ _ _ _ _ _ _ _ _ _ _ _ _ _ _ _ _ _ _ _ _ _ _ _ _ _ _ _ _ _ _ _ _ _ _ _ _ _ _ _ _ _ _ _ _ _ _ _ _ _ _ _ _ _ _ _ _ _ _ _ _ _ _ _ _ _ _ _ _ _ _ _ _ _ _ _ _ _ _ _ _ _ _ _ _ _ _ _ _ _ _ _ _ _ _ _ _ _ _ _ _ _ _ _ _ _ _ _ _ _ _ _ _ _ _ _ _ _ _ _ _
end Go.Proofs.YbulkdxbkDoor
