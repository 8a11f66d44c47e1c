import Derived.Test.YbulkdxbkDoorLa
namespace Go.Proofs.YbulkdxbkDoor
open Go.RowKit
set_option linter.unusedVariables false
set_option linter.unusedSectionVars false

set_option maxRecDepth 100000 in
set_option maxHeartbeats 16000000 in
theorem law4 (w wh wn : World) (H K2 K3 G n m nw nu fl : Nat) (SZ C : List Nat) (SL : List (List Nat)) (K cb mk bb1 bb2 : Nat) (nf : Bool) (v1 : Option Addr) (q1 p1 g1 : Nat) (Q1 : List Nat) (v2 : Option Addr) (q2 p2 g2 : Nat) (Q2 : List Nat) (v3 : Option Addr) (p3 g3 : Nat) (v4 : Option Addr) (el p4 g4 : Nat) (E1 : List Nat) (v5 : Option Addr) (tl p5 B5 : Nat) (D : List Int) (so : Option Addr) (sn sc : Nat) (ro : Option Addr) (rc : Nat) (R : List Nat) (wo : Option Addr) (wc : Nat) (od : Bool) (ko : Option Addr) (kc : Nat) (a4 : Option Addr) (n4 c4 b4 o4 : Nat)
    (h : St68 w wh wn H K2 K3 G n m nw nu fl SZ C SL K cb mk bb1 bb2 nf v1 q1 p1 g1 Q1 v2 q2 p2 g2 Q2 v3 p3 g3 v4 el p4 g4 E1 v5 tl p5 B5 D so sn sc ro rc R wo wc od ko kc) (hd : InDst wn a4 n4 c4 b4 o4 D)
    (y0 y1 y2 y3 y5 y6 y7 y8 y9 y10 y13 y14 y16 y17 y18 y19 y20 y21 y22 y23 y24 y25 y26 y27 y29 y31 y32 y33 y34 y35 y36 y41 y44 y45 y46 y47 y48 y49 y50 y51 y52 y53 y54 y55 y56 y57 y58 y59 y60 y61 y62 y63 y64 y65 y66 y67 y68 y69 y70 y71 y72 y73 y74 y75 y76 y77 y78 y79 y80 y81 y82 y83 y84 y85 y86 y87 y88 y89 y90 y91 y92 y93 y94 y95 y96 y97 y98 y99 y100 y101 y102 y103 y104 y105 y106 y107 y108 y109 y110 y111 y112 y113 y114 y115 y116 y117 y118 y119 y120 y121 y122 y123 y124 y125 y126 y127 y128 y129 y130 y131 y132 y133 y134 y135 y136 y137 y138 y139 y140 y141 y142 y143 y144 y145 y146 y147 y148 y149 y150 y151 y152 y153 y154 y155 y156 y157 y158 y159 y160 y161 y162 y163 y164 y165 y166 y167 y168 y169 y170 y171 y172 y173 y174 y175 y176 y177 y178 y179 y180 y181 y182 y183 y184 y185 y186 y187 y188 y189 y190 y191 y192 y193 y194 y195 y196 y197 y198 y199 y200 y201 y202 y203 y204 y205 y206 y207 y208 y209 y210 y211 y212 y213 y214 y215 y216 y217 y218 y219 y220 y221 y222 y223 y224 y225 y226 y227 y228 y229 y230 y231 y232 y233 y234 y235 y236 y237 y238 y239 y240 y241 y242 y243 y244 y245 y246 y247 y248 y249 y250 y251 y252 y253 y254 y255 y256 y257 y258 y259 y260 y261 y262 y263 y264 y265 y266 y267 y268 y269 y270 y271 y272 y273 y274 y275 y276 y277 y278 y279 y280 y281 y282 y283 y284 y285 y286 y287 y288 y289 y290 y291 y292 y293 y294 y295 y296 y297 y298 y299 y300 y301 y302 y303 y304 y305 y306 y307 y308 y309 y310 y311 y312 y313 y314 y315 y316 y317 y318 y319 y320 y321 y322 y323 y324 y325 y326 y327 y328 y329 y330 y331 y332 y333 y334 y335 y336 y337 y338 y339 y340 y341 y342 y343 y344 y345 y346 y347 y348 y349 y350 y351 y352 y353 y354 y355 y356 y357 : Value) :
    (tail4 68).wp Ybad.prog (fin4 w) { tmps := #[y0, y1, y2, y3, .slice a4 n4 c4, y5, y6, y7, y8, y9, y10, .int .i64 (m : Int), .int .i64 (n : Int), y13, y14, .slice (some ⟨H, 0, none⟩) n n, y16, y17, y18, y19, y20, y21, y22, y23, y24, y25, y26, y27, .slice (some ⟨K2, 0, none⟩) (m + 1) (m + 1), y29, .slice (some ⟨K3, 0, none⟩) fl fl, y31, y32, y33, y34, y35, y36, .pointer (some ⟨cb, 0, none⟩), .slice v1 q1 p1, .slice v2 q2 p2, .slice v3 q1 p3, y41, .slice v4 el p4, .slice v5 tl p5, y44, y45, y46, y47, y48, y49, y50, y51, y52, y53, y54, y55, y56, y57, y58, y59, y60, y61, y62, y63, y64, y65, y66, y67, y68, y69, y70, y71, y72, y73, y74, y75, y76, y77, y78, y79, y80, y81, y82, y83, y84, y85, y86, y87, y88, y89, y90, y91, y92, y93, y94, y95, y96, y97, y98, y99, y100, y101, y102, y103, y104, y105, y106, y107, y108, y109, y110, y111, y112, y113, y114, y115, y116, y117, y118, y119, y120, y121, y122, y123, y124, y125, y126, y127, y128, y129, y130, y131, y132, y133, y134, y135, y136, y137, y138, y139, y140, y141, y142, y143, y144, y145, y146, y147, y148, y149, y150, y151, y152, y153, y154, y155, y156, y157, y158, y159, y160, y161, y162, y163, y164, y165, y166, y167, y168, y169, y170, y171, y172, y173, y174, y175, y176, y177, y178, y179, y180, y181, y182, y183, y184, y185, y186, y187, y188, y189, y190, y191, y192, y193, y194, y195, y196, y197, y198, y199, y200, y201, y202, y203, y204, y205, y206, y207, y208, y209, y210, y211, y212, y213, y214, y215, y216, y217, y218, y219, y220, y221, y222, y223, y224, y225, y226, y227, y228, y229, y230, y231, y232, y233, y234, y235, y236, y237, y238, y239, y240, y241, y242, y243, y244, y245, y246, y247, y248, y249, y250, y251, y252, y253, y254, y255, y256, y257, y258, y259, y260, y261, y262, y263, y264, y265, y266, y267, y268, y269, y270, y271, y272, y273, y274, y275, y276, y277, y278, y279, y280, y281, y282, y283, y284, y285, y286, y287, y288, y289, y290, y291, y292, y293, y294, y295, y296, y297, y298, y299, y300, y301, y302, y303, y304, y305, y306, y307, y308, y309, y310, y311, y312, y313, y314, y315, y316, y317, y318, y319, y320, y321, y322, y323, y324, y325, y326, y327, y328, y329, y330, y331, y332, y333, y334, y335, y336, y337, y338, y339, y340, y341, y342, y343, y344, y345, y346, y347, y348, y349, y350, y351, y352, y353, y354, y355, y356, y357], defers := [] } wn := by
  have hn4 := hd.len
  have hn4l := hd.le
  have htot := h.tot
  have hell := h.r4.len
  obtain ⟨b1', b2', b3', hnl, hml, hfl⟩ := h.base.b1
  have hel4 : el ≤ 65536 := h.r4.le
  obtain ⟨g5, hg5a, hg5n, hg5c, hg5b, hg5Z⟩ := own_read (Z := D ++ casts E1) (by rw [zints_app, zints_casts]; exact h.own)
  have x1 := slice26u (a := v5) (n := tl) (c := p5) (j := n4) hg5n (by omega) hg5c
  obtain ⟨a6, ha6, _, x2⟩ := slice26f (a := v5) (n := tl) (c := p5) (b := g5) (o := 0) (i := n4) hg5a hg5n (by omega) hg5c
  rw [show tl - n4 = el by omega, Nat.zero_add] at ha6
  rw [show tl - n4 = el by omega] at x2
  have e1 : (n4 : Int) + (el : Int) = (tl : Int) := by omega
  have HE1 : Hid (Calls Ybad.prog 16 #[.slice v5 n4 p5, .slice a4 n4 c4] wn fun e w' => e = .returned (.bool true) ∧ ∃ q, w' = wn.drewN q) := equal_any wn v5 a4 n4 p5 c4 g5 0 b4 o4 D hn4 hn4l (fun h0 => hg5a (by omega)) hd.at_ hg5Z.left hd.rd
  have HE2 : Hid (∀ q, Calls Ybad.prog 16 #[.slice a6 el (p5 - n4), .slice v4 el p4] (wn.drewN q) fun e w' => e = .returned (.bool true) ∧ ∃ q', w' = (wn.drewN q).drewN q') := fun q => equal_any (wn.drewN q) a6 v4 el (p5 - n4) p4 g5 n4 g4 0 (casts E1) (by rw [casts_len]; exact hell) hel4 ha6 h.r4.at_ (by have := hg5Z.right; rw [Nat.zero_add, ← hn4] at this; exact this) h.r4.rz
  have HE3 : Hid (∀ q, Calls Ybad.prog 16 #[.slice v1 q1 p1, .slice v3 q1 p3] (wn.drewN q) fun e w' => e = .returned (.bool true) ∧ ∃ q', w' = (wn.drewN q).drewN q') := fun q => equal_any (wn.drewN q) v1 v3 q1 p1 p3 g1 0 g3 0 (casts Q1) (by rw [casts_len]; exact h.r1.len) h.r1.le h.r1.at_ h.r3.at_ h.r1.rz h.r3.rz
  have HC : Hid (∀ q, Calls Ybad.prog 14 #[.slice (some ⟨H, 0, none⟩) n n, .slice (some ⟨K3, 0, none⟩) fl fl, .slice (some ⟨K2, 0, none⟩) (m + 1) (m + 1), .int .i64 (n : Int), .int .i64 (m : Int), .slice v2 q2 p2] (wn.drewN q) fun e wp => ∃ (v6 : Option Addr) (p6 el2 : Nat), e = .returned (.slice v6 el2 p6) ∧ Calls Ybad.prog 15 #[.pointer (some ⟨cb, 0, none⟩), .slice none 0 0, .slice v2 q2 p2] wp fun e wq => ∃ (v7 : Option Addr) (p7 : Nat), e = .returned (.slice v7 el2 p7) ∧ Calls Ybad.prog 16 #[.slice v7 el2 p7, .slice v6 el2 p6] wq fun e wr => e = .returned (.bool true) ∧ EndAt w wr cb mk m) := fun q => chain4 h ((Fr.refl wn []).drewN q)
  have hq2 := h.r2.le
  have hq1 := h.r1.le
  clear h hd hn4 htot hell hg5a hg5n hg5c hg5b hg5Z ha6 b1' b2' b3'
  refine tail_use rfl ?_
  go_upto_region 74 with (first | (go_at_call 16; refine (HE3.out (qa + qb)).mono ?_; rintro e w1 ⟨rfl, qc, rfl⟩) | (go_at_call 16; refine (HE2.out qa).mono ?_; rintro e w1 ⟨rfl, qb, rfl⟩) | (go_at_call 16; refine HE1.out.mono ?_; rintro e w1 ⟨rfl, qa, rfl⟩))
  go_upto_region 78 with (first | (go_at_call 16; refine Calls.mono H16.out ?_; rintro e wr ⟨rfl, hend⟩; have HEND : Hid (EndAt w wr cb mk m) := hend; clear hend) | (go_at_call 15; refine Calls.mono H15.out ?_; rintro e wq ⟨v7, p7, rfl, h16⟩; have H16 : Hid (Calls Ybad.prog 16 #[.slice v7 el2 p7, .slice v6 el2 p6] wq fun e wr => e = .returned (.bool true) ∧ EndAt w wr cb mk m) := h16; clear h16) | (go_at_call 14; refine (HC.out (qa + qb + qc)).mono ?_; rintro e wp ⟨v6, p6, el2, rfl, h15⟩; have H15 : Hid (Calls Ybad.prog 15 #[.pointer (some ⟨cb, 0, none⟩), .slice none 0 0, .slice v2 q2 p2] wp fun e wq => ∃ (v7 : Option Addr) (p7 : Nat), e = .returned (.slice v7 el2 p7) ∧ Calls Ybad.prog 16 #[.slice v7 el2 p7, .slice v6 el2 p6] wq fun e wr => e = .returned (.bool true) ∧ EndAt w wr cb mk m) := h15; clear h15))
  obtain ⟨f1, f2, f3, f4, c6, c9, c2, hmk, hbel⟩ := HEND.out
  have HMK : Hid (∀ i, i < m → wr.cell? ⟨mk, i, none⟩ = some (.bool false)) := hmk
  have HBEL : Hid (Below w.heap.size w wr) := hbel
  clear hmk hbel HEND HC HE1 HE2 HE3 x1 x2
  go_wp2_with fail
  go_loopw [352] (fun s wx => ∃ i : Nat, i ≤ m ∧ s = .int .i64 i ∧ wr = wx) (fun s _ => m - (intOf s).toNat)
  case atStart => exact ⟨0, Nat.zero_le _, rfl, rfl⟩
  case round =>
    obtain ⟨i, hi, rfl, rfl⟩ := hrel
    by_cases him : i < m
    · have hd : decide ((i : Int) < (m : Int)) = true := by simp; exact him
      have y1 := HMK.out i him
      have x1 := index30 (b := mk) (c := m) him
      go_wp2_with fail
      go_roundw
      case rel => exact ⟨i + 1, by omega, by go_num, trivial⟩
      case measure => simp [intOf]; omega
    · have hd : decide ((i : Int) < (m : Int)) = false := by simp; omega
      go_wp2_with fail
      go_ret
      exact ⟨rfl, HBEL.out⟩
end Go.Proofs.YbulkdxbkDoor
