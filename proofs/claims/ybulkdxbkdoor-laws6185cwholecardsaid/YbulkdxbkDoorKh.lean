import Derived.Test.YbulkdxbkDoorKg
namespace Go.Proofs.YbulkdxbkDoor
open Go.RowKit
set_option linter.unusedVariables false
set_option linter.unusedSectionVars false

section
variable {w0 w w2 : World} {wv0 kv0 : Value} {B K cb gb mk m : Nat} {nf : Bool} {sv rv : Value} {b1 b2 nw nu : Nat} {wo : Option Addr} {wc : Nat} {od : Bool} {ko : Option Addr} {kc : Nat} {BL UL WL KL : List Nat}
theorem SB.after (h : SB w0 wv0 kv0 B K cb gb mk m nf sv rv b1 b2 nw nu w wo wc od ko kc BL UL WL KL) {S : List Nat} (hf : Fr w w2 S) (hc : cb ∉ S) (h1 : b1 ∉ S) (h2 : b2 ∉ S) (hbl : BL.length = nw) (hul : UL.length = nu) {i j : Nat} (hi : i < nw) (hj : j < nu) :
    ((w2.cell? ⟨cb, 5, none⟩ = some (.slice (some ⟨b1, 0, none⟩) nw nw) ∧ w2.cell? ⟨cb, 6, none⟩ = some (.slice wo WL.length wc) ∧ w2.cell? ⟨cb, 7, none⟩ = some (.bool od) ∧ w2.cell? ⟨cb, 8, none⟩ = some (.slice (some ⟨b2, 0, none⟩) nu nu) ∧ w2.cell? ⟨cb, 9, none⟩ = some (.slice ko KL.length kc)) ∧ w2.frozen? ⟨cb, 6, none⟩ = false ∧ w2.frozen? ⟨cb, 7, none⟩ = false ∧ w2.frozen? ⟨cb, 9, none⟩ = false) ∧
    (w2.cell? ⟨b1, i, none⟩ = some (.int .u64 (at64 BL i : Int)) ∧ w2.frozen? ⟨b1, i, none⟩ = false) ∧ (w2.cell? ⟨b2, j, none⟩ = some (.int .u64 (at64 UL j : Int)) ∧ w2.frozen? ⟨b2, j, none⟩ = false) := by
  have hb := hf.blk h.blk hc
  have o1 := hf.own h.bits (fun b e => by cases e; exact h1)
  have o2 := hf.own h.use (fun b e => by cases e; exact h2)
  refine ⟨⟨⟨?_, ?_, ?_, ?_, ?_⟩, ?_, ?_, ?_⟩, ⟨own_cell o1 (u64s_get (at64_get (by omega))), own_frozen o1 i⟩, ⟨own_cell o2 (u64s_get (at64_get (by omega))), own_frozen o2 j⟩⟩ <;> simp [World.cell?, World.frozen?, hb]
end
theorem or_u64 {x b : Nat} (hx : x < 18446744073709551616) (hb : b < 64) : bits BinOp.or IntKind.u64 (x : Int) (IntKind.u64.wrap (2 ^ b)) = ((x ||| 2 ^ b : Nat) : Int) := by
  have h2 : 2 ^ b < 18446744073709551616 := by
    have : 2 ^ b < 2 ^ 64 := Nat.pow_lt_pow_right (by omega) hb
    simpa using this
  have e : IntKind.u64.wrap (2 ^ b) = ((2 ^ b : Nat) : Int) := by
    have h3 : ((2 : Int) ^ b) = ((2 ^ b : Nat) : Int) := by simp
    rw [h3]
    generalize 2 ^ b = y at *
    simp [IntKind.wrap, IntKind.signed, IntKind.bits]
    omega
  rw [e, bits_or_u64_nat x (2 ^ b) hx h2]
set_option maxRecDepth 100000 in
set_option maxHeartbeats 4000000 in
theorem add_any (w0 w : World) (wv0 kv0 : Value) (B K cb gb mk m : Nat) (nf : Bool) (sv rv : Value) (b1 b2 nw nu : Nat) (wo : Option Addr) (wc : Nat) (od : Bool) (ko : Option Addr) (kc : Nat) (BL UL WL KL : List Nat) (p : Nat → Bool) (q : Nat) (hq : q < nw * 64)
    (hs : SB w0 wv0 kv0 B K cb gb mk m nf sv rv b1 b2 nw nu w wo wc od ko kc BL UL WL KL) (hb : BI nw nu p od BL UL WL KL) :
    Calls Ybad.prog 29 #[.pointer (some ⟨cb, 5, none⟩), .int .i64 (q : Int)] w fun e w' => e = .returned (.tuple #[]) ∧ ∃ wo' wc' od' ko' kc' BL' UL' WL' KL', SB w0 wv0 kv0 B K cb gb mk m nf sv rv b1 b2 nw nu w' wo' wc' od' ko' kc' BL' UL' WL' KL' ∧ BI nw nu (fun r => if r = q then true else p r) od' BL' UL' WL' KL' := by
  have hnu3 := hb.nu3
  have hnu1 := hb.nu1
  obtain ⟨⟨c5, c6, c7, c8, c9⟩, f6, f7, f9⟩ := hs.cells
  obtain ⟨i, hi⟩ : ∃ i, i = q / 64 := ⟨_, rfl⟩
  obtain ⟨j, hj⟩ : ∃ j, j = i / 64 := ⟨_, rfl⟩
  obtain ⟨bq, hbq⟩ : ∃ bq, bq = q % 64 := ⟨_, rfl⟩
  obtain ⟨bi, hbi⟩ : ∃ bi, bi = i % 64 := ⟨_, rfl⟩
  have hil : i < nw := by omega
  have hjl : j < nu := by omega
  obtain ⟨y1, z1⟩ := hs.bitAt hb.bl hil
  obtain ⟨y2, z2⟩ := hs.useAt hb.ul hjl
  have x1 := index58 (b := b1) (c := nw) hil
  have x2 := index58 (b := b2) (c := nu) hjl
  have e1 : (q : Int) / 64 = (i : Int) := by omega
  have e2 : (i : Int) / 64 = (j : Int) := by omega
  have e3 : (q : Int) % 64 = (bq : Int) := by omega
  have e4 : (i : Int) % 64 = (bi : Int) := by omega
  have hq2 : q < 12288 := by omega
  have hbq2 : bq < 64 := by omega
  have hbi2 : bi < 64 := by omega
  have HS : Hid (SB w0 wv0 kv0 B K cb gb mk m nf sv rv b1 b2 nw nu w wo wc od ko kc BL UL WL KL) := hs
  have HBI : Hid (BI nw nu p od BL UL WL KL) := hb
  have hbb := hb.bb i
  have hub := hb.ub j
  have HE : Hid (i = q / 64 ∧ j = i / 64 ∧ bq = q % 64 ∧ bi = i % 64) := ⟨hi, hj, hbq, hbi⟩
  clear hs hb hi hj hbq hbi
  obtain ⟨xw, hxw⟩ : ∃ xw, xw = at64 BL i := ⟨_, rfl⟩
  obtain ⟨xu, hxu⟩ : ∃ xu, xu = at64 UL j := ⟨_, rfl⟩
  rw [← hxw] at y1 hbb
  rw [← hxu] at y2 hub
  have HX : Hid (xw = at64 BL i ∧ xu = at64 UL j) := ⟨hxw, hxu⟩
  clear hxw hxu
  have o1 := or_u64 (x := xw) hbb hbq2
  have o2 := or_u64 (x := xu) hub hbi2
  obtain ⟨v1, hv1⟩ : ∃ v, v = xw ||| 2 ^ bq := ⟨_, rfl⟩
  obtain ⟨v2, hv2⟩ : ∃ v, v = xu ||| 2 ^ bi := ⟨_, rfl⟩
  rw [← hv1] at o1
  rw [← hv2] at o2
  have HV : Hid (v1 = xw ||| 2 ^ bq ∧ v2 = xu ||| 2 ^ bi) := ⟨hv1, hv2⟩
  clear hv1 hv2
  by_cases hz : xw = 0
  · have hz1 : ((xw : Int) = 0) := by omega
    have hz2 : ((xw : Int) == 0) = true := by simp; omega
    have HZ : Hid (xw = 0) := hz
    have hwl : WL.length ≤ 192 := by have := HBI.out.wml; omega
    have hkl : KL.length ≤ 3 := HBI.out.kml
    have hKw : K ≤ w.heap.size := HS.out.kw
    have HAFT : Hid (∀ w2, Fr w w2 (blks (.slice wo WL.length wc)) → ((w2.cell? ⟨cb, 5, none⟩ = some (.slice (some ⟨b1, 0, none⟩) nw nw) ∧ w2.cell? ⟨cb, 6, none⟩ = some (.slice wo WL.length wc) ∧ w2.cell? ⟨cb, 7, none⟩ = some (.bool od) ∧ w2.cell? ⟨cb, 8, none⟩ = some (.slice (some ⟨b2, 0, none⟩) nu nu) ∧ w2.cell? ⟨cb, 9, none⟩ = some (.slice ko KL.length kc)) ∧ w2.frozen? ⟨cb, 6, none⟩ = false ∧ w2.frozen? ⟨cb, 7, none⟩ = false ∧ w2.frozen? ⟨cb, 9, none⟩ = false) ∧
    (w2.cell? ⟨b1, i, none⟩ = some (.int .u64 (xw : Int)) ∧ w2.frozen? ⟨b1, i, none⟩ = false) ∧ (w2.cell? ⟨b2, j, none⟩ = some (.int .u64 (xu : Int)) ∧ w2.frozen? ⟨b2, j, none⟩ = false)) := fun w2 hf => by
      rw [HX.out.1, HX.out.2]
      exact HS.out.after hf (HS.out.wfar HS.out.c2) (HS.out.wfar HS.out.l1) (HS.out.wfar HS.out.l2) HBI.out.bl HBI.out.ul hil hjl
    clear hz
    have o1' := o1
    rw [hz1] at o1'
    have n1 := HS.out.n1
    have n2 := HS.out.n2
    have n3 := HS.out.n3
    by_cases hu : xu = 0
    · have hu1 : ((xu : Int) = 0) := by omega
      have hu2 : ((xu : Int) == 0) = true := by simp; omega
      have o2' := o2
      rw [hu1] at o2'
      have HU : Hid (xu = 0) := hu
      clear hu
      have HAFT2 : Hid (∀ (w2 w3 : World) (g cap : Nat), SB w0 wv0 kv0 B K cb gb mk m nf sv rv b1 b2 nw nu w2 (some ⟨g, 0, none⟩) cap false ko kc BL UL (WL ++ [i]) KL → Fr w2 w3 (blks (.slice ko KL.length kc)) → ((w3.cell? ⟨cb, 5, none⟩ = some (.slice (some ⟨b1, 0, none⟩) nw nw) ∧ w3.cell? ⟨cb, 6, none⟩ = some (.slice (some ⟨g, 0, none⟩) (WL ++ [i]).length cap) ∧ w3.cell? ⟨cb, 7, none⟩ = some (.bool false) ∧ w3.cell? ⟨cb, 8, none⟩ = some (.slice (some ⟨b2, 0, none⟩) nu nu) ∧ w3.cell? ⟨cb, 9, none⟩ = some (.slice ko KL.length kc)) ∧ w3.frozen? ⟨cb, 6, none⟩ = false ∧ w3.frozen? ⟨cb, 7, none⟩ = false ∧ w3.frozen? ⟨cb, 9, none⟩ = false) ∧
    (w3.cell? ⟨b1, i, none⟩ = some (.int .u64 (xw : Int)) ∧ w3.frozen? ⟨b1, i, none⟩ = false) ∧ (w3.cell? ⟨b2, j, none⟩ = some (.int .u64 (xu : Int)) ∧ w3.frozen? ⟨b2, j, none⟩ = false)) := fun w2 w3 g cap h hf => by
        rw [HX.out.1, HX.out.2]
        exact h.after hf (h.kfar h.c2) (h.kfar h.l1) (h.kfar h.l2) HBI.out.bl HBI.out.ul hil hjl
      go_enter Ybad.func29, Ybad.ntmps29
      go_wp2_with (first | (at_builtin; refine wpList_app1 rfl _ _ rfl w (i : Int) rfl HS.out.wown rfl (by omega) hKw ?_; intro g cap w2 h1 h2 h3; obtain ⟨⟨⟨d5, d6, d7, d8, d9⟩, k6, k7, k9⟩, ⟨d1, k1⟩, d2, k2⟩ := HAFT.out w2 h2; have HS2 : Hid _ := (HS.out.pushW h1 h2 h3).setOd false; clear h1 h2 h3) | (at_builtin; refine wpList_app1 rfl _ _ rfl _ (j : Int) rfl HS2.out.kown (by show Value.slice (some ⟨w2.heap.size, 0, none⟩) 1 1 = _; rw [setCell_size, setCell_size]) (by omega) HS2.out.kw ?_; intro g3 cap3 w3 h1 h2 h3; obtain ⟨⟨⟨u5, u6, u7, u8, u9⟩, v6, v7, v9⟩, ⟨u1, t1⟩, u2, t2⟩ := HAFT2.out _ w3 _ _ HS2.out h2; have HS3 : Hid _ := HS2.out.pushK h1 h2 h3; clear h1 h2 h3))
      go_end0
      refine ⟨rfl, _, _, _, _, _, _, _, _, _, (HS3.out.setUse j v2).setBits i v1, ?_⟩
      obtain ⟨h1, h2, h3, h4⟩ := HE.out
      have h5 := HBI.out.addNewW hq (by rw [← h1, ← HX.out.1]; exact HZ.out)
      rw [← h1, ← h2, ← h3, ← h4, ← HX.out.1, ← HX.out.2, ← HV.out.1, ← HV.out.2, if_pos HU.out] at h5
      exact h5
    · have hu1 : ¬ ((xu : Int) = 0) := by omega
      have hu2 : ((xu : Int) == 0) = false := by simp; omega
      go_enter Ybad.func29, Ybad.ntmps29
      go_wp2_with (first | (at_builtin; refine wpList_app1 rfl _ _ rfl w (i : Int) rfl HS.out.wown rfl (by omega) hKw ?_; intro g cap w2 h1 h2 h3; obtain ⟨⟨⟨d5, d6, d7, d8, d9⟩, k6, k7, k9⟩, ⟨d1, k1⟩, d2, k2⟩ := HAFT.out w2 h2; have HS2 : Hid _ := (HS.out.pushW h1 h2 h3).setOd false; clear h1 h2 h3))
      go_end0
      refine ⟨rfl, _, _, _, _, _, _, _, _, _, (HS2.out.setUse j v2).setBits i v1, ?_⟩
      obtain ⟨h1, h2, h3, h4⟩ := HE.out
      have h5 := HBI.out.addNewW hq (by rw [← h1, ← HX.out.1]; exact HZ.out)
      rw [← h1, ← h2, ← h3, ← h4, ← HX.out.1, ← HX.out.2, ← HV.out.1, ← HV.out.2, if_neg hu] at h5
      exact h5
  · have hz1 : ¬ ((xw : Int) = 0) := by omega
    have hz2 : ((xw : Int) == 0) = false := by simp; omega
    go_enter Ybad.func29, Ybad.ntmps29
    go_wp2_with fail
    go_end0
    refine ⟨rfl, _, _, _, _, _, _, _, _, _, HS.out.setBits i v1, ?_⟩
    obtain ⟨h1, h2, h3, h4⟩ := HE.out
    have h5 := HBI.out.addOld hq (by rw [← h1, ← HX.out.1]; exact hz)
    rw [← h1, ← h3, ← HX.out.1, ← HV.out.1] at h5
    exact h5
end Go.Proofs.YbulkdxbkDoor
