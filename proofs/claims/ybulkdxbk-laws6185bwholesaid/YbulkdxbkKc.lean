import Derived.Test.YbulkdxbkKb
namespace Go.Proofs.Ybulkdxbk
open Go.RowKit
set_option linter.unusedVariables false

theorem bfs_good {S : Nat → List Nat} {n : Nat} (hS : ∀ k x, x ∈ S k → x < n) (f : Nat) : ∀ (out : List Nat) (i : Nat), out.Nodup → (∀ x ∈ out, x < n) → (bfs S f out i).Nodup ∧ ∀ x ∈ bfs S f out i, x < n := by
  induction f with
  | zero => intro out i h1 h2; exact ⟨h1, h2⟩
  | succ f ih =>
    intro out i h1 h2
    simp only [bfs]
    split
    · exact ⟨h1, h2⟩
    · rename_i k hk
      exact ih _ _ (addNew_nodup h1 _) fun x hx => by
        rcases addNew_mem.1 hx with h | h
        · exact h2 x h
        · exact hS k x h
theorem nullOf_lt {NL : List (List Nat)} {n : Nat} (h : ∀ (q : Nat) L r, NL[q]? = some L → r ∈ L → r < n) : ∀ k x, x ∈ nullOf NL k → x < n := fun k x hx => by
  unfold nullOf at hx
  cases hk : NL[k]? with
  | none => rw [hk] at hx; simp at hx
  | some L => rw [hk] at hx; exact h k L x hk (by simpa using hx)
theorem reach_good {NL : List (List Nat)} {n : Nat} (h : ∀ (q : Nat) L r, NL[q]? = some L → r ∈ L → r < n) {SD : List Nat} (hsd : ∀ x ∈ SD, x < n) : (bfs (nullOf NL) n (addNew [] SD) 0).Nodup ∧ ∀ x ∈ bfs (nullOf NL) n (addNew [] SD) 0, x < n :=
  bfs_good (nullOf_lt h) n _ 0 (addNew_nodup (by simp) SD) fun x hx => by
    rcases addNew_mem.1 hx with h | h
    · simp at h
    · exact hsd x h

set_option maxRecDepth 100000 in
set_option maxHeartbeats 8000000 in
theorem appendSet_any (wC w : World) (K cb gb mk n rb : Nat) (nf : Bool) (x5 x6 x7 x8 x9 : Value) (so0 : Option Addr) (sn0 sc0 : Nat) (ro0 : Option Addr) (rn0 rc0 : Nat) (R0 : List Nat) (NL : List (List Nat)) (a : Option Addr) (m c b o : Nat) (SD : List Nat)
    (dd : Option Addr) (dn dc B : Nat) (dx : List Value)
    (hn : n ≤ 256) (hNL : NL.length = n) (hnto : ∀ (q : Nat) L r, NL[q]? = some L → r ∈ L → r < n) (hfl : NL.flatten.length ≤ 65536) (hC : Cond wC gb n NL)
    (hcl : Clo wC w K cb gb mk n nf x5 x6 x7 x8 x9 (.slice so0 sn0 sc0) (.slice ro0 rn0 rc0) R0)
    (hm : m = SD.length) (hm2 : m ≤ 1073741824) (hsd : ∀ x ∈ SD, x < n) (ha : 0 < m → a = some ⟨b, o, none⟩) (hr : NatsAt w b o SD) (hb : 0 < m → b ∉ cloS cb mk (.slice so0 sn0 sc0) (.slice ro0 rn0 rc0))
    (hrb : w.cell? ⟨rb, 2, none⟩ = some (.pointer (some ⟨cb, 0, none⟩))) (hrS : rb ∉ cloS cb mk (.slice so0 sn0 sc0) (.slice ro0 rn0 rc0))
    (hd : w.ownsRow B 3 1 (.slice dd dn dc) dn dx) (hdn : dn ≤ 1073741824) (hB : B ≤ w.heap.size) (hdS : ∀ x, (Value.slice dd dn dc).ownBlock = some x → x ∉ cloS cb mk (.slice so0 sn0 sc0) (.slice ro0 rn0 rc0) ∧ wC.heap.size ≤ x) :
    Calls Yba.prog 14 #[.pointer (some ⟨rb, 0, none⟩), .slice dd dn dc, .slice a m c] w fun e w' => ∃ vo cap so' sc' ro' rc', e = .returned (.slice vo (dn + (bfs (nullOf NL) n (addNew [] SD) 0).length) cap) ∧
      w'.ownsRow B 3 1 (.slice vo (dn + (bfs (nullOf NL) n (addNew [] SD) 0).length) cap) (dn + (bfs (nullOf NL) n (addNew [] SD) 0).length) (dx ++ ints (bfs (nullOf NL) n (addNew [] SD) 0)) ∧
      Clo wC w' K cb gb mk n nf x5 x6 x7 x8 x9 (.slice so' SD.length sc') (.slice ro' (bfs (nullOf NL) n (addNew [] SD) 0).length rc') (bfs (nullOf NL) n (addNew [] SD) 0) ∧ Fr w w' (cloS cb mk (.slice so0 sn0 sc0) (.slice ro0 rn0 rc0) ++ blks (.slice dd dn dc)) ∧
      Moved w (.slice so0 sn0 sc0) (.slice so' SD.length sc') ∧ Moved w (.slice ro0 rn0 rc0) (.slice ro' (bfs (nullOf NL) n (addNew [] SD) 0).length rc') ∧ Moved w (.slice dd dn dc) (.slice vo (dn + (bfs (nullOf NL) n (addNew [] SD) 0).length) cap) ∧
      ∀ y, (Value.slice vo (dn + (bfs (nullOf NL) n (addNew [] SD) 0).length) cap).ownBlock = some y → y ∉ cloS cb mk (.slice so' SD.length sc') (.slice ro' (bfs (nullOf NL) n (addNew [] SD) 0).length rc') := by
  have hRl : (bfs (nullOf NL) n (addNew [] SD) 0).length ≤ 256 := Nat.le_trans (len_le_of_nodup n _ (reach_good hnto hsd).1 (reach_good hnto hsd).2) hn
  have hcall := reachFrom_any wC w K cb gb mk n nf x5 x6 x7 x8 x9 so0 sn0 sc0 ro0 rn0 rc0 R0 NL a m c b o SD hn hNL hnto hfl hC hcl hm hm2 hsd ha hr hb
  obtain ⟨R, hR⟩ : ∃ R, R = bfs (nullOf NL) n (addNew [] SD) 0 := ⟨_, rfl⟩
  rw [← hR] at hRl hcall ⊢
  clear hR
  have HCALL : Hid (Calls Yba.prog 24 #[.pointer (some ⟨cb, 0, none⟩), .slice a m c] w fun e w' => e = .returned (.tuple #[]) ∧ ∃ so' sc' ro' rc',
      Clo wC w' K cb gb mk n nf x5 x6 x7 x8 x9 (.slice so' SD.length sc') (.slice ro' R.length rc') R ∧ Fr w w' (cloS cb mk (.slice so0 sn0 sc0) (.slice ro0 rn0 rc0)) ∧ Moved w (.slice so0 sn0 sc0) (.slice so' SD.length sc') ∧ Moved w (.slice ro0 rn0 rc0) (.slice ro' R.length rc')) := hcall
  have HRS : Hid (rb ∉ cloS cb mk (.slice so0 sn0 sc0) (.slice ro0 rn0 rc0)) := hrS
  have HD : Hid (w.ownsRow B 3 1 (.slice dd dn dc) dn dx) := hd
  have HDS : Hid (∀ x, (Value.slice dd dn dc).ownBlock = some x → x ∉ cloS cb mk (.slice so0 sn0 sc0) (.slice ro0 rn0 rc0) ∧ wC.heap.size ≤ x) := hdS
  have HCL : Hid (Clo wC w K cb gb mk n nf x5 x6 x7 x8 x9 (.slice so0 sn0 sc0) (.slice ro0 rn0 rc0) R0) := hcl
  clear hcall hC hcl hsd ha hr hb hrS hd hdS hNL hnto hfl hm
  go_enter Yba.func14, Yba.ntmps14
  go_wp2_with (go_at_call 24; refine HCALL.out.mono ?_)
  rintro e w1 ⟨rfl, so', sc', ro', rc', hcl1, hf1, hms, hmr⟩
  have r2 : w1.cell? ⟨rb, 2, none⟩ = some (.pointer (some ⟨cb, 0, none⟩)) := hf1.cell hrb HRS.out
  have hblk := hcl1.blk
  have c4 : w1.cell? ⟨cb, 4, none⟩ = some (.slice ro' R.length rc') := by simp [World.cell?, hblk]
  have hd1 : w1.ownsRow B 3 1 (.slice dd dn dc) dn dx := hf1.own HD.out fun x hx => (HDS.out x hx).1
  have HD1 : Hid (w1.ownsRow B 3 1 (.slice dd dn dc) dn dx) := hd1
  have HCL1 : Hid (Clo wC w1 K cb gb mk n nf x5 x6 x7 x8 x9 (.slice so' SD.length sc') (.slice ro' R.length rc') R) := hcl1
  have HF1 : Hid (Fr w w1 (cloS cb mk (.slice so0 sn0 sc0) (.slice ro0 rn0 rc0))) := hf1
  have HMS : Hid (Moved w (.slice so0 sn0 sc0) (.slice so' SD.length sc')) := hms
  have HMR : Hid (Moved w (.slice ro0 rn0 rc0) (.slice ro' R.length rc')) := hmr
  obtain ⟨vo, cap, g, e1, e2, e3, e4⟩ := own_form hcl1.rown
  cases e1
  have HSRC : Hid (0 < R.length → ∃ ad, ro' = some ad ∧ ∀ j u, (ints R)[j]? = some u → w1.cell? (ad.add j) = some u) := fun h0 => ⟨_, e2 h0, fun j u hu => by
    have e5 := e2 h0
    subst e5
    rw [add0]; exact own_cell hcl1.rown hu⟩
  have HNIL : Hid (ro' = none → rc' = 0) := e4
  have hB1 : B ≤ w1.heap.size := Nat.le_trans hB hf1.size
  have hlz : (ints R).length = R.length := ints_len R
  have HIO := ints_one R
  clear hcl1 hf1 hms hmr hblk hd1 e2 e3 e4 HCALL hrb
  go_wp2_with (first | (at_builtin; refine wpList_app rfl _ _ rfl rfl HD1.out ro' R.length rc' (ints R) rfl hlz HSRC.out HNIL.out HIO (by omega) hB1 ?_; intro vo cap w2 h1 h2 h3; have H1 : Hid (w2.ownsRow B 3 1 (.slice vo (dn + R.length) cap) (dn + R.length) (dx ++ ints R)) := h1; have H2 : Hid (Fr w1 w2 (blks (.slice dd dn dc))) := h2; have H3 : Hid (Moved w1 (.slice dd dn dc) (.slice vo (dn + R.length) cap)) := h3; clear h1 h2 h3))
  go_ret
  have hlt : ∀ x, (Value.slice dd dn dc).ownBlock = some x → x < w.heap.size := fun x hx => (HD.out.lt x hx).2
  have hfar : ∀ x ∈ blks (.slice dd dn dc), wC.heap.size ≤ x ∧ x ∉ cloS cb mk (.slice so' SD.length sc') (.slice ro' R.length rc') := fun x hx => by
    have hx' := mem_blks.1 hx
    refine ⟨(HDS.out x hx').2, fun hm => ?_⟩
    rcases cloS_moved HMS.out HMR.out x hm with h | h
    · exact (HDS.out x hx').1 h
    · have := hlt x hx'; omega
  refine ⟨vo, cap, so', sc', ro', rc', rfl, H1.out, HCL1.out.keep H2.out hfar, ?_, HMS.out, HMR.out, fun x hx => ?_, fun x hx => ?_⟩
  · refine (HF1.out.mono (S' := cloS cb mk (.slice so0 sn0 sc0) (.slice ro0 rn0 rc0) ++ blks (.slice dd dn dc)) fun c hc => .inl (List.mem_append.2 (.inl hc))).then H2.out fun c hc => .inl (List.mem_append.2 (.inr hc))
  · rcases H3.out x hx with h | h
    · exact .inl h
    · exact .inr (Nat.le_trans HF1.out.size h)
  · rcases H3.out x hx with h | h
    · exact (hfar x (mem_blks.2 h)).2
    · intro hm'
      have l := HCL1.out
      have h3 := l.kw
      have h5 := l.c2
      have h7 := l.m2
      simp only [cloS, List.mem_cons, List.mem_append] at hm'
      rcases hm' with h1 | h1 | h1 | h1
      · omega
      · omega
      · have := (l.sv_ge x (mem_blks.1 h1)).2; omega
      · have := (l.rown.lt x (mem_blks.1 h1)).2; omega
end Go.Proofs.Ybulkdxbk
