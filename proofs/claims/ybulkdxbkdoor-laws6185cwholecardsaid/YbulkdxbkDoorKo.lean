import Derived.Test.YbulkdxbkDoorKn
namespace Go.Proofs.YbulkdxbkDoor
open Go.RowKit
set_option linter.unusedVariables false
set_option linter.unusedSectionVars false

theorem succ_ex (wC : World) (gb n m k : Nat) (CP : List Nat) (ML SL : List (List Nat)) (L : List Nat) (hn : m ≤ 4096) (hk : k < m) (hC : CondC wC gb n m CP ML SL) (hL : SL[k]? = some L) (hb : SL.flatten.length ≤ 65536) :
    ∃ (a : Option Addr) (c b o : Nat), (0 < L.length → a = some ⟨b, o, none⟩) ∧ NatsAt wC b o L ∧ ∀ w : World, (∀ c, c < wC.heap.size → w.heap[c]? = wC.heap[c]?) → Calls Ybad.prog 40 #[.pointer (some ⟨gb, 0, none⟩), .int .i64 (k : Int)] w fun e w' => e = .returned (.slice a L.length c) ∧ ∃ q, w' = w.drewN q := by
  obtain ⟨cb, mb, fb, sb, tb, h1, _, _, _, _, _, h6, h7⟩ := hC
  have x1 := index26z (b := tb) (c := m + 1) (show k < m + 1 by omega)
  have x2 := index26z (b := tb) (c := m + 1) (show k + 1 < m + 1 by omega)
  rw [show ((k + 1 : Nat) : Int) = (k : Int) + 1 by omega] at x2
  have p1 := pre_succ hL
  have p2 := pre_le (NL := SL) (k + 1)
  obtain ⟨a', e1, e2, x3⟩ := slice26 (a := some ⟨sb, 0, none⟩) (n := SL.flatten.length) (c := SL.flatten.length) (b := sb) (o := 0) (i := pre SL k) (j := pre SL (k + 1)) (fun _ => rfl) (fun h => by cases h) (by omega) p2 (Nat.le_refl _)
  have hlen : pre SL (k + 1) - pre SL k = L.length := by omega
  rw [hlen] at x3
  refine ⟨a', SL.flatten.length - pre SL k, sb, pre SL k, fun h => by rw [e1 (by omega), Nat.zero_add], fun i x hx => ?_, fun w hw => ?_⟩
  · have := h6 (pre SL k + i) x (pre_get hL hx)
    rwa [Nat.zero_add] at this
  have g1 : w.heap[gb]? = _ := (hw gb (blk_lt h1)).trans h1
  have c1 : w.cell? ⟨gb, 3, none⟩ = some (.slice (some ⟨sb, 0, none⟩) SL.flatten.length SL.flatten.length) := by simp [World.cell?, g1]
  have c2 : w.cell? ⟨gb, 4, none⟩ = some (.slice (some ⟨tb, 0, none⟩) (m + 1) (m + 1)) := by simp [World.cell?, g1]
  have d1 : w.cell? ⟨tb, k, none⟩ = some (.int .i64 (pre SL k : Int)) := cell_of (h7 k (by omega)) (hw _ (cell_lt (h7 k (by omega))))
  have d2 : w.cell? ⟨tb, k + 1, none⟩ = some (.int .i64 (pre SL (k + 1) : Int)) := cell_of (h7 (k + 1) (by omega)) (hw _ (cell_lt (h7 (k + 1) (by omega))))
  clear h1 h6 h7 g1 e1 e2 p1 p2 hlen hw
  generalize pre SL k = pk at *
  generalize pre SL (k + 1) = pk1 at *
  generalize SL.flatten.length = fl at *
  go_enter Ybad.func40, Ybad.ntmps40
  go_wp2_with fail
  go_quiet (fail)
  go_wp2_with fail
  go_ret
  exact ⟨rfl, _, rfl⟩
theorem members_ex (wC : World) (gb n m k : Nat) (CP : List Nat) (ML SL : List (List Nat)) (L : List Nat) (hn : m ≤ 4096) (hk : k < m) (hC : CondC wC gb n m CP ML SL) (hL : ML[k]? = some L) (hb : n ≤ 65536) :
    ∃ (a : Option Addr) (c b o : Nat), (0 < L.length → a = some ⟨b, o, none⟩) ∧ NatsAt wC b o L ∧ ∀ w : World, (∀ c, c < wC.heap.size → w.heap[c]? = wC.heap[c]?) → Calls Ybad.prog 41 #[.pointer (some ⟨gb, 0, none⟩), .int .i64 (k : Int)] w fun e w' => e = .returned (.slice a L.length c) ∧ ∃ q, w' = w.drewN q := by
  obtain ⟨cb, mb, fb, sb, tb, h1, _, _, h5, h6, h7, _, _⟩ := hC
  have x1 := index26z (b := fb) (c := m + 1) (show k < m + 1 by omega)
  have x2 := index26z (b := fb) (c := m + 1) (show k + 1 < m + 1 by omega)
  rw [show ((k + 1 : Nat) : Int) = (k : Int) + 1 by omega] at x2
  have p1 := pre_succ hL
  have p2 := pre_le (NL := ML) (k + 1)
  rw [h5] at p2
  obtain ⟨a', e1, e2, x3⟩ := slice26 (a := some ⟨mb, 0, none⟩) (n := n) (c := n) (b := mb) (o := 0) (i := pre ML k) (j := pre ML (k + 1)) (fun _ => rfl) (fun h => by cases h) (by omega) p2 (Nat.le_refl _)
  have hlen : pre ML (k + 1) - pre ML k = L.length := by omega
  rw [hlen] at x3
  refine ⟨a', n - pre ML k, mb, pre ML k, fun h => by rw [e1 (by omega), Nat.zero_add], fun i x hx => ?_, fun w hw => ?_⟩
  · have := h6 (pre ML k + i) x (pre_get hL hx)
    rwa [Nat.zero_add] at this
  have g1 : w.heap[gb]? = _ := (hw gb (blk_lt h1)).trans h1
  have c1 : w.cell? ⟨gb, 1, none⟩ = some (.slice (some ⟨mb, 0, none⟩) n n) := by simp [World.cell?, g1]
  have c2 : w.cell? ⟨gb, 2, none⟩ = some (.slice (some ⟨fb, 0, none⟩) (m + 1) (m + 1)) := by simp [World.cell?, g1]
  have d1 : w.cell? ⟨fb, k, none⟩ = some (.int .i64 (pre ML k : Int)) := cell_of (h7 k (by omega)) (hw _ (cell_lt (h7 k (by omega))))
  have d2 : w.cell? ⟨fb, k + 1, none⟩ = some (.int .i64 (pre ML (k + 1) : Int)) := cell_of (h7 (k + 1) (by omega)) (hw _ (cell_lt (h7 (k + 1) (by omega))))
  clear h1 h5 h6 h7 g1 e1 e2 p1 hlen hw
  generalize pre ML k = pk at *
  generalize pre ML (k + 1) = pk1 at *
  go_enter Ybad.func41, Ybad.ntmps41
  go_wp2_with fail
  go_quiet (fail)
  go_wp2_with fail
  go_ret
  exact ⟨rfl, _, rfl⟩
section
variable {w0 w w2 : World} {wv0 kv0 : Value} {B K cb gb mk m : Nat} {nf : Bool} {sv rv : Value} {b1 b2 nw nu : Nat} {wo : Option Addr} {wc : Nat} {od : Bool} {ko : Option Addr} {kc : Nat} {BL UL WL KL : List Nat}
/-- what lies elsewhere leaves the set's builder as it is -/
theorem SB.keep (h : SB w0 wv0 kv0 B K cb gb mk m nf sv rv b1 b2 nw nu w wo wc od ko kc BL UL WL KL) {S : List Nat} (hf : Fr w w2 S) (hS : ∀ c ∈ S, c ∉ sbS cb b1 b2 (.slice wo WL.length wc) (.slice ko KL.length kc)) :
    SB w2 (.slice wo WL.length wc) (.slice ko KL.length kc) B K cb gb mk m nf sv rv b1 b2 nw nu w2 wo wc od ko kc BL UL WL KL := by
  have hn : ∀ c, c ∈ sbS cb b1 b2 (.slice wo WL.length wc) (.slice ko KL.length kc) → c ∉ S := fun c hc hs => hS c hs hc
  exact ⟨hf.blk h.blk (hn cb (by simp [sbS])), hf.own h.bits (fun b hb => by cases hb; exact hn b1 (by simp [sbS])), hf.own h.use (fun b hb => by cases hb; exact hn b2 (by simp [sbS])), hf.own h.wown (fun b hb => hn b (by simp [sbS, mem_blks.2 hb])), hf.own h.kown (fun b hb => hn b (by simp [sbS, mem_blks.2 hb])), h.c1, h.c2, h.l1, h.l2, h.n1, h.n2, h.n3, Nat.le_trans h.kw hf.size, h.dis, Fr.refl _ _, Moved.refl _ _, Moved.refl _ _⟩
theorem SB.ge (h : SB w0 wv0 kv0 B K cb gb mk m nf sv rv b1 b2 nw nu w wo wc od ko kc BL UL WL KL) : ∀ c ∈ sbS cb b1 b2 (.slice wo WL.length wc) (.slice ko KL.length kc), B ≤ c ∧ c < w.heap.size := fun c hc => by
  have := h.c1; have := h.c2; have := h.kw
  have h1 := h.bits.lt b1 rfl
  have h2 := h.use.lt b2 rfl
  simp only [sbS, List.mem_cons, List.mem_append] at hc
  rcases hc with rfl | rfl | rfl | hc | hc
  · omega
  · omega
  · omega
  · have := h.wown.lt c (mem_blks.1 hc); omega
  · have := h.kown.lt c (mem_blks.1 hc); omega
end
theorem sbS_moved {w : World} {cb b1 b2 : Nat} {wv kv wv' kv' : Value} (h1 : Moved w wv wv') (h2 : Moved w kv kv') : ∀ c ∈ sbS cb b1 b2 wv' kv', c ∈ sbS cb b1 b2 wv kv ∨ w.heap.size ≤ c := fun c hc => by
  simp only [sbS, List.mem_cons, List.mem_append] at hc ⊢
  rcases hc with rfl | rfl | rfl | hc | hc
  · simp
  · simp
  · simp
  · rcases h1 c (mem_blks.1 hc) with h | h
    · exact .inl (.inr (.inr (.inr (.inl (mem_blks.2 h)))))
    · exact .inr h
  · rcases h2 c (mem_blks.1 hc) with h | h
    · exact .inl (.inr (.inr (.inr (.inr (mem_blks.2 h)))))
    · exact .inr h
/-- the closer with its set -/
structure Cl (wC w : World) (K cb gb mk m : Nat) (nf : Bool) (sv rv : Value) (R : List Nat) (b1 b2 nw nu : Nat) (wo : Option Addr) (wc : Nat) (od : Bool) (ko : Option Addr) (kc : Nat) (BL UL WL KL : List Nat) : Prop where
  clo : Clo wC w K cb gb mk m nf (.slice (some ⟨b1, 0, none⟩) nw nw) (.slice wo WL.length wc) (.bool od) (.slice (some ⟨b2, 0, none⟩) nu nu) (.slice ko KL.length kc) sv rv R
  sb : SB w (.slice wo WL.length wc) (.slice ko KL.length kc) wC.heap.size K cb gb mk m nf sv rv b1 b2 nw nu w wo wc od ko kc BL UL WL KL
  q1 : mk ≠ b1
  q2 : mk ≠ b2
  sw : ∀ b, sv.ownBlock = some b → (Value.slice wo WL.length wc).ownBlock = some b → False
  sk : ∀ b, sv.ownBlock = some b → (Value.slice ko KL.length kc).ownBlock = some b → False
  rw : ∀ b, rv.ownBlock = some b → (Value.slice wo WL.length wc).ownBlock = some b → False
  rk : ∀ b, rv.ownBlock = some b → (Value.slice ko KL.length kc).ownBlock = some b → False
section
variable {wC w w' : World} {K cb gb mk m : Nat} {nf : Bool} {sv rv sv' rv' : Value} {R R' : List Nat} {b1 b2 nw nu : Nat} {wo wo' : Option Addr} {wc wc' : Nat} {od od' : Bool} {ko ko' : Option Addr} {kc kc' : Nat} {BL UL WL KL BL' UL' WL' KL' : List Nat}
/-- which of the walk's blocks the set's builder does not turn -/
theorem Cl.nsb (h : Cl wC w K cb gb mk m nf sv rv R b1 b2 nw nu wo wc od ko kc BL UL WL KL) {c : Nat} (hc : c = mk ∨ sv.ownBlock = some c ∨ rv.ownBlock = some c) : c ∉ sbS cb b1 b2 (.slice wo WL.length wc) (.slice ko KL.length kc) := fun hm => by
  have k1 := h.sb.c2
  have k2 := h.sb.l1
  have k3 := h.sb.l2
  have k4 := h.clo.m2
  have k5 := h.clo.ne
  have k6 := h.q1
  have k7 := h.q2
  simp only [sbS, List.mem_cons, List.mem_append] at hm
  rcases hc with rfl | hc | hc
  · rcases hm with h1 | h1 | h1 | h1 | h1
    · omega
    · omega
    · omega
    · exact h.sb.wfar k4 h1
    · exact h.sb.kfar k4 h1
  · have := (h.clo.sv_ge c hc).1
    rcases hm with h1 | h1 | h1 | h1 | h1
    · omega
    · omega
    · omega
    · exact h.sw c hc (mem_blks.1 h1)
    · exact h.sk c hc (mem_blks.1 h1)
  · have := (h.clo.rown.lt c hc).1
    rcases hm with h1 | h1 | h1 | h1 | h1
    · omega
    · omega
    · omega
    · exact h.rw c hc (mem_blks.1 h1)
    · exact h.rk c hc (mem_blks.1 h1)
theorem Cl.low (h : Cl wC w K cb gb mk m nf sv rv R b1 b2 nw nu wo wc od ko kc BL UL WL KL) (hf : Fr w w' (sbS cb b1 b2 (.slice wo WL.length wc) (.slice ko KL.length kc))) : ∀ c, c < wC.heap.size → w'.heap[c]? = wC.heap[c]? := fun c hc => by
  have h1 := h.clo.kw
  have h2 := h.clo.c1
  have h3 := h.clo.c2
  exact (hf.same c (by omega) fun hm => by have := (h.sb.ge c hm).1; omega).trans (h.clo.low c hc)
theorem Cl.afterSet (h : Cl wC w K cb gb mk m nf sv rv R b1 b2 nw nu wo wc od ko kc BL UL WL KL)
    (hs : SB w (.slice wo WL.length wc) (.slice ko KL.length kc) wC.heap.size K cb gb mk m nf sv rv b1 b2 nw nu w' wo' wc' od' ko' kc' BL' UL' WL' KL') : Cl wC w' K cb gb mk m nf sv rv R b1 b2 nw nu wo' wc' od' ko' kc' BL' UL' WL' KL' := by
  have hc := h.clo
  refine ⟨⟨hc.c1, hc.m1, hc.c2, hc.m2, hc.ne, hs.kw, h.low hs.fr, hs.blk, hs.fr.own hc.mark fun b hb => by cases hb; exact h.nsb (.inl rfl), ?_, hs.fr.own hc.rown fun b hb => h.nsb (.inr (.inr hb)), hc.dis⟩, hs.keep (Fr.refl _ []) (by simp), h.q1, h.q2, fun b h1 h2 => ?_, fun b h1 h2 => ?_, fun b h1 h2 => ?_, fun b h1 h2 => ?_⟩
  · obtain ⟨sn, sx, ho⟩ := hc.sown
    exact ⟨sn, sx, hs.fr.own ho fun b hb => h.nsb (.inr (.inl hb))⟩
  · rcases hs.mw b h2 with h3 | h3
    · exact h.sw b h1 h3
    · have := (hc.sv_ge b h1).2; omega
  · rcases hs.mk2 b h2 with h3 | h3
    · exact h.sk b h1 h3
    · have := (hc.sv_ge b h1).2; omega
  · rcases hs.mw b h2 with h3 | h3
    · exact h.rw b h1 h3
    · have := (hc.rown.lt b h1).2; omega
  · rcases hs.mk2 b h2 with h3 | h3
    · exact h.rk b h1 h3
    · have := (hc.rown.lt b h1).2; omega
theorem Cl.afterReach (h : Cl wC w K cb gb mk m nf sv rv R b1 b2 nw nu wo wc od ko kc BL UL WL KL)
    (hc : Clo wC w' K cb gb mk m nf (.slice (some ⟨b1, 0, none⟩) nw nw) (.slice wo WL.length wc) (.bool od) (.slice (some ⟨b2, 0, none⟩) nu nu) (.slice ko KL.length kc) sv' rv' R') (hf : Fr w w' (cloS cb mk sv rv)) (hm1 : Moved w sv sv') (hm2 : Moved w rv rv') :
    Cl wC w' K cb gb mk m nf sv' rv' R' b1 b2 nw nu wo wc od ko kc BL UL WL KL := by
  have hs := h.sb
  have k1 := hs.c2
  have k2 := hs.l1
  have k3 := hs.l2
  have k4 := h.clo.m2
  have n1 := hs.n1
  have n2 := hs.n2
  have q1 := h.q1
  have q2 := h.q2
  have hsv := h.clo.sv_ge
  have hrv := h.clo.rown.lt
  have hlow : ∀ c, c < K → c ≠ cb → c ≠ mk → c ∉ cloS cb mk sv rv := fun c h1 h2 h3 hm => by
    simp only [cloS, List.mem_cons, List.mem_append] at hm
    rcases hm with h4 | h4 | h4 | h4
    · exact h2 h4
    · exact h3 h4
    · have := (hsv c (mem_blks.1 h4)).1; omega
    · have := (hrv c (mem_blks.1 h4)).1; omega
  have hw : ∀ c, (Value.slice wo WL.length wc).ownBlock = some c → c ∉ cloS cb mk sv rv := fun c h1 hm => by
    have := (hs.wown.lt c h1).1
    simp only [cloS, List.mem_cons, List.mem_append] at hm
    rcases hm with h4 | h4 | h4 | h4
    · omega
    · omega
    · exact h.sw c (mem_blks.1 h4) h1
    · exact h.rw c (mem_blks.1 h4) h1
  have hk : ∀ c, (Value.slice ko KL.length kc).ownBlock = some c → c ∉ cloS cb mk sv rv := fun c h1 hm => by
    have := (hs.kown.lt c h1).1
    simp only [cloS, List.mem_cons, List.mem_append] at hm
    rcases hm with h4 | h4 | h4 | h4
    · omega
    · omega
    · exact h.sk c (mem_blks.1 h4) h1
    · exact h.rk c (mem_blks.1 h4) h1
  refine ⟨hc, ⟨hc.blk, hf.own hs.bits fun b hb => by cases hb; exact hlow b1 k2 (fun e => n1 e.symm) (fun e => q1 e.symm), hf.own hs.use fun b hb => by cases hb; exact hlow b2 k3 (fun e => n2 e.symm) (fun e => q2 e.symm), hf.own hs.wown hw, hf.own hs.kown hk, hs.c1, hs.c2, hs.l1, hs.l2, hs.n1, hs.n2, hs.n3, hc.kw, hs.dis, Fr.refl _ _, Moved.refl _ _, Moved.refl _ _⟩, h.q1, h.q2, fun b h1 h2 => ?_, fun b h1 h2 => ?_, fun b h1 h2 => ?_, fun b h1 h2 => ?_⟩
  · rcases hm1 b h1 with h3 | h3
    · exact h.sw b h3 h2
    · have := (hs.wown.lt b h2).2; omega
  · rcases hm1 b h1 with h3 | h3
    · exact h.sk b h3 h2
    · have := (hs.kown.lt b h2).2; omega
  · rcases hm2 b h1 with h3 | h3
    · exact h.rw b h3 h2
    · have := (hs.wown.lt b h2).2; omega
  · rcases hm2 b h1 with h3 | h3
    · exact h.rk b h3 h2
    · have := (hs.kown.lt b h2).2; omega
end
/-- the set with a list added -/
def addAll (p : Nat → Bool) (L : List Nat) : Nat → Bool := fun q => if q ∈ L then true else p q
theorem addAll_nil (p : Nat → Bool) : addAll p [] = p := by funext q; simp [addAll]
theorem addAll_snoc (p : Nat → Bool) (L : List Nat) (x : Nat) : (fun r => if r = x then true else addAll p L r) = addAll p (L ++ [x]) := by
  funext r
  by_cases h : r = x
  · simp [addAll, h]
  · simp [addAll, h]
theorem addAll_app (p : Nat → Bool) (L M : List Nat) : addAll (addAll p L) M = addAll p (L ++ M) := by
  funext r
  by_cases h : r ∈ M
  · simp [addAll, h]
  · by_cases h2 : r ∈ L
    · simp [addAll, h, h2]
    · simp [addAll, h, h2]
end Go.Proofs.YbulkdxbkDoor
