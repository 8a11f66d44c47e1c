import Derived.Test.YbulkdxbkDoorK1
import Derived.Lib.SliceRun
namespace Go.Proofs.YbulkdxbkDoor
open Go.RowKit
set_option linter.unusedVariables false

/-! ### What is read -/
def NatsAt (w : World) (b o : Nat) (L : List Nat) : Prop := ∀ (i x : Nat), L[i]? = some x → w.cell? ⟨b, o + i, none⟩ = some (.int .i64 (x : Int))
def IsNats (w : World) (v : Value) (L : List Nat) : Prop :=
  ∃ (a : Option Addr) (c b o : Nat), v = .slice a L.length c ∧ (0 < L.length → a = some ⟨b, o, none⟩) ∧ (a = none → c = 0) ∧ L.length ≤ c ∧ NatsAt w b o L
theorem NatsAt.same {w w' : World} {b o : Nat} {L : List Nat} (h : NatsAt w b o L) (hk : w'.heap[b]? = w.heap[b]?) : NatsAt w' b o L := fun i x hx => cell_of (h i x hx) hk
theorem NatsAt.nil (w : World) (b o : Nat) : NatsAt w b o [] := fun i x h => by simp at h
theorem NatsAt.lt {w : World} {b o : Nat} {L : List Nat} (h : NatsAt w b o L) (hl : 0 < L.length) : b < w.heap.size := cell_lt (h 0 _ (List.getElem?_eq_getElem hl))
theorem IsNats.fr {w w' : World} {S : List Nat} {v : Value} {L : List Nat} (h : IsNats w v L) (hf : Fr w w' S) (hb : ∀ b, v.ownBlock = some b → b ∉ S) : IsNats w' v L := by
  obtain ⟨a, c, b, o, rfl, h1, h2, h3, h4⟩ := h
  rcases Nat.eq_zero_or_pos L.length with h0 | h0
  · obtain rfl := List.eq_nil_of_length_eq_zero h0
    exact ⟨a, c, b, o, rfl, h1, h2, h3, NatsAt.nil _ _ _⟩
  · exact ⟨a, c, b, o, rfl, h1, h2, h3, h4.same (hf.same b (h4.lt h0) (hb b (by rw [h1 h0]; rfl)))⟩
theorem IsNats.grown {w w' : World} {v : Value} {L : List Nat} (h : IsNats w v L) (hk : ∀ c, c < w.heap.size → w'.heap[c]? = w.heap[c]?) : IsNats w' v L := by
  obtain ⟨a, c, b, o, rfl, h1, h2, h3, h4⟩ := h
  rcases Nat.eq_zero_or_pos L.length with h0 | h0
  · obtain rfl := List.eq_nil_of_length_eq_zero h0
    exact ⟨a, c, b, o, rfl, h1, h2, h3, NatsAt.nil _ _ _⟩
  · exact ⟨a, c, b, o, rfl, h1, h2, h3, h4.same (hk b (h4.lt h0))⟩
theorem own_nats {w : World} {B : Nat} {v : Value} {L : List Nat} (h : w.ownsRow B 3 1 v L.length (ints L)) : IsNats w v L := by
  rcases h.2 with ⟨rfl, h2⟩ | ⟨g, cap, cur, rfl, hb, hg, h1, h2, h3, h4⟩
  · obtain rfl := List.eq_nil_of_length_eq_zero h2
    exact ⟨none, 0, 0, 0, rfl, fun h => by simp at h, fun _ => rfl, Nat.le_refl _, NatsAt.nil _ _ _⟩
  · refine ⟨_, cap, g, 0, rfl, fun _ => rfl, (fun h => by cases h), h1, fun i x hx => ?_⟩
    rw [Nat.zero_add]; exact own_cell h (ints_get hx)

def pre (NL : List (List Nat)) (i : Nat) : Nat := (NL.take i).flatten.length
theorem pre_succ {NL : List (List Nat)} {k : Nat} {L : List Nat} (h : NL[k]? = some L) : pre NL (k + 1) = pre NL k + L.length := by
  unfold pre
  obtain ⟨hk, rfl⟩ := List.getElem?_eq_some_iff.1 h
  rw [List.take_succ_eq_append_getElem hk, List.flatten_append, List.length_append, List.flatten_singleton]
theorem pre_le {NL : List (List Nat)} (k : Nat) : pre NL k ≤ NL.flatten.length := by
  unfold pre
  conv => rhs; rw [← List.take_append_drop k NL]
  rw [List.flatten_append, List.length_append]; omega
theorem pre_get {NL : List (List Nat)} {k : Nat} {L : List Nat} (h : NL[k]? = some L) {i x : Nat} (hx : L[i]? = some x) : NL.flatten[pre NL k + i]? = some x := by
  obtain ⟨hk, rfl⟩ := List.getElem?_eq_some_iff.1 h
  have e : NL = NL.take k ++ NL[k] :: NL.drop (k + 1) := by rw [← List.drop_eq_getElem_cons hk, List.take_append_drop]
  have hl := (List.getElem?_eq_some_iff.1 hx).1
  have e2 : NL.flatten = (NL.take k).flatten ++ (NL[k] ++ (NL.drop (k + 1)).flatten) := by
    conv => lhs; rw [e]
    rw [List.flatten_append, List.flatten_cons]
  unfold pre
  rw [e2, List.getElem?_append_right (by omega), Nat.add_sub_cancel_left, List.getElem?_append_left hl]
  exact hx

theorem take_snoc {α : Type} {E : List α} {k : Nat} {e : α} (h : E[k]? = some e) : E.take (k + 1) = E.take k ++ [e] := by
  obtain ⟨hk, rfl⟩ := List.getElem?_eq_some_iff.1 h
  exact List.take_succ_eq_append_getElem hk
theorem ownBlock_len (a : Option Addr) (n c n' c' : Nat) : (Value.slice a n c).ownBlock = (Value.slice a n' c').ownBlock := by cases a <;> rfl
def nullOf (NL : List (List Nat)) (k : Nat) : List Nat := (NL[k]?).getD []
theorem nullOf_at {NL : List (List Nat)} {k : Nat} {L : List Nat} (h : NL[k]? = some L) : nullOf NL k = L := by simp [nullOf, h]
theorem index26c {a : Option Addr} {n c b o : Nat} (ha : 0 < n → a = some ⟨b, o, none⟩) (hk : 0 < n) (w : World) : (Instr.indexAt 44 (.slice a n c) (.int .i64 0)).run Ybad.prog w = .ok (.pointer (some ⟨b, o, none⟩)) w := by
  have := index26 (a := a) (c := c) (b := b) (o := o) (k := 0) ha hk w
  simpa using this
theorem len_any (w : World) (gb n c : Nat) (x : Addr) (hn : n ≤ 65536) (c2 : w.cell? ⟨gb, 2, none⟩ = some (.slice (some x) (n + 1) c)) :
    Calls Ybad.prog 19 #[.pointer (some ⟨gb, 0, none⟩)] w fun e w' => e = .returned (.int .i64 (n : Int)) ∧ w' = w := by
  go_enter Ybad.func19, Ybad.ntmps19
  go_wp2_with fail
  go_ret
  exact ⟨by go_num, rfl⟩
def zints (D : List Int) : List Value := D.map fun x => Value.int .i64 x
def casts (L : List Nat) : List Int := L.map fun (x : Nat) => (x : Int)
theorem zints_casts (L : List Nat) : zints (casts L) = ints L := by simp [zints, casts, ints]
theorem zints_len (D : List Int) : (zints D).length = D.length := by simp [zints]
theorem casts_len (D : List Nat) : (casts D).length = D.length := by simp [casts]
theorem zints_get {D : List Int} {i : Nat} {x : Int} (h : D[i]? = some x) : (zints D)[i]? = some (.int .i64 x) := by simp [zints, h]
theorem zints_app (D E : List Int) : zints (D ++ E) = zints D ++ zints E := by simp [zints]
theorem zints_one (L : List Int) : ∀ u ∈ zints L, u.oneCell' = true := by intro u hu; simp [zints] at hu; obtain ⟨x, _, rfl⟩ := hu; rfl
/-- whole numbers that can be read -/
def ZAt (w : World) (b o : Nat) (D : List Int) : Prop := ∀ (i : Nat) (x : Int), D[i]? = some x → w.cell? ⟨b, o + i, none⟩ = some (.int .i64 x)
theorem ZAt.of_nats {w : World} {b o : Nat} {L : List Nat} (h : NatsAt w b o L) : ZAt w b o (casts L) := fun i x hx => by
  simp [casts] at hx
  obtain ⟨y, hy, rfl⟩ := hx
  exact h i y hy
theorem add_plain (b o j : Nat) : (⟨b, o, none⟩ : Addr).add j = ⟨b, o + j, none⟩ := by unfold Addr.add; split <;> simp_all
set_option maxHeartbeats 1000000 in
theorem clone_any (w : World) (a : Option Addr) (n c b o : Nat) (D : List Int) (hn : n = D.length) (hn2 : n ≤ 65536) (ha : 0 < n → a = some ⟨b, o, none⟩) (hnil : a = none → c = 0) (hD : ZAt w b o D) :
    Calls Ybad.prog 13 #[.slice a n c] w fun e w' => ∃ (vo : Option Addr) (cap : Nat), e = .returned (.slice vo n cap) ∧ w'.ownsRow w.heap.size 3 1 (.slice vo n cap) n (zints D) ∧ Fr w w' [] := by
  have q26 : ∀ (w : World) (a : Option Addr) (n c n' c' : Nat), (binOp .eql 44 (.slice a n c) (.slice none n' c')).run Ybad.prog w = .ok (.bool a.isNone) w := fun w a n c n' c' => Lib.run_eql_slice_nil w _ _ a n c n' c' Ybad.underlying44
  cases a with
  | none =>
    obtain rfl : n = 0 := by rcases Nat.eq_zero_or_pos n with h | h; exact h; cases ha h
    obtain rfl : D = [] := List.eq_nil_of_length_eq_zero hn.symm
    obtain rfl := hnil rfl
    clear hD ha hnil hn
    go_enter Ybad.func13, Ybad.ntmps13
    go_wp2_with fail
    go_ret
    exact ⟨none, 0, rfl, World.ownsRow_nil _ _ _ _, Fr.refl _ _⟩
  | some ad =>
    have ho : (w.alloc (.cells #[] 3)).ownsRow w.heap.size 3 1 (.slice (some ⟨w.heap.size, 0, none⟩) 0 0) 0 [] := ⟨rfl, .inr ⟨w.heap.size, 0, #[], rfl, Nat.le_refl _, heap_new _ _, Nat.le_refl _, Nat.zero_le _, rfl, rfl⟩⟩
    have HO : Hid ((w.alloc (.cells #[] 3)).ownsRow w.heap.size 3 1 (.slice (some ⟨w.heap.size, 0, none⟩) 0 0) 0 []) := ho
    have hsrc : 0 < n → ∃ ad', some ad = some ad' ∧ ∀ j u, (zints D)[j]? = some u → (w.alloc (.cells #[] 3)).cell? (ad'.add j) = some u := fun h => ⟨ad, rfl, fun j u hu => by
      have e := ha h
      cases e
      rw [add_plain]
      simp [zints] at hu
      obtain ⟨x, hx, rfl⟩ := hu
      exact cell_of (hD j x hx) (heap_old _ _ (cell_lt (hD j x hx)))⟩
    have HSRC : Hid (0 < n → ∃ ad', some ad = some ad' ∧ ∀ j u, (zints D)[j]? = some u → (w.alloc (.cells #[] 3)).cell? (ad'.add j) = some u) := hsrc
    have hlz : (zints D).length = n := by rw [zints_len, hn]
    clear ho hsrc hD ha hn hnil
    go_enter Ybad.func13, Ybad.ntmps13
    go_wp2_with (first | (at_builtin; refine wpList_app rfl _ _ rfl rfl HO.out (some ad) n c (zints D) rfl hlz HSRC.out (fun h => by cases h) (zints_one D) (by omega) (by simp) ?_; intro vo cap w' h1 h2 h3; have H1 : Hid (w'.ownsRow w.heap.size 3 1 (.slice vo (0 + n) cap) (0 + n) ([] ++ zints D)) := h1; have H2 : Hid (Fr (w.alloc (.cells #[] 3)) w' [w.heap.size]) := h2; clear h1 h2 h3))
    go_ret
    refine ⟨vo, cap, by simp, ?_, ((Fr.refl w []).alloc _).then H2.out (fun c hc => by simp at hc; subst hc; exact .inr (Nat.le_refl _))⟩
    have := H1.out
    simpa using this
set_option maxHeartbeats 1000000 in
theorem equal_any (w : World) (a1 a2 : Option Addr) (n c1 c2 b1 o1 b2 o2 : Nat) (D : List Int) (hn : n = D.length) (hn2 : n ≤ 65536) (ha1 : 0 < n → a1 = some ⟨b1, o1, none⟩) (ha2 : 0 < n → a2 = some ⟨b2, o2, none⟩) (h1 : ZAt w b1 o1 D) (h2 : ZAt w b2 o2 D) :
    Calls Ybad.prog 16 #[.slice a1 n c1, .slice a2 n c2] w fun e w' => e = .returned (.bool true) ∧ ∃ q, w' = w.drewN q := by
  have H1 : Hid (ZAt w b1 o1 D) := h1
  have H2 : Hid (ZAt w b2 o2 D) := h2
  have HN : Hid (n = D.length) := hn
  have HA1 : Hid (0 < n → a1 = some ⟨b1, o1, none⟩) := ha1
  have HA2 : Hid (0 < n → a2 = some ⟨b2, o2, none⟩) := ha2
  clear h1 h2 hn ha1 ha2
  go_enter Ybad.func16, Ybad.ntmps16
  go_wp2_with fail
  go_loopw [13] (fun s wr => ∃ k q : Nat, k ≤ n ∧ s = .int .i64 k ∧ wr = w.drewN q) (fun s _ => n - (intOf s).toNat)
  case atStart => exact ⟨0, 0, Nat.zero_le _, rfl, rfl⟩
  case round =>
    obtain ⟨k, q, hk, rfl, rfl⟩ := hrel
    by_cases hlt : k < n
    · have hd : decide ((k : Int) < (n : Int)) = true := by simp; exact hlt
      obtain ⟨x, hx⟩ : ∃ x, D[k]? = some x := ⟨_, List.getElem?_eq_getElem (by rw [← HN.out]; exact hlt)⟩
      have y1 := H1.out k x hx
      have y2 := H2.out k x hx
      have x1 := index26 (c := c1) HA1.out hlt
      have x2 := index26 (c := c2) HA2.out hlt
      clear hx
      go_wp2_with fail
      go_quiet (fail)
      go_wp2_with fail
      go_roundw
      case rel => exact ⟨k + 1, q + nq, by omega, by go_num, by simp⟩
      case measure => simp [intOf]; omega
    · have hd : decide ((k : Int) < (n : Int)) = false := by simp; omega
      go_wp2_with fail
      go_ret
      exact ⟨rfl, _, rfl⟩

/-- the condensation that the law lays -/
def CondC (w : World) (gb n m : Nat) (CP : List Nat) (ML SL : List (List Nat)) : Prop :=
  ∃ (cb mb fb sb tb : Nat), w.heap[gb]? = some (.cells #[.slice (some ⟨cb, 0, none⟩) n n, .slice (some ⟨mb, 0, none⟩) n n, .slice (some ⟨fb, 0, none⟩) (m + 1) (m + 1), .slice (some ⟨sb, 0, none⟩) SL.flatten.length SL.flatten.length, .slice (some ⟨tb, 0, none⟩) (m + 1) (m + 1)] 49 (0, 0)) ∧
    CP.length = n ∧ NatsAt w cb 0 CP ∧ ML.flatten.length = n ∧ NatsAt w mb 0 ML.flatten ∧ (∀ i, i ≤ m → w.cell? ⟨fb, i, none⟩ = some (.int .i64 (pre ML i : Int))) ∧ NatsAt w sb 0 SL.flatten ∧ (∀ i, i ≤ m → w.cell? ⟨tb, i, none⟩ = some (.int .i64 (pre SL i : Int)))
theorem NatsAt.grown {w w' : World} {b o : Nat} {L : List Nat} (h : NatsAt w b o L) (hk : ∀ c, c < w.heap.size → w'.heap[c]? = w.heap[c]?) : NatsAt w' b o L := fun i x hx => cell_of (h i x hx) (hk _ (cell_lt (h i x hx)))
theorem CondC.grown {w w' : World} {gb n m : Nat} {CP : List Nat} {ML SL : List (List Nat)} (h : CondC w gb n m CP ML SL) (hk : ∀ c, c < w.heap.size → w'.heap[c]? = w.heap[c]?) : CondC w' gb n m CP ML SL := by
  obtain ⟨cb, mb, fb, sb, tb, h1, h2, h3, h4, h5, h6, h7, h8⟩ := h
  exact ⟨cb, mb, fb, sb, tb, (hk gb (blk_lt h1)).trans h1, h2, h3.grown hk, h4, h5.grown hk, fun i hi => cell_of (h6 i hi) (hk _ (cell_lt (h6 i hi))), h7.grown hk, fun i hi => cell_of (h8 i hi) (hk _ (cell_lt (h8 i hi)))⟩
theorem succ_any (wC w : World) (gb n m k : Nat) (CP : List Nat) (ML SL : List (List Nat)) (L : List Nat) (hn : m ≤ 4096) (hk : k < m) (hC : CondC wC gb n m CP ML SL) (hw : ∀ c, c < wC.heap.size → w.heap[c]? = wC.heap[c]?) (hL : SL[k]? = some L) (hb : SL.flatten.length ≤ 65536) :
    Calls Ybad.prog 40 #[.pointer (some ⟨gb, 0, none⟩), .int .i64 (k : Int)] w fun e w' => ∃ (a : Option Addr) (c b o q : Nat), e = .returned (.slice a L.length c) ∧ (0 < L.length → a = some ⟨b, o, none⟩) ∧ NatsAt wC b o L ∧ w' = w.drewN q := by
  obtain ⟨cb, mb, fb, sb, tb, h1, _, _, _, _, _, h6, h7⟩ := hC
  have g1 : w.heap[gb]? = _ := (hw gb (blk_lt h1)).trans h1
  have c1 : w.cell? ⟨gb, 3, none⟩ = some (.slice (some ⟨sb, 0, none⟩) SL.flatten.length SL.flatten.length) := by simp [World.cell?, g1]
  have c2 : w.cell? ⟨gb, 4, none⟩ = some (.slice (some ⟨tb, 0, none⟩) (m + 1) (m + 1)) := by simp [World.cell?, g1]
  have d1 : w.cell? ⟨tb, k, none⟩ = some (.int .i64 (pre SL k : Int)) := cell_of (h7 k (by omega)) (hw _ (cell_lt (h7 k (by omega))))
  have d2 : w.cell? ⟨tb, k + 1, none⟩ = some (.int .i64 (pre SL (k + 1) : Int)) := cell_of (h7 (k + 1) (by omega)) (hw _ (cell_lt (h7 (k + 1) (by omega))))
  have x1 := index26z (b := tb) (c := m + 1) (show k < m + 1 by omega)
  have x2 := index26z (b := tb) (c := m + 1) (show k + 1 < m + 1 by omega)
  rw [show ((k + 1 : Nat) : Int) = (k : Int) + 1 by omega] at x2
  have p1 := pre_succ hL
  have p2 := pre_le (NL := SL) (k + 1)
  obtain ⟨a', e1, e2, x3⟩ := slice26 (a := some ⟨sb, 0, none⟩) (n := SL.flatten.length) (c := SL.flatten.length) (b := sb) (o := 0) (i := pre SL k) (j := pre SL (k + 1)) (fun _ => rfl) (fun h => by cases h) (by omega) p2 (Nat.le_refl _)
  have HR : Hid ((0 < L.length → a' = some ⟨sb, pre SL k, none⟩) ∧ NatsAt wC sb (pre SL k) L) := ⟨fun h => by rw [e1 (by omega), Nat.zero_add], fun i x hx => by
    have := h6 (pre SL k + i) x (pre_get hL hx)
    rwa [Nat.zero_add] at this⟩
  have hlen : pre SL (k + 1) - pre SL k = L.length := by omega
  rw [hlen] at x3
  clear h1 h6 h7 g1 e1 e2 p1 p2 hlen
  generalize pre SL k = pk at *
  generalize pre SL (k + 1) = pk1 at *
  generalize SL.flatten.length = fl at *
  go_enter Ybad.func40, Ybad.ntmps40
  go_wp2_with fail
  go_quiet (fail)
  go_wp2_with fail
  go_ret
  exact ⟨_, _, _, _, _, rfl, HR.out.1, HR.out.2, rfl⟩
theorem members_any (wC w : World) (gb n m k : Nat) (CP : List Nat) (ML SL : List (List Nat)) (L : List Nat) (hn : m ≤ 4096) (hk : k < m) (hC : CondC wC gb n m CP ML SL) (hw : ∀ c, c < wC.heap.size → w.heap[c]? = wC.heap[c]?) (hL : ML[k]? = some L) (hb : n ≤ 65536) :
    Calls Ybad.prog 41 #[.pointer (some ⟨gb, 0, none⟩), .int .i64 (k : Int)] w fun e w' => ∃ (a : Option Addr) (c b o q : Nat), e = .returned (.slice a L.length c) ∧ (0 < L.length → a = some ⟨b, o, none⟩) ∧ NatsAt wC b o L ∧ w' = w.drewN q := by
  obtain ⟨cb, mb, fb, sb, tb, h1, _, _, h5, h6, h7, _, _⟩ := hC
  have g1 : w.heap[gb]? = _ := (hw gb (blk_lt h1)).trans h1
  have c1 : w.cell? ⟨gb, 1, none⟩ = some (.slice (some ⟨mb, 0, none⟩) n n) := by simp [World.cell?, g1]
  have c2 : w.cell? ⟨gb, 2, none⟩ = some (.slice (some ⟨fb, 0, none⟩) (m + 1) (m + 1)) := by simp [World.cell?, g1]
  have d1 : w.cell? ⟨fb, k, none⟩ = some (.int .i64 (pre ML k : Int)) := cell_of (h7 k (by omega)) (hw _ (cell_lt (h7 k (by omega))))
  have d2 : w.cell? ⟨fb, k + 1, none⟩ = some (.int .i64 (pre ML (k + 1) : Int)) := cell_of (h7 (k + 1) (by omega)) (hw _ (cell_lt (h7 (k + 1) (by omega))))
  have x1 := index26z (b := fb) (c := m + 1) (show k < m + 1 by omega)
  have x2 := index26z (b := fb) (c := m + 1) (show k + 1 < m + 1 by omega)
  rw [show ((k + 1 : Nat) : Int) = (k : Int) + 1 by omega] at x2
  have p1 := pre_succ hL
  have p2 := pre_le (NL := ML) (k + 1)
  rw [h5] at p2
  obtain ⟨a', e1, e2, x3⟩ := slice26 (a := some ⟨mb, 0, none⟩) (n := n) (c := n) (b := mb) (o := 0) (i := pre ML k) (j := pre ML (k + 1)) (fun _ => rfl) (fun h => by cases h) (by omega) p2 (Nat.le_refl _)
  have HR : Hid ((0 < L.length → a' = some ⟨mb, pre ML k, none⟩) ∧ NatsAt wC mb (pre ML k) L) := ⟨fun h => by rw [e1 (by omega), Nat.zero_add], fun i x hx => by
    have := h6 (pre ML k + i) x (pre_get hL hx)
    rwa [Nat.zero_add] at this⟩
  have hlen : pre ML (k + 1) - pre ML k = L.length := by omega
  rw [hlen] at x3
  clear h1 h5 h6 h7 g1 e1 e2 p1 hlen
  generalize pre ML k = pk at *
  generalize pre ML (k + 1) = pk1 at *
  go_enter Ybad.func41, Ybad.ntmps41
  go_wp2_with fail
  go_quiet (fail)
  go_wp2_with fail
  go_ret
  exact ⟨_, _, _, _, _, rfl, HR.out.1, HR.out.2, rfl⟩
end Go.Proofs.YbulkdxbkDoor
