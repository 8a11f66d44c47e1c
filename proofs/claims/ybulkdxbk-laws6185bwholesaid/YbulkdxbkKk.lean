import Derived.Test.YbulkdxbkKj
import Derived.BigRegion
namespace Go.Proofs.Ybulkdxbk
open Go.RowKit
set_option linter.unusedVariables false

theorem cast_le {a b c : Nat} (h : a * b ≤ c) : (a : Int) * (b : Int) ≤ (c : Int) ∧ 0 ≤ (a : Int) * (b : Int) := by
  have h1 : ((a * b : Nat) : Int) ≤ (c : Int) := by omega
  have h2 : (0 : Int) ≤ ((a * b : Nat) : Int) := by omega
  rw [Int.natCast_mul] at h1 h2
  exact ⟨h1, h2⟩
/-- the place of a move, as the walk reckons it -/
theorem place3 {q k s n u N : Nat} (hN : N = n * k * n) (hq : q < n) (hs : s < k) (hu : u < n) (hn : n ≤ 256) (hk : k ≤ 4) :
    ∃ ix : Nat, ix < N ∧ ((q : Int) * (k : Int) + (s : Int)) * (n : Int) + (u : Int) = (ix : Int) ∧ (q : Int) * (k : Int) ≤ 1024 ∧ 0 ≤ (q : Int) * (k : Int) ∧ ((q : Int) * (k : Int) + (s : Int)) * (n : Int) ≤ 1048576 ∧ 0 ≤ ((q : Int) * (k : Int) + (s : Int)) * (n : Int) := by
  have h1 : q * k ≤ 256 * 4 := Nat.mul_le_mul (by omega) hk
  have h2 : (q * k + s) * n ≤ 2048 * 256 := Nat.mul_le_mul (by omega) hn
  have c1 := cast_le h1
  have c2 := cast_le h2
  rw [Int.natCast_add, Int.natCast_mul] at c2
  refine ⟨(q * k + s) * n + u, by rw [hN]; exact idx_lt hq hs hu, ?_, by omega, by omega, by omega, by omega⟩
  rw [Int.natCast_add, Int.natCast_mul, Int.natCast_add, Int.natCast_mul]
theorem place2 {q n u N : Nat} (hN : N = n * n) (hq : q < n) (hu : u < n) (hn : n ≤ 256) :
    ∃ ix : Nat, ix < N ∧ (q : Int) * (n : Int) + (u : Int) = (ix : Int) ∧ (q : Int) * (n : Int) ≤ 1048576 ∧ 0 ≤ (q : Int) * (n : Int) := by
  have h1 : q * n ≤ 256 * 256 := Nat.mul_le_mul (by omega) hn
  have c1 := cast_le h1
  refine ⟨q * n + u, by rw [hN]; exact idx2_lt hq hu, ?_, by omega, by omega⟩
  rw [Int.natCast_add, Int.natCast_mul]
theorem mod_letter (f n : Nat) (hn : 0 < n) : ∃ q : Nat, q < n ∧ (f : Int) % (n : Int) = (q : Int) := ⟨f % n, Nat.mod_lt f hn, by omega⟩
theorem alloc4 (wu : World) (o1 o2 o3 o4 : Obj) : ((((wu.alloc o1).alloc o2).alloc o3).alloc o4).drew.heap[wu.heap.size]? = some o1 ∧ ((((wu.alloc o1).alloc o2).alloc o3).alloc o4).drew.heap[wu.heap.size + 1]? = some o2 ∧
    ((((wu.alloc o1).alloc o2).alloc o3).alloc o4).drew.heap[wu.heap.size + 1 + 1]? = some o3 ∧ ((((wu.alloc o1).alloc o2).alloc o3).alloc o4).drew.heap[wu.heap.size + 1 + 1 + 1]? = some o4 ∧ Fr wu ((((wu.alloc o1).alloc o2).alloc o3).alloc o4).drew [] := by
  have s1 : (wu.alloc o1).heap.size = wu.heap.size + 1 := by simp
  have s2 : ((wu.alloc o1).alloc o2).heap.size = wu.heap.size + 1 + 1 := by simp
  have s3 : (((wu.alloc o1).alloc o2).alloc o3).heap.size = wu.heap.size + 1 + 1 + 1 := by simp
  have e1 := heap_new wu o1
  have e2 := heap_new (wu.alloc o1) o2
  have e3 := heap_new ((wu.alloc o1).alloc o2) o3
  have e4 := heap_new (((wu.alloc o1).alloc o2).alloc o3) o4
  rw [s1] at e2
  rw [s2] at e3
  rw [s3] at e4
  refine ⟨?_, ?_, ?_, e4, ((((Fr.refl wu []).alloc _).alloc _).alloc _).alloc _ |>.drew⟩
  · exact (heap_old _ _ (by omega)).trans ((heap_old _ _ (by omega)).trans ((heap_old _ _ (by omega)).trans e1))
  · exact (heap_old _ _ (by omega)).trans ((heap_old _ _ (by omega)).trans e2)
  · exact (heap_old _ _ (by omega)).trans e3
theorem build_end {w wq wu : World} {hb0 N mb n hb N2 nb k : Nat} {p p2 : Nat → Bool} {VS WS : List Value} {MVs : List (List (Nat × Nat))} {NLs : List (List Nat)} {C7 : Array Value} (hpm : PM w hb0 N mb n p wq n VS MVs) (hpn : PN wq hb N2 nb n p2 wu n WS NLs) (hn1 : 0 < n) (hn2 : n ≤ 256)
    (hC7 : C7.toList = List.replicate n (.bool false)) (o1 o2 o3 : Obj) (sb yb fb : Nat)
    (hfb : ((((wu.alloc o1).alloc o2).alloc o3).alloc (.cells #[.slice (some ⟨sb, 0, none⟩) n n, .slice (some ⟨yb, 0, none⟩) k k, .int .i64 0, .slice (some ⟨fb, 0, none⟩) n n, .slice (some ⟨mb, 0, none⟩) n n, .slice (some ⟨nb, 0, none⟩) n n] 34)).drew.heap[fb]? = some (.cells C7 4 (0, 0))) :
    Good n MVs NLs ∧ Aut ((((wu.alloc o1).alloc o2).alloc o3).alloc (.cells #[.slice (some ⟨sb, 0, none⟩) n n, .slice (some ⟨yb, 0, none⟩) k k, .int .i64 0, .slice (some ⟨fb, 0, none⟩) n n, .slice (some ⟨mb, 0, none⟩) n n, .slice (some ⟨nb, 0, none⟩) n n] 34)).drew (wu.heap.size + 1 + 1 + 1) n k 0 MVs NLs ∧
      (∀ st : Nat, Aut (((((wu.alloc o1).alloc o2).alloc o3).alloc (.cells #[.slice (some ⟨sb, 0, none⟩) n n, .slice (some ⟨yb, 0, none⟩) k k, .int .i64 0, .slice (some ⟨fb, 0, none⟩) n n, .slice (some ⟨mb, 0, none⟩) n n, .slice (some ⟨nb, 0, none⟩) n n] 34)).drew.setCell ⟨wu.heap.size + 1 + 1 + 1, 2, none⟩ (.int .i64 (st : Int))) (wu.heap.size + 1 + 1 + 1) n k st MVs NLs) ∧ w.heap.size ≤ wu.heap.size + 1 + 1 + 1 ∧ Fr w ((((wu.alloc o1).alloc o2).alloc o3).alloc (.cells #[.slice (some ⟨sb, 0, none⟩) n n, .slice (some ⟨yb, 0, none⟩) k k, .int .i64 0, .slice (some ⟨fb, 0, none⟩) n n, .slice (some ⟨mb, 0, none⟩) n n, .slice (some ⟨nb, 0, none⟩) n n] 34)).drew [] := by
  obtain ⟨_, _, _, q4, q5⟩ := alloc4 wu o1 o2 o3 (.cells #[.slice (some ⟨sb, 0, none⟩) n n, .slice (some ⟨yb, 0, none⟩) k k, .int .i64 0, .slice (some ⟨fb, 0, none⟩) n n, .slice (some ⟨mb, 0, none⟩) n n, .slice (some ⟨nb, 0, none⟩) n n] 34)
  generalize ((((wu.alloc o1).alloc o2).alloc o3).alloc (.cells #[.slice (some ⟨sb, 0, none⟩) n n, .slice (some ⟨yb, 0, none⟩) k k, .int .i64 0, .slice (some ⟨fb, 0, none⟩) n n, .slice (some ⟨mb, 0, none⟩) n n, .slice (some ⟨nb, 0, none⟩) n n] 34)).drew = X at *
  have f1 := hpm.fr.size
  have f2 := hpn.fr.size
  have hqX : ∀ c, c < wq.heap.size → X.heap[c]? = wq.heap[c]? := fun c hc => (q5.same c (by omega) (by simp)).trans (hpn.fr.same c hc (by simp))
  have huX : ∀ c, c < wu.heap.size → X.heap[c]? = wu.heap[c]? := fun c hc => q5.same c hc (by simp)
  refine ⟨⟨hn1, hn2, hpm.len, hpn.len, fun q L hq => (hpm.done q L hq).1.len, fun q L m hq hm => (hpm.done q L hq).1.tgt m hm, fun q L hq => (hpm.done q L hq).1.sort, fun q L r hq hr => (hpn.done q L hq).1.tgt r hr, fun q L hq => (hpn.done q L hq).1.nd⟩,
    ⟨sb, yb, fb, mb, nb, q4, fun i hi => ?_, fun q L hq => ?_, fun q L hq => ?_⟩, fun st => ⟨sb, yb, fb, mb, nb, setCell_at q4 _ _, fun i hi => ?_, fun q L hq => ?_, fun q L hq => ?_⟩, by omega, (hpm.fr.trans hpn.fr).trans q5⟩
  · have e : C7[i]? = some (.bool false) := by rw [← Array.getElem?_toList, hC7, List.getElem?_replicate, if_pos hi]
    simp [World.cell?, hfb, e]
  · obtain ⟨v, h1, h2, _⟩ := (hpm.done q L hq).2
    have hc := own_cell hpm.own h1
    exact ⟨v, cell_of hc (hqX _ (cell_lt hc)), h2.grown hqX⟩
  · obtain ⟨v, h1, h2, _⟩ := (hpn.done q L hq).2
    have hc := own_cell hpn.own h1
    exact ⟨v, cell_of hc (huX _ (cell_lt hc)), h2.grown huX⟩
  · have e : C7[i]? = some (.bool false) := by rw [← Array.getElem?_toList, hC7, List.getElem?_replicate, if_pos hi]
    have hne : fb ≠ wu.heap.size + 1 + 1 + 1 := fun e' => by
      rw [e', q4] at hfb
      injection hfb with h
      injection h with h1 h2 h3
      cases h2
    have : X.cell? ⟨fb, i, none⟩ = some (.bool false) := by simp [World.cell?, hfb, e]
    exact cell_of this (setCell_far hne _ _)
  · obtain ⟨v, h1, h2, _⟩ := (hpm.done q L hq).2
    have hc := own_cell hpm.own h1
    have hq2 : ∀ c, c < wq.heap.size → (X.setCell ⟨wu.heap.size + 1 + 1 + 1, 2, none⟩ (.int .i64 (st : Int))).heap[c]? = wq.heap[c]? := fun c hc => (setCell_far (by omega) _ _).trans (hqX c hc)
    exact ⟨v, cell_of hc (hq2 _ (cell_lt hc)), h2.grown hq2⟩
  · obtain ⟨v, h1, h2, _⟩ := (hpn.done q L hq).2
    have hc := own_cell hpn.own h1
    have hu2 : ∀ c, c < wu.heap.size → (X.setCell ⟨wu.heap.size + 1 + 1 + 1, 2, none⟩ (.int .i64 (st : Int))).heap[c]? = wu.heap[c]? := fun c hc => (setCell_far (by omega) _ _).trans (huX c hc)
    exact ⟨v, cell_of hc (hu2 _ (cell_lt hc)), h2.grown hu2⟩
set_option maxRecDepth 100000 in
set_option maxHeartbeats 8000000 in
theorem build_any (w : World) (z1 z2 : Int) (n k : Nat) (hz1 : z1 + 1 = (n : Int)) (hz2 : z2 % 4 + 1 = (k : Int)) (hz3 : 0 ≤ z1) (hz4 : 0 ≤ z2) (hz5 : z1 ≤ 255) (hz6 : z2 ≤ 255)
    (a1 : Option Addr) (n1 c1 b1 o1 : Nat) (E1 : List (Nat × Nat × Nat)) (a2 : Option Addr) (n2 c2 b2 o2 : Nat) (E2 : List (Nat × Nat))
    (h1 : n1 = E1.length) (h1l : n1 ≤ 65536) (h1a : 0 < n1 → a1 = some ⟨b1, o1, none⟩) (h1r : In3 w b1 o1 E1) (h1b : ∀ e ∈ E1, e.1 ≤ 65535 ∧ e.2.1 ≤ 65535 ∧ e.2.2 ≤ 65535)
    (h2 : n2 = E2.length) (h2l : n2 ≤ 65536) (h2a : 0 < n2 → a2 = some ⟨b2, o2, none⟩) (h2r : In2 w b2 o2 E2) (h2b : ∀ e ∈ E2, e.1 ≤ 65535 ∧ e.2 ≤ 65535) :
    Calls Yba.prog 4 #[.int .u8 z1, .int .u8 z2, .slice a1 n1 c1, .slice a2 n2 c2] w fun e w' => ∃ ab MV NL, e = .returned (.pointer (some ⟨ab, 0, none⟩)) ∧ Good n MV NL ∧ Aut w' ab n k 0 MV NL ∧ (∀ st : Nat, Aut (w'.setCell ⟨ab, 2, none⟩ (.int .i64 (st : Int))) ab n k st MV NL) ∧ w.heap.size ≤ ab ∧ Fr w w' [] := by
  have hn1 : 0 < n := by omega
  have hn2 : n ≤ 256 := by omega
  have hk1 : 0 < k := by omega
  have hk2 : k ≤ 4 := by omega
  have H1 : Hid (n1 = E1.length) := h1
  have H1A : Hid (0 < n1 → a1 = some ⟨b1, o1, none⟩) := h1a
  have H1R : Hid (In3 w b1 o1 E1) := h1r
  have H1B : Hid (∀ e ∈ E1, e.1 ≤ 65535 ∧ e.2.1 ≤ 65535 ∧ e.2.2 ≤ 65535) := h1b
  have H2 : Hid (n2 = E2.length) := h2
  have H2A : Hid (0 < n2 → a2 = some ⟨b2, o2, none⟩) := h2a
  have H2R : Hid (In2 w b2 o2 E2) := h2r
  have H2B : Hid (∀ e ∈ E2, e.1 ≤ 65535 ∧ e.2 ≤ 65535) := h2b
  obtain ⟨N, hN⟩ : ∃ N, N = n * k * n := ⟨_, rfl⟩
  have HN : Hid (N = n * k * n) := hN
  have p1 : (n : Int) * (k : Int) ≤ 1024 := by have : n * k ≤ 256 * 4 := Nat.mul_le_mul hn2 hk2; have h : ((n * k : Nat) : Int) ≤ 1024 := by omega
                                               rwa [Int.natCast_mul] at h
  have p0 : 0 ≤ (n : Int) * (k : Int) := by have h : (0 : Int) ≤ ((n * k : Nat) : Int) := by omega
                                            rwa [Int.natCast_mul] at h
  have p2 : (n : Int) * (k : Int) * (n : Int) = (N : Int) := by rw [hN, Int.natCast_mul, Int.natCast_mul]
  have p3 : N ≤ 262144 := by rw [hN]; exact Nat.mul_le_mul (Nat.mul_le_mul hn2 hk2) hn2
  obtain ⟨C1, hC1, mk1⟩ := make_ex 30 4 Yba.underlying30 info4 rfl (by omega) N (by omega)
  obtain ⟨C2, hC2, mk2⟩ := make_ex 31 54 Yba.underlying31 info54 rfl (by omega) n (by omega)
  obtain ⟨N2, hN2⟩ : ∃ N2, N2 = n * n := ⟨_, rfl⟩
  have HN2 : Hid (N2 = n * n) := hN2
  have p5 : (n : Int) * (n : Int) = (N2 : Int) := by rw [hN2, Int.natCast_mul]
  have p6 : N2 ≤ 65536 := by rw [hN2]; exact Nat.mul_le_mul hn2 hn2
  obtain ⟨C3, hC3, mk3⟩ := make_ex 30 4 Yba.underlying30 info4 rfl (by omega) N2 (by omega)
  obtain ⟨C4, hC4, mk4⟩ := make_ex 32 26 Yba.underlying32 info26 rfl (by omega) n (by omega)
  obtain ⟨C5, hC5, mk5⟩ := make_ex 29 9 Yba.underlying29 info9 rfl (by omega) n (by omega)
  obtain ⟨C6, hC6, mk6⟩ := make_ex 29 9 Yba.underlying29 info9 rfl (by omega) k (by omega)
  obtain ⟨C7, hC7, mk7⟩ := make_ex 30 4 Yba.underlying30 info4 rfl (by omega) n (by omega)
  have HC7 : Hid (C7.toList = List.replicate n (.bool false)) := hC7
  clear hC5 hC6 hC7
  have HC3 : Hid (C3.toList = List.replicate N2 (.bool false)) := hC3
  have HC4 : Hid (C4.toList = List.replicate n (.slice none 0 0)) := hC4
  clear h1 h1a h1r h1b h2 h2a h2r h2b hN hN2 hC3 hC4
  go_enter Yba.func4, Yba.ntmps4
  go_wp2_with fail
  have HI : Hid ((w.alloc (.cells C1 4)).ownsRow w.heap.size 4 1 (.slice (some ⟨w.heap.size, 0, none⟩) N N) N (bools N fun _ => false) ∧ Fr w (w.alloc (.cells C1 4)) []) := ⟨by have := made_own (w := w) (E := 4) hC1 (by omega) (Nat.le_refl _); rwa [replicate_bools] at this, (Fr.refl w []).alloc _⟩
  clear mk1 hC1
  go_loopw [44] (fun s44 wr => ∃ (t : Nat) (p : Nat → Bool), t ≤ n1 ∧ s44 = .int .i64 t ∧ wr.ownsRow w.heap.size 4 1 (.slice (some ⟨w.heap.size, 0, none⟩) N N) N (bools N p) ∧ Fr w wr []) (fun s44 _ => n1 - (intOf s44).toNat)
  case atStart => exact ⟨0, fun _ => false, Nat.zero_le _, rfl, HI.out.1, HI.out.2⟩
  case round =>
    clear HI
    obtain ⟨t, p, ht, rfl, hown, hfr⟩ := hrel
    rename World => wr
    have HO : Hid (wr.ownsRow w.heap.size 4 1 (.slice (some ⟨w.heap.size, 0, none⟩) N N) N (bools N p)) := hown
    have HF : Hid (Fr w wr []) := hfr
    by_cases htl : t < n1
    · have hd : decide ((t : Int) < (n1 : Int)) = true := by simp; exact htl
      obtain ⟨⟨f, s, u⟩, he⟩ : ∃ e, E1[t]? = some e := ⟨_, List.getElem?_eq_getElem (by rw [← H1.out]; exact htl)⟩
      obtain ⟨r1, r2, r3⟩ := H1R.out t _ he
      obtain ⟨m1, m2, m3⟩ := H1B.out _ (List.mem_of_getElem? he)
      dsimp only at r1 r2 r3 m1 m2 m3
      have y1 := hfr.cell r1 (by simp)
      have y2 := hfr.cell r2 (by simp)
      have y3 := hfr.cell r3 (by simp)
      have x1 := index23 (c := c1) H1A.out htl
      obtain ⟨q, hq, eq⟩ := mod_letter f n hn1
      obtain ⟨s', hs', es⟩ := mod_letter s k hk1
      obtain ⟨u', hu', eu⟩ := mod_letter u n hn1
      obtain ⟨ix, hix, eix, l1, l2, l3, l4⟩ := place3 HN.out hq hs' hu' hn2 hk2
      have x2 := index30 (b := w.heap.size) (c := N) hix
      have hwz := (hown.lt w.heap.size rfl).2
      have ck : (wr.alloc (.cells #[.int .u16 (f : Int), .int .u16 (s : Int), .int .u16 (u : Int)] 53)).cell? ⟨w.heap.size, ix, none⟩ = some (.bool (p ix)) := own_cell (hown.alloc _) (bools_get hix)
      have fk : (wr.alloc (.cells #[.int .u16 (f : Int), .int .u16 (s : Int), .int .u16 (u : Int)] 53)).frozen? ⟨w.heap.size, ix, none⟩ = false := own_frozen (hown.alloc _) ix
      generalize p ix = pv at ck
      clear hown hfr r1 r2 r3 he
      go_wp2_with fail
      go_roundw
      case rel =>
        refine ⟨t + 1, fun i => if i = ix then true else p i, by omega, by go_num, ?_, ?_⟩
        · have := own_set HO.out ix (.bool true)
          rw [bools_set] at this
          exact this.alloc _
        · exact (HF.out.set (.inr (Nat.le_refl _)) _ _).alloc _
      case measure => simp [intOf]; omega
    · have hd : decide ((t : Int) < (n1 : Int)) = false := by simp; omega
      clear H1 H1A H1R H1B
      go_wp2_with fail
      have HP : Hid (PM w w.heap.size N wr.heap.size n p (wr.alloc (.cells C2 54)) 0 (List.replicate n (.slice none 0 0)) []) := by
        have hlt := (hown.lt w.heap.size rfl).2
        refine ⟨hown.alloc _, hlt, made_own hC2 (by omega) hfr.size, rfl, fun i L hi => by simp at hi, fun i _ hi => by simp [hi], hfr.alloc _⟩
      obtain ⟨mb, hmb⟩ : ∃ mb, mb = wr.heap.size := ⟨_, rfl⟩
      rw [← hmb] at HP ⊢
      clear hown hfr HO HF mk2 hC2 hmb
      go_loopw [18] (fun s18 wr => ∃ (q : Nat) (VS : List Value) (MVs : List (List (Nat × Nat))), q ≤ n ∧ s18 = .int .i64 q ∧ PM w w.heap.size N mb n p wr q VS MVs) (fun s18 _ => n - (intOf s18).toNat)
      case atStart => exact ⟨0, _, _, Nat.zero_le _, rfl, HP.out⟩
      case round =>
        clear HP
        obtain ⟨q, VS, MVs, hqn, rfl, hpm⟩ := hrel
        rename World => wq
        by_cases hq : q < n
        · have hd2 : decide ((q : Int) < (n : Int)) = true := by simp; exact hq
          have HS0 : Hid (PC w w.heap.size N mb n p wq.heap.size wq q VS MVs none 0 [] ∧ LG n 0 0 []) := ⟨hpm.start hq, LG.nil n⟩
          clear hpm
          obtain ⟨H, hH⟩ : ∃ H, H = wq.heap.size := ⟨_, rfl⟩
          rw [← hH] at HS0
          clear hH
          go_wp2_with fail
          go_loopw [19] (fun s19 wr => ∃ (s : Nat) (VS : List Value) (vo : Option Addr) (cap : Nat) (L : List (Nat × Nat)), s ≤ k ∧ s19 = .int .i64 s ∧ PC w w.heap.size N mb n p H wr q VS MVs vo cap L ∧ LG n s 0 L) (fun s19 _ => k - (intOf s19).toNat)
          case atStart => exact ⟨0, VS, none, 0, [], Nat.zero_le _, rfl, HS0.out.1, HS0.out.2⟩
          case round =>
            clear HS0 hd2
            obtain ⟨s, VS, vo, cap, L, hsk, rfl, hpc, hlg⟩ := hrel
            rename World => ws
            by_cases hs : s < k
            · have hd3 : decide ((s : Int) < (k : Int)) = true := by simp; exact hs
              have HS1 : Hid (PC w w.heap.size N mb n p H ws q VS MVs vo cap L ∧ LG n s 0 L) := ⟨hpc, hlg⟩
              clear hpc hlg
              go_wp2_with fail
              go_loopw [20] (fun s20 wr => ∃ (t : Nat) (VS : List Value) (vo : Option Addr) (cap : Nat) (L : List (Nat × Nat)), t ≤ n ∧ s20 = .int .i64 t ∧ PC w w.heap.size N mb n p H wr q VS MVs vo cap L ∧ LG n s t L) (fun s20 _ => n - (intOf s20).toNat)
              case atStart => exact ⟨0, VS, vo, cap, L, Nat.zero_le _, rfl, HS1.out.1, HS1.out.2⟩
              case round =>
                clear HS1 hd3
                obtain ⟨t', VS, vo, cap, L, htn, rfl, hpc, hlg⟩ := hrel
                rename World => wt
                have HPC : Hid (PC w w.heap.size N mb n p H wt q VS MVs vo cap L) := hpc
                have HLG : Hid (LG n s t' L) := hlg
                by_cases ht' : t' < n
                · have hd4 : decide ((t' : Int) < (n : Int)) = true := by simp; exact ht'
                  obtain ⟨ix, hix, eix, l1, l2, l3, l4⟩ := place3 HN.out hq hs ht' hn2 hk2
                  have x2 := index30 (b := w.heap.size) (c := N) hix
                  have ck : wt.cell? ⟨w.heap.size, ix, none⟩ = some (.bool (p ix)) := own_cell hpc.hs (bools_get hix)
                  cases hpv : p ix with
                  | false =>
                    rw [hpv] at ck
                    clear hpc hlg hpv
                    go_wp2_with fail
                    go_roundw
                    case rel => exact ⟨t' + 1, VS, vo, cap, L, by omega, by go_num, HPC.out, HLG.out.skip⟩
                    case measure => simp [intOf]; omega
                  | true =>
                    rw [hpv] at ck
                    have x3 := index31 (b := mb) (c := n) hq
                    have cv : wt.cell? ⟨mb, q, none⟩ = some (.slice vo L.length cap) := own_cell hpc.own hpc.at_
                    have hlen : L.length ≤ 4096 := by
                      have h1 := hlg.len
                      have h2 : s * n ≤ 4 * 256 := Nat.mul_le_mul (by omega) hn2
                      omega
                    have hHw := hpc.Hw
                    have HCUR : Hid (wt.ownsRow H 56 2 (.slice vo L.length cap) L.length (mcells L)) := hpc.cur
                    have HKEEP : Hid (∀ w2, Fr wt w2 (blks (.slice vo L.length cap)) → w2.cell? ⟨mb, q, none⟩ = some (.slice vo L.length cap) ∧ w2.frozen? ⟨mb, q, none⟩ = false) := fun w2 hf => by
                      have hnm : mb ∉ blks (.slice vo L.length cap) := fun hm' => by have := (hpc.cur.lt mb (mem_blks.1 hm')).1; have := hpc.mH; omega
                      exact ⟨hf.cell cv hnm, own_frozen (hf.own hpc.own fun b hb => by cases hb; exact hnm) q⟩
                    clear hpc hlg hpv
                    go_wp2_with (first | (at_builtin; refine wpList_app2 rfl _ _ rfl wt (s : Int) (t' : Int) rfl HCUR.out rfl (by omega) hHw ?_; intro g cap' w2 e1 e2 e3; obtain ⟨v1, v2⟩ := HKEEP.out w2 e2; have E1' : Hid (w2.ownsRow H 56 2 (.slice (some ⟨g, 0, none⟩) (L.length + 1) cap') (L.length + 1) (mcells L ++ [.int .i64 (s : Int), .int .i64 (t' : Int)])) := e1; have E2' : Hid (Fr wt w2 (blks (.slice vo L.length cap))) := e2; clear e1 e2 e3))
                    go_roundw
                    case rel => exact ⟨t' + 1, _, some ⟨g, 0, none⟩, cap', L ++ [(s, t')], by omega, by go_num, HPC.out.push hq E1'.out E2'.out, HLG.out.push ht'⟩
                    case measure => simp [intOf]; omega
                · have hd4 : decide ((t' : Int) < (n : Int)) = false := by simp; omega
                  obtain rfl : t' = n := by omega
                  clear hpc hlg
                  go_wp2_with fail
                  go_roundw
                  case rel => exact ⟨s + 1, VS, vo, cap, L, by omega, by go_num, HPC.out, HLG.out.line⟩
                  case measure => simp [intOf]; omega
            · have hd3 : decide ((s : Int) < (k : Int)) = false := by simp; omega
              obtain rfl : s = k := by omega
              have HP : Hid (PM w w.heap.size N mb n p ws (q + 1) VS (MVs ++ [L])) := hpc.finish (hlg.done hk2 hn2)
              clear hpc hlg
              go_wp2_with fail
              go_roundw
              case rel => exact ⟨q + 1, VS, MVs ++ [L], by omega, by go_num, HP.out⟩
              case measure => simp [intOf]; omega
        · have hd2 : decide ((q : Int) < (n : Int)) = false := by simp; omega
          have eqn : n = q := by omega
          subst eqn
          have HPM : Hid (PM w w.heap.size N mb n p wq n VS MVs) := hpm
          have HFM : Hid (Fr w wq []) := hpm.fr
          clear hpm
          go_wp2_with fail
          obtain ⟨hb, hhb⟩ : ∃ hb, hb = wq.heap.size := ⟨_, rfl⟩
          have HI : Hid ((wq.alloc (.cells C3 4)).ownsRow wq.heap.size 4 1 (.slice (some ⟨hb, 0, none⟩) N2 N2) N2 (bools N2 fun _ => false) ∧ Fr wq (wq.alloc (.cells C3 4)) []) := ⟨by have := made_own (w := wq) (E := 4) HC3.out (by omega) (Nat.le_refl _); rw [replicate_bools] at this; rw [hhb]; exact this, (Fr.refl wq []).alloc _⟩
          have HHB : Hid (hb = wq.heap.size) := hhb
          rw [← hhb]
          clear mk3 HC3 hhb
          go_loopw [122] (fun s122 wr => ∃ (t : Nat) (p2 : Nat → Bool), t ≤ n2 ∧ s122 = .int .i64 t ∧ wr.ownsRow wq.heap.size 4 1 (.slice (some ⟨hb, 0, none⟩) N2 N2) N2 (bools N2 p2) ∧ Fr wq wr []) (fun s122 _ => n2 - (intOf s122).toNat)
          case atStart => exact ⟨0, fun _ => false, Nat.zero_le _, rfl, HI.out.1, HI.out.2⟩
          case round =>
            clear HI hd2
            obtain ⟨t2, p2', ht2, rfl, hown, hfr⟩ := hrel
            rename World => wr2
            have HO : Hid (wr2.ownsRow wq.heap.size 4 1 (.slice (some ⟨hb, 0, none⟩) N2 N2) N2 (bools N2 p2')) := hown
            have HF : Hid (Fr wq wr2 []) := hfr
            by_cases htl2 : t2 < n2
            · have hd2 : decide ((t2 : Int) < (n2 : Int)) = true := by simp; exact htl2
              obtain ⟨⟨f, u⟩, he⟩ : ∃ e, E2[t2]? = some e := ⟨_, List.getElem?_eq_getElem (by rw [← H2.out]; exact htl2)⟩
              obtain ⟨r1, r2⟩ := H2R.out t2 _ he
              obtain ⟨m1, m2⟩ := H2B.out _ (List.mem_of_getElem? he)
              dsimp only at r1 r2 m1 m2
              have y1 := hfr.cell (HFM.out.cell r1 (by simp)) (by simp)
              have y2 := hfr.cell (HFM.out.cell r2 (by simp)) (by simp)
              have x1 := index24 (c := c2) H2A.out htl2
              obtain ⟨lo, hlo, elo⟩ := mod_letter f n hn1
              obtain ⟨hi, hhi, ehi⟩ := mod_letter u n hn1
              have hwz := (hown.lt hb rfl).2
              have HSTEP : Hid (∀ ix, ix < N2 → (wr2.setCell ⟨hb, ix, none⟩ (.bool true)).ownsRow wq.heap.size 4 1 (.slice (some ⟨hb, 0, none⟩) N2 N2) N2 (bools N2 (fun i => if i = ix then true else p2' i)) ∧ Fr wq (wr2.setCell ⟨hb, ix, none⟩ (.bool true)) []) := fun ix _ => by
                have := own_set HO.out ix (.bool true)
                rw [bools_set] at this
                exact ⟨this, HF.out.set (.inr (by rw [HHB.out]; exact Nat.le_refl _)) _ _⟩
              have HCELL : Hid (∀ ix, ix < N2 → ∃ b, (wr2.alloc (.cells #[.int .u16 (f : Int), .int .u16 (u : Int)] 58)).cell? ⟨hb, ix, none⟩ = some (.bool b) ∧ (wr2.alloc (.cells #[.int .u16 (f : Int), .int .u16 (u : Int)] 58)).frozen? ⟨hb, ix, none⟩ = false) := fun ix hix => ⟨p2' ix, own_cell (hown.alloc _) (bools_get hix), own_frozen (hown.alloc _) ix⟩
              clear hown hfr r1 r2 he
              by_cases e0 : lo = hi
              · subst e0
                go_wp2_with fail
                go_roundw
                case rel => exact ⟨t2 + 1, p2', by omega, by go_num, HO.out.alloc _, HF.out.alloc _⟩
                case measure => simp [intOf]; omega
              · have e1 : ((lo : Int) == (hi : Int)) = false := by simp; omega
                have e1' : ¬ ((lo : Int) = (hi : Int)) := by omega
                by_cases e2 : hi < lo
                · have hd3 : decide ((hi : Int) < (lo : Int)) = true := by simp; exact e2
                  obtain ⟨ix, hix, eix, l1, l2⟩ := place2 HN2.out hhi hlo hn2
                  have x2 := index30 (b := hb) (c := N2) hix
                  obtain ⟨pv, ck, fk⟩ := HCELL.out ix hix
                  go_wp2_with fail
                  go_roundw
                  case rel => exact ⟨t2 + 1, _, by omega, by go_num, (HSTEP.out ix hix).1.alloc _, (HSTEP.out ix hix).2.alloc _⟩
                  case measure => simp [intOf]; omega
                · have hd3 : decide ((hi : Int) < (lo : Int)) = false := by simp; omega
                  obtain ⟨ix, hix, eix, l1, l2⟩ := place2 HN2.out hlo hhi hn2
                  have x2 := index30 (b := hb) (c := N2) hix
                  obtain ⟨pv, ck, fk⟩ := HCELL.out ix hix
                  go_wp2_with fail
                  go_roundw
                  case rel => exact ⟨t2 + 1, _, by omega, by go_num, (HSTEP.out ix hix).1.alloc _, (HSTEP.out ix hix).2.alloc _⟩
                  case measure => simp [intOf]; omega
            · have hd2 : decide ((t2 : Int) < (n2 : Int)) = false := by simp; omega
              clear H2 H2A H2R H2B
              go_wp2_with fail
              have HP : Hid (PN wq hb N2 wr2.heap.size n p2' (wr2.alloc (.cells C4 26)) 0 (List.replicate n (.slice none 0 0)) []) := by
                have hlt := (hown.lt hb rfl).2
                refine ⟨hown.alloc _, hlt, made_own HC4.out (by omega) hfr.size, rfl, fun i L hi => by simp at hi, fun i _ hi => by simp [hi], hfr.alloc _⟩
              obtain ⟨nb, hnb⟩ : ∃ nb, nb = wr2.heap.size := ⟨_, rfl⟩
              rw [← hnb] at HP ⊢
              clear hown hfr HO HF mk4 HC4 hnb
              go_loopw [27] (fun s27 wr => ∃ (q : Nat) (VS : List Value) (MVs : List (List Nat)), q ≤ n ∧ s27 = .int .i64 q ∧ PN wq hb N2 nb n p2' wr q VS MVs) (fun s27 _ => n - (intOf s27).toNat)
              case atStart => exact ⟨0, _, _, Nat.zero_le _, rfl, HP.out⟩
              case round =>
                clear HP hd2
                obtain ⟨q, WS, NLs, hqn', rfl, hpn⟩ := hrel
                rename World => wu
                by_cases hq : q < n
                · have hd2 : decide ((q : Int) < (n : Int)) = true := by simp; exact hq
                  have HS0 : Hid (QN wq hb N2 nb n p2' wu.heap.size wu q WS NLs none 0 [] ∧ NG q (q + 1) []) := ⟨hpn.start hq, NG.nil q _⟩
                  clear hpn
                  obtain ⟨H, hH⟩ : ∃ H, H = wu.heap.size := ⟨_, rfl⟩
                  rw [← hH] at HS0
                  clear hH
                  go_wp2_with fail
                  go_loopw [28] (fun s28 wr => ∃ (t : Nat) (WS : List Value) (vo : Option Addr) (cap : Nat) (L : List Nat), q < t ∧ t ≤ n ∧ s28 = .int .i64 t ∧ QN wq hb N2 nb n p2' H wr q WS NLs vo cap L ∧ NG q t L) (fun s28 _ => n - (intOf s28).toNat)
                  case atStart => exact ⟨q + 1, WS, none, 0, [], by omega, by omega, by go_num, HS0.out.1, HS0.out.2⟩
                  case round =>
                    clear HS0 hd2
                    obtain ⟨t', WS, vo, cap, L, hqt, htn, rfl, hpc, hlg⟩ := hrel
                    rename World => wt
                    have HPC : Hid (QN wq hb N2 nb n p2' H wt q WS NLs vo cap L) := hpc
                    have HLG : Hid (NG q t' L) := hlg
                    by_cases ht' : t' < n
                    · have hd4 : decide ((t' : Int) < (n : Int)) = true := by simp; exact ht'
                      obtain ⟨ix, hix, eix, l1, l2⟩ := place2 HN2.out hq ht' hn2
                      have x2 := index30 (b := hb) (c := N2) hix
                      have ck : wt.cell? ⟨hb, ix, none⟩ = some (.bool (p2' ix)) := own_cell hpc.hs (bools_get hix)
                      cases hpv : p2' ix with
                      | false =>
                        rw [hpv] at ck
                        clear hpc hlg hpv
                        go_wp2_with fail
                        go_roundw
                        case rel => exact ⟨t' + 1, WS, vo, cap, L, by omega, by omega, by go_num, HPC.out, HLG.out.skip⟩
                        case measure => simp [intOf]; omega
                      | true =>
                        rw [hpv] at ck
                        have x3 := index32 (b := nb) (c := n) hq
                        have cv : wt.cell? ⟨nb, q, none⟩ = some (.slice vo L.length cap) := own_cell hpc.own hpc.at_
                        have hlen : L.length ≤ n := hlg.len htn
                        have hHw := hpc.Hw
                        have HCUR : Hid (wt.ownsRow H 3 1 (.slice vo L.length cap) L.length (ints L)) := hpc.cur
                        have HKEEP : Hid (∀ w2, Fr wt w2 (blks (.slice vo L.length cap)) → w2.cell? ⟨nb, q, none⟩ = some (.slice vo L.length cap) ∧ w2.frozen? ⟨nb, q, none⟩ = false) := fun w2 hf => by
                          have hnm : nb ∉ blks (.slice vo L.length cap) := fun hm' => by have := (hpc.cur.lt nb (mem_blks.1 hm')).1; have := hpc.mH; omega
                          exact ⟨hf.cell cv hnm, own_frozen (hf.own hpc.own fun b hb => by cases hb; exact hnm) q⟩
                        clear hpc hlg hpv
                        go_wp2_with (first | (at_builtin; refine wpList_app1 rfl _ _ rfl wt (t' : Int) rfl HCUR.out rfl (by omega) hHw ?_; intro g cap' w2 e1 e2 e3; obtain ⟨v1, v2⟩ := HKEEP.out w2 e2; have E1' : Hid (w2.ownsRow H 3 1 (.slice (some ⟨g, 0, none⟩) (L.length + 1) cap') (L.length + 1) (ints L ++ [.int .i64 (t' : Int)])) := e1; have E2' : Hid (Fr wt w2 (blks (.slice vo L.length cap))) := e2; clear e1 e2 e3))
                        go_roundw
                        case rel => exact ⟨t' + 1, _, some ⟨g, 0, none⟩, cap', L ++ [t'], by omega, by omega, by go_num, HPC.out.push hq E1'.out E2'.out, HLG.out.push hqt⟩
                        case measure => simp [intOf]; omega
                    · have hd4 : decide ((t' : Int) < (n : Int)) = false := by simp; omega
                      have etn : n = t' := by omega
                      subst etn
                      have HP : Hid (PN wq hb N2 nb n p2' wt (q + 1) WS (NLs ++ [L])) := hpc.finish hlg.done
                      clear hpc hlg HPC HLG
                      go_wp2_with fail
                      go_roundw
                      case rel => exact ⟨q + 1, WS, NLs ++ [L], by omega, by go_num, HP.out⟩
                      case measure => simp [intOf]; omega
                · have hd2 : decide ((q : Int) < (n : Int)) = false := by simp; omega
                  have eqn : n = q := by omega
                  subst eqn
                  have HPN : Hid (PN wq hb N2 nb n p2' wu n WS NLs) := hpn
                  clear hpn
                  go_wp2_with fail
                  go_region
                  all_goals
                    go_wp2_with fail
                    go_ret
                    exact ⟨_, MVs, NLs, rfl, build_end HPM.out HPN.out hn1 hn2 HC7.out _ _ _ _ _ _ (by first | exact (alloc4 wu _ _ _ _).1 | exact (alloc4 wu _ _ _ _).2.1 | exact (alloc4 wu _ _ _ _).2.2.1)⟩
end Go.Proofs.Ybulkdxbk
