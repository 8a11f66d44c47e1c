import Derived.Test.YbulkdxfsSt2
namespace Go.Proofs.Ybulkdxfs
open Go.RowKit Go.MuLone

abbrev hbox (e : Hl) : Obj := .cells #[.int .i64 e.1.1, .int .i64 e.1.2.1, .string e.1.2.2, .string e.2] 42
abbrev ebox (e : Ent) : Obj := .cells #[.int .i64 e.1.1, .int .i64 e.1.2.1, .string e.1.2.2, .bool e.2] 38

theorem str_ne {a b : ByteArray} (h : a ≠ b) : (a.toList == b.toList) = false := by
  rw [← beq_toListBytes]
  cases hq : a == b
  · rfl
  · exact absurd ((Go.MapKept.bytes_beq a b).1 hq) h
theorem heap_new_at {w : World} {c : Nat} (h : c = w.heap.size) (o : Obj) : (w.alloc o).heap[c]? = some o := by subst h; exact heap_alloc_new w o
theorem su_start (w : World) : Su w (((w.alloc (.cells #[.int .i32 0, .int .u32 0, .map none, .map none, .map (some (w.heap.size + 1))] 36)).alloc (.map #[] 0)).alloc (.map #[] 0)) (.map none) (.map none) (.map (some (w.heap.size + 1))) (.map none) (.map none) (.map (some (w.heap.size + 1 + 1))) [] [] [] [] [] [] := by
  refine ⟨?_, .inl ⟨rfl, rfl⟩, .inl ⟨rfl, rfl⟩, .inr ⟨_, rfl, by omega, #[], 0, ?_, rfl⟩, .inl ⟨rfl, rfl⟩, .inl ⟨rfl, rfl⟩, .inr ⟨_, rfl, by omega, #[], 0, ?_, rfl⟩, ?_, ?_⟩
  · exact (blk_alloc (by simp; omega) _).trans ((blk_alloc (by simp) _).trans (heap_new_at rfl _))
  · exact (blk_alloc (by simp) _).trans (heap_new_at (by simp) _)
  · exact heap_new_at (by simp) _
  · simp [apart]
  · exact (((Below.refl _ _).alloc (Nat.le_refl _) _).alloc (by simp) _).alloc (by simp; omega) _

theorem su_nil (w : World) : Su w (w.alloc (.cells #[.int .i32 0, .int .u32 0, .map none, .map none, .map none] 36)) (.map none) (.map none) (.map none) (.map none) (.map none) (.map none) [] [] [] [] [] [] := by
  refine ⟨heap_new_at rfl _, .inl ⟨rfl, rfl⟩, .inl ⟨rfl, rfl⟩, .inl ⟨rfl, rfl⟩, .inl ⟨rfl, rfl⟩, .inl ⟨rfl, rfl⟩, .inl ⟨rfl, rfl⟩, ?_, (Below.refl _ _).alloc (Nat.le_refl _) _⟩
  simp [apart]

theorem su_two {w wc : World} {uv bv : Value} {L : List (Ky × Value)} (h : Su w wc (.map none) (.map none) uv (.map none) (.map none) bv [] [] [] [] L L) :
    Su w (((((wc.setCell ⟨w.heap.size, 2, none⟩ (.map (some wc.heap.size))).setCell ⟨w.heap.size, 3, none⟩ (.map (some (wc.heap.size + 1)))).alloc (.map #[] 0)).alloc (.map #[] 0)).alloc (.map #[] 0) |>.alloc (.map #[] 0))
      (.map (some wc.heap.size)) (.map (some (wc.heap.size + 1))) uv (.map (some (wc.heap.size + 1 + 1))) (.map (some (wc.heap.size + 1 + 1 + 1))) bv [] [] [] [] L L := by
  have hb := h.blk
  have hz : w.heap.size < wc.heap.size := blk_lt hb
  have hs : ∀ (x : World) (a : Addr) (v : Value), (x.setCell a v).heap.size = x.heap.size := fun x a v => by simp [World.setCell]
  obtain ⟨w1, hw1⟩ : ∃ w1, w1 = (wc.setCell ⟨w.heap.size, 2, none⟩ (.map (some wc.heap.size))).setCell ⟨w.heap.size, 3, none⟩ (.map (some (wc.heap.size + 1))) := ⟨_, rfl⟩
  have hz1 : w1.heap.size = wc.heap.size := by rw [hw1, hs, hs]
  have hb1 : w1.heap[w.heap.size]? = some (.cells #[.int .i32 0, .int .u32 0, .map (some wc.heap.size), .map (some (wc.heap.size + 1)), uv] 36 (0, 0)) := by
    rw [hw1]; exact blk_set (blk_set hb 2 _) 3 _
  have ho1 : ∀ c, c ≠ w.heap.size → w1.heap[c]? = wc.heap[c]? := fun c hc => by rw [hw1]; exact (blk_set_other hc _ _).trans (blk_set_other hc _ _)
  have hbel1 : Below w.heap.size w w1 := by rw [hw1]; exact (h.bel.setCell (Nat.le_refl _) _).setCell (Nat.le_refl _) _
  have keepM : ∀ {v : Value} {l : List (Ky × Value)}, MapF w.heap.size wc v kv l → MapF w.heap.size ((((w1.alloc (.map #[] 0)).alloc (.map #[] 0)).alloc (.map #[] 0)).alloc (.map #[] 0)) v kv l := by
    intro v l hm
    refine hm.same fun b hb' hlt => ?_
    refine (blk_alloc (by simp; omega) _).trans ((blk_alloc (by simp; omega) _).trans ((blk_alloc (by simp; omega) _).trans ((blk_alloc (by omega) _).trans (ho1 b ?_))))
    intro e
    subst e
    rcases hm with ⟨h1, _⟩ | ⟨b, h1, _, es, c, h2, _⟩
    · rw [h1] at hb'; cases hb'
    · rw [h1] at hb'; cases hb'; rw [hb] at h2; cases h2
  have fresh : ∀ {v : Value} {l : List (Ky × Value)} (c : Nat), MapF w.heap.size wc v kv l → wc.heap.size ≤ c → v ≠ .map (some c) := by
    intro v l c hm hc e
    rcases hm with ⟨h1, _⟩ | ⟨b, h1, _, es, cl, h2, _⟩
    · rw [h1] at e; cases e
    · rw [h1] at e; cases e; have := blk_lt h2; omega
  have hap := h.ap
  simp only [List.pairwise_cons, List.mem_cons, List.not_mem_nil, or_false, forall_eq_or_imp, forall_eq] at hap
  rw [← hw1]
  refine ⟨?_, .inr ⟨_, rfl, by omega, #[], 0, ?_, rfl⟩, .inr ⟨_, rfl, by omega, #[], 0, ?_, rfl⟩, keepM h.mu, .inr ⟨_, rfl, by omega, #[], 0, ?_, rfl⟩, .inr ⟨_, rfl, by omega, #[], 0, ?_, rfl⟩, keepM h.mb, ?_, ?_⟩
  · exact (blk_alloc (by simp; omega) _).trans ((blk_alloc (by simp; omega) _).trans ((blk_alloc (by simp; omega) _).trans ((blk_alloc (by omega) _).trans hb1)))
  · exact (blk_alloc (by simp; omega) _).trans ((blk_alloc (by simp; omega) _).trans ((blk_alloc (by simp; omega) _).trans (heap_new_at hz1.symm _)))
  · exact (blk_alloc (by simp; omega) _).trans ((blk_alloc (by simp; omega) _).trans (heap_new_at (by simp; omega) _))
  · exact (blk_alloc (by simp; omega) _).trans (heap_new_at (by simp; omega) _)
  · exact heap_new_at (by simp; omega) _
  · simp only [List.pairwise_cons, List.mem_cons, List.not_mem_nil, or_false, forall_eq_or_imp, forall_eq, List.Pairwise.nil, and_true]
    refine ⟨⟨?_, ?_, ?_, ?_, ?_⟩, ⟨?_, ?_, ?_, ?_⟩, ⟨?_, ?_, hap.2.2.1.2.2⟩, ⟨?_, ?_⟩, ?_, by simp⟩
    all_goals intro b hb'
    all_goals first | (cases hb'; intro e; injection e with e; injection e with e; omega) | (cases hb'; exact fresh _ h.mu (by omega)) | (cases hb'; exact fresh _ h.mb (by omega)) | (intro e; cases e; exact fresh _ h.mu (by omega) hb')
  · exact ((((hbel1.alloc (by omega) _).alloc (by simp; omega) _).alloc (by simp; omega) _).alloc (by simp; omega) _)

theorem MapF.set {κ : Type} {B : Nat} {wc : World} {v : Value} {kv : κ → Value} {l : List (κ × Value)} (h : MapF B wc v kv l) {hb : Nat} {cs : Array Value} {t : TypeId} {fr : Nat × Nat} (hblk : wc.heap[hb]? = some (.cells cs t fr)) (o : Nat) (x : Value) : MapF B (wc.setCell ⟨hb, o, none⟩ x) v kv l := by
  rcases h with h | ⟨b, rfl, hb', es, c, h1, h2⟩
  · exact .inl h
  · refine .inr ⟨b, rfl, hb', es, c, (blk_set_other (fun e => ?_) _ _).trans h1, h2⟩
    subst e; rw [hblk] at h1; cases h1
theorem Su.set {w wc : World} {hv dv uv h0 d0 bv : Value} {LH LH0 : List (ByteArray × Value)} {LD LD0 LU LB : List (Ky × Value)} (h : Su w wc hv dv uv h0 d0 bv LH LH0 LD LD0 LU LB) {hb : Nat} {cs : Array Value} {t : TypeId} {fr : Nat × Nat} (hblk : wc.heap[hb]? = some (.cells cs t fr)) (hlt : w.heap.size < hb) (o : Nat) (x : Value) : Su w (wc.setCell ⟨hb, o, none⟩ x) hv dv uv h0 d0 bv LH LH0 LD LD0 LU LB :=
  ⟨(blk_set_other (by omega) _ _).trans h.blk, h.mh.set hblk o x, h.md.set hblk o x, h.mu.set hblk o x, h.mh0.set hblk o x, h.md0.set hblk o x, h.mb.set hblk o x, h.ap, h.bel.setCell (Nat.le_of_lt hlt) _⟩
theorem su_here {w wc : World} {hv dv uv h0 d0 bv : Value} {LH LH0 : List (ByteArray × Value)} {LD LD0 LU LB : List (Ky × Value)} (h : Su w wc hv dv uv h0 d0 bv LH LH0 LD LD0 LU LB) {hb : Nat} {x y : Int} {z : ByteArray} (hblk : wc.heap[hb]? = some (kbox x y z)) (hlt : w.heap.size < hb) (k : Ky) (o : Obj) :
    ((((wc.setCell ⟨hb, 0, none⟩ (.int .i64 k.1)).setCell ⟨hb, 1, none⟩ (.int .i64 k.2.1)).setCell ⟨hb, 2, none⟩ (.string k.2.2)).alloc o).heap[hb]? = some (kbox k.1 k.2.1 k.2.2) ∧
    Su w ((((wc.setCell ⟨hb, 0, none⟩ (.int .i64 k.1)).setCell ⟨hb, 1, none⟩ (.int .i64 k.2.1)).setCell ⟨hb, 2, none⟩ (.string k.2.2)).alloc o) hv dv uv h0 d0 bv LH LH0 LD LD0 LU LB := by
  have b1 := blk_set hblk 0 (.int .i64 k.1)
  have b2 := blk_set b1 1 (.int .i64 k.2.1)
  have b3 := blk_set b2 2 (.string k.2.2)
  exact ⟨(blk_alloc (blk_lt b3) _).trans b3, (((h.set hblk hlt _ _).set b1 hlt _ _).set b2 hlt _ _).alloc _⟩

set_option maxRecDepth 100000 in
set_option maxHeartbeats 4000000 in
theorem law (nm : Bool) (a1 : Option Addr) (n1 cp1 : Nat) (a2 : Option Addr) (n2 cp2 : Nat) (pk hc hi : Int) (ha : ByteArray) (E : List Ent) (D : List Hl) (eb eo db do_ : Nat) (w : World)
    (hn1 : n1 ≤ 1048576) (hn2 : n2 ≤ 1048576) (hE : E.length = n1) (hD : D.length = n2) (ha1 : 0 < n1 → a1 = some ⟨eb, eo, none⟩) (ha2 : 0 < n2 → a2 = some ⟨db, do_, none⟩)
    (hb1 : 0 < n1 → eb < w.heap.size) (hb2 : 0 < n2 → db < w.heap.size) (hr1 : Row38 w eb eo E) (hr2 : Row42 w db do_ D) (hp0 : 0 ≤ pk) (hp1 : pk ≤ 255) :
    Calls Yba.prog 3 #[.bool nm, .slice a1 n1 cp1, .slice a2 n2 cp2, .int .u8 pk, .int .i64 hc, .int .i64 hi, .string ha] w fun e w' => e = .returned (.bool true) ∧ Below w.heap.size w w' := by
  have hn1' : (n1 : Int) ≤ 1048576 := by omega
  have hn2' : (n2 : Int) ≤ 1048576 := by omega
  have hd1 : decide ((1048576 : Int) < (n1 : Int)) = false := by simp; omega
  have hd2 : decide ((1048576 : Int) < (n2 : Int)) = false := by simp; omega
  have HE : Hid (E.length = n1) := hE
  have HD : Hid (D.length = n2) := hD
  have HA1 : Hid (0 < n1 → a1 = some ⟨eb, eo, none⟩) := ha1
  have HA2 : Hid (0 < n2 → a2 = some ⟨db, do_, none⟩) := ha2
  have HB1 : Hid (0 < n1 → eb < w.heap.size) := hb1
  have HB2 : Hid (0 < n2 → db < w.heap.size) := hb2
  have HR1 : Hid (Row38 w eb eo E) := hr1
  have HR2 : Hid (Row42 w db do_ D) := hr2
  clear hE hD ha1 ha2 hb1 hb2 hr1 hr2
  go_enter Yba.func3, Yba.ntmps3
  go_upto_if 58 with fail
  go_cut [16] from 47 to 88 (fun bv wc => ∃ uv, Su w wc (.map none) (.map none) uv (.map none) (.map none) bv [] [] [] [] (if nm then [] else foldU E) (if nm then [] else foldU E))
  case first =>
    have hmm := @run_makeMap Yba.prog
    cases nm
    · go_wp2_with fail
      have HSU : Hid _ := su_start w
      clear hmm
      go_loopw [66] (fun i wr => ∃ k : Nat, k ≤ n1 ∧ i = .int .i64 k ∧ Su w wr (.map none) (.map none) (.map (some (w.heap.size + 1))) (.map none) (.map none) (.map (some (w.heap.size + 1 + 1))) [] [] [] [] (foldU (E.take k)) (foldU (E.take k))) (fun i _ => n1 - (intOf i).toNat)
      case atStart => exact ⟨0, Nat.zero_le _, rfl, HSU.out⟩
      case round =>
        obtain ⟨k, hk, rfl, hsu⟩ := hrel
        have HSr : Hid (Su w wr (.map none) (.map none) (.map (some (w.heap.size + 1))) (.map none) (.map none) (.map (some (w.heap.size + 1 + 1))) [] [] [] [] (foldU (E.take k)) (foldU (E.take k))) := hsu
        by_cases hlt : k < n1
        · obtain ⟨e, he⟩ : ∃ e, E[k]? = some e := ⟨_, List.getElem?_eq_getElem (by rw [HE.out]; exact hlt)⟩
          have HEK : Hid (E[k]? = some e) := he
          obtain ⟨q1, q2, q3, q4⟩ := HR1.out k e he
          have hix := index22 (c := cp1) HA1.out hlt
          have hbe := HB1.out (by omega)
          have hzr : w.heap.size < wr.heap.size := blk_lt hsu.blk
          have g1 : wr.cell? ⟨eb, eo + k * 4, none⟩ = some (.int .i64 e.1.1) := (hsu.bel.cell (p := ⟨eb, _, none⟩) hbe).trans q1
          have g2 : wr.cell? ⟨eb, eo + k * 4 + 1, none⟩ = some (.int .i64 e.1.2.1) := (hsu.bel.cell (p := ⟨eb, _, none⟩) hbe).trans q2
          have g3 : wr.cell? ⟨eb, eo + k * 4 + 2, none⟩ = some (.string e.1.2.2) := (hsu.bel.cell (p := ⟨eb, _, none⟩) hbe).trans q3
          have g4 : wr.cell? ⟨eb, eo + k * 4 + 3, none⟩ = some (.bool e.2) := (hsu.bel.cell (p := ⟨eb, _, none⟩) hbe).trans q4
          have c4 : wr.cell? ⟨w.heap.size, 4, none⟩ = some (.map (some (w.heap.size + 1))) := by rw [blk_cell hsu.blk]; rfl
          clear hsu q1 q2 q3 q4 he
          go_wp2_with fail
          obtain ⟨w3, hrun, hput⟩ := run_put (w := ((wr.alloc (ebox e)).alloc (kbox e.1.1 e.1.2.1 e.1.2.2)).drew) (T := 34) key40 Yba.underlying34 (((HSr.out.alloc _).alloc _).drew.is_u) e.1 (.bool e.2)
          simp only [kv] at hrun
          have hsu3 := (((HSr.out.alloc (ebox e)).alloc (kbox e.1.1 e.1.2.1 e.1.2.2)).drew).put_u hput
          have hzb : w.heap.size + 1 + 1 < wr.heap.size := HSr.out.is_b.size
          have hk1 : w3.heap[wr.heap.size]? = some (ebox e) := (hput.other _ (by omega)).trans ((blk_alloc (by simp) _).trans (heap_new_at rfl _))
          have hk2 : w3.heap[wr.heap.size + 1]? = some (kbox e.1.1 e.1.2.1 e.1.2.2) := (hput.other _ (by omega)).trans (heap_new_at (by simp) _)
          have k0 : w3.cell? ⟨wr.heap.size + 1, 0, none⟩ = some (.int .i64 e.1.1) := by rw [blk_cell hk2]; rfl
          have k1 : w3.cell? ⟨wr.heap.size + 1, 1, none⟩ = some (.int .i64 e.1.2.1) := by rw [blk_cell hk2]; rfl
          have k2 : w3.cell? ⟨wr.heap.size + 1, 2, none⟩ = some (.string e.1.2.2) := by rw [blk_cell hk2]; rfl
          have k3 : w3.cell? ⟨wr.heap.size, 3, none⟩ = some (.bool e.2) := by rw [blk_cell hk1]; rfl
          obtain ⟨w4, hrun4, hput4⟩ := run_put (w := w3) (T := 34) key40 Yba.underlying34 hsu3.is_b e.1 (.bool e.2)
          simp only [kv] at hrun4
          have HS4 : Hid _ := hsu3.put_b hput4
          clear hput hput4 hsu3 hk1 hk2 hzb
          go_region
          go_wp2_with fail
          go_roundw
          case rel => exact ⟨k + 1, by omega, by go_num, by rw [foldU_step HEK.out]; exact HS4.out⟩
          case measure => simp [intOf]; omega
        · go_wp2_with fail
          go_meet
          case rel => exact ⟨_, by have := HSr.out; rw [show k = n1 by omega, ← HE.out, List.take_length] at this; exact this⟩
    · go_wp2_with fail
      go_meet
      case rel => exact ⟨_, su_nil w⟩
  case rest =>
    obtain ⟨uv, hsu⟩ := hcut
    generalize hL : (if nm = true then [] else foldU E) = L at *
    have HL : Hid ((if nm = true then [] else foldU E) = L) := hL
    clear hL
    have HS : Hid (Su w wc (.map none) (.map none) uv (.map none) (.map none) u16 [] [] [] [] L L) := hsu
    clear hsu
    go_upto_if 91 with fail
    go_cut [20, 21] from 89 to 137 (fun h0 d0 wx => ∃ rh rd : Option Nat, Su w wx (.map rh) (.map rd) uv h0 d0 u16 (foldH D) (foldH D) (foldD D) (foldD D) L L ∧ (Value.map rh = .map none ↔ n2 = 0) ∧ (Value.map rd = .map none ↔ n2 = 0))
    case first =>
      by_cases hpos : 0 < n2
      · have hmm := @run_makeMap Yba.prog
        have hsb := HS.out.blk
        have hzb : w.heap.size < wc.heap.size := blk_lt hsb
        have c2 : ∀ o, (wc.alloc o).cell? ⟨w.heap.size, 2, none⟩ = some (.map none) := fun o => by rw [blk_cell ((blk_alloc hzb o).trans hsb)]; rfl
        have f2 : ∀ o, (wc.alloc o).frozen? ⟨w.heap.size, 2, none⟩ = false := fun o => blk_frozen ((blk_alloc hzb o).trans hsb) 2
        have c3' : wc.cell? ⟨w.heap.size, 3, none⟩ = some (.map none) := by rw [blk_cell hsb]; rfl
        have f3' : wc.frozen? ⟨w.heap.size, 3, none⟩ = false := blk_frozen hsb 3
        clear hsb
        have hposI : (0 : Int) < (n2 : Int) := by omega
        have HS2 : Hid _ := su_two HS.out
        go_wp2_with fail
        clear hmm c2 f2 c3' f3' HS
        generalize wc.heap.size = z at *
        go_loopw [104] (fun i wr => ∃ k : Nat, k ≤ n2 ∧ i = .int .i64 k ∧ Su w wr (.map (some z)) (.map (some (z + 1))) uv (.map (some (z + 1 + 1))) (.map (some (z + 1 + 1 + 1))) u16 (foldH (D.take k)) (foldH (D.take k)) (foldD (D.take k)) (foldD (D.take k)) L L) (fun i _ => n2 - (intOf i).toNat)
        case atStart => exact ⟨0, Nat.zero_le _, rfl, HS2.out⟩
        case round =>
          obtain ⟨k, hk, rfl, hsu⟩ := hrel
          have HSr : Hid (Su w wr (.map (some z)) (.map (some (z + 1))) uv (.map (some (z + 1 + 1))) (.map (some (z + 1 + 1 + 1))) u16 (foldH (D.take k)) (foldH (D.take k)) (foldD (D.take k)) (foldD (D.take k)) L L) := hsu
          by_cases hlt : k < n2
          · obtain ⟨e, he⟩ : ∃ e, D[k]? = some e := ⟨_, List.getElem?_eq_getElem (by rw [HD.out]; exact hlt)⟩
            have HEK : Hid (D[k]? = some e) := he
            obtain ⟨q1, q2, q3, q4⟩ := HR2.out k e he
            have hix := index23 (c := cp2) HA2.out hlt
            have hbe := HB2.out (by omega)
            have hzr : w.heap.size < wr.heap.size := blk_lt hsu.blk
            have g1 : wr.cell? ⟨db, do_ + k * 4, none⟩ = some (.int .i64 e.1.1) := (hsu.bel.cell (p := ⟨db, _, none⟩) hbe).trans q1
            have g2 : wr.cell? ⟨db, do_ + k * 4 + 1, none⟩ = some (.int .i64 e.1.2.1) := (hsu.bel.cell (p := ⟨db, _, none⟩) hbe).trans q2
            have g3 : wr.cell? ⟨db, do_ + k * 4 + 2, none⟩ = some (.string e.1.2.2) := (hsu.bel.cell (p := ⟨db, _, none⟩) hbe).trans q3
            have g4 : wr.cell? ⟨db, do_ + k * 4 + 3, none⟩ = some (.string e.2) := (hsu.bel.cell (p := ⟨db, _, none⟩) hbe).trans q4
            have c3 : wr.cell? ⟨w.heap.size, 3, none⟩ = some (.map (some (z + 1))) := by rw [blk_cell hsu.blk]; rfl
            have y0 : z < wr.heap.size := hsu.is_h.size
            have y1 : z + 1 < wr.heap.size := hsu.is_d.size
            have y2 : z + 1 + 1 < wr.heap.size := hsu.is_h0.size
            have y3 : z + 1 + 1 + 1 < wr.heap.size := hsu.is_d0.size
            clear hsu q1 q2 q3 q4 he
            go_wp2_with fail
            -- s.held[k] = h.ID
            obtain ⟨w3, hrun, hput⟩ := run_put (w := ((wr.alloc (hbox e)).alloc (kbox e.1.1 e.1.2.1 e.1.2.2)).drew) (T := 33) key40 Yba.underlying33 (((HSr.out.alloc _).alloc _).drew.is_d) e.1 (.string e.2)
            simp only [kv] at hrun
            have hsu3 := (((HSr.out.alloc (hbox e)).alloc (kbox e.1.1 e.1.2.1 e.1.2.2)).drew).put_d hput
            have hk1 : w3.heap[wr.heap.size]? = some (hbox e) := (hput.other _ (by omega)).trans ((blk_alloc (by simp) _).trans (heap_new_at rfl _))
            have hk2 : w3.heap[wr.heap.size + 1]? = some (kbox e.1.1 e.1.2.1 e.1.2.2) := (hput.other _ (by omega)).trans (heap_new_at (by simp) _)
            have k0 : w3.cell? ⟨wr.heap.size + 1, 0, none⟩ = some (.int .i64 e.1.1) := by rw [blk_cell hk2]; rfl
            have k1 : w3.cell? ⟨wr.heap.size + 1, 1, none⟩ = some (.int .i64 e.1.2.1) := by rw [blk_cell hk2]; rfl
            have k2 : w3.cell? ⟨wr.heap.size + 1, 2, none⟩ = some (.string e.1.2.2) := by rw [blk_cell hk2]; rfl
            have k3 : w3.cell? ⟨wr.heap.size, 3, none⟩ = some (.string e.2) := by rw [blk_cell hk1]; rfl
            have c2' : w3.cell? ⟨w.heap.size, 2, none⟩ = some (.map (some z)) := by rw [blk_cell hsu3.blk]; rfl
            -- s.holder[h.ID] = k
            obtain ⟨w4, hrun4, hput4⟩ := run_put (w := w3.drew) (T := 32) keyStr Yba.underlying32 hsu3.drew.is_h e.2 (kv e.1)
            simp only [kv] at hrun4
            have hsu4 := hsu3.drew.put_h hput4
            have hk1 : w4.heap[wr.heap.size]? = some (hbox e) := (hput4.other _ (by omega)).trans hk1
            have hk2 : w4.heap[wr.heap.size + 1]? = some (kbox e.1.1 e.1.2.1 e.1.2.2) := (hput4.other _ (by omega)).trans hk2
            have l0 : w4.cell? ⟨wr.heap.size + 1, 0, none⟩ = some (.int .i64 e.1.1) := by rw [blk_cell hk2]; rfl
            have l1 : w4.cell? ⟨wr.heap.size + 1, 1, none⟩ = some (.int .i64 e.1.2.1) := by rw [blk_cell hk2]; rfl
            have l2 : w4.cell? ⟨wr.heap.size + 1, 2, none⟩ = some (.string e.1.2.2) := by rw [blk_cell hk2]; rfl
            have l3 : w4.cell? ⟨wr.heap.size, 3, none⟩ = some (.string e.2) := by rw [blk_cell hk1]; rfl
            -- held0[k] = h.ID
            obtain ⟨w5, hrun5, hput5⟩ := run_put (w := w4) (T := 33) key40 Yba.underlying33 hsu4.is_d0 e.1 (.string e.2)
            simp only [kv] at hrun5
            have hsu5 := hsu4.put_d0 hput5
            have hk1 : w5.heap[wr.heap.size]? = some (hbox e) := (hput5.other _ (by omega)).trans hk1
            have hk2 : w5.heap[wr.heap.size + 1]? = some (kbox e.1.1 e.1.2.1 e.1.2.2) := (hput5.other _ (by omega)).trans hk2
            have m0 : w5.cell? ⟨wr.heap.size + 1, 0, none⟩ = some (.int .i64 e.1.1) := by rw [blk_cell hk2]; rfl
            have m1 : w5.cell? ⟨wr.heap.size + 1, 1, none⟩ = some (.int .i64 e.1.2.1) := by rw [blk_cell hk2]; rfl
            have m2 : w5.cell? ⟨wr.heap.size + 1, 2, none⟩ = some (.string e.1.2.2) := by rw [blk_cell hk2]; rfl
            have m3 : w5.cell? ⟨wr.heap.size, 3, none⟩ = some (.string e.2) := by rw [blk_cell hk1]; rfl
            -- hold0[h.ID] = k
            obtain ⟨w6, hrun6, hput6⟩ := run_put (w := w5) (T := 32) keyStr Yba.underlying32 hsu5.is_h0 e.2 (kv e.1)
            simp only [kv] at hrun6
            have HS6 : Hid _ := hsu5.put_h0 hput6
            clear hput hput4 hput5 hput6 hsu3 hsu4 hsu5 hk1 hk2 y0 y1 y2 y3
            go_region
            go_wp2_with fail
            go_region
            go_wp2_with fail
            go_roundw
            case rel => exact ⟨k + 1, by omega, by go_num, by rw [foldH_step HEK.out, foldD_step HEK.out]; exact HS6.out⟩
            case measure => simp [intOf]; omega
          · go_wp2_with fail
            go_meet
            case rel => exact ⟨_, _, by have := HSr.out; rw [show k = n2 by omega, ← HD.out, List.take_length] at this; exact this, ⟨fun h => (by cases h), fun h => (by omega)⟩, ⟨fun h => (by cases h), fun h => (by omega)⟩⟩
      · have HZ0 : Hid (n2 = 0) := show n2 = 0 by omega
        have hposI : ¬ (0 : Int) < (n2 : Int) := by omega
        go_wp2_with fail
        go_meet
        case rel =>
          have hDn : D = [] := List.length_eq_zero_iff.1 (HD.out.trans HZ0.out)
          rw [hDn]
          exact ⟨_, _, HS.out, ⟨fun _ => HZ0.out, fun _ => rfl⟩, ⟨fun _ => HZ0.out, fun _ => rfl⟩⟩
    case rest =>
      rename World => w2
      obtain ⟨rh, rd, hsu, hhn, hdn⟩ := hcut
      have HHN : Hid ((Value.map rh = .map none ↔ n2 = 0) ∧ (Value.map rd = .map none ↔ n2 = 0)) := ⟨hhn, hdn⟩
      have HS2 : Hid (Su w w2 (.map rh) (.map rd) uv u20 u21 u16 (foldH D) (foldH D) (foldD D) (foldD D) L L) := hsu
      clear hsu hhn hdn HS
      go_upto_region 32 with fail
      go_cut [149] from 138 to 149 (fun b wx => b = .bool (decide (pk % 2 = 0) && decide (0 < n1)) ∧ wx = w2.alloc (kbox hc hi ha))
      case first =>
        by_cases h2 : pk % 2 = 0
        · by_cases h1 : 0 < n1
          · have h1' : (0 : Int) < (n1 : Int) := by omega
            go_wp2_with fail
            go_meet
            case rel => exact ⟨by simp [h2, h1], rfl⟩
          · have h1' : ¬ (0 : Int) < (n1 : Int) := by omega
            go_wp2_with fail
            go_meet
            case rel => exact ⟨by simp [h1], rfl⟩
        · have h2' : (pk % 2 == 0) = false := by simp [h2]
          go_wp2_with fail
          go_meet
          case rel => exact ⟨by simp [h2], rfl⟩
      case rest =>
        obtain ⟨hb149, hwc⟩ := hcut
        subst hb149
        have HSel : Hid ((decide (pk % 2 = 0) && decide (0 < n1)) = true → 0 < n1) := fun h => by simp at h; exact h.2
        generalize (decide (pk % 2 = 0) && decide (0 < n1)) = sel at *
        subst hwc
        have hzw : w.heap.size < w2.heap.size := blk_lt HS2.out.blk
        have HW3 : Hid ((w2.alloc (kbox hc hi ha)).heap[w2.heap.size]? = some (kbox hc hi ha)) := heap_alloc_new _ _
        have HS3 : Hid (Su w (w2.alloc (kbox hc hi ha)) (.map rh) (.map rd) uv u20 u21 u16 (foldH D) (foldH D) (foldD D) (foldD D) L L) := HS2.out.alloc _
        have hz3 : (w2.alloc (kbox hc hi ha)).heap.size = w2.heap.size + 1 := by simp
        generalize w2.alloc (kbox hc hi ha) = w3 at *
        have HZ2 : Hid (Su w w2 (.map rh) (.map rd) uv u20 u21 u16 (foldH D) (foldH D) (foldD D) (foldD D) L L) := HS2.out
        generalize w2.heap.size = hb at *
        clear HS2 HZ2
        go_upto_if 149 with fail
        go_cut [] from 149 to 166 (fun wx => ∃ hk : Ky, wx.heap[hb]? = some (kbox hk.1 hk.2.1 hk.2.2) ∧ Su w wx (.map rh) (.map rd) uv u20 u21 u16 (foldH D) (foldH D) (foldD D) (foldD D) L L)
        case first =>
          cases sel
          · go_wp2_with fail
            go_meet
            case rel => exact ⟨(hc, hi, ha), HW3.out, HS3.out⟩
          · have hpos := HSel.out rfl
            have hj0 : 0 ≤ pk / 2 % (n1 : Int) := Int.emod_nonneg _ (by omega)
            have hj1 : pk / 2 % (n1 : Int) < n1 := Int.emod_lt_of_pos _ (by omega)
            obtain ⟨j, hj⟩ := Int.eq_ofNat_of_zero_le hj0
            have hjn : j < n1 := by rw [hj] at hj1; exact Int.ofNat_lt.1 hj1
            clear hj0 hj1
            obtain ⟨e, he⟩ : ∃ e, E[j]? = some e := ⟨_, List.getElem?_eq_getElem (by rw [HE.out]; exact hjn)⟩
            obtain ⟨q1, q2, q3, q4⟩ := HR1.out j e he
            have hix := index22 (c := cp1) HA1.out hjn
            have hbe := HB1.out (by omega)
            have hsu := HS3.out
            have g1 : w3.cell? ⟨eb, eo + j * 4, none⟩ = some (.int .i64 e.1.1) := (hsu.bel.cell (p := ⟨eb, _, none⟩) hbe).trans q1
            have g2 : w3.cell? ⟨eb, eo + j * 4 + 1, none⟩ = some (.int .i64 e.1.2.1) := (hsu.bel.cell (p := ⟨eb, _, none⟩) hbe).trans q2
            have g3 : w3.cell? ⟨eb, eo + j * 4 + 2, none⟩ = some (.string e.1.2.2) := (hsu.bel.cell (p := ⟨eb, _, none⟩) hbe).trans q3
            have g4 : w3.cell? ⟨eb, eo + j * 4 + 3, none⟩ = some (.bool e.2) := (hsu.bel.cell (p := ⟨eb, _, none⟩) hbe).trans q4
            have r0 : w3.cell? ⟨hb, 0, none⟩ = some (.int .i64 hc) := by rw [blk_cell HW3.out]; rfl
            have r1 : w3.cell? ⟨hb, 1, none⟩ = some (.int .i64 hi) := by rw [blk_cell HW3.out]; rfl
            have r2 : w3.cell? ⟨hb, 2, none⟩ = some (.string ha) := by rw [blk_cell HW3.out]; rfl
            have s0 : w3.frozen? ⟨hb, 0, none⟩ = false := blk_frozen HW3.out 0
            have s1 : w3.frozen? ⟨hb, 1, none⟩ = false := blk_frozen HW3.out 1
            have s2 : w3.frozen? ⟨hb, 2, none⟩ = false := blk_frozen HW3.out 2
            have hbz : hb < w3.heap.size := blk_lt HW3.out
            clear hsu q1 q2 q3 q4 he
            go_wp2_with fail
            go_meet
            case rel => exact ⟨e.1, su_here HS3.out HW3.out hzw e.1 _⟩
        case rest =>
          rename World => w4
          obtain ⟨hk, hhk, hsu⟩ := hcut
          have HK : Hid (w4.heap[hb]? = some (kbox hk.1 hk.2.1 hk.2.2)) := hhk
          have HS4 : Hid (Su w w4 (.map rh) (.map rd) uv u20 u21 u16 (foldH D) (foldH D) (foldD D) (foldD D) L L) := hsu
          clear hhk hsu HS3 HW3 HSel
          have HAB : Hid (AllB L) := by
            show AllB L
            rw [← HL.out]; cases nm
            · exact allB_foldU E
            · exact allB_nil
          have hLlen : L.length ≤ 1048576 := by
            rw [← HL.out]; cases nm
            · have := length_foldU E []; simp only [List.length_nil, Nat.zero_add] at this; rw [HE.out] at this; exact Nat.le_trans this hn1
            · simp
          go_upto_if 167 with fail
          go_cut [27, 28] from 166 to 195 (fun f b wx => f = .bool (getM L hk).isSome ∧ b = (getM L hk).getD (.bool false) ∧ wx.heap[hb]? = some (kbox hk.1 hk.2.1 hk.2.2) ∧ Su w wx (.map rh) (.map rd) uv u20 u21 u16 (foldH D) (foldH D) (foldD D) (foldD D) L L)
          case first =>
            cases nm
            · have hLE : L = foldU E := by rw [← HL.out]; rfl
              have HLE : Hid (L = foldU E) := hLE
              clear hLE
              go_wp2_with fail
              go_loopw [27, 28, 170] (fun f b i wr => ∃ k : Nat, k ≤ n1 ∧ i = .int .i64 k ∧ f = .bool (getM (foldU (E.take k)) hk).isSome ∧ b = (getM (foldU (E.take k)) hk).getD (.bool false) ∧ wr.heap[hb]? = some (kbox hk.1 hk.2.1 hk.2.2) ∧ Su w wr (.map rh) (.map rd) uv u20 u21 u16 (foldH D) (foldH D) (foldD D) (foldD D) L L) (fun _ _ i _ => n1 - (intOf i).toNat)
              case atStart => exact ⟨0, Nat.zero_le _, rfl, rfl, rfl, HK.out, HS4.out⟩
              case round =>
                obtain ⟨k, hk', rfl, hf, hbb, hhk, hsu⟩ := hrel
                have HSr : Hid (wr.heap[hb]? = some (kbox hk.1 hk.2.1 hk.2.2) ∧ Su w wr (.map rh) (.map rd) uv u20 u21 u16 (foldH D) (foldH D) (foldD D) (foldD D) L L) := ⟨hhk, hsu⟩
                have HFB : Hid (u27 = .bool (getM (foldU (E.take k)) hk).isSome ∧ u28 = (getM (foldU (E.take k)) hk).getD (.bool false)) := ⟨hf, hbb⟩
                clear hf hbb
                by_cases hlt : k < n1
                · obtain ⟨e, he⟩ : ∃ e, E[k]? = some e := ⟨_, List.getElem?_eq_getElem (by rw [HE.out]; exact hlt)⟩
                  have HEK : Hid (E[k]? = some e) := he
                  obtain ⟨q1, q2, q3, q4⟩ := HR1.out k e he
                  have hix := index22 (c := cp1) HA1.out hlt
                  have hbe := HB1.out (by omega)
                  have hzr : w.heap.size < wr.heap.size := blk_lt hsu.blk
                  have hzh : hb < wr.heap.size := blk_lt hhk
                  have g1 : wr.cell? ⟨eb, eo + k * 4, none⟩ = some (.int .i64 e.1.1) := (hsu.bel.cell (p := ⟨eb, _, none⟩) hbe).trans q1
                  have g2 : wr.cell? ⟨eb, eo + k * 4 + 1, none⟩ = some (.int .i64 e.1.2.1) := (hsu.bel.cell (p := ⟨eb, _, none⟩) hbe).trans q2
                  have g3 : wr.cell? ⟨eb, eo + k * 4 + 2, none⟩ = some (.string e.1.2.2) := (hsu.bel.cell (p := ⟨eb, _, none⟩) hbe).trans q3
                  have g4 : wr.cell? ⟨eb, eo + k * 4 + 3, none⟩ = some (.bool e.2) := (hsu.bel.cell (p := ⟨eb, _, none⟩) hbe).trans q4
                  have r0 : wr.cell? ⟨hb, 0, none⟩ = some (.int .i64 hk.1) := by rw [blk_cell hhk]; rfl
                  have r1 : wr.cell? ⟨hb, 1, none⟩ = some (.int .i64 hk.2.1) := by rw [blk_cell hhk]; rfl
                  have r2 : wr.cell? ⟨hb, 2, none⟩ = some (.string hk.2.2) := by rw [blk_cell hhk]; rfl
                  clear hsu hhk q1 q2 q3 q4 he
                  by_cases e1 : e.1.1 = hk.1
                  · have e1' : (e.1.1 == hk.1) = true := by simp [e1]
                    have E1 : Hid (e.1.1 = hk.1) := e1
                    clear e1
                    by_cases e2 : e.1.2.1 = hk.2.1
                    · have e2' : (e.1.2.1 == hk.2.1) = true := by simp [e2]
                      have E2 : Hid (e.1.2.1 = hk.2.1) := e2
                      clear e2
                      by_cases e3 : e.1.2.2 = hk.2.2
                      · have e3' : (e.1.2.2.toList == hk.2.2.toList) = true := by simp [e3]
                        have EE : Hid (e.1 = hk) := Prod.ext E1.out (Prod.ext E2.out e3)
                        clear e3
                        go_wp2_with fail
                        go_roundw
                        case rel => exact ⟨k + 1, by omega, by go_num, by rw [foldU_step HEK.out, getM_put, if_pos EE.out]; rfl, by rw [foldU_step HEK.out, getM_put, if_pos EE.out]; rfl, (blk_alloc (blk_lt HSr.out.1) _).trans HSr.out.1, HSr.out.2.alloc _⟩
                        case measure => simp [intOf]; omega
                      · have e3' : (e.1.2.2.toList == hk.2.2.toList) = false := str_ne e3
                        have EE : Hid (e.1 ≠ hk) := fun h => e3 (by rw [h])
                        clear e3
                        go_wp2_with fail
                        go_roundw
                        case rel => exact ⟨k + 1, by omega, by go_num, by rw [foldU_step HEK.out, getM_put, if_neg EE.out]; exact HFB.out.1, by rw [foldU_step HEK.out, getM_put, if_neg EE.out]; exact HFB.out.2, (blk_alloc (blk_lt HSr.out.1) _).trans HSr.out.1, HSr.out.2.alloc _⟩
                        case measure => simp [intOf]; omega
                    · have e2' : (e.1.2.1 == hk.2.1) = false := by simp [e2]
                      have EE : Hid (e.1 ≠ hk) := fun h => e2 (by rw [h])
                      clear e2
                      go_wp2_with fail
                      go_roundw
                      case rel => exact ⟨k + 1, by omega, by go_num, by rw [foldU_step HEK.out, getM_put, if_neg EE.out]; exact HFB.out.1, by rw [foldU_step HEK.out, getM_put, if_neg EE.out]; exact HFB.out.2, (blk_alloc (blk_lt HSr.out.1) _).trans HSr.out.1, HSr.out.2.alloc _⟩
                      case measure => simp [intOf]; omega
                  · have e1' : (e.1.1 == hk.1) = false := by simp [e1]
                    have EE : Hid (e.1 ≠ hk) := fun h => e1 (by rw [h])
                    clear e1
                    go_wp2_with fail
                    go_roundw
                    case rel => exact ⟨k + 1, by omega, by go_num, by rw [foldU_step HEK.out, getM_put, if_neg EE.out]; exact HFB.out.1, by rw [foldU_step HEK.out, getM_put, if_neg EE.out]; exact HFB.out.2, (blk_alloc (blk_lt HSr.out.1) _).trans HSr.out.1, HSr.out.2.alloc _⟩
                    case measure => simp [intOf]; omega
                · go_wp2_with fail
                  go_meet
                  case rel =>
                    have hkn : E.take k = E := by rw [List.take_of_length_le (by rw [HE.out]; omega)]
                    have h := HFB.out
                    rw [hkn, ← HLE.out] at h
                    exact ⟨h.1, h.2, HSr.out.1, HSr.out.2⟩
            · have hLE : L = [] := by rw [← HL.out]; rfl
              have HLE : Hid (L = []) := hLE
              clear hLE
              go_wp2_with fail
              go_meet
              case rel => exact ⟨by rw [HLE.out]; rfl, by rw [HLE.out]; rfl, HK.out, HS4.out⟩
          case rest =>
            rename World => w5
            obtain ⟨hf, hbb, hhk, hsu⟩ := hcut
            obtain ⟨t, ht, ht2⟩ := HAB.out.t hk
            rw [ht] at hbb
            subst hf hbb
            have HT : Hid ((getM L hk).getD (.bool false) = .bool t ∧ (t = true → getM L hk = some (.bool true))) := ⟨ht, ht2⟩
            have HK5 : Hid (w5.heap[hb]? = some (kbox hk.1 hk.2.1 hk.2.2)) := hhk
            have HS5 : Hid (Su w w5 (.map rh) (.map rd) uv u20 u21 u16 (foldH D) (foldH D) (foldD D) (foldD D) L L) := hsu
            clear ht ht2 HK HS4
            have HPL := passL_len L hk t HT.out.2
            have HPLh : Hid ((passL L hk t).length = L.length + (if (getM L hk).isSome then 0 else 1)) := HPL
            clear HPL
            generalize (getM L hk).isSome = fb at *
            have c2 : w5.cell? ⟨w.heap.size, 2, none⟩ = some (.map rh) := by rw [blk_cell hsu.blk]; rfl
            have c3 : w5.cell? ⟨w.heap.size, 3, none⟩ = some (.map rd) := by rw [blk_cell hsu.blk]; rfl
            have r0 : w5.cell? ⟨hb, 0, none⟩ = some (.int .i64 hk.1) := by rw [blk_cell hhk]; rfl
            have r1 : w5.cell? ⟨hb, 1, none⟩ = some (.int .i64 hk.2.1) := by rw [blk_cell hhk]; rfl
            have r2 : w5.cell? ⟨hb, 2, none⟩ = some (.string hk.2.2) := by rw [blk_cell hhk]; rfl
            have nb := hsu.len_b
            have nh := hsu.len_h
            have nd := hsu.len_d
            clear hsu hhk
            go_wp2_with fail
            refine (pass_any HS5.out hk.1 hk.2.1 hk.2.2 t HT.out.1 HT.out.2).mono ?_
            rintro e w6 ⟨rfl, ⟨ub, hsu6⟩, hoth⟩
            have hhk6 := hoth _ _ _ _ HK5.out (by omega)
            have HK6 : Hid (w6.heap[hb]? = some (kbox hk.1 hk.2.1 hk.2.2)) := hhk6
            have hgt := passL_get L hk t HT.out.2
            have HGT : Hid (getM (passL L hk t) hk = some (.bool true)) := hgt
            have HS6 : Hid (Su w w6 (.map rh) (.map rd) (.map (some ub)) u20 u21 u16 (foldH D) (foldH D) (foldD D) (foldD D) (passL L hk t) L) := hsu6
            have heq := fun (w : World) => run_eql_map_nil (P := Yba.prog) w 34 40 4 (some ub) Yba.underlying34
            have x4 : w6.cell? ⟨w.heap.size, 4, none⟩ = some (.map (some ub)) := by rw [blk_cell hsu6.blk]; rfl
            clear hoth hsu6 hhk6 hgt c2 c3 r0 r1 r2 nb nh nd HS5 HK5
            go_upto_if 222 with fail
            go_cut [35] from 196 to 224 (fun l wx => l = .int .i64 ((passL L hk t).length : Int) ∧ wx.heap[hb]? = some (kbox hk.1 hk.2.1 hk.2.2) ∧ Su w wx (.map rh) (.map rd) (.map (some ub)) u20 u21 u16 (foldH D) (foldH D) (foldD D) (foldD D) (passL L hk t) L)
            case first =>
              cases fb
              · go_wp2_with fail
                go_meet
                case rel => exact ⟨by rw [HPLh.out]; rfl, HK6.out, HS6.out⟩
              · go_wp2_with fail
                go_meet
                case rel => exact ⟨by rw [HPLh.out]; rfl, HK6.out, HS6.out⟩
            case rest =>
              clear x4 HK6 HS6
              rename World => w7
              obtain ⟨hl35, hhk7, hsu7⟩ := hcut
              subst hl35
              have HK7 : Hid (w7.heap[hb]? = some (kbox hk.1 hk.2.1 hk.2.2)) := hhk7
              have HS7 : Hid (Su w w7 (.map rh) (.map rd) (.map (some ub)) u20 u21 u16 (foldH D) (foldH D) (foldD D) (foldD D) (passL L hk t) L) := hsu7
              have x4 : w7.cell? ⟨w.heap.size, 4, none⟩ = some (.map (some ub)) := by rw [blk_cell hsu7.blk]; rfl
              have y0 : w7.cell? ⟨hb, 0, none⟩ = some (.int .i64 hk.1) := by rw [blk_cell hhk7]; rfl
              have y1 : w7.cell? ⟨hb, 1, none⟩ = some (.int .i64 hk.2.1) := by rw [blk_cell hhk7]; rfl
              have y2 : w7.cell? ⟨hb, 2, none⟩ = some (.string hk.2.2) := by rw [blk_cell hhk7]; rfl
              have nu := hsu7.len_u
              have hlk := fun n => look_any (wc := w7.drewN n) key40 Yba.underlying34 zero4 ((hsu7.drewN n).mu) hk true
              rw [HGT.out] at hlk
              simp only [kv, if_true, Option.getD_some, Option.isSome_some] at hlk
              clear hsu7 hhk7
              go_wp2_with fail
              go_quiet (fail)
              clear nu hlk y0 y1 y2 x4
              go_upto_if 248 with fail
              go_cut [] from 225 to 286 (fun wx => wx.heap[hb]? = some (kbox hk.1 hk.2.1 hk.2.2) ∧ Su w wx (.map rh) (.map rd) (.map (some ub)) u20 u21 u16 (foldH D) (foldH D) (foldD D) (foldD D) (passL L hk t) L)
              case first =>
                cases nm
                · have HLE : Hid (L = foldU E) := show L = foldU E by rw [← HL.out]; rfl
                  go_wp2_with fail
                  go_loopw [251] (fun i wr => ∃ k : Nat, k ≤ n1 ∧ i = .int .i64 k ∧ wr.heap[hb]? = some (kbox hk.1 hk.2.1 hk.2.2) ∧ Su w wr (.map rh) (.map rd) (.map (some ub)) u20 u21 u16 (foldH D) (foldH D) (foldD D) (foldD D) (passL L hk t) L) (fun i _ => n1 - (intOf i).toNat)
                  case atStart => exact ⟨0, Nat.zero_le _, rfl, HK7.out, HS7.out.drewN _⟩
                  case round =>
                    obtain ⟨k, hk', rfl, hhk, hsu⟩ := hrel
                    have HSr : Hid (wr.heap[hb]? = some (kbox hk.1 hk.2.1 hk.2.2) ∧ Su w wr (.map rh) (.map rd) (.map (some ub)) u20 u21 u16 (foldH D) (foldH D) (foldD D) (foldD D) (passL L hk t) L) := ⟨hhk, hsu⟩
                    by_cases hlt : k < n1
                    · obtain ⟨e, he⟩ : ∃ e, E[k]? = some e := ⟨_, List.getElem?_eq_getElem (by rw [HE.out]; exact hlt)⟩
                      obtain ⟨q1, q2, q3, q4⟩ := HR1.out k e he
                      have hix := index22 (c := cp1) HA1.out hlt
                      have hbe := HB1.out (by omega)
                      have hzr : w.heap.size < wr.heap.size := blk_lt hsu.blk
                      have hzh : hb < wr.heap.size := blk_lt hhk
                      have g1 : wr.cell? ⟨eb, eo + k * 4, none⟩ = some (.int .i64 e.1.1) := (hsu.bel.cell (p := ⟨eb, _, none⟩) hbe).trans q1
                      have g2 : wr.cell? ⟨eb, eo + k * 4 + 1, none⟩ = some (.int .i64 e.1.2.1) := (hsu.bel.cell (p := ⟨eb, _, none⟩) hbe).trans q2
                      have g3 : wr.cell? ⟨eb, eo + k * 4 + 2, none⟩ = some (.string e.1.2.2) := (hsu.bel.cell (p := ⟨eb, _, none⟩) hbe).trans q3
                      have g4 : wr.cell? ⟨eb, eo + k * 4 + 3, none⟩ = some (.bool e.2) := (hsu.bel.cell (p := ⟨eb, _, none⟩) hbe).trans q4
                      have r0 : wr.cell? ⟨hb, 0, none⟩ = some (.int .i64 hk.1) := by rw [blk_cell hhk]; rfl
                      have r1 : wr.cell? ⟨hb, 1, none⟩ = some (.int .i64 hk.2.1) := by rw [blk_cell hhk]; rfl
                      have r2 : wr.cell? ⟨hb, 2, none⟩ = some (.string hk.2.2) := by rw [blk_cell hhk]; rfl
                      have x4 : wr.cell? ⟨w.heap.size, 4, none⟩ = some (.map (some ub)) := by rw [blk_cell hsu.blk]; rfl
                      -- before[k], s.unchecked[k]
                      obtain ⟨x, hx, hx2⟩ := HAB.out.t e.1
                      have hs : (getM L e.1).isSome = true := by rw [HLE.out]; exact some_foldU E k e he
                      obtain ⟨hv1, hv2⟩ := passL_look HT.out.2 hx hs
                      have hl1 := fun (o1 o2 : Obj) => look_any (wc := (wr.alloc o1).alloc o2) key40 Yba.underlying34 zero4 (((hsu.alloc o1).alloc o2).mb) e.1 false
                      have hl2 := fun (o1 o2 : Obj) (n : Nat) => look_any (wc := ((wr.alloc o1).alloc o2).drewN n) key40 Yba.underlying34 zero4 ((((hsu.alloc o1).alloc o2).drewN n).mu) e.1 true
                      rw [hx] at hl1
                      rw [hv1, hv2] at hl2
                      simp only [kv, if_true, Bool.false_eq_true, if_false] at hl1 hl2
                      have heq40 := fun (w : World) => eq40b e.1 hk w
                      simp only [kv] at heq40
                      clear hsu hhk q1 q2 q3 q4 he hx hx2 hs hv1 hv2
                      cases x
                      · go_wp2_with fail
                        go_quiet (fail)
                        go_wp2_with fail
                        go_roundw
                        case rel => exact ⟨k + 1, by omega, by go_num, (blk_alloc (by simp; omega) _).trans ((blk_alloc (by omega) _).trans HSr.out.1), ((HSr.out.2.alloc _).alloc _).drewN _⟩
                        case measure => simp [intOf]; omega
                      · go_wp2_with fail
                        go_quiet (fail)
                        go_wp2_with fail
                        go_roundw
                        case rel => exact ⟨k + 1, by omega, by go_num, (blk_alloc (by simp; omega) _).trans ((blk_alloc (by omega) _).trans HSr.out.1), ((HSr.out.2.alloc _).alloc _).drewN _⟩
                        case measure => simp [intOf]; omega
                    · go_wp2_with fail
                      go_meet
                      case rel => exact HSr.out
                · go_wp2_with fail
                  go_meet
                  case rel => exact ⟨HK7.out, HS7.out.drewN _⟩
              case rest =>
                rename World => w8
                obtain ⟨hhk8, hsu8⟩ := hcut
                have HS8 : Hid (Su w w8 (.map rh) (.map rd) (.map (some ub)) u20 u21 u16 (foldH D) (foldH D) (foldD D) (foldD D) (passL L hk t) L) := hsu8
                clear HS7 HK7
                have x2 : w8.cell? ⟨w.heap.size, 2, none⟩ = some (.map rh) := by rw [blk_cell hsu8.blk]; rfl
                have x3 : w8.cell? ⟨w.heap.size, 3, none⟩ = some (.map rd) := by rw [blk_cell hsu8.blk]; rfl
                have nh := hsu8.len_h
                have nd := hsu8.len_d
                have qh := nil_eq Yba.underlying32 hsu8.mh HHN.out.1
                have qd := nil_eq Yba.underlying33 hsu8.md HHN.out.2
                clear hhk8 hsu8
                go_wp2_with fail
                clear nh nd qh qd x2 x3
                go_loopw [325] (fun i wr => ∃ k : Nat, k ≤ n2 ∧ i = .int .i64 k ∧ Su w wr (.map rh) (.map rd) (.map (some ub)) u20 u21 u16 (foldH D) (foldH D) (foldD D) (foldD D) (passL L hk t) L) (fun i _ => n2 - (intOf i).toNat)
                case atStart => exact ⟨0, Nat.zero_le _, rfl, HS8.out⟩
                case round =>
                  obtain ⟨k, hk', rfl, hsu⟩ := hrel
                  have HSr : Hid (Su w wr (.map rh) (.map rd) (.map (some ub)) u20 u21 u16 (foldH D) (foldH D) (foldD D) (foldD D) (passL L hk t) L) := hsu
                  by_cases hlt : k < n2
                  · obtain ⟨e, he⟩ : ∃ e, D[k]? = some e := ⟨_, List.getElem?_eq_getElem (by rw [HD.out]; exact hlt)⟩
                    obtain ⟨q1, q2, q3, q4⟩ := HR2.out k e he
                    have hix := index23 (c := cp2) HA2.out hlt
                    have hbe := HB2.out (by omega)
                    have hzr : w.heap.size < wr.heap.size := blk_lt hsu.blk
                    have g1 : wr.cell? ⟨db, do_ + k * 4, none⟩ = some (.int .i64 e.1.1) := (hsu.bel.cell (p := ⟨db, _, none⟩) hbe).trans q1
                    have g2 : wr.cell? ⟨db, do_ + k * 4 + 1, none⟩ = some (.int .i64 e.1.2.1) := (hsu.bel.cell (p := ⟨db, _, none⟩) hbe).trans q2
                    have g3 : wr.cell? ⟨db, do_ + k * 4 + 2, none⟩ = some (.string e.1.2.2) := (hsu.bel.cell (p := ⟨db, _, none⟩) hbe).trans q3
                    have g4 : wr.cell? ⟨db, do_ + k * 4 + 3, none⟩ = some (.string e.2) := (hsu.bel.cell (p := ⟨db, _, none⟩) hbe).trans q4
                    have x2 : wr.cell? ⟨w.heap.size, 2, none⟩ = some (.map rh) := by rw [blk_cell hsu.blk]; rfl
                    have x3 : wr.cell? ⟨w.heap.size, 3, none⟩ = some (.map rd) := by rw [blk_cell hsu.blk]; rfl
                    obtain ⟨sd, hsd⟩ := some_foldD D k e he
                    obtain ⟨xh, hxh⟩ := some_foldH D k e he
                    have l1 := fun (o1 o2 : Obj) (n : Nat) => look_any (wc := ((wr.alloc o1).alloc o2).drewN n) key40 Yba.underlying33 zero9 ((((hsu.alloc o1).alloc o2).drewN n).md) e.1 false
                    have l2 := fun (o1 o2 : Obj) (n : Nat) => look_any (wc := ((wr.alloc o1).alloc o2).drewN n) key40 Yba.underlying33 zero9 ((((hsu.alloc o1).alloc o2).drewN n).md0) e.1 false
                    have l3 := fun (o1 o2 : Obj) (n : Nat) => look_any (wc := ((wr.alloc o1).alloc o2).drewN n) keyStr Yba.underlying32 zero40 ((((hsu.alloc o1).alloc o2).drewN n).mh) e.2 false
                    have l4 := fun (o1 o2 : Obj) (n : Nat) => look_any (wc := ((wr.alloc o1).alloc o2).drewN n) keyStr Yba.underlying32 zero40 ((((hsu.alloc o1).alloc o2).drewN n).mh0) e.2 false
                    rw [hsd] at l1 l2
                    rw [hxh] at l3 l4
                    simp only [kv, Bool.false_eq_true, if_false, Option.getD_some] at l1 l2 l3 l4
                    have hnq := fun (w : World) => neq40b xh w
                    simp only [kv] at hnq
                    clear hsu q1 q2 q3 q4 he hsd hxh
                    go_wp2_with fail
                    go_quiet (fail)
                    go_wp2_with fail
                    go_roundw
                    case rel => exact ⟨k + 1, by omega, by go_num, ((HSr.out.alloc _).alloc _).drewN _⟩
                    case measure => simp [intOf]; omega
                  · go_wp2_with fail
                    refine (trylockB w.heap.size _ 36 _ HSr.out.blk rfl).mono ?_
                    rintro e w9 ⟨rfl, h9⟩
                    go_wp2_with fail
                    refine (unlockB w.heap.size _ 36 _ h9.blk rfl).mono ?_
                    rintro e w10 ⟨rfl, h10⟩
                    have HB : Hid (Below w.heap.size w w10) := HSr.out.bel.trans ⟨h10.os.trans h9.os, h10.tape.trans h9.tape, h10.output.trans h9.output, by rw [h10.size, h9.size]; exact Nat.le_refl _, fun c hc => (h10.other c (by omega)).trans (h9.other c (by omega))⟩
                    clear h9 h10
                    go_wp2_with fail
                    go_ret
                    exact ⟨rfl, HB.out⟩
end Go.Proofs.Ybulkdxfs
