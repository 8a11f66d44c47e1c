import Derived.Test.YbulkdxfsFmtMaps
import Derived.Test.YbulkdxfsFmtLocks
import Derived.Handy
import Derived.Deep.QuietTactic
import Derived.BigQuiet
import Derived.Outline
namespace Go.Proofs.YbulkdxfsFmt
open Go.RowKit Go.MuLone

/-! ### blocks -/
theorem blk_cell {w : World} {b : Nat} {cs : Array Value} {t : TypeId} {fr : Nat × Nat} (h : w.heap[b]? = some (.cells cs t fr)) (o : Nat) : w.cell? ⟨b, o, none⟩ = cs[o]? := by
  simp [World.cell?, h]
theorem blk_frozen {w : World} {b : Nat} {cs : Array Value} {t : TypeId} (h : w.heap[b]? = some (.cells cs t (0, 0))) (o : Nat) : w.frozen? ⟨b, o, none⟩ = false := by
  simp [World.frozen?, h]
theorem blk_set {w : World} {b : Nat} {cs : Array Value} {t : TypeId} {fr : Nat × Nat} (h : w.heap[b]? = some (.cells cs t fr)) (o : Nat) (v : Value) : (w.setCell ⟨b, o, none⟩ v).heap[b]? = some (.cells (cs.setIfInBounds o v) t fr) := by
  simp [World.setCell, Array.getElem?_modify, h]
theorem blk_set_other {w : World} {b c : Nat} (h : c ≠ b) (o : Nat) (v : Value) : (w.setCell ⟨b, o, none⟩ v).heap[c]? = w.heap[c]? := by
  simp [World.setCell, Array.getElem?_modify, Ne.symm h]
theorem blk_alloc {w : World} {c : Nat} (h : c < w.heap.size) (o : Obj) : (w.alloc o).heap[c]? = w.heap[c]? := Below.heap_alloc w o c h
theorem blk_drewN (w : World) (n c : Nat) : (w.drewN n).heap[c]? = w.heap[c]? := rfl
theorem blk_drew (w : World) (c : Nat) : (w.drew).heap[c]? = w.heap[c]? := rfl
theorem blk_lt {w : World} {b : Nat} {o : Obj} (h : w.heap[b]? = some o) : b < w.heap.size := (Array.getElem?_eq_some_iff.1 h).1

def isT (l : List (Ky × Value)) (k : Ky) : Bool := match getM l k with | some (.bool true) => true | _ => false
theorem zero4 (w : World) : (zeroValue 4).run Ybaf.prog w = .ok (.bool false) w := by kernel_rfl

/-- What 'pass' leaves: the struct's block whole, the map, and every old block that is neither. -/
structure Passed (w w' : World) (sb b : Nat) (q hv dv : Value) (l : List (Ky × Value)) : Prop where
  blk : w'.heap[sb]? = some (.cells #[.int .i32 0, q, hv, dv, .map (some b)] 35 (0, 0))
  map : MapIs w' b kv l
  other : ∀ c, c < w.heap.size → c ≠ sb → c ≠ b → w'.heap[c]? = w.heap[c]?
  size : w.heap.size ≤ w'.heap.size
  os : w'.os = w.os
  tape : w'.tape = w.tape
  output : w'.output = w.output

abbrev kbox (k1 k2 : Int) (k3 : ByteArray) : Obj := .cells #[.int .i64 k1, .int .i64 k2, .string k3] 41

theorem map_ne {w : World} {sb b : Nat} {cs : Array Value} {t : TypeId} {fr : Nat × Nat} {l : List (Ky × Value)} (hs : w.heap[sb]? = some (.cells cs t fr)) (hm : MapIs w b kv l) : b ≠ sb := by
  obtain ⟨es, c, h, _⟩ := hm
  intro e; subst e; rw [h] at hs; cases hs

/-- One block written; every other as it was. -/
structure SetB (w w' : World) (b : Nat) (cs : Array Value) (t : TypeId) : Prop where
  blk : w'.heap[b]? = some (.cells cs t (0, 0))
  other : ∀ c, c ≠ b → w'.heap[c]? = w.heap[c]?
  size : w'.heap.size = w.heap.size
  os : w'.os = w.os
  tape : w'.tape = w.tape
  output : w'.output = w.output
theorem SetB.of {w : World} {b : Nat} {cs : Array Value} {t : TypeId} (h : w.heap[b]? = some (.cells cs t (0, 0))) (o : Nat) (v : Value) : SetB w (w.setCell ⟨b, o, none⟩ v) b (cs.setIfInBounds o v) t :=
  ⟨blk_set h o v, fun _ hc => blk_set_other hc _ _, by simp [World.setCell], rfl, rfl, rfl⟩
theorem SetB.draw {w w' : World} {b : Nat} {cs : Array Value} {t : TypeId} {n : Nat} (h : SetB (w.drewN n) w' b cs t) : SetB w w' b cs t := ⟨h.blk, h.other, h.size, h.os, h.tape, h.output⟩

theorem lockB (sb : Nat) (cs : Array Value) (t : TypeId) (w : World) (hs : w.heap[sb]? = some (.cells cs t (0, 0))) (h0 : cs[0]? = some (.int .i32 0)) :
    Calls Ybaf.prog 8 #[.pointer (some ⟨sb, 0, none⟩)] w fun e w' => e = .returned (.tuple #[]) ∧ SetB w w' sb (cs.setIfInBounds 0 (.int .i32 1)) t :=
  (lock_free Ybaf.muLib ⟨sb, 0, none⟩ w (by rw [blk_cell hs]; exact h0) (blk_frozen hs 0)).mono (by rintro e w' ⟨rfl, rfl⟩; exact ⟨rfl, .of hs 0 _⟩)
theorem unlockB (sb : Nat) (cs : Array Value) (t : TypeId) (w : World) (hs : w.heap[sb]? = some (.cells cs t (0, 0))) (h0 : cs[0]? = some (.int .i32 1)) :
    Calls Ybaf.prog 9 #[.pointer (some ⟨sb, 0, none⟩)] w fun e w' => e = .returned (.tuple #[]) ∧ SetB w w' sb (cs.setIfInBounds 0 (.int .i32 0)) t :=
  (unlock_held Ybaf.muLib ⟨sb, 0, none⟩ w (by rw [blk_cell hs]; exact h0) (blk_frozen hs 0)).mono (by rintro e w' ⟨rfl, rfl⟩; exact ⟨rfl, .of hs 0 _⟩)
theorem unlockD (sb : Nat) (cs : Array Value) (t : TypeId) (w : World) (hs : w.heap[sb]? = some (.cells cs t (0, 0))) (h0 : cs[0]? = some (.int .i32 1)) (u : FrameMode) :
    CallsD Ybaf.prog 9 #[.pointer (some ⟨sb, 0, none⟩)] u w fun e u' w' => u' = u ∧ (e = .returned (.tuple #[]) ∧ SetB w w' sb (cs.setIfInBounds 0 (.int .i32 0)) t) :=
  (unlock_deferred Ybaf.muLib ⟨sb, 0, none⟩ u w (by rw [blk_cell hs]; exact h0) (blk_frozen hs 0)).mono (by rintro e u' w' ⟨rfl, rfl, rfl⟩; exact ⟨rfl, rfl, .of hs 0 _⟩)
theorem pass_true (sb b : Nat) (q hv dv : Value) (k1 k2 : Int) (k3 : ByteArray) (l : List (Ky × Value)) (w : World)
    (hs : w.heap[sb]? = some (.cells #[.int .i32 0, q, hv, dv, .map (some b)] 35 (0, 0))) (hm : MapIs w b kv l) (ht : getM l (k1, k2, k3) = some (.bool true)) :
    Calls Ybaf.prog 5 #[.pointer (some ⟨sb, 0, none⟩), .agg #[.int .i64 k1, .int .i64 k2, .string k3]] w fun e w' => e = .returned (.bool false) ∧ Passed w w' sb b q hv dv l := by
  have hsz : sb < w.heap.size := blk_lt hs
  have hb0 : (w.alloc (kbox k1 k2 k3)).heap[sb]? = some (.cells #[.int .i32 0, q, hv, dv, .map (some b)] 35 (0, 0)) := (blk_alloc hsz _).trans hs
  have hne := map_ne hs hm
  have hbz := hm.size
  have HS : Hid (w.heap[sb]? = some (.cells #[.int .i32 0, q, hv, dv, .map (some b)] 35 (0, 0))) := hs
  have HM : Hid (MapIs w b kv l) := hm
  have HT : Hid (getM l (k1, k2, k3) = some (.bool true)) := ht
  have HB0 : Hid ((w.alloc (kbox k1 k2 k3)).heap[sb]? = some (.cells #[.int .i32 0, q, hv, dv, .map (some b)] 35 (0, 0))) := hb0
  clear hs hm ht hb0
  go_enter_defers Ybaf.func5, Ybaf.ntmps5
  go_wp2_with fail
  refine (lockB sb _ 35 _ HB0.out rfl).mono ?_
  rintro e w1 ⟨rfl, h1⟩
  have c4 : w1.cell? ⟨sb, 4, none⟩ = some (.map (some b)) := by rw [blk_cell h1.blk]; rfl
  have hbx : w1.heap[w.heap.size]? = some (kbox k1 k2 k3) := (h1.other _ (by omega)).trans (heap_alloc_new w _)
  have d0 : w1.cell? ⟨w.heap.size, 0, none⟩ = some (.int .i64 k1) := by rw [blk_cell hbx]; rfl
  have d1 : w1.cell? ⟨w.heap.size, 1, none⟩ = some (.int .i64 k2) := by rw [blk_cell hbx]; rfl
  have d2 : w1.cell? ⟨w.heap.size, 2, none⟩ = some (.string k3) := by rw [blk_cell hbx]; rfl
  have hm1 : MapIs w1 b kv l := HM.out.same ((h1.other _ hne).trans (blk_alloc hbz _))
  have hlk := fun n => run_lookup (w := w1.drewN n) key41 Ybaf.underlying33 (zero4 _) (hm1.same rfl) (k1, k2, k3) false
  rw [HT.out] at hlk
  simp only [kv, Bool.false_eq_true, if_false, Option.getD_some] at hlk
  have H1 : Hid (SetB (w.alloc (kbox k1 k2 k3)) w1 sb #[.int .i32 1, q, hv, dv, .map (some b)] 35) := h1
  have HM1 : Hid (MapIs w1 b kv l) := hm1
  clear h1 hbx hm1 HB0
  go_wp2_with fail
  go_quiet (fail)
  go_wp2_with fail
  refine leaves_cons (f := 9) (args := #[.pointer (some ⟨sb, 0, none⟩)]) (by simp) (by simp [go_sem]) ?_
  refine (unlockD sb _ 35 (World.drewN _ _) H1.out.blk rfl .returning).mono ?_
  rintro e u' w'' ⟨rfl, rfl, h2⟩
  refine ⟨_, results_tmp rfl _ _ _, rfl, ?_⟩
  have h2 := h2.draw
  have h1 := H1.out
  refine ⟨h2.blk, HM1.out.same (h2.other _ hne), fun c hc h3 _ => (h2.other c h3).trans ((h1.other c h3).trans (blk_alloc hc _)), by have := h1.size; have := h2.size; simp at *; omega, h2.os.trans h1.os, h2.tape.trans h1.tape, h2.output.trans h1.output⟩

theorem pass_false (sb b : Nat) (q hv dv : Value) (k1 k2 : Int) (k3 : ByteArray) (l : List (Ky × Value)) (w : World)
    (hs : w.heap[sb]? = some (.cells #[.int .i32 0, q, hv, dv, .map (some b)] 35 (0, 0))) (hm : MapIs w b kv l) (ht : (getM l (k1, k2, k3)).getD (.bool false) = .bool false) :
    Calls Ybaf.prog 5 #[.pointer (some ⟨sb, 0, none⟩), .agg #[.int .i64 k1, .int .i64 k2, .string k3]] w fun e w' => e = .returned (.bool true) ∧ Passed w w' sb b q hv dv (putM l (k1, k2, k3) (.bool true)) := by
  have hsz : sb < w.heap.size := blk_lt hs
  have hb0 : (w.alloc (kbox k1 k2 k3)).heap[sb]? = some (.cells #[.int .i32 0, q, hv, dv, .map (some b)] 35 (0, 0)) := (blk_alloc hsz _).trans hs
  have hne := map_ne hs hm
  have hbz := hm.size
  have heq := fun (w : World) => run_eql_map_nil (P := Ybaf.prog) w 33 41 4 (some b) Ybaf.underlying33
  have HM : Hid (MapIs w b kv l) := hm
  have HT : Hid ((getM l (k1, k2, k3)).getD (.bool false) = .bool false) := ht
  have HB0 : Hid ((w.alloc (kbox k1 k2 k3)).heap[sb]? = some (.cells #[.int .i32 0, q, hv, dv, .map (some b)] 35 (0, 0))) := hb0
  clear hs hm ht hb0
  go_enter_defers Ybaf.func5, Ybaf.ntmps5
  go_wp2_with fail
  refine (lockB sb _ 35 _ HB0.out rfl).mono ?_
  rintro e w1 ⟨rfl, h1⟩
  have c4 : w1.cell? ⟨sb, 4, none⟩ = some (.map (some b)) := by rw [blk_cell h1.blk]; rfl
  have hbx : w1.heap[w.heap.size]? = some (kbox k1 k2 k3) := (h1.other _ (by omega)).trans (heap_alloc_new w _)
  have d0 : w1.cell? ⟨w.heap.size, 0, none⟩ = some (.int .i64 k1) := by rw [blk_cell hbx]; rfl
  have d1 : w1.cell? ⟨w.heap.size, 1, none⟩ = some (.int .i64 k2) := by rw [blk_cell hbx]; rfl
  have d2 : w1.cell? ⟨w.heap.size, 2, none⟩ = some (.string k3) := by rw [blk_cell hbx]; rfl
  have hm1 : MapIs w1 b kv l := HM.out.same ((h1.other _ hne).trans (blk_alloc hbz _))
  have hlk := fun n => run_lookup (w := w1.drewN n) key41 Ybaf.underlying33 (zero4 _) (hm1.same rfl) (k1, k2, k3) false
  rw [HT.out] at hlk
  simp only [kv, Bool.false_eq_true, if_false] at hlk
  have H1 : Hid (SetB (w.alloc (kbox k1 k2 k3)) w1 sb #[.int .i32 1, q, hv, dv, .map (some b)] 35) := h1
  have HM1 : Hid (MapIs w1 b kv l) := hm1
  clear h1 hbx hm1 HB0
  go_wp2_with fail
  go_quiet (fail)
  go_wp2_with fail
  obtain ⟨w2, hrun, hput⟩ := run_put (w := w1.drewN (nq + 1)) (T := 33) key41 Ybaf.underlying33 (HM1.out.same rfl) (k1, k2, k3) (.bool true)
  simp only [kv] at hrun
  have HP : Hid (MapPut (w1.drewN (nq + 1)) w2 b kv (putM l (k1, k2, k3) (.bool true))) := hput
  clear hput hlk
  go_region
  go_wp2_with fail
  have hblk2 : w2.heap[sb]? = some (.cells #[.int .i32 1, q, hv, dv, .map (some b)] 35 (0, 0)) := (HP.out.other _ (Ne.symm hne)).trans H1.out.blk
  refine leaves_cons (f := 9) (args := #[.pointer (some ⟨sb, 0, none⟩)]) (by simp) (by simp [go_sem]) ?_
  refine (unlockD sb _ 35 w2 hblk2 rfl .returning).mono ?_
  rintro e u' w'' ⟨rfl, rfl, h2⟩
  refine ⟨_, results_tmp rfl _ _ _, rfl, ?_⟩
  have h1 := H1.out
  have hp := HP.out
  refine ⟨h2.blk, hp.is.same (h2.other _ hne), fun c hc h3 h4 => (h2.other c h3).trans ((hp.other c h4).trans ((h1.other c h3).trans (blk_alloc hc _))), ?_, h2.os.trans (hp.os.trans h1.os), h2.tape.trans (hp.tape.trans h1.tape), h2.output.trans (hp.output.trans h1.output)⟩
  have a1 := h1.size
  have a2 := h2.size
  have a3 : w2.heap.size = w1.heap.size := hp.size
  simp at a1
  omega

theorem pass_nil (sb : Nat) (q hv dv : Value) (k1 k2 : Int) (k3 : ByteArray) (w : World)
    (hs : w.heap[sb]? = some (.cells #[.int .i32 0, q, hv, dv, .map none] 35 (0, 0))) :
    Calls Ybaf.prog 5 #[.pointer (some ⟨sb, 0, none⟩), .agg #[.int .i64 k1, .int .i64 k2, .string k3]] w fun e w' => e = .returned (.bool true) ∧ ∃ b, w.heap.size ≤ b ∧ Passed w w' sb b q hv dv [((k1, k2, k3), .bool true)] := by
  have hsz : sb < w.heap.size := blk_lt hs
  have hb0 : (w.alloc (kbox k1 k2 k3)).heap[sb]? = some (.cells #[.int .i32 0, q, hv, dv, .map none] 35 (0, 0)) := (blk_alloc hsz _).trans hs
  have heq := fun (w : World) => run_eql_map_nil (P := Ybaf.prog) w 33 41 4 none Ybaf.underlying33
  have hmm := @run_makeMap Ybaf.prog
  have HB0 : Hid ((w.alloc (kbox k1 k2 k3)).heap[sb]? = some (.cells #[.int .i32 0, q, hv, dv, .map none] 35 (0, 0))) := hb0
  clear hs hb0
  go_enter_defers Ybaf.func5, Ybaf.ntmps5
  go_wp2_with fail
  refine (lockB sb _ 35 _ HB0.out rfl).mono ?_
  rintro e w1 ⟨rfl, h1⟩
  have c4 : w1.cell? ⟨sb, 4, none⟩ = some (.map none) := by rw [blk_cell h1.blk]; rfl
  have f4 : w1.frozen? ⟨sb, 4, none⟩ = false := blk_frozen h1.blk 4
  have hbx : w1.heap[w.heap.size]? = some (kbox k1 k2 k3) := (h1.other _ (by omega)).trans (heap_alloc_new w _)
  have d0 : w1.cell? ⟨w.heap.size, 0, none⟩ = some (.int .i64 k1) := by rw [blk_cell hbx]; rfl
  have d1 : w1.cell? ⟨w.heap.size, 1, none⟩ = some (.int .i64 k2) := by rw [blk_cell hbx]; rfl
  have d2 : w1.cell? ⟨w.heap.size, 2, none⟩ = some (.string k3) := by rw [blk_cell hbx]; rfl
  have hlk := fun n => run_lookup_nil (w := w1.drewN n) (kv := kv) key41 Ybaf.underlying33 (zero4 _) (k1, k2, k3) false
  simp only [kv, Bool.false_eq_true, if_false] at hlk
  have hz1 : w1.heap.size = w.heap.size + 1 := by have := h1.size; simpa using this
  have HZ1 : Hid (w1.heap.size = w.heap.size + 1) := hz1
  have hz2 : sb < w1.heap.size := by omega
  have hz3 : w.heap.size < w1.heap.size := by omega
  have H1 : Hid (SetB (w.alloc (kbox k1 k2 k3)) w1 sb #[.int .i32 1, q, hv, dv, .map none] 35) := h1
  have hca : ∀ n o, ((w1.drewN n).alloc o).cell? ⟨sb, 4, none⟩ = some (.map none) := fun n o => by
    rw [blk_cell ((blk_alloc (w := w1.drewN n) hz2 o).trans h1.blk)]; rfl
  have hfa : ∀ n o, ((w1.drewN n).alloc o).frozen? ⟨sb, 4, none⟩ = false := fun n o => 
    blk_frozen ((blk_alloc (w := w1.drewN n) hz2 o).trans h1.blk) 4
  clear h1 hbx HB0 hz1
  go_wp2_with fail
  go_quiet (fail)
  go_wp2_with fail
  have hblkA : (((w1.drewN nq).alloc (.map #[] 0)).setCell ⟨sb, 4, none⟩ (.map (some w1.heap.size))).heap[sb]? = some (.cells #[.int .i32 1, q, hv, dv, .map (some w1.heap.size)] 35 (0, 0)) :=
    blk_set ((blk_alloc (w := w1.drewN nq) hz2 _).trans H1.out.blk) 4 _
  have hmA : (((w1.drewN nq).alloc (.map #[] 0)).setCell ⟨sb, 4, none⟩ (.map (some w1.heap.size))).heap[w1.heap.size]? = some (.map #[] 0) :=
    (blk_set_other (by omega) _ _).trans (heap_alloc_new (w1.drewN nq) _)
  have hbxA : (((w1.drewN nq).alloc (.map #[] 0)).setCell ⟨sb, 4, none⟩ (.map (some w1.heap.size))).heap[w.heap.size]? = some (kbox k1 k2 k3) :=
    (blk_set_other (by omega) _ _).trans ((blk_alloc (w := w1.drewN nq) hz3 _).trans ((H1.out.other _ (by omega)).trans (heap_alloc_new w _)))
  have hoA : ∀ c, c < w.heap.size → c ≠ sb → (((w1.drewN nq).alloc (.map #[] 0)).setCell ⟨sb, 4, none⟩ (.map (some w1.heap.size))).heap[c]? = w.heap[c]? := fun c hc hc2 =>
    (blk_set_other hc2 _ _).trans ((blk_alloc (w := w1.drewN nq) (by rw [show (w1.drewN nq).heap = w1.heap from rfl, HZ1.out]; omega) _).trans ((H1.out.other _ hc2).trans (blk_alloc hc _)))
  have hzA : (((w1.drewN nq).alloc (.map #[] 0)).setCell ⟨sb, 4, none⟩ (.map (some w1.heap.size))).heap.size = w.heap.size + 2 := by
    simp [World.setCell, HZ1.out]
  have hosA : (((w1.drewN nq).alloc (.map #[] 0)).setCell ⟨sb, 4, none⟩ (.map (some w1.heap.size))).os = w.os := H1.out.os
  have htpA : (((w1.drewN nq).alloc (.map #[] 0)).setCell ⟨sb, 4, none⟩ (.map (some w1.heap.size))).tape = w.tape := H1.out.tape
  have houA : (((w1.drewN nq).alloc (.map #[] 0)).setCell ⟨sb, 4, none⟩ (.map (some w1.heap.size))).output = w.output := H1.out.output
  generalize ((w1.drewN nq).alloc (.map #[] 0)).setCell ⟨sb, 4, none⟩ (.map (some w1.heap.size)) = w3 at *
  have hbz : w1.heap.size = w.heap.size + 1 := HZ1.out
  generalize w1.heap.size = b at *
  have c4' : w3.cell? ⟨sb, 4, none⟩ = some (.map (some b)) := by rw [blk_cell hblkA]; rfl
  have d0' : w3.cell? ⟨w.heap.size, 0, none⟩ = some (.int .i64 k1) := by rw [blk_cell hbxA]; rfl
  have d1' : w3.cell? ⟨w.heap.size, 1, none⟩ = some (.int .i64 k2) := by rw [blk_cell hbxA]; rfl
  have d2' : w3.cell? ⟨w.heap.size, 2, none⟩ = some (.string k3) := by rw [blk_cell hbxA]; rfl
  obtain ⟨w2, hrun, hput⟩ := run_put (w := w3.drew) (T := 33) key41 Ybaf.underlying33 (l := []) ⟨#[], 0, hmA, rfl⟩ (k1, k2, k3) (.bool true)
  simp only [kv] at hrun
  have HP : Hid (MapPut w3.drew w2 b kv (putM [] (k1, k2, k3) (.bool true))) := hput
  have HA : Hid (w3.heap[sb]? = some (.cells #[.int .i32 1, q, hv, dv, .map (some b)] 35 (0, 0)) ∧ (∀ c, c < w.heap.size → c ≠ sb → w3.heap[c]? = w.heap[c]?) ∧ w3.heap.size = w.heap.size + 2 ∧ b = w.heap.size + 1 ∧ w3.os = w.os ∧ w3.tape = w.tape ∧ w3.output = w.output) := ⟨hblkA, hoA, hzA, hbz, hosA, htpA, houA⟩
  clear hput hlk hblkA hmA hbxA hoA hzA hosA htpA houA H1 HZ1 hca hfa hz2 hz3 c4 f4 d0 d1 d2 hmm heq hbz
  go_region
  go_wp2_with fail
  obtain ⟨hA1, hA2, hA3, hA4, hA5, hA6, hA7⟩ := HA.out
  have hp := HP.out
  have hblk2 : w2.heap[sb]? = some (.cells #[.int .i32 1, q, hv, dv, .map (some b)] 35 (0, 0)) := (hp.other _ (by omega)).trans hA1
  refine leaves_cons (f := 9) (args := #[.pointer (some ⟨sb, 0, none⟩)]) (by simp) (by simp [go_sem]) ?_
  refine (unlockD sb _ 35 w2 hblk2 rfl .returning).mono ?_
  rintro e u' w'' ⟨rfl, rfl, h2⟩
  refine ⟨_, results_tmp rfl _ _ _, rfl, b, by omega, ?_⟩
  refine ⟨h2.blk, hp.is.same (h2.other _ (by omega)), fun c hc h3 h4 => (h2.other c h3).trans ((hp.other c h4).trans (hA2 c hc h3)), ?_, h2.os.trans (hp.os.trans hA5), h2.tape.trans (hp.tape.trans hA6), h2.output.trans (hp.output.trans hA7)⟩
  have a2 := h2.size
  have a3 : w2.heap.size = w3.heap.size := hp.size
  omega
end Go.Proofs.YbulkdxfsFmt
