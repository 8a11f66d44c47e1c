import Derived.Test.YbulkdxfsFmtSv
import Derived.Test.YbulkdxfsFmtErr
import Derived.Deep.DeepCutAuto
namespace Go.Proofs.YbulkdxfsFmt
open Go.RowKit Go.MuLone
set_option linter.unusedVariables false

/-- blocks of cells but sb's stand -/
def Kp (w w' : World) (sb : Nat) : Prop := ∀ (c : Nat) (cs : Array Value) (t : TypeId) (fr : Nat × Nat), c ≠ sb → w.heap[c]? = some (Obj.cells cs t fr) → w'.heap[c]? = some (Obj.cells cs t fr)
theorem Kp.trans {a b c : World} {sb : Nat} (h : Kp a b sb) (h' : Kp b c sb) : Kp a c sb := fun x cs t fr hx hc => h' x cs t fr hx (h x cs t fr hx hc)
theorem Kp.alloc (w : World) (sb : Nat) (o : Obj) : Kp w (w.alloc o) sb := fun x cs t fr hx hc => (blk_alloc (blk_lt hc) o).trans hc
theorem Kp.setB {w w' : World} {sb : Nat} {cs : Array Value} {t : TypeId} (h : SetB w w' sb cs t) : Kp w w' sb := fun x cs t fr hx hc => (h.other x hx).trans hc
theorem Kp.setCell (w : World) (sb o : Nat) (v : Value) : Kp w (w.setCell ⟨sb, o, none⟩ v) sb := fun x cs t fr hx hc => (blk_set_other hx _ _).trans hc
theorem Kp.drewN (w : World) (sb n : Nat) : Kp w (w.drewN n) sb := fun x cs t fr hx hc => hc
theorem Kp.drew (w : World) (sb : Nat) : Kp w w.drew sb := fun x cs t fr hx hc => hc

theorem sv_made {w0 w : World} {sb : Nat} {q0 uv : Value} {LU : List (Ky × Value)} {LH : List (ByteArray × Value)} {LD : List (Ky × Value)} (h : Sv w0 w sb q0 (.map none) (.map none) uv LH LD LU) :
    Sv w0 (((w.setCell ⟨sb, 2, none⟩ (.map (some w.heap.size))).setCell ⟨sb, 3, none⟩ (.map (some (w.heap.size + 1)))).alloc (.map #[] 0) |>.alloc (.map #[] 0)) sb q0 (.map (some w.heap.size)) (.map (some (w.heap.size + 1))) uv [] [] LU := by
  have hb := h.blk
  have hz : sb < w.heap.size := blk_lt hb
  have hs : ∀ (x : World) (a : Addr) (v : Value), (x.setCell a v).heap.size = x.heap.size := fun x a v => by simp [World.setCell]
  obtain ⟨w1, hw1⟩ : ∃ w1, w1 = (w.setCell ⟨sb, 2, none⟩ (.map (some w.heap.size))).setCell ⟨sb, 3, none⟩ (.map (some (w.heap.size + 1))) := ⟨_, rfl⟩
  have hz1 : w1.heap.size = w.heap.size := by rw [hw1, hs, hs]
  have hb1 : w1.heap[sb]? = some (.cells #[q0, .int .u32 0, .map (some w.heap.size), .map (some (w.heap.size + 1)), uv] 35 (0, 0)) := by
    rw [hw1]; exact blk_set (blk_set hb 2 _) 3 _
  have ho1 : ∀ c, c ≠ sb → w1.heap[c]? = w.heap[c]? := fun c hc => by rw [hw1]; exact (blk_set_other hc _ _).trans (blk_set_other hc _ _)
  have hbel1 : Below w0.heap.size w0 w1 := by rw [hw1]; exact (h.bel.setCell h.ge _).setCell h.ge _
  rw [← hw1]
  have hge := h.ge
  have hbz := h.bel.size
  have fresh : ∀ c, w.heap.size ≤ c → uv ≠ .map (some c) := by
    intro c hc e
    rcases h.mu with ⟨h1, _⟩ | ⟨b, h1, _, es, cl, h2, _⟩
    · rw [h1] at e; cases e
    · rw [h1] at e; cases e; have := blk_lt h2; omega
  refine ⟨?_, h.ge, .inr ⟨_, rfl, by omega, #[], 0, ?_, rfl⟩, .inr ⟨_, rfl, by omega, #[], 0, ?_, rfl⟩, ?_, ?_, (fun p hp => by cases hp), (fun p hp => by cases hp), ?_⟩
  · exact (blk_alloc (by simp; omega) _).trans ((blk_alloc (by omega) _).trans hb1)
  · exact (blk_alloc (by simp; omega) _).trans (heap_new_at hz1.symm _)
  · exact heap_new_at (by simp; omega) _
  · refine h.mu.same fun b es c _ hbb => ?_
    have := blk_lt hbb
    refine (blk_alloc (by simp; omega) _).trans ((blk_alloc (by omega) _).trans (ho1 b ?_))
    intro e; subst e; rw [hb] at hbb; cases hbb
  · simp only [List.pairwise_cons, List.mem_cons, List.not_mem_nil, or_false, forall_eq_or_imp, forall_eq, List.Pairwise.nil, and_true]
    refine ⟨⟨?_, ?_⟩, ?_, by simp⟩
    all_goals intro b hb'
    all_goals first | (cases hb'; intro e; injection e with e; injection e with e; omega) | (cases hb'; exact fresh _ (by omega))
  · exact (hbel1.alloc (by omega) _).alloc (by simp; omega) _

section
variable {w0 w w' : World} {sb : Nat} {q0 hv dv uv : Value} {LH : List (ByteArray × Value)} {LD LU : List (Ky × Value)}
theorem look_d (h : Sv w0 w sb q0 hv dv uv LH LD LU) (k1 k2 : Int) (k3 : ByteArray) : ∃ s okb, ∀ n, (Instr.lookup 32 dv (.agg #[.int .i64 k1, .int .i64 k2, .string k3]) true).run Ybaf.prog (w.drewN n) = .ok (.tuple #[.string s, .bool okb]) (w.drewN n) := by
  have hl := fun n => look_any key41 Ybaf.underlying32 (fun w => zero9 w) (h.drewN n).md (k1, k2, k3) true
  cases hg : getM LD (k1, k2, k3) with
  | none => exact ⟨⟨#[]⟩, false, fun n => by have := hl n; rw [hg] at this; exact this⟩
  | some v =>
    obtain ⟨s, rfl⟩ := all_get (C := fun v => ∃ s, v = .string s) h.ad hg
    exact ⟨s, true, fun n => by have := hl n; rw [hg] at this; exact this⟩
theorem look_h (h : Sv w0 w sb q0 hv dv uv LH LD LU) (s : ByteArray) : ∃ (x1 x2 : Int) (x3 : ByteArray) (okb : Bool), (∀ n, (Instr.lookup 31 hv (.string s) true).run Ybaf.prog (w.drewN n) = .ok (.tuple #[.agg #[.int .i64 x1, .int .i64 x2, .string x3], .bool okb]) (w.drewN n)) ∧ (∀ n, (Instr.lookup 31 hv (.string s) false).run Ybaf.prog (w.drewN n) = .ok (.agg #[.int .i64 x1, .int .i64 x2, .string x3]) (w.drewN n)) := by
  have hl := fun n ok => look_any keyStr Ybaf.underlying31 (fun w => zero41 w) (h.drewN n).mh s ok
  cases hg : getM LH s with
  | none => exact ⟨0, 0, ⟨#[]⟩, false, fun n => by have := hl n true; rw [hg] at this; exact this, fun n => by have := hl n false; rw [hg] at this; exact this⟩
  | some v =>
    obtain ⟨x, rfl⟩ := all_get (C := fun v => ∃ x, v = kv x) h.ah hg
    exact ⟨x.1, x.2.1, x.2.2, true, fun n => by have := hl n true; rw [hg] at this; exact this, fun n => by have := hl n false; rw [hg] at this; exact this⟩
theorem put_held {d : Nat} (h : Sv w0 w sb q0 hv (.map (some d)) uv LH LD LU) (k1 k2 : Int) (k3 id : ByteArray) : ∃ w', (Instr.mapUpdate 32 (.map (some d)) (.agg #[.int .i64 k1, .int .i64 k2, .string k3]) (.string id)).run Ybaf.prog w = .ok () w' ∧ Sv w0 w' sb q0 hv (.map (some d)) uv LH (putM LD (k1, k2, k3) (.string id)) LU ∧ Kp w w' sb := by
  obtain ⟨w', h1, hp⟩ := run_put (T := 32) key41 Ybaf.underlying32 h.is_d (k1, k2, k3) (.string id)
  exact ⟨w', h1, h.put_d hp (all_put (C := fun v => ∃ s, v = .string s) h.ad _ ⟨_, rfl⟩), fun c cs t fr _ hc => hp.cells h.is_d hc⟩
theorem put_holder {d : Nat} (h : Sv w0 w sb q0 (.map (some d)) dv uv LH LD LU) (k1 k2 : Int) (k3 id : ByteArray) : ∃ w', (Instr.mapUpdate 31 (.map (some d)) (.string id) (.agg #[.int .i64 k1, .int .i64 k2, .string k3])).run Ybaf.prog w = .ok () w' ∧ Sv w0 w' sb q0 (.map (some d)) dv uv (putM LH id (kv (k1, k2, k3))) LD LU ∧ Kp w w' sb := by
  obtain ⟨w', h1, hp⟩ := run_put (T := 31) keyStr Ybaf.underlying31 h.is_h id (kv (k1, k2, k3))
  exact ⟨w', h1, h.put_h hp (all_put (C := fun v => ∃ s, v = kv s) h.ah _ ⟨_, rfl⟩), fun c cs t fr _ hc => hp.cells h.is_h hc⟩
theorem del_holder {d : Nat} (h : Sv w0 w sb q0 (.map (some d)) dv uv LH LD LU) (s : ByteArray) (ty : TypeId) : ∃ w', (Builtin.delete_ #[31, 9] ty #[.map (some d), .string s]).run Ybaf.prog w = .ok (.tuple #[]) w' ∧ Sv w0 w' sb q0 (.map (some d)) dv uv (delM LH s) LD LU ∧ Kp w w' sb := by
  obtain ⟨w', h1, hp⟩ := run_del (ty := ty) (kT := 9) keyStr Ybaf.underlying31 h.is_h s
  exact ⟨w', h1, h.put_h hp (all_del (C := fun v => ∃ s, v = kv s) h.ah _), fun c cs t fr _ hc => hp.cells h.is_h hc⟩
end

set_option maxHeartbeats 2000000 in
theorem claim_any (w0 w : World) (sb : Nat) (rh rd : Option Nat) (uv : Value) (LH : List (ByteArray × Value)) (LD LU : List (Ky × Value)) (k1 k2 : Int) (k3 id : ByteArray) (hsv : Sv w0 w sb (.int .i32 0) (.map rh) (.map rd) uv LH LD LU) (hnil : rh = none ↔ rd = none) :
    Calls Ybaf.prog 6 #[.pointer (some ⟨sb, 0, none⟩), .agg #[.int .i64 k1, .int .i64 k2, .string k3], .string id] w fun e w' => (∃ v, e = .returned v) ∧
      (∃ (rh' rd' : Option Nat) (LH' : List (ByteArray × Value)) (LD' : List (Ky × Value)), Sv w0 w' sb (.int .i32 0) (.map rh') (.map rd') uv LH' LD' (delM LU (k1, k2, k3)) ∧ (rh' = none ↔ rd' = none)) ∧ Kp w w' sb := by
  have heq := fun (w : World) (r : Option Nat) => run_eql_map_nil (P := Ybaf.prog) w 31 9 41 r Ybaf.underlying31
  have HSV : Hid (Sv w0 w sb (.int .i32 0) (.map rh) (.map rd) uv LH LD LU) := hsv
  have HN : Hid (rh = none ↔ rd = none) := hnil
  have hsz : sb < w.heap.size := blk_lt hsv.blk
  clear hsv hnil
  go_enter_defers Ybaf.func6, Ybaf.ntmps6
  go_wp2_with fail
  refine (lockB sb _ 35 _ (HSV.out.alloc _).blk rfl).mono ?_
  rintro e w1 ⟨rfl, h1⟩
  have hs1 := (HSV.out.alloc (kbox k1 k2 k3)).lock h1
  have HS1 : Hid (Sv w0 w1 sb (.int .i32 1) (.map rh) (.map rd) uv LH LD LU) := hs1
  have hkb : w1.heap[w.heap.size]? = some (kbox k1 k2 k3) := (h1.other _ (by omega)).trans (heap_new_at rfl _)
  have HKB : Hid (w1.heap[w.heap.size]? = some (kbox k1 k2 k3)) := hkb
  have HKp : Hid (Kp w w1 sb) := (Kp.alloc w sb _).trans (Kp.setB h1)
  have c2 : w1.cell? ⟨sb, 2, none⟩ = some (.map rh) := by rw [blk_cell hs1.blk]; rfl
  clear h1 hs1 hkb HSV
  have hkz : Hid (w.heap.size ≠ sb) := show w.heap.size ≠ sb by omega
  generalize w.heap.size = kb at *
  go_upto_if 22 with fail
  go_cut [] from 11 to 30 (fun wx => ∃ (h d : Nat) (LH' : List (ByteArray × Value)) (LD' : List (Ky × Value)), Sv w0 wx sb (.int .i32 1) (.map (some h)) (.map (some d)) uv LH' LD' LU ∧ wx.heap[kb]? = some (kbox k1 k2 k3) ∧ Kp w wx sb)
  case first =>
    cases rh with
    | none =>
      have hrd := HN.out.1 rfl
      subst hrd
      have hmm := @run_makeMap Ybaf.prog
      have hsb := HS1.out.blk
      have hzb : sb < w1.heap.size := blk_lt hsb
      have c2' : ∀ o, (w1.alloc o).cell? ⟨sb, 2, none⟩ = some (.map none) := fun o => by rw [blk_cell ((blk_alloc hzb o).trans hsb)]; rfl
      have f2' : ∀ o, (w1.alloc o).frozen? ⟨sb, 2, none⟩ = false := fun o => blk_frozen ((blk_alloc hzb o).trans hsb) 2
      have c3' : w1.cell? ⟨sb, 3, none⟩ = some (.map none) := by rw [blk_cell hsb]; rfl
      have f3' : w1.frozen? ⟨sb, 3, none⟩ = false := blk_frozen hsb 3
      clear hsb
      go_wp2_with fail
      go_meet
      case rel =>
        refine ⟨_, _, _, _, sv_made HS1.out, ?_, ?_⟩
        · exact (((Kp.setCell _ _ _ _).trans (Kp.setCell _ _ _ _)).trans ((Kp.alloc _ _ _).trans (Kp.alloc _ _ _))) _ _ _ _ hkz.out HKB.out
        · exact HKp.out.trans (((Kp.setCell _ _ _ _).trans (Kp.setCell _ _ _ _)).trans ((Kp.alloc _ _ _).trans (Kp.alloc _ _ _)))
    | some h =>
      cases rd with
      | none => exact absurd (HN.out.2 rfl) (by simp)
      | some d =>
        go_wp2_with fail
        go_meet
        case rel => exact ⟨_, _, _, _, HS1.out, HKB.out, HKp.out⟩
  case rest =>
    clear HS1 HKB HKp c2 heq HN
    rename World => w2
    obtain ⟨h, d, LH2, LD2, hs2, hkb2, hkp2⟩ := hcut
    have HKB2 : Hid (w2.heap[kb]? = some (kbox k1 k2 k3)) := hkb2
    have HKp2 : Hid (Kp w w2 sb) := hkp2
    have HS2 : Hid (Sv w0 w2 sb (.int .i32 1) (.map (some h)) (.map (some d)) uv LH2 LD2 LU) := hs2
    have c4 : w2.cell? ⟨sb, 4, none⟩ = some uv := by rw [blk_cell hs2.blk]; rfl
    have r0 : w2.cell? ⟨kb, 0, none⟩ = some (.int .i64 k1) := by rw [blk_cell hkb2]; rfl
    have r1 : w2.cell? ⟨kb, 1, none⟩ = some (.int .i64 k2) := by rw [blk_cell hkb2]; rfl
    have r2 : w2.cell? ⟨kb, 2, none⟩ = some (.string k3) := by rw [blk_cell hkb2]; rfl
    obtain ⟨w3, hdel, hs3, hk3⟩ := hs2.drew.del_u (k1, k2, k3) 0
    simp only [kv] at hdel
    clear hs2 hkb2 hkp2
    go_wp2_with fail
    go_region
    have HS3 : Hid (Sv w0 w3 sb (.int .i32 1) (.map (some h)) (.map (some d)) uv LH2 LD2 (delM LU (k1, k2, k3))) := hs3
    have HKB3 : Hid (w3.heap[kb]? = some (kbox k1 k2 k3)) := hk3 _ _ _ _ HKB2.out
    have HKp3 : Hid (Kp w w3 sb) := HKp2.out.trans (fun c cs t fr _ hc => hk3 c cs t fr hc)
    clear HS2 HKB2 HKp2 c4 r0 r1 r2 hdel hs3 hk3
    have c2 : w3.cell? ⟨sb, 2, none⟩ = some (.map (some h)) := by rw [blk_cell HS3.out.blk]; rfl
    have c3 : w3.cell? ⟨sb, 3, none⟩ = some (.map (some d)) := by rw [blk_cell HS3.out.blk]; rfl
    have r0 : w3.cell? ⟨kb, 0, none⟩ = some (.int .i64 k1) := by rw [blk_cell HKB3.out]; rfl
    have r1 : w3.cell? ⟨kb, 1, none⟩ = some (.int .i64 k2) := by rw [blk_cell HKB3.out]; rfl
    have r2 : w3.cell? ⟨kb, 2, none⟩ = some (.string k3) := by rw [blk_cell HKB3.out]; rfl
    obtain ⟨s, okb, hlk⟩ := look_d HS3.out k1 k2 k3
    go_wp2_with fail
    go_quiet (fail)
    clear hlk c2 c3 r0 r1 r2
    rename Nat => nq1
    have HS4 : Hid (Sv w0 (w3.drewN nq1) sb (.int .i32 1) (.map (some h)) (.map (some d)) uv LH2 LD2 (delM LU (k1, k2, k3))) := HS3.out.drewN nq1
    have HKB4 : Hid ((w3.drewN nq1).heap[kb]? = some (kbox k1 k2 k3)) := HKB3.out
    have HKp4 : Hid (Kp w (w3.drewN nq1) sb) := HKp3.out.trans (Kp.drewN _ _ _)
    clear HS3 HKB3 HKp3
    generalize w3.drewN nq1 = w4 at *
    have c2 : w4.cell? ⟨sb, 2, none⟩ = some (.map (some h)) := by rw [blk_cell HS4.out.blk]; rfl
    have c3 : w4.cell? ⟨sb, 3, none⟩ = some (.map (some d)) := by rw [blk_cell HS4.out.blk]; rfl
    have r0 : w4.cell? ⟨kb, 0, none⟩ = some (.int .i64 k1) := by rw [blk_cell HKB4.out]; rfl
    have r1 : w4.cell? ⟨kb, 1, none⟩ = some (.int .i64 k2) := by rw [blk_cell HKB4.out]; rfl
    have r2 : w4.cell? ⟨kb, 2, none⟩ = some (.string k3) := by rw [blk_cell HKB4.out]; rfl
    obtain ⟨x1, x2, x3, okx, -, hlh⟩ := look_h HS4.out s
    go_upto_region 8 with fail
    go_cut [60] from 45 to 60 (fun s60 wx => ∃ (r : Bool) (nq : Nat), s60 = .bool r ∧ wx = w4.drewN nq)
    case first =>
      cases okb with
      | false =>
        go_quiet (fail)
        go_wp2_with fail
        go_meet
        case rel => exact ⟨_, _, rfl, rfl⟩
      | true =>
        cases hsi : (s.toList == id.toList) with
        | true =>
          go_quiet (fail)
          go_wp2_with fail
          go_meet
          case rel => exact ⟨_, _, rfl, rfl⟩
        | false =>
          by_cases e1 : x1 = k1
          · by_cases e2 : x2 = k2
            · by_cases e3 : x3.toList = k3.toList
              · go_quiet (fail)
                go_wp2_with fail
                go_meet
                case rel => exact ⟨_, _, rfl, rfl⟩
              · go_quiet (fail)
                go_wp2_with fail
                go_meet
                case rel => exact ⟨_, _, rfl, rfl⟩
            · go_quiet (fail)
              go_wp2_with fail
              go_meet
              case rel => exact ⟨_, _, rfl, rfl⟩
          · go_quiet (fail)
            go_wp2_with fail
            go_meet
            case rel => exact ⟨_, _, rfl, rfl⟩
    case rest =>
      clear hlh c2 c3 r0 r1 r2
      obtain ⟨r, nq2, rfl, rfl⟩ := hcut
      have HS5 : Hid (Sv w0 (w4.drewN nq2) sb (.int .i32 1) (.map (some h)) (.map (some d)) uv LH2 LD2 (delM LU (k1, k2, k3))) := HS4.out.drewN nq2
      have HKB5 : Hid ((w4.drewN nq2).heap[kb]? = some (kbox k1 k2 k3)) := HKB4.out
      have HKp5 : Hid (Kp w (w4.drewN nq2) sb) := HKp4.out.trans (Kp.drewN _ _ _)
      clear HS4 HKB4 HKp4
      generalize w4.drewN nq2 = w5 at *
      have c2 : w5.cell? ⟨sb, 2, none⟩ = some (.map (some h)) := by rw [blk_cell HS5.out.blk]; rfl
      obtain ⟨w6, hdel, hs6, hk6⟩ := del_holder HS5.out s 0
      have HS6 : Hid (Sv w0 w6 sb (.int .i32 1) (.map (some h)) (.map (some d)) uv (delM LH2 s) LD2 (delM LU (k1, k2, k3))) := hs6
      have HK6 : Hid (Kp w5 w6 sb) := hk6
      clear hs6 hk6
      go_upto_if 60 with fail
      go_cut [] from 61 to 65 (fun wx => ∃ (LH' : List (ByteArray × Value)), Sv w0 wx sb (.int .i32 1) (.map (some h)) (.map (some d)) uv LH' LD2 (delM LU (k1, k2, k3)) ∧ wx.heap[kb]? = some (kbox k1 k2 k3) ∧ Kp w wx sb)
      case first =>
        cases r with
        | false =>
          go_wp2_with fail
          go_meet
          case rel => exact ⟨_, HS5.out, HKB5.out, HKp5.out⟩
        | true =>
          go_wp2_with fail
          go_meet
          case rel => exact ⟨_, HS6.out, HK6.out _ _ _ _ hkz.out HKB5.out, HKp5.out.trans HK6.out⟩
      case rest =>
        clear HS6 HK6 hdel c2 HS5 HKB5 HKp5
        rename World => w7
        obtain ⟨LH7, hs7, hkb7, hkp7⟩ := hcut
        have c3 : w7.cell? ⟨sb, 3, none⟩ = some (.map (some d)) := by rw [blk_cell hs7.blk]; rfl
        have r0 : w7.cell? ⟨kb, 0, none⟩ = some (.int .i64 k1) := by rw [blk_cell hkb7]; rfl
        have r1 : w7.cell? ⟨kb, 1, none⟩ = some (.int .i64 k2) := by rw [blk_cell hkb7]; rfl
        have r2 : w7.cell? ⟨kb, 2, none⟩ = some (.string k3) := by rw [blk_cell hkb7]; rfl
        obtain ⟨w8, hput, hs8, hk8⟩ := put_held hs7.drew k1 k2 k3 id
        have HS8 : Hid (Sv w0 w8 sb (.int .i32 1) (.map (some h)) (.map (some d)) uv LH7 (putM LD2 (k1, k2, k3) (.string id)) (delM LU (k1, k2, k3))) := hs8
        have HKB8 : Hid (w8.heap[kb]? = some (kbox k1 k2 k3)) := hk8 _ _ _ _ hkz.out hkb7
        have HKp8 : Hid (Kp w w8 sb) := (hkp7.trans (Kp.drew _ _)).trans hk8
        clear hs7 hkb7 hkp7 hs8 hk8
        go_wp2_with fail
        go_region
        clear c3 r0 r1 r2 hput
        have c2 : w8.cell? ⟨sb, 2, none⟩ = some (.map (some h)) := by rw [blk_cell HS8.out.blk]; rfl
        obtain ⟨y1, y2, y3, oky, hly, -⟩ := look_h HS8.out id
        have hly : (Instr.lookup 31 (.map (some h)) (.string id) true).run Ybaf.prog w8 = .ok (.tuple #[.agg #[.int .i64 y1, .int .i64 y2, .string y3], .bool oky]) w8 := hly 0
        go_upto_region 12 with fail
        have hkz8 : kb < w8.heap.size := blk_lt HKB8.out
        have r0 : w8.cell? ⟨kb, 0, none⟩ = some (.int .i64 k1) := by rw [blk_cell HKB8.out]; rfl
        have r1 : w8.cell? ⟨kb, 1, none⟩ = some (.int .i64 k2) := by rw [blk_cell HKB8.out]; rfl
        have r2 : w8.cell? ⟨kb, 2, none⟩ = some (.string k3) := by rw [blk_cell HKB8.out]; rfl
        go_cut [86] from 81 to 86 (fun s86 wx => ∃ r : Bool, s86 = .bool r ∧ wx = w8.alloc (kbox y1 y2 y3))
        case first =>
          cases oky with
          | false =>
            go_wp2_with fail
            go_meet
            case rel => exact ⟨_, rfl, rfl⟩
          | true =>
            by_cases e1 : y1 = k1
            · by_cases e2 : y2 = k2
              · by_cases e3 : y3.toList = k3.toList
                · go_wp2_with fail
                  go_meet
                  case rel => exact ⟨_, rfl, by rw [e1, e2]⟩
                · go_wp2_with fail
                  go_meet
                  case rel => exact ⟨_, rfl, by rw [e1, e2]⟩
              · go_wp2_with fail
                go_meet
                case rel => exact ⟨_, rfl, by rw [e1]⟩
            · go_wp2_with fail
              go_meet
              case rel => exact ⟨_, rfl, rfl⟩
        case rest =>
          obtain ⟨r, rfl, rfl⟩ := hcut
          cases r with
          | true =>
            clear hly c2
            go_wp2_with fail
            have hz9 : (w8.alloc (kbox y1 y2 y3)).heap.size = w8.heap.size + 1 := by simp
            have hnew : ∀ cs : Array Value, ((w8.alloc (kbox y1 y2 y3)).alloc (.cells cs 20)).heap[w8.heap.size + 1]? = some (.cells cs 20) := fun cs => heap_new_at hz9.symm _
            refine (errorf_any _ _ _ _ _ _ ((blk_cell (hnew _) 0).trans rfl) ((blk_cell (hnew _) 1).trans rfl) ((blk_cell (hnew _) 2).trans rfl) ((blk_cell (hnew _) 3).trans rfl)).mono ?_
            rintro e w9 ⟨⟨v, rfl⟩, o, hw9⟩
            have HS9 : Hid (Sv w0 w9 sb (.int .i32 1) (.map (some h)) (.map (some d)) uv LH7 (putM LD2 (k1, k2, k3) (.string id)) (delM LU (k1, k2, k3))) := by
              have := (((HS8.out.alloc (kbox y1 y2 y3)).alloc (.cells #[Value.iface 9 (Value.string y3), Value.iface 3 (Value.int IntKind.i64 (wrap64 (y1 + 1))), Value.iface 9 (Value.string k3), Value.iface 3 (Value.int IntKind.i64 (wrap64 (k1 + 1)))] 20)).alloc o).drew
              rw [← hw9] at this; exact this
            have HKp9 : Hid (Kp w w9 sb) := by
              have := (((HKp8.out.trans (Kp.alloc _ _ (kbox y1 y2 y3))).trans (Kp.alloc _ _ (.cells #[Value.iface 9 (Value.string y3), Value.iface 3 (Value.int IntKind.i64 (wrap64 (y1 + 1))), Value.iface 9 (Value.string k3), Value.iface 3 (Value.int IntKind.i64 (wrap64 (k1 + 1)))] 20))).trans (Kp.alloc _ _ o)).trans (Kp.drew _ _)
              rw [← hw9] at this; exact this
            clear hw9 hnew hz9
            go_wp2_with fail
            refine leaves_cons (f := 9) (args := #[.pointer (some ⟨sb, 0, none⟩)]) (by simp) (by simp [go_sem]) ?_
            refine (unlockD sb _ 35 w9 HS9.out.blk rfl .returning).mono ?_
            rintro e u' w'' ⟨rfl, rfl, h2⟩
            refine ⟨_, results_tmp rfl _ _ _, ⟨_, rfl⟩, ⟨_, _, _, _, HS9.out.lock h2, by simp⟩, HKp9.out.trans (Kp.setB h2)⟩
          | false =>
            clear hly
            have hs9 := HS8.out.alloc (kbox y1 y2 y3)
            obtain ⟨w9, hput, hs10, hk10⟩ := put_holder hs9.drew k1 k2 k3 id
            have HS10 : Hid (Sv w0 w9 sb (.int .i32 1) (.map (some h)) (.map (some d)) uv (putM LH7 id (kv (k1, k2, k3))) (putM LD2 (k1, k2, k3) (.string id)) (delM LU (k1, k2, k3))) := hs10
            have HKp10 : Hid (Kp w w9 sb) := ((HKp8.out.trans (Kp.alloc _ _ _)).trans (Kp.drew _ _)).trans hk10
            clear hs9 hs10 hk10
            have hsz8 : sb < w8.heap.size := blk_lt HS8.out.blk
            unfold kbox at *
            go_wp2_with fail
            go_region
            go_wp2_with fail
            refine leaves_cons (f := 9) (args := #[.pointer (some ⟨sb, 0, none⟩)]) (by simp) (by simp [go_sem]) ?_
            refine (unlockD sb _ 35 w9 HS10.out.blk rfl .returning).mono ?_
            rintro e u' w'' ⟨rfl, rfl, h2⟩
            refine ⟨_, results_tmp rfl _ _ _, ⟨_, rfl⟩, ⟨_, _, _, _, HS10.out.lock h2, by simp⟩, HKp10.out.trans (Kp.setB h2)⟩
end Go.Proofs.YbulkdxfsFmt
