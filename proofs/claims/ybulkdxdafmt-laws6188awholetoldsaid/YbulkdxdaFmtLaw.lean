import Derived.Test.YbulkdxdaFmtPlain
import Derived.Laws.CopyOwn
import Derived.Deep.OwnRows
import Derived.Deep.QuietTactic
import Derived.BigQuiet
namespace Go.Proofs.YbulkdxdaFmt
open Go.RowKit Go.Extern.Stop Go.Stop Go.Extern

theorem info3 : (Ybaf.prog.info? 3).map (fun i => (i.zero, i.size, i.bytes)) = some (some (.int .i64 0), 1, 8) := by kernel_rfl
theorem size3 : (Ybaf.prog.info? 3).map (·.size) = some 1 := by kernel_rfl
theorem law_long (a : Option Addr) (len cap : Nat) (n : Int) (w : World) (h : 1048576 < len) (hm : len ≤ 9223372036854775807) :
    Calls Ybaf.prog 3 #[.slice a len cap, .int .i64 n] w fun e w' => e = .returned (.bool true) ∧ Below w.heap.size w w' := by
  have h' : (1048576 : Int) < (len : Int) := by omega
  go_enter Ybaf.func3, Ybaf.ntmps3
  go_wp2
  go_ret
  exact ⟨rfl, Below.refl _ _⟩

def cellsOf (l : List Int) : List Value := l.map (Value.int .i64)
theorem cellsOf_get (l : List Int) (j : Nat) (hj : j < l.length) : (cellsOf l)[j]? = some (.int .i64 (l.getD j 0)) := by
  simp [cellsOf, List.getElem?_eq_getElem hj]

theorem oneCell_cellsOf (l : List Int) : ∀ v ∈ cellsOf l, v.oneCell' = true := by
  intro v hv
  obtain ⟨x, _, rfl⟩ := List.mem_map.1 hv
  rfl

theorem copy_fresh (b off len cap : Nat) (l : List Int) (w : World) (hl : l.length = len) (hb : b < w.heap.size)
    (hc : ∀ j, j < len → w.cell? ⟨b, off + j, none⟩ = some (.int .i64 (l.getD j 0))) :
    ∃ w1, (Builtin.copy_ #[22, 22] 3 #[.slice (some ⟨w.heap.size, 0, none⟩) len len, .slice (some ⟨b, off, none⟩) len cap]).run Ybaf.prog (w.alloc (.cells (madeCells #[.int .i64 0] len) 3)) = .ok (.int .i64 len) w1
      ∧ w1.heap[w.heap.size]? = some (.cells (cellsOf l).toArray 3 (0, 0)) ∧ Below w.heap.size w w1 := by
  have hh : (w.alloc (.cells (madeCells #[.int .i64 0] len) 3)).heap[w.heap.size]? = some (.cells (madeCells #[.int .i64 0] len) 3 (0, 0)) := heap_alloc_new w _
  have hlc : (cellsOf l).length = len := by simp [cellsOf, hl]
  have hsz : (madeCells #[.int .i64 0] len).size = len := by simp [madeCells]
  have e : ((madeCells #[.int .i64 0] len).toList.take 0 ++ cellsOf l ++ (madeCells #[.int .i64 0] len).toList.drop (0 + (cellsOf l).length)) = cellsOf l := by
    rw [List.drop_of_length_le (by simp [hlc, hsz])]; simp
  have h := run_copy_row (P := Ybaf.prog) (w.alloc (.cells (madeCells #[.int .i64 0] len) 3)) 22 22 3 3 w.heap.size 0 len len ⟨b, off, none⟩ len cap _ 3 (cellsOf l) Ybaf.underlying22 size3 hh (by rw [hlc]; simp)
    (fun j v hj => by
      have hjl : j < l.length := by
        have := (List.getElem?_eq_some_iff.1 hj).1
        simpa [cellsOf] using this
      rw [cellsOf_get l j hjl] at hj
      injection hj with hj
      subst hj
      rw [World.cell?_alloc_lt _ _ _ (by simpa [Addr.add] using (by split <;> exact hb))]
      have := hc j (by omega)
      simpa [Addr.add] using (by split <;> simp_all)) (by rw [hlc, hsz]; omega) (oneCell_cellsOf l)
  rw [e, hlc] at h
  refine ⟨_, h, ?_, ?_⟩
  · rw [World.setRow]
    simp only [Array.getElem?_modify, hh, if_pos]
    rfl
  · exact below_setRow ((Below.refl _ _).alloc (Nat.le_refl _) _) (Nat.le_refl _) _

set_option maxHeartbeats 2000000 in
theorem law_row (b off len cap : Nat) (l : List Int) (n : Int) (w : World) (hl : l.length = len) (hpos : 0 < len) (hlen : len ≤ 1048576) (hb : b < w.heap.size)
    (hc : ∀ j, j < len → w.cell? ⟨b, off + j, none⟩ = some (.int .i64 (l.getD j 0))) (hwf : ∀ j, j < len → l.getD j 0 ≤ 9223372036854775807) :
    Calls Ybaf.prog 3 #[.slice (some ⟨b, off, none⟩) len cap, .int .i64 n] w fun e w' => e = .returned (.bool true) ∧ Below w.heap.size w w' := by
  obtain ⟨w1, hcp, hrow, hbel⟩ := copy_fresh b off len cap l w hl hb hc
  have HL : Hid (l.length = len) := hl
  have HC : Hid (∀ j, j < len → w.cell? ⟨b, off + j, none⟩ = some (.int .i64 (l.getD j 0))) := hc
  have HW : Hid (∀ j, j < len → l.getD j 0 ≤ 9223372036854775807) := hwf
  have HC1 : Hid (∀ j, j < len → w1.cell? ⟨b, off + j, none⟩ = some (.int .i64 (l.getD j 0))) := fun j hj => (hbel.cell (p := ⟨b, off + j, none⟩) hb).trans (hc j hj)
  have HR : Hid (∀ j, j < len → w1.cell? ⟨w.heap.size, 0 + j, none⟩ = some (.int .i64 (l.getD j 0))) := fun j hj => by
    simp only [World.cell?, hrow]
    simp [cellsOf_get l j (by omega)]
  have hsz1 : w.heap.size < w1.heap.size := (Array.getElem?_eq_some_iff.1 hrow).1
  have HB : Hid (Below w.heap.size w w1) := hbel
  clear hl hc hwf hrow hbel
  have hnn := fun (w : World) => run_neq_slice_nil_any (P := Ybaf.prog) w 22 3 (some ⟨b, off, none⟩) len cap 0 0 Ybaf.underlying22
  have hen := fun (w : World) (a : Addr) (n c : Nat) => Lib.run_eql_slice_nil (P := Ybaf.prog) w 22 3 (some a) n c 0 0 Ybaf.underlying22
  have hmk := run_make_row' (P := Ybaf.prog) 22 3 (.int .i64 0) 8 Ybaf.underlying22 info3 rfl .i64 .i64 len (by omega) (by omega)
  have hlen' : (len : Int) ≤ 1048576 := by omega
  have HM : Hid (∀ W, (∀ j, j < len → W.cell? ⟨w.heap.size, 0 + j, none⟩ = some (.int .i64 (l.getD j 0))) → Calls Ybaf.prog 4 #[.slice (some ⟨w.heap.size, 0, none⟩) len len, .int .i64 n] W fun e w' => MOut (bsR l n) W e w') := fun W hW => by
    by_cases hn : n < 0
    · exact m_neg _ _ _ n W l hn
    · exact m_row w.heap.size 0 len len l n W hn HL.out hpos hlen hW HW.out
  have HS : Hid (∀ W, (∀ j, j < len → W.cell? ⟨b, off + j, none⟩ = some (.int .i64 (l.getD j 0))) → Calls Ybaf.prog 5 #[.slice (some ⟨b, off, none⟩) len cap, .int .i64 n] W fun e w' => Out (bsR l n) W e w') := fun W hW => by
    by_cases hn : n < 0
    · exact bs_neg _ _ _ n W l hn
    · exact bs_row b off len cap l n W hn HL.out hpos hlen hW
  go_enter Ybaf.func3, Ybaf.ntmps3
  go_wp2_with fail
  refine (HM.out w1 HR.out).mono ?_
  cases hr : bsR l n with
  | none =>
    rw [hr] at HM HS
    rintro e w' ⟨rfl, rfl⟩
    clear HM hcp hmk hnn
    go_wp2_with fail
    refine (HS.out w' HC1.out).mono ?_
    rintro e w2 ⟨ad, rfl, hb2⟩
    have HCA : Hid (∀ j, j < len → w2.cell? ⟨b, off + j, none⟩ = some (.int .i64 (l.getD j 0))) := fun j hj => (hb2.cell (p := ⟨b, off + j, none⟩) (Nat.lt_trans hb hsz1)).trans (HC1.out j hj)
    have HCB : Hid (∀ j, j < len → w2.cell? ⟨w.heap.size, 0 + j, none⟩ = some (.int .i64 (l.getD j 0))) := fun j hj => (hb2.cell (p := ⟨w.heap.size, 0 + j, none⟩) hsz1).trans (HR.out j hj)
    have HB2 : Hid (Below w.heap.size w w2) := HB.out.trans (hb2.mono (Nat.le_of_lt hsz1))
    clear HS hb2 HR HC1 HB HC HW
    go_wp2_with fail
    go_loopw [10] (fun i wr => ∃ k : Nat, k ≤ len ∧ i = .int .i64 k ∧ ∃ q, wr = w2.drewN q) (fun i _ => len - (intOf i).toNat)
    case atStart => exact ⟨0, Nat.zero_le _, rfl, 0, rfl⟩
    case round =>
      obtain ⟨k, hk, rfl, q, rfl⟩ := hrel
      by_cases hlt : k < len
      · obtain ⟨z, hz⟩ : ∃ z, l.getD k 0 = z := ⟨_, rfl⟩
        have h1 := HCA.out k hlt
        have h2 := HCB.out k hlt
        rw [hz] at h1 h2
        rw [Nat.zero_add] at h2
        clear hz
        have hlt' : (k : Int) < (len : Int) := by omega
        go_wp2_with fail
        go_quiet (fail)
        go_wp2_with fail
        go_roundw
        case rel => exact ⟨k + 1, by omega, by go_num, _, rfl⟩
        case measure => simp [intOf]; omega
      · go_wp2_with fail
        go_ret
        exact ⟨rfl, HB2.out.trans ⟨rfl, rfl, rfl, Nat.le_refl _, fun _ _ => rfl⟩⟩
  | some x =>
    rw [hr] at HM HS
    rintro e w' ⟨rfl, rfl⟩
    clear HM hcp hmk hnn
    go_wp2_with fail
    refine (HS.out w' HC1.out).mono ?_
    rintro e w2 ⟨rfl, rfl⟩
    have HCA := HC1
    have HCB := HR
    have HB2 := HB
    clear HS HR HC1 HB HC HW
    go_wp2_with fail
    go_loopw [10] (fun i wr => ∃ k : Nat, k ≤ len ∧ i = .int .i64 k ∧ ∃ q, wr = w2.drewN q) (fun i _ => len - (intOf i).toNat)
    case atStart => exact ⟨0, Nat.zero_le _, rfl, 0, rfl⟩
    case round =>
      obtain ⟨k, hk, rfl, q, rfl⟩ := hrel
      by_cases hlt : k < len
      · obtain ⟨z, hz⟩ : ∃ z, l.getD k 0 = z := ⟨_, rfl⟩
        have h1 := HCA.out k hlt
        have h2 := HCB.out k hlt
        rw [hz] at h1 h2
        rw [Nat.zero_add] at h2
        clear hz
        have hlt' : (k : Int) < (len : Int) := by omega
        go_wp2_with fail
        go_quiet (fail)
        go_wp2_with fail
        go_roundw
        case rel => exact ⟨k + 1, by omega, by go_num, _, rfl⟩
        case measure => simp [intOf]; omega
      · go_wp2_with fail
        go_ret
        exact ⟨rfl, HB2.out.trans ⟨rfl, rfl, rfl, Nat.le_refl _, fun _ _ => rfl⟩⟩

/-- a nil slice: 'before' is nil too. -/
theorem law_nil (n : Int) (w : World) :
    Calls Ybaf.prog 3 #[.slice none 0 0, .int .i64 n] w fun e w' => e = .returned (.bool true) ∧ Below w.heap.size w w' := by
  have hnn := fun (w : World) => run_neq_slice_nil_any (P := Ybaf.prog) w 22 3 none 0 0 0 0 Ybaf.underlying22
  have hen := fun (w : World) => Lib.run_eql_slice_nil (P := Ybaf.prog) w 22 3 none 0 0 0 0 Ybaf.underlying22
  have HM : Hid (Calls Ybaf.prog 4 #[.slice none 0 0, .int .i64 n] w fun e w' => MOut (bsR [] n) w e w') := by
    by_cases hn : n < 0
    · exact m_neg _ _ _ n w [] hn
    · exact m_empty _ _ n w hn
  have HS : Hid (Calls Ybaf.prog 5 #[.slice none 0 0, .int .i64 n] w fun e w' => Out (bsR [] n) w e w') := by
    by_cases hn : n < 0
    · exact bs_neg _ _ _ n w [] hn
    · exact bs_empty _ _ n w hn
  go_enter Ybaf.func3, Ybaf.ntmps3
  go_wp2_with fail
  refine (HM.out).mono ?_
  cases hr : bsR [] n with
  | none =>
    rw [hr] at HM HS
    rintro e w' ⟨rfl, rfl⟩
    clear HM
    go_wp2_with fail
    refine (HS.out).mono ?_
    rintro e w2 ⟨ad, rfl, hb2⟩
    have HB2 : Hid (Below w'.heap.size w' w2) := hb2
    clear HS hb2
    go_wp2_with fail
    refine wp_loop_rounds 1 ?_
    rw [rounds_succ]
    go_wp2_with fail
    go_ret
    exact ⟨rfl, HB2.out⟩
  | some x =>
    rw [hr] at HM HS
    rintro e w' ⟨rfl, rfl⟩
    clear HM
    go_wp2_with fail
    refine (HS.out).mono ?_
    rintro e w2 ⟨rfl, rfl⟩
    clear HS
    go_wp2_with fail
    refine wp_loop_rounds 1 ?_
    rw [rounds_succ]
    go_wp2_with fail
    go_ret
    exact ⟨rfl, Below.refl _ _⟩

/-- an empty slice that is not nil: 'before' is a new empty slice. -/
theorem law_empty (x : Addr) (cap : Nat) (n : Int) (w : World) :
    Calls Ybaf.prog 3 #[.slice (some x) 0 cap, .int .i64 n] w fun e w' => e = .returned (.bool true) ∧ Below w.heap.size w w' := by
  have hnn := fun (w : World) => run_neq_slice_nil_any (P := Ybaf.prog) w 22 3 (some x) 0 cap 0 0 Ybaf.underlying22
  have hen := fun (w : World) (a : Addr) (n c : Nat) => Lib.run_eql_slice_nil (P := Ybaf.prog) w 22 3 (some a) n c 0 0 Ybaf.underlying22
  have hmk := run_make_row' (P := Ybaf.prog) 22 3 (.int .i64 0) 8 Ybaf.underlying22 info3 rfl .i64 .i64 0 (by omega) (by omega)
  have hcp := fun (w : World) (a : Addr) => run_copy_none (P := Ybaf.prog) w 22 22 3 3 (some a) (some x) 0 0 0 cap Ybaf.underlying22 size3 rfl
  have HM : Hid (∀ W a, Calls Ybaf.prog 4 #[.slice (some a) 0 0, .int .i64 n] W fun e w' => MOut (bsR [] n) W e w') := fun W a => by
    by_cases hn : n < 0
    · exact m_neg _ _ _ n W [] hn
    · exact m_empty _ _ n W hn
  have HS : Hid (∀ W, Calls Ybaf.prog 5 #[.slice (some x) 0 cap, .int .i64 n] W fun e w' => Out (bsR [] n) W e w') := fun W => by
    by_cases hn : n < 0
    · exact bs_neg _ _ _ n W [] hn
    · exact bs_empty _ _ n W hn
  have e0 : ((0 : Nat) : Int) = 0 := rfl
  rw [e0] at hmk
  go_enter Ybaf.func3, Ybaf.ntmps3
  go_wp2_with fail
  refine (HM.out _ _).mono ?_
  cases hr : bsR [] n with
  | none =>
    rw [hr] at HM HS
    rintro e w' ⟨rfl, rfl⟩
    clear HM
    go_wp2_with fail
    refine (HS.out _).mono ?_
    rintro e w2 ⟨ad, rfl, hb2⟩
    have HB2 : Hid (Below w.heap.size w w2) := ((Below.refl _ _).alloc (Nat.le_refl _) _).trans (hb2.mono (by simp))
    clear HS hb2
    go_wp2_with fail
    refine wp_loop_rounds 1 ?_
    rw [rounds_succ]
    go_wp2_with fail
    go_ret
    exact ⟨rfl, HB2.out⟩
  | some x =>
    rw [hr] at HM HS
    rintro e w' ⟨rfl, rfl⟩
    clear HM
    go_wp2_with fail
    refine (HS.out _).mono ?_
    rintro e w2 ⟨rfl, rfl⟩
    clear HS
    go_wp2_with fail
    refine wp_loop_rounds 1 ?_
    rw [rounds_succ]
    go_wp2_with fail
    go_ret
    exact ⟨rfl, (Below.refl _ _).alloc (Nat.le_refl _) _⟩
end Go.Proofs.YbulkdxdaFmt
