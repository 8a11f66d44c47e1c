import Derived.Test.YbulkdxdaFmtErr
namespace Go.Proofs.YbulkdxdaFmt
open Go.RowKit Go.Extern.Stop Go.Stop Go.Extern

/-! ### The plain function -/
def goS : List Int → Int → Option Int
  | [], s => some s
  | x :: r, s => if x < 1 then none else if 9223372036854775807 - s < x then none else goS r (s + x)
def bsR (ws : List Int) (size : Int) : Option Int :=
  if size < 0 then none else if ws = [] then some (if size = 0 then 4 else size) else goS ws 0

theorem goS_low {l : List Int} {k : Nat} {S z : Int} (hk : k < l.length) (hz : l.getD k 0 = z) (h : z < 1) : goS (l.drop k) S = none := by
  have e : l.drop k = z :: l.drop (k + 1) := by rw [List.drop_eq_getElem_cons hk, ← hz, List.getD_eq_getElem?_getD, List.getElem?_eq_getElem hk]; rfl
  rw [e, goS, if_pos h]
theorem goS_high {l : List Int} {k : Nat} {S z : Int} (hk : k < l.length) (hz : l.getD k 0 = z) (h : ¬ z < 1) (h2 : 9223372036854775807 - S < z) : goS (l.drop k) S = none := by
  have e : l.drop k = z :: l.drop (k + 1) := by rw [List.drop_eq_getElem_cons hk, ← hz, List.getD_eq_getElem?_getD, List.getElem?_eq_getElem hk]; rfl
  rw [e, goS, if_neg h, if_pos h2]
theorem goS_step {l : List Int} {k : Nat} {S z : Int} (hk : k < l.length) (hz : l.getD k 0 = z) (h : ¬ z < 1) (h2 : ¬ 9223372036854775807 - S < z) : goS (l.drop k) S = goS (l.drop (k + 1)) (S + z) := by
  have e : l.drop k = z :: l.drop (k + 1) := by rw [List.drop_eq_getElem_cons hk, ← hz, List.getD_eq_getElem?_getD, List.getElem?_eq_getElem hk]; rfl
  rw [e, goS, if_neg h, if_neg h2]
theorem goS_end {l : List Int} {S : Int} : goS (l.drop l.length) S = some S := by simp [goS]

def Out (r : Option Int) (w : World) (e : Ending) (w' : World) : Prop :=
  match r with
  | some x => e = .returned (.tuple #[.int .i64 x, .nilIface]) ∧ w' = w
  | none => ∃ ad, e = .returned (.tuple #[.int .i64 0, .iface 35 (.pointer (some ad))]) ∧ Below w.heap.size w w'

theorem out_some {x : Int} {r : Option Int} {w : World} (h : r = some x) : Out r w (.returned (.tuple #[.int .i64 x, .nilIface])) w := by
  subst h; exact ⟨rfl, rfl⟩
theorem out_none {ad : Addr} {r : Option Int} {w w' : World} (h : r = none) (hb : Below w.heap.size w w') : Out r w (.returned (.tuple #[.int .i64 0, .iface 35 (.pointer (some ad))])) w' := by
  subst h; exact ⟨_, rfl, hb⟩

theorem bs_neg (a : Option Addr) (len cap : Nat) (n : Int) (w : World) (l : List Int) (hn : n < 0) :
    Calls Ybaf.prog 5 #[.slice a len cap, .int .i64 n] w fun e w' => Out (bsR l n) w e w' := by
  have hr : bsR l n = none := by simp [bsR, hn]
  have H : Hid (bsR l n = none) := hr
  clear hr
  have h1 := call7
  have h2 := guardF
  have h3 := op3_100w
  have h4 := ptr35
  have h5 := elem35
  have h6 := fmtA
  go_enter Ybaf.func5, Ybaf.ntmps5
  go_wp2
  go_ret2
  exact out_none H.out (by go_grown)

theorem bs_empty (a : Option Addr) (cap : Nat) (n : Int) (w : World) (hn : ¬ n < 0) :
    Calls Ybaf.prog 5 #[.slice a 0 cap, .int .i64 n] w fun e w' => Out (bsR [] n) w e w' := by
  by_cases h0 : n = 0
  · subst h0
    go_enter Ybaf.func5, Ybaf.ntmps5
    go_wp2
    go_ret2
    exact out_some rfl
  · have H : Hid (bsR [] n = some n) := by simp [Hid, bsR, hn, h0]
    have h1 : (n == 0) = false := by simp [h0]
    go_enter Ybaf.func5, Ybaf.ntmps5
    go_wp2
    go_ret2
    exact out_some H.out

set_option maxHeartbeats 1000000 in
theorem bs_row (b off len cap : Nat) (l : List Int) (n : Int) (w : World) (hn : ¬ n < 0) (hl : l.length = len) (hpos : 0 < len) (hlen : len ≤ 1048576)
    (hc : ∀ j, j < len → w.cell? ⟨b, off + j, none⟩ = some (.int .i64 (l.getD j 0))) :
    Calls Ybaf.prog 5 #[.slice (some ⟨b, off, none⟩) len cap, .int .i64 n] w fun e w' => Out (bsR l n) w e w' := by
  have HR : Hid (bsR l n = goS l 0) := by
    show bsR l n = goS l 0
    have : l ≠ [] := by intro h; subst h; simp at hl; omega
    simp [bsR, hn, this]
  have HL : Hid (l.length = len) := hl
  have HC : Hid (∀ j, j < len → w.cell? ⟨b, off + j, none⟩ = some (.int .i64 (l.getD j 0))) := hc
  clear hl hc
  have hz : ((len : Int) == 0) = false := by simp; omega
  have hn' : 0 ≤ n := by omega
  clear hn
  go_enter Ybaf.func5, Ybaf.ntmps5
  go_wp2
  go_loop [6, 23] (fun s i => ∃ k : Nat, k ≤ len ∧ i = .int .i64 k ∧ ∃ S : Int, s = .int .i64 S ∧ 0 ≤ S ∧ S ≤ 9223372036854775807 ∧ Hid (goS l 0 = goS (l.drop k) S)) (fun _ i => len - (intOf i).toNat)
  case atStart => exact ⟨0, Nat.zero_le _, rfl, 0, rfl, by omega, by omega, rfl⟩
  case round =>
    obtain ⟨k, hk, rfl, S, rfl, hS0, hS1, HG⟩ := hrel
    by_cases hlt : k < len
    · obtain ⟨z, hzz⟩ : ∃ z, l.getD k 0 = z := ⟨_, rfl⟩
      have hcz := HC.out k hlt
      rw [hzz] at hcz
      have HZ : Hid (l.getD k 0 = z) := hzz
      clear hzz
      have hkl : k < l.length := by rw [HL.out]; exact hlt
      have HKL : Hid (k < l.length) := hkl
      clear hkl
      by_cases hz1 : z < 1
      · have h1 := call7
        have h2 := guardF
        have h3 := op3_100w
        have h4 := ptr35
        have h5 := elem35
        have h6 := fmtB
        go_wp2
        go_ret2
        exact out_none (by rw [HR.out, HG.out]; exact goS_low HKL.out HZ.out hz1) (by go_grown)
      · by_cases hz2 : 9223372036854775807 - S < z
        · have h1 := call7
          have h2 := guardF
          have h3 := op3_100w
          have h4 := ptr35
          have h5 := elem35
          have h6 := fmtC
          go_wp2
          go_ret2
          exact out_none (by rw [HR.out, HG.out]; exact goS_high HKL.out HZ.out (by omega) hz2) (by go_grown)
        · go_wp2
          go_round
          case rel => exact ⟨k + 1, by omega, by go_num, S + z, by go_num, by omega, by omega, HG.out.trans (goS_step HKL.out HZ.out (by omega) (by omega))⟩
          case measure => simp [intOf]; omega
    · go_wp2
      go_ret2
      exact out_some (by rw [HR.out, HG.out, show k = l.length from by rw [HL.out]; omega]; exact goS_end)

/-! ### The model -/
def MOut (r : Option Int) (w : World) (e : Ending) (w' : World) : Prop :=
  (match r with
  | some x => e = .returned (.tuple #[.int .i64 x, .bool true])
  | none => e = .returned (.tuple #[.int .i64 0, .bool false])) ∧ w' = w
theorem mout_some {x : Int} {r : Option Int} {w : World} (h : r = some x) : MOut r w (.returned (.tuple #[.int .i64 x, .bool true])) w := by
  subst h; exact ⟨rfl, rfl⟩
theorem mout_none {r : Option Int} {w : World} (h : r = none) : MOut r w (.returned (.tuple #[.int .i64 0, .bool false])) w := by
  subst h; exact ⟨rfl, rfl⟩

theorem m_neg (a : Option Addr) (len cap : Nat) (n : Int) (w : World) (l : List Int) (hn : n < 0) :
    Calls Ybaf.prog 4 #[.slice a len cap, .int .i64 n] w fun e w' => MOut (bsR l n) w e w' := by
  have hr : bsR l n = none := by simp [bsR, hn]
  have H : Hid (bsR l n = none) := hr
  clear hr
  go_enter Ybaf.func4, Ybaf.ntmps4
  go_wp2
  go_ret2
  exact mout_none H.out

theorem m_empty (a : Option Addr) (cap : Nat) (n : Int) (w : World) (hn : ¬ n < 0) :
    Calls Ybaf.prog 4 #[.slice a 0 cap, .int .i64 n] w fun e w' => MOut (bsR [] n) w e w' := by
  by_cases h0 : n = 0
  · subst h0
    go_enter Ybaf.func4, Ybaf.ntmps4
    go_wp2
    go_ret2
    exact mout_some rfl
  · have H : Hid (bsR [] n = some n) := by simp [Hid, bsR, hn, h0]
    have h1 : (n == 0) = false := by simp [h0]
    go_enter Ybaf.func4, Ybaf.ntmps4
    go_wp2
    go_ret2
    exact mout_some H.out

set_option maxHeartbeats 1000000 in
theorem m_row (b off len cap : Nat) (l : List Int) (n : Int) (w : World) (hn : ¬ n < 0) (hl : l.length = len) (hpos : 0 < len) (hlen : len ≤ 1048576)
    (hc : ∀ j, j < len → w.cell? ⟨b, off + j, none⟩ = some (.int .i64 (l.getD j 0))) (hwf : ∀ j, j < len → l.getD j 0 ≤ 9223372036854775807) :
    Calls Ybaf.prog 4 #[.slice (some ⟨b, off, none⟩) len cap, .int .i64 n] w fun e w' => MOut (bsR l n) w e w' := by
  have HR : Hid (bsR l n = goS l 0) := by
    show bsR l n = goS l 0
    have : l ≠ [] := by intro h; subst h; simp at hl; omega
    simp [bsR, hn, this]
  have HL : Hid (l.length = len) := hl
  have HC : Hid (∀ j, j < len → w.cell? ⟨b, off + j, none⟩ = some (.int .i64 (l.getD j 0))) := hc
  have HW : Hid (∀ j, j < len → l.getD j 0 ≤ 9223372036854775807) := hwf
  clear hl hc hwf
  have hz : ((len : Int) == 0) = false := by simp; omega
  have hn' : 0 ≤ n := by omega
  clear hn
  go_enter Ybaf.func4, Ybaf.ntmps4
  go_wp2
  go_loop [6, 7] (fun s i => ∃ k : Nat, k ≤ len ∧ i = .int .i64 k ∧ ∃ S : Int, s = .int .u64 S ∧ 0 ≤ S ∧ S ≤ 9223372036854775807 ∧ Hid (goS l 0 = goS (l.drop k) S)) (fun _ i => len - (intOf i).toNat)
  case atStart => exact ⟨0, Nat.zero_le _, rfl, 0, rfl, by omega, by omega, rfl⟩
  case round =>
    obtain ⟨k, hk, rfl, S, rfl, hS0, hS1, HG⟩ := hrel
    by_cases hlt : k < len
    · obtain ⟨z, hzz⟩ : ∃ z, l.getD k 0 = z := ⟨_, rfl⟩
      have hcz := HC.out k hlt
      have hzw := HW.out k hlt
      rw [hzz] at hcz hzw
      have HZ : Hid (l.getD k 0 = z) := hzz
      clear hzz
      have hkl : k < l.length := by rw [HL.out]; exact hlt
      have HKL : Hid (k < l.length) := hkl
      clear hkl
      by_cases hz1 : z < 1
      · have hz1' : z ≤ 0 := by omega
        go_wp2
        go_ret2
        exact mout_none (by rw [HR.out, HG.out]; exact goS_low HKL.out HZ.out hz1)
      · have hz1' : 0 < z := by omega
        by_cases hz2 : 9223372036854775807 - S < z
        · have hz3 : 9223372036854775807 < S + z := by omega
          go_wp2
          go_ret2
          exact mout_none (by rw [HR.out, HG.out]; exact goS_high HKL.out HZ.out (by omega) hz2)
        · have hz3 : S + z ≤ 9223372036854775807 := by omega
          go_wp2
          go_round
          case rel => exact ⟨k + 1, by omega, by go_num, S + z, by go_num, by omega, by omega, HG.out.trans (goS_step HKL.out HZ.out (by omega) (by omega))⟩
          case measure => simp [intOf]; omega
    · go_wp2
      go_ret2
      exact mout_some (by rw [HR.out, HG.out, show k = l.length from by rw [HL.out]; omega]; exact goS_end)
end Go.Proofs.YbulkdxdaFmt
