import Derived.Test.YbulkdxbkDoorKh
namespace Go.Proofs.YbulkdxbkDoor
open Go.RowKit
set_option linter.unusedVariables false
set_option linter.unusedSectionVars false

/-! ### Insertion, plain -/
def swp (L : List Nat) (j : Nat) : List Nat := (L.set j (at64 L (j - 1))).set (j - 1) (at64 L j)
theorem at64_swp {L : List Nat} {j : Nat} (hj : 0 < j) (hl : j < L.length) (a : Nat) : at64 (swp L j) a = if a = j - 1 then at64 L j else if a = j then at64 L (j - 1) else at64 L a := by
  unfold swp
  rw [at64_set (by simp; omega), at64_set hl]
structure Mix (n : Nat) (L0 L : List Nat) : Prop where
  len : L.length = n
  into : ∀ a, a < n → ∃ b, b < n ∧ at64 L a = at64 L0 b
  fro : ∀ b, b < n → ∃ a, a < n ∧ at64 L a = at64 L0 b
  inj : ∀ a b, a < b → b < n → at64 L a ≠ at64 L b
theorem at64_mem {L : List Nat} {a : Nat} (h : a < L.length) : at64 L a ∈ L := List.mem_of_getElem? (at64_get h)
theorem mem_at64 {L : List Nat} {x : Nat} (h : x ∈ L) : ∃ a, a < L.length ∧ at64 L a = x := by
  obtain ⟨a, ha, e⟩ := List.getElem_of_mem h
  exact ⟨a, ha, by simp [at64, ha, e]⟩
theorem at64_eq {L : List Nat} {a : Nat} (h : a < L.length) : at64 L a = L[a] := by simp [at64, h]
theorem Mix.refl {L : List Nat} (h : L.Nodup) : Mix L.length L L :=
  ⟨rfl, fun a ha => ⟨a, ha, rfl⟩, fun a ha => ⟨a, ha, rfl⟩, fun a b hab hb e => by
    have h1 := (List.pairwise_iff_getElem.1 h) a b (by omega) hb hab
    rw [at64_eq (by omega), at64_eq hb] at e
    exact h1 e⟩
theorem Mix.swp {n : Nat} {L0 L : List Nat} (h : Mix n L0 L) {j : Nat} (hj : 0 < j) (hjn : j < n) : Mix n L0 (swp L j) := by
  have e := at64_swp (L := L) hj (by rw [h.len]; exact hjn)
  refine ⟨by simp [YbulkdxbkDoor.swp, h.len], fun a ha => ?_, fun b hb => ?_, fun a b hab hb => ?_⟩
  · rw [e]
    split
    · exact h.into j hjn
    · split
      · exact h.into (j - 1) (by omega)
      · exact h.into a ha
  · obtain ⟨a, ha, ea⟩ := h.fro b hb
    by_cases h1 : a = j
    · subst h1; exact ⟨a - 1, by omega, by rw [e, if_pos rfl]; exact ea⟩
    · by_cases h2 : a = j - 1
      · refine ⟨j, hjn, ?_⟩
        rw [e, if_neg (by omega), if_pos rfl, ← h2]; exact ea
      · exact ⟨a, ha, by rw [e, if_neg h2, if_neg h1]; exact ea⟩
  · rw [e, e]
    have hi : ∀ x y, x ≠ y → x < n → y < n → at64 L x ≠ at64 L y := fun x y hxy hx hy => by
      rcases Nat.lt_or_gt_of_ne hxy with h1 | h1
      · exact h.inj x y h1 hy
      · exact fun e => h.inj y x h1 hx e.symm
    split
    · split
      · omega
      · split
        · exact hi _ _ (by omega) (by omega) (by omega)
        · exact hi _ _ (by omega) (by omega) (by omega)
    · split
      · split
        · exact hi _ _ (by omega) (by omega) (by omega)
        · split
          · omega
          · exact hi _ _ (by omega) (by omega) (by omega)
      · split
        · exact hi _ _ (by omega) (by omega) (by omega)
        · split
          · exact hi _ _ (by omega) (by omega) (by omega)
          · exact hi _ _ (by omega) (by omega) (by omega)
def SortedTo (L : List Nat) (i : Nat) : Prop := ∀ a b, a < b → b < i → at64 L a < at64 L b
def Gap (L : List Nat) (i j : Nat) : Prop := ∀ a b, a < b → b ≤ i → b ≠ j → at64 L a < at64 L b
theorem Gap.start {L : List Nat} {i : Nat} (h : SortedTo L i) : Gap L i i := fun a b h1 h2 h3 => h a b h1 (by omega)
theorem Gap.end0 {L : List Nat} {i : Nat} (h : Gap L i 0) : SortedTo L (i + 1) := fun a b h1 h2 => h a b h1 (by omega) (by omega)
theorem Gap.done {n : Nat} {L0 L : List Nat} {i j : Nat} (h : Gap L i j) (hm : Mix n L0 L) (hj : 0 < j) (hji : j ≤ i) (hin : i < n) (hle : ¬ at64 L j < at64 L (j - 1)) : SortedTo L (i + 1) := fun a b h1 h2 => by
  by_cases e : b = j
  · subst e
    have h3 := hm.inj (b - 1) b (by omega) (by omega)
    by_cases e2 : a = b - 1
    · subst e2; omega
    · have := h a (b - 1) (by omega) (by omega) (by omega); omega
  · exact h a b h1 (by omega) e
theorem Gap.swp {n : Nat} {L0 L : List Nat} {i j : Nat} (h : Gap L i j) (hm : Mix n L0 L) (hj : 0 < j) (hji : j ≤ i) (hin : i < n) (hlt : at64 L j < at64 L (j - 1)) : Gap (swp L j) i (j - 1) := fun a b h1 h2 h3 => by
  have e := at64_swp (L := L) hj (by rw [hm.len]; omega)
  rw [e, e, if_neg h3]
  by_cases hb : b = j
  · rw [if_pos hb]
    by_cases ha : a = j - 1
    · rw [if_pos ha]; exact hlt
    · rw [if_neg ha, if_neg (by omega)]; exact h a (j - 1) (by omega) (by omega) (by omega)
  · rw [if_neg hb]
    by_cases ha : a = j - 1
    · rw [if_pos ha]; exact h j b (by omega) h2 hb
    · rw [if_neg ha]
      by_cases ha2 : a = j
      · rw [if_pos ha2]; exact h (j - 1) b (by omega) h2 hb
      · rw [if_neg ha2]; exact h a b h1 h2 hb
theorem SortedTo.asc {n : Nat} {L : List Nat} (h : SortedTo L n) (hl : L.length = n) : Asc L := by
  rw [Asc, List.pairwise_iff_getElem]
  intro a b ha hb hab
  have := h a b hab (by omega)
  rw [at64_eq ha, at64_eq hb] at this
  exact this
theorem Mix.mem {n : Nat} {L0 L : List Nat} (h : Mix n L0 L) (h0 : L0.length = n) (x : Nat) : x ∈ L ↔ x ∈ L0 := by
  constructor
  · intro hx
    obtain ⟨a, ha, e⟩ := mem_at64 hx
    obtain ⟨b, hb, e2⟩ := h.into a (by rw [← h.len]; exact ha)
    rw [← e, e2]; exact at64_mem (by omega)
  · intro hx
    obtain ⟨b, hb, e⟩ := mem_at64 hx
    obtain ⟨a, ha, e2⟩ := h.fro b (by omega)
    rw [← e, ← e2]; exact at64_mem (by rw [h.len]; exact ha)

/-! ### The walks -/
theorem isNaN_any (w : World) (a : Nat) : Calls Ybad.prog 72 #[.int .i64 (a : Int)] w fun e w' => e = .returned (.bool false) ∧ w' = w := by
  go_enter Ybad.func72, Ybad.ntmps72
  go_wp2_with fail
  go_ret
  exact ⟨by simp, rfl⟩
theorem less_any (w : World) (a b : Nat) : Calls Ybad.prog 65 #[.int .i64 (a : Int), .int .i64 (b : Int)] w fun e w' => e = .returned (.bool (decide ((a : Int) < (b : Int)))) ∧ w' = w := by
  go_enter Ybad.func65, Ybad.ntmps65
  go_wp2_with (go_at_call 72; refine (isNaN_any _ _).mono ?_; rintro e w' ⟨rfl, rfl⟩)
  go_ret
  exact ⟨by simp, rfl⟩
theorem own_swp {w : World} {K g n cap : Nat} {L : List Nat} {j : Nat} (ho : w.ownsRow K 3 1 (.slice (some ⟨g, 0, none⟩) n cap) n (ints L)) :
    ((w.setCell ⟨g, j, none⟩ (.int .i64 (at64 L (j - 1) : Int))).setCell ⟨g, j - 1, none⟩ (.int .i64 (at64 L j : Int))).ownsRow K 3 1 (.slice (some ⟨g, 0, none⟩) n cap) n (ints (swp L j)) := by
  have h := own_set (own_set ho j (.int .i64 (at64 L (j - 1) : Int))) (j - 1) (.int .i64 (at64 L j : Int))
  have e : ints (swp L j) = ((ints L).set j (.int .i64 (at64 L (j - 1) : Int))).set (j - 1) (.int .i64 (at64 L j : Int)) := by simp [ints, swp, List.map_set]
  rw [e]; exact h
set_option maxHeartbeats 4000000 in
theorem insertion_any (w : World) (K g n cap : Nat) (L0 : List Nat) (hn : n ≤ 12) (hpos : 0 < n) (hl : n = L0.length) (hd : L0.Nodup) (ho : w.ownsRow K 3 1 (.slice (some ⟨g, 0, none⟩) n cap) n (ints L0)) :
    Calls Ybad.prog 59 #[.slice (some ⟨g, 0, none⟩) n cap, .int .i64 0, .int .i64 (n : Int)] w fun e w' => e = .returned (.tuple #[]) ∧ ∃ L, Mix n L0 L ∧ SortedTo L n ∧ w'.ownsRow K 3 1 (.slice (some ⟨g, 0, none⟩) n cap) n (ints L) ∧ Fr w w' [g] := by
  have HM : Hid (Mix n L0 L0) := by subst hl; exact Mix.refl hd
  have HO : Hid (w.ownsRow K 3 1 (.slice (some ⟨g, 0, none⟩) n cap) n (ints L0)) := ho
  clear hl hd ho
  go_enter Ybad.func59, Ybad.ntmps59
  go_wp2_with fail
  go_loopw [6] (fun s wr => ∃ (i : Nat) (L : List Nat), 1 ≤ i ∧ i ≤ n ∧ s = .int .i64 i ∧ Hid (Mix n L0 L ∧ SortedTo L i ∧ wr.ownsRow K 3 1 (.slice (some ⟨g, 0, none⟩) n cap) n (ints L) ∧ Fr w wr [g])) (fun s _ => n - (intOf s).toNat)
  case atStart => exact ⟨1, L0, Nat.le_refl _, hpos, rfl, (⟨HM.out, fun a b h1 h2 => by omega, HO.out, Fr.refl _ _⟩ : Mix n L0 L0 ∧ SortedTo L0 1 ∧ w.ownsRow K 3 1 (.slice (some ⟨g, 0, none⟩) n cap) n (ints L0) ∧ Fr w w [g])⟩
  case round =>
    clear HO HM
    obtain ⟨i, L, hi1, hin, rfl, HI⟩ := hrel
    rename World => wr
    by_cases hil : i < n
    · have hd : decide ((i : Int) < (n : Int)) = true := by simp; exact hil
      go_wp2_with fail
      go_loopw [7] (fun s wq => ∃ (j : Nat) (L : List Nat), j ≤ i ∧ s = .int .i64 j ∧ Hid (Mix n L0 L ∧ Gap L i j ∧ wq.ownsRow K 3 1 (.slice (some ⟨g, 0, none⟩) n cap) n (ints L) ∧ Fr w wq [g])) (fun s _ => (intOf s).toNat)
      case atStart => exact ⟨i, L, Nat.le_refl _, rfl, (⟨HI.out.1, Gap.start HI.out.2.1, HI.out.2.2.1, HI.out.2.2.2⟩ : Mix n L0 L ∧ Gap L i i ∧ wr.ownsRow K 3 1 (.slice (some ⟨g, 0, none⟩) n cap) n (ints L) ∧ Fr w wr [g])⟩
      case round =>
        clear HI
        obtain ⟨j, L, hji, rfl, HI⟩ := hrel
        rename World => wq
        by_cases hj0 : j = 0
        · subst hj0
          go_wp2_with fail
          go_quiet (fail)
          go_wp2_with fail
          go_roundw
          case rel => exact ⟨i + 1, L, by omega, by omega, by go_num, (⟨HI.out.1, HI.out.2.1.end0, own_same HI.out.2.2.1 fun _ _ => rfl, HI.out.2.2.2.drewN _⟩ : _ ∧ _ ∧ _ ∧ _)⟩
          case measure => simp [intOf]; omega
        · have hlen := HI.out.1.len
          have y1 := own_cell HI.out.2.2.1 (ints_get (at64_get (L := L) (i := j) (by omega)))
          obtain ⟨j1, hj1⟩ : ∃ j1, j1 = j - 1 := ⟨_, rfl⟩
          have y2 := own_cell HI.out.2.2.1 (ints_get (at64_get (L := L) (i := j1) (by omega)))
          have z1 := own_frozen HI.out.2.2.1 j
          have z2 := own_frozen HI.out.2.2.1 j1
          have x1 := index26z (b := g) (c := cap) (show j < n by omega)
          have x2 := index26z (b := g) (c := cap) (show j1 < n by omega)
          have hw : IntKind.i64.wrap ((j : Int) - 1) = (j1 : Int) := by simp [IntKind.wrap, IntKind.signed, IntKind.bits]; omega
          have hd0 : decide (0 < j) = true := by simp; omega
          have hd00 : decide ((0 : Int) < (j : Int)) = true := by simp; omega
          have hne : j ≠ j1 := by omega
          have hne2 : j1 ≠ j := by omega
          obtain ⟨xj, hxj⟩ : ∃ x, x = at64 L j := ⟨_, rfl⟩
          obtain ⟨xj1, hxj1⟩ : ∃ x, x = at64 L j1 := ⟨_, rfl⟩
          rw [← hxj] at y1
          rw [← hxj1] at y2
          have HX : Hid (xj = at64 L j ∧ xj1 = at64 L (j - 1) ∧ j1 = j - 1) := ⟨hxj, by rw [← hj1]; exact hxj1, hj1⟩
          clear hlen hxj hxj1 hj1
          by_cases hlt : xj < xj1
          · have hd2 : decide ((xj : Int) < (xj1 : Int)) = true := by simp; exact hlt
            have hd3 : decide (xj < xj1) = true := by simp; exact hlt
            go_wp2_with fail
            go_quiet (first | (go_at_call 65; refine (less_any _ _ _).mono ?_; rintro e w' ⟨rfl, rfl⟩; exact ⟨rfl, _, rfl⟩))
            go_wp2_with fail
            go_region
            all_goals
              go_wp2_with fail
              go_roundw
              case rel =>
                obtain ⟨e1, e2, e3⟩ := HX.out
                refine ⟨j1, swp L j, by omega, by go_num, ?_⟩
                have hm := HI.out.1
                have hg := HI.out.2.1.swp hm (by omega) hji hil (by rw [← e1, ← e2]; exact hlt)
                have ho := own_swp (j := j) (own_same (w' := wq.drewN (nq + 1)) HI.out.2.2.1 fun _ _ => rfl)
                rw [← e1, ← e2, ← e3] at ho
                rw [← e3] at hg
                have hff := ((HI.out.2.2.2.drewN (nq + 1)).set (b := g) (.inl (by simp)) j (.int .i64 (xj1 : Int))).set (b := g) (.inl (by simp)) j1 (.int .i64 (xj : Int))
                exact (⟨hm.swp (j := j) (by omega) (by omega), hg, ho, hff⟩ : _ ∧ _ ∧ _ ∧ _)
              case measure => (have := HX.out.2.2; simp [intOf]; omega)
          · have hd2 : decide ((xj : Int) < (xj1 : Int)) = false := by simp; omega
            have hd3 : decide (xj < xj1) = false := by simp; omega
            go_wp2_with fail
            go_quiet (first | (go_at_call 65; refine (less_any _ _ _).mono ?_; rintro e w' ⟨rfl, rfl⟩; exact ⟨rfl, _, rfl⟩))
            go_wp2_with fail
            go_roundw
            case rel => exact ⟨i + 1, L, by omega, by omega, by go_num, (⟨HI.out.1, HI.out.2.1.done HI.out.1 (by omega) hji hil (by rw [← HX.out.1, ← HX.out.2.1]; exact hlt), own_same HI.out.2.2.1 fun _ _ => rfl, HI.out.2.2.2.drewN _⟩ : _ ∧ _ ∧ _ ∧ _)⟩
            case measure => simp [intOf]; omega
    · have hd : decide ((i : Int) < (n : Int)) = false := by simp; omega
      obtain rfl : i = n := by omega
      go_wp2_with fail
      go_end0
      exact ⟨rfl, L, HI.out⟩
theorem pdq_any (w : World) (K g n cap : Nat) (L0 : List Nat) (lim : Int) (hn : n ≤ 12) (hpos : 0 < n) (hl : n = L0.length) (hd : L0.Nodup) (ho : w.ownsRow K 3 1 (.slice (some ⟨g, 0, none⟩) n cap) n (ints L0)) :
    Calls Ybad.prog 53 #[.slice (some ⟨g, 0, none⟩) n cap, .int .i64 0, .int .i64 (n : Int), .int .i64 lim] w fun e w' => e = .returned (.tuple #[]) ∧ ∃ L, Mix n L0 L ∧ SortedTo L n ∧ w'.ownsRow K 3 1 (.slice (some ⟨g, 0, none⟩) n cap) n (ints L) ∧ Fr w w' [g] := by
  have hc := insertion_any w K g n cap L0 hn hpos hl hd ho
  have HC : Hid (Calls Ybad.prog 59 #[.slice (some ⟨g, 0, none⟩) n cap, .int .i64 0, .int .i64 (n : Int)] w fun e w' => e = .returned (.tuple #[]) ∧ ∃ L, Mix n L0 L ∧ SortedTo L n ∧ w'.ownsRow K 3 1 (.slice (some ⟨g, 0, none⟩) n cap) n (ints L) ∧ Fr w w' [g]) := hc
  have hd : decide ((n : Int) ≤ 12) = true := by simp; omega
  clear hc hl hd ho
  go_enter Ybad.func53, Ybad.ntmps53
  go_wp2_with fail
  go_loopw [1, 2] (fun s1 s2 wr => s1 = .int .i64 0 ∧ s2 = .int .i64 (n : Int) ∧ wr = w) (fun _ _ _ => 0)
  case atStart => exact ⟨rfl, rfl, rfl⟩
  case round =>
    obtain ⟨rfl, rfl, rfl⟩ := hrel
    go_wp2_with (go_at_call 59; refine HC.out.mono ?_; rintro e w' ⟨rfl, hr⟩)
    refine bodyPost_ret (results_none rfl _ _ _) rfl ?_
    exact ⟨rfl, hr⟩
set_option maxRecDepth 100000 in
theorem len64_any (w : World) (n : Nat) (hn : n ≤ 12) : Calls Ybad.prog 52 #[.int .u64 (n : Int)] w fun e w' => ∃ k : Int, e = .returned (.int .i64 k) ∧ w' = w := by
  have h1 : decide ((n : Int) ≥ 4294967296) = false := by simp; omega
  have h2 : decide ((n : Int) ≥ 65536) = false := by simp; omega
  have h3 : decide ((n : Int) ≥ 256) = false := by simp; omega
  have h4 : decide ((4294967296 : Int) ≤ (n : Int)) = false := by simp; omega
  have h5 : decide ((65536 : Int) ≤ (n : Int)) = false := by simp; omega
  have h6 : decide ((256 : Int) ≤ (n : Int)) = false := by simp; omega
  go_enter Ybad.func52, Ybad.ntmps52
  go_wp2_with fail
  go_ret
  exact ⟨_, rfl, rfl⟩
theorem len_bits_any (w : World) (n : Nat) (hn : n ≤ 12) : Calls Ybad.prog 37 #[.int .u64 (n : Int)] w fun e w' => ∃ k : Int, e = .returned (.int .i64 k) ∧ w' = w := by
  go_enter Ybad.func37, Ybad.ntmps37
  go_wp2_with (go_at_call 52; refine (len64_any _ n hn).mono ?_; rintro e w' ⟨k, rfl, rfl⟩)
  go_ret
  exact ⟨_, rfl, rfl⟩
/-- slices.Sort, at most 12 ints, each once -/
theorem sort_any (w : World) (K g n cap : Nat) (L0 : List Nat) (hn : n ≤ 12) (hpos : 0 < n) (hl : n = L0.length) (hd : L0.Nodup) (ho : w.ownsRow K 3 1 (.slice (some ⟨g, 0, none⟩) n cap) n (ints L0)) :
    Calls Ybad.prog 42 #[.slice (some ⟨g, 0, none⟩) n cap] w fun e w' => e = .returned (.tuple #[]) ∧ ∃ L, Asc L ∧ L.length = n ∧ (∀ x, x ∈ L ↔ x ∈ L0) ∧ w'.ownsRow K 3 1 (.slice (some ⟨g, 0, none⟩) n cap) n (ints L) ∧ Fr w w' [g] := by
  have HC : Hid (∀ lim : Int, Calls Ybad.prog 53 #[.slice (some ⟨g, 0, none⟩) n cap, .int .i64 0, .int .i64 (n : Int), .int .i64 lim] w fun e w' => e = .returned (.tuple #[]) ∧ ∃ L, Asc L ∧ L.length = n ∧ (∀ x, x ∈ L ↔ x ∈ L0) ∧ w'.ownsRow K 3 1 (.slice (some ⟨g, 0, none⟩) n cap) n (ints L) ∧ Fr w w' [g]) := fun lim => (pdq_any w K g n cap L0 lim hn hpos hl hd ho).mono (by
    rintro e w' ⟨rfl, L, h1, h2, h3, h4⟩
    exact ⟨rfl, L, h2.asc h1.len, h1.len, h1.mem hl.symm, h3, h4⟩)
  clear hl hd ho
  go_enter Ybad.func42, Ybad.ntmps42
  go_wp2_with (first | (go_at_call 37; refine (len_bits_any _ n hn).mono ?_; rintro e w' ⟨k, rfl, rfl⟩) | (go_at_call 53; refine (HC.out _).mono ?_; rintro e w' ⟨rfl, hr⟩))
  go_end0
  exact ⟨rfl, hr⟩
end Go.Proofs.YbulkdxbkDoor
