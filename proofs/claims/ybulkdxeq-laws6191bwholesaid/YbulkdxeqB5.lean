import Derived.Test.YbulkdxeqB4
import Derived.Lib.SlicesS
namespace Go.Proofs.Ybulkdxeq
open Go.RowKit
set_option linter.unusedVariables false

structure EE where
  (f : Int) (k v : Value) (c : Int)
def cells5 (e : EE) : List Value := [.int .u32 e.f, e.k, e.v, .int .u64 e.c, .pointer none]
theorem len5 (e : EE) : (cells5 e).length = 5 := rfl
def KeyRow (w : World) (ES : List EE) (KS : List ByteArray) : Prop := ES.length = KS.length ∧ ∀ (i : Nat) (e : EE) (k : ByteArray), ES[i]? = some e → KS[i]? = some k → BytesAt w e.k k
theorem heap_new (w : World) (o : Obj) : (w.alloc o).heap[w.heap.size]? = some o := heap_alloc_new w o
theorem heap_old (w : World) (o : Obj) {c : Nat} (h : c < w.heap.size) : (w.alloc o).heap[c]? = w.heap[c]? := Below.heap_alloc w o c h
theorem cell_of {w w' : World} {b o : Nat} {v : Value} (h : w.cell? ⟨b, o, none⟩ = some v) (hk : w'.heap[b]? = w.heap[b]?) : w'.cell? ⟨b, o, none⟩ = some v := by
  simp only [World.cell?] at *; rw [hk]; exact h
theorem cell_lt {w : World} {b o : Nat} {v : Value} (h : w.cell? ⟨b, o, none⟩ = some v) : b < w.heap.size := by
  simp only [World.cell?] at h
  by_cases hb : b < w.heap.size
  · exact hb
  · rw [Array.getElem?_eq_none (by omega)] at h; simp at h
theorem BytesAt.lt {w : World} {v : Value} {s : ByteArray} (h : BytesAt w v s) : ∀ b len cap, v = .slice (some ⟨b, 0, none⟩) len cap → b < w.heap.size := by
  obtain ⟨b, cap, cs, t, fr, rfl, h1, h2⟩ := h
  intro b' len cap' e
  cases e
  exact (Array.getElem?_eq_some_iff.1 h1).1
theorem BytesAt.grown {w w' : World} {v : Value} {s : ByteArray} (h : BytesAt w v s) (hk : ∀ c, c < w.heap.size → w'.heap[c]? = w.heap[c]?) : BytesAt w' v s :=
  h.same fun b len cap e => hk b (h.lt b len cap e)

set_option maxHeartbeats 2000000 in
theorem search_node (w : World) (nb g n cap base : Nat) (ES : List EE) (KS : List ByteArray) (kv : Value) (key : ByteArray)
    (c2 : w.cell? ⟨nb, 2, none⟩ = some (.slice (some ⟨g, 0, none⟩) n cap)) (own : w.ownsRow base 34 5 (.slice (some ⟨g, 0, none⟩) n cap) n (ES.flatMap cells5)) (hn : ES.length = n)
    (hK : KeyRow w ES KS) (asc : Asc KS) (hkv : BytesAt w kv key) (hsz : n ≤ 4096) :
    Calls Yba.prog 11 #[.pointer (some ⟨nb, 0, none⟩), kv] w fun e w' => ∃ (j q : Nat) (fnd : Bool), e = .returned (.tuple #[.int .i64 (j : Int), .bool fnd]) ∧
      w' = ((w.alloc (.cells #[.pointer (some ⟨nb, 0, none⟩)] 28)).alloc (.cells #[kv] 32)).drewN q ∧ Spot KS key j ∧ (fnd = true ↔ KS[j]? = some key) := by
  obtain ⟨kb, kcap, rfl⟩ : ∃ kb kcap, kv = .slice (some ⟨kb, 0, none⟩) key.size kcap := by obtain ⟨b, cap, _, _, _, h, _⟩ := hkv; exact ⟨b, cap, h⟩
  generalize hks : key.size = ks at *
  obtain ⟨kv, hkvv⟩ : ∃ kv, kv = Value.slice (some ⟨kb, 0, none⟩) ks kcap := ⟨_, rfl⟩
  rw [← hkvv] at hkv ⊢
  obtain ⟨W, hW⟩ : ∃ W, W = (w.alloc (.cells #[.pointer (some ⟨nb, 0, none⟩)] 28)).alloc (.cells #[kv] 32) := ⟨_, rfl⟩
  have hold : ∀ c, c < w.heap.size → W.heap[c]? = w.heap[c]? := fun c hc => by rw [hW]; exact (heap_old _ _ (by simp; omega)).trans (heap_old _ _ hc)
  have b1 : W.cell? ⟨w.heap.size, 0, none⟩ = some (.pointer (some ⟨nb, 0, none⟩)) := by
    have : W.heap[w.heap.size]? = some (.cells #[.pointer (some ⟨nb, 0, none⟩)] 28) := by rw [hW]; exact (heap_old _ _ (by simp)).trans (heap_new _ _)
    simp [World.cell?, this]
  have b2 : W.cell? ⟨w.heap.size + 1, 0, none⟩ = some kv := by
    have : W.heap[w.heap.size + 1]? = some (.cells #[kv] 32) := by
      rw [hW]
      have := heap_new (w.alloc (.cells #[.pointer (some ⟨nb, 0, none⟩)] 28)) (.cells #[kv] 32)
      rwa [show (w.alloc (.cells #[.pointer (some ⟨nb, 0, none⟩)] 28)).heap.size = w.heap.size + 1 by simp] at this
    simp [World.cell?, this]
  have b3 : W.cell? ⟨nb, 2, none⟩ = some (.slice (some ⟨g, 0, none⟩) n cap) := cell_of c2 (hold _ (cell_lt c2))
  have ownW : W.ownsRow base 34 5 (.slice (some ⟨g, 0, none⟩) n cap) n (ES.flatMap cells5) := own_same own fun b hb => hold b (own.lt b hb).2
  have hkvW := hkv.grown hold
  obtain ⟨p, hp⟩ : ∃ p : Nat → Bool, ∀ i k, KS[i]? = some k → p i = decide (0 ≤ Lib.compareBytes k.data.toList key.data.toList) :=
    ⟨fun i => match KS[i]? with | some k => decide (0 ≤ Lib.compareBytes k.data.toList key.data.toList) | none => false, fun i k h => by simp [h]⟩
  have hKl : KS.length = n := by rw [← hK.1, hn]
  have hS := search_any #[.pointer (some ⟨w.heap.size, 0, none⟩), .pointer (some ⟨w.heap.size + 1, 0, none⟩)] n p W (by omega) (fun m i hi => by
      have he : ES[i]? = some ES[i] := List.getElem?_eq_getElem (by omega)
      have hk : KS[i]? = some KS[i] := List.getElem?_eq_getElem (by omega)
      have hc3 : W.cell? ⟨g, i * 5 + 1, none⟩ = some ES[i].k := own_cell ownW (by rw [flat_get len5 ES i 1 _ he (by omega)]; rfl)
      have := closure_any (W.drewN m) w.heap.size (w.heap.size + 1) nb g n cap i ES[i].k kv KS[i] key hi b1 b3 hc3 b2 (((hK.2 i _ _ he hk).grown hold).drewN m) (hkvW.drewN m)
      rw [hp i _ hk]
      exact this) (fun a b hab hb ha => by
      have hka : KS[a]? = some KS[a] := List.getElem?_eq_getElem (by omega)
      have hkb : KS[b]? = some KS[b] := List.getElem?_eq_getElem (by omega)
      rw [hp a _ hka] at ha
      rw [hp b _ hkb]
      by_cases e : a = b
      · subst e; exact ha
      · have hlt := (List.pairwise_iff_getElem.1 asc) a b (by omega) (by omega) (by omega)
        have ha' : ¬ Lt KS[a] key := by unfold Lt; simp at ha; omega
        have : ¬ Lt KS[b] key := fun h => ha' (hlt.trans h)
        unfold Lt at this; simp; omega)
  have HS : Hid (Calls Yba.prog 13 #[.int .i64 (n : Int), .func (.func 14) #[] #[.pointer (some ⟨w.heap.size, 0, none⟩), .pointer (some ⟨w.heap.size + 1, 0, none⟩)]] W fun e w' => ∃ j q : Nat, e = .returned (.int .i64 (j : Int)) ∧ w' = W.drewN q ∧ j ≤ n ∧ (∀ t, t < j → p t = false) ∧ (∀ t, j ≤ t → t < n → p t = true)) := hS
  have HKW : Hid (∀ (i : Nat) (e : EE) (k : ByteArray), ES[i]? = some e → KS[i]? = some k → BytesAt W e.k k) := (fun i e k he hk => (hK.2 i e k he hk).grown hold)
  have HOW : Hid (W.ownsRow base 34 5 (.slice (some ⟨g, 0, none⟩) n cap) n (ES.flatMap cells5)) := ownW
  have HKV : Hid (BytesAt W kv key) := hkvW
  have HP : Hid (∀ i k, KS[i]? = some k → p i = decide (0 ≤ Lib.compareBytes k.data.toList key.data.toList)) := hp
  have HN : Hid (ES.length = n ∧ KS.length = n) := ⟨hn, hKl⟩
  have HW : Hid (W = (w.alloc (.cells #[.pointer (some ⟨nb, 0, none⟩)] 28)).alloc (.cells #[kv] 32)) := hW
  have hz : w.heap.size ≠ nb := by have := cell_lt c2; omega
  have hz2 : nb < w.heap.size := cell_lt c2
  clear hS own ownW hK hkv hkvW hp hn hKl asc hold hks
  subst hkvv
  go_enter Yba.func11, Yba.ntmps11
  go_wp2_with fail
  rw [← HW.out]
  refine HS.out.mono ?_
  rintro e w1 ⟨j, q, rfl, rfl, hj, hlo, hhi⟩
  have hspot : Spot KS key j := by
    refine ⟨by rw [HN.out.2]; exact hj, fun t k ht hk => ?_, fun t k ht hk => ?_⟩
    · have := hlo t ht
      rw [HP.out t k hk] at this
      unfold Lt; simpa using this
    · have hl : t < n := by rw [← HN.out.2]; exact (List.getElem?_eq_some_iff.1 hk).1
      have := hhi t ht hl
      rw [HP.out t k hk] at this
      unfold Lt; simpa using this
  have HSP : Hid (Spot KS key j) := hspot
  clear hspot hlo hhi c2 hW
  by_cases hjn : j < n
  · have hjn' : decide ((j : Int) < (n : Int)) = true := by simp; exact hjn
    obtain ⟨ej, he⟩ : ∃ e, ES[j]? = some e := ⟨_, List.getElem?_eq_getElem (by rw [HN.out.1]; exact hjn)⟩
    obtain ⟨kj, hk⟩ : ∃ e, KS[j]? = some e := ⟨_, List.getElem?_eq_getElem (by rw [HN.out.2]; exact hjn)⟩
    have hc3 : W.cell? ⟨g, j * 5 + 1, none⟩ = some ej.k := own_cell HOW.out (by rw [flat_get len5 ES j 1 _ he (by omega)]; rfl)
    have hx := index29 (g := g) (cap := cap) hjn
    have HR : Hid (((kj.toList == key.toList) = true ↔ KS[j]? = some key)) := by
      show _ ↔ _
      rw [hk, Lib.bytes_beq_iff]
      simp
    have HBE : Hid (BytesAt W ej.k kj) := HKW.out j _ _ he hk
    generalize ej.k = kvj at *
    clear he hk
    go_wp2_with fail
    go_quiet ((go_at_call 16; refine (bytesEqual _ _ kj key _ (HBE.out.drewN _) (HKV.out.drewN _)).mono ?_; rintro e w' ⟨rfl, rfl⟩; exact ⟨rfl, _, rfl⟩))
    go_wp2_with fail
    go_ret2
    exact ⟨j, q + nq, (kj.toList == key.toList), rfl, by rw [← HW.out]; simp, HSP.out, HR.out⟩
  · have hjn' : decide ((j : Int) < (n : Int)) = false := by simp; omega
    go_wp2_with fail
    go_quiet (fail)
    go_wp2_with fail
    go_ret2
    refine ⟨j, q + nq, false, rfl, by rw [← HW.out]; simp, HSP.out, ⟨(fun h => by cases h), fun h => ?_⟩⟩
    have := (List.getElem?_eq_some_iff.1 h).1
    rw [HN.out.2] at this; omega
end Go.Proofs.Ybulkdxeq
