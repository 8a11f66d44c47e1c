import Derived.Test.YbulkdxeqBa
import Derived.LaidEql
namespace Go.Proofs.Ybulkdxeq
open Go.RowKit
set_option linter.unusedVariables false

theorem BytesAt.one {w : World} {v : Value} {s : ByteArray} (h : BytesAt w v s) : v.oneCell' = true := by
  obtain ⟨b, cap, cs, t, fr, rfl, _⟩ := h; rfl
/-- what put asks, off the built node -/
theorem Ph2.done {w wr : World} {v : Value} {L : List SE} {eg nb n : Nat} {br ub : Bool} {id : Int} {ES : List EE} (h : Ph2 w wr v L eg nb n n br ub id ES) {w1 : World} (hf : Fr wr w1 []) (hn : n = L.length) :
    w1.heap[nb]? = some (.cells #[.bool br, .int .u64 id, .slice (some ⟨eg, 0, none⟩) n n, .bool ub] 31 (0, 0)) ∧ w1.ownsRow w.heap.size 34 5 (.slice (some ⟨eg, 0, none⟩) n n) n (ES.flatMap cells5) ∧
      RowsAt nb w1 ES L ∧ KeyRow w1 ES (L.map (·.k)) ∧ (∀ e ∈ ES, e.k.oneCell' = true ∧ e.v.oneCell' = true) := by
  have old : ∀ c, c < wr.heap.size → w1.heap[c]? = wr.heap[c]? := fun c hc => hf.same c hc (by simp)
  have hrows : RowsAt nb w1 ES L := h.rows.keep fun c _ hc => old c hc
  refine ⟨(old nb (blk_lt' h.node)).trans h.node, ?_, hrows, ⟨by rw [h.len, hn]; simp, fun i e k he hk => ?_⟩, fun e he => ?_⟩
  · have := own_same (w' := w1) h.own fun b hb => old b (h.own.lt b hb).2
    simpa using this
  · rw [List.getElem?_map] at hk
    obtain ⟨l, hl, rfl⟩ := Option.map_eq_some_iff.1 hk
    exact (hrows i e l he hl).2.2.1.1
  · obtain ⟨i, hi, rfl⟩ := List.getElem_of_mem he
    have hl : i < L.length := by rw [← hn, ← h.len]; exact hi
    have := hrows i _ _ (List.getElem?_eq_getElem hi) (List.getElem?_eq_getElem hl)
    exact ⟨this.2.2.1.1.one, this.2.2.2.1.one⟩

/-- an entry that reads as wanted -/
def Reads (w : World) (e : EE) (l : SE) : Prop := e.f = l.f ∧ e.c = l.c ∧ BytesAt w e.k l.k ∧ BytesAt w e.v l.v
/-- the two rows, entry for entry -/
theorem rows_after {lo : Nat} {w : World} {ES ES' : List EE} {L : List SE} {i st : Nat} {new : EE} {nl : SE} {fnd : Bool} (hr : RowsAt lo w ES L) (hlen : ES.length = L.length) (hi : i ≤ L.length) (hnew : Reads w new nl)
    (hst : st = if fnd then i + 1 else i) (hf : fnd = true → i < L.length) (h : (fnd = true ∧ ES' = ES.set i new) ∨ (fnd = false ∧ ES' = ES.take i ++ new :: ES.drop i)) :
    ES'.length = (L.take i ++ nl :: L.drop st).length ∧ ∀ (q : Nat) (e : EE) (l : SE), ES'[q]? = some e → (L.take i ++ nl :: L.drop st)[q]? = some l → Reads w e l := by
  have base : ∀ (q : Nat) (e : EE) (l : SE), ES[q]? = some e → L[q]? = some l → Reads w e l := fun q e l he hl => by
    obtain ⟨h1, h2, ⟨h3, _⟩, h4, _⟩ := hr q e l he hl
    exact ⟨h1, h2, h3, h4⟩
  have hmin : (L.take i).length = i := by rw [List.length_take]; omega
  have hmin' : (ES.take i).length = i := by rw [List.length_take]; omega
  rcases h with ⟨hb, rfl⟩ | ⟨hb, rfl⟩
  · subst hb
    simp only [if_true] at hst
    subst hst
    have hil := hf rfl
    refine ⟨by simp [hlen]; omega, fun q e l he hl => ?_⟩
    rw [List.getElem?_set] at he
    by_cases hq : i = q
    · subst hq
      rw [if_pos rfl] at he
      split at he
      · cases he
        rw [List.getElem?_append_right (by omega), hmin, Nat.sub_self] at hl
        simp at hl; subst hl
        exact hnew
      · cases he
    · rw [if_neg hq] at he
      refine base q e l he ?_
      by_cases hlt : q < i
      · rw [List.getElem?_append_left (by omega), List.getElem?_take_of_lt hlt] at hl; exact hl
      · rw [List.getElem?_append_right (by omega), hmin] at hl
        obtain ⟨m, hm⟩ : ∃ m, q - i = m + 1 := ⟨q - i - 1, by omega⟩
        rw [hm, List.getElem?_cons_succ, List.getElem?_drop] at hl
        rw [show q = i + 1 + m by omega]; exact hl
  · subst hb
    simp only [Bool.false_eq_true, if_false] at hst
    subst hst
    refine ⟨by simp [hlen], fun q e l he hl => ?_⟩
    by_cases hlt : q < st
    · rw [List.getElem?_append_left (by omega), List.getElem?_take_of_lt hlt] at hl he
      exact base q e l he hl
    · rw [List.getElem?_append_right (by omega), hmin] at hl
      rw [List.getElem?_append_right (by omega), hmin'] at he
      by_cases hq : q = st
      · rw [hq, Nat.sub_self] at hl he
        simp at hl he; subst hl he
        exact hnew
      · obtain ⟨m, hm⟩ : ∃ m, q - st = m + 1 := ⟨q - st - 1, by omega⟩
        rw [hm, List.getElem?_cons_succ, List.getElem?_drop] at hl he
        exact base _ e l he hl
theorem Reads.grown {w w' : World} {e : EE} {l : SE} (h : Reads w e l) (hf : ∀ c, c < w.heap.size → w'.heap[c]? = w.heap[c]?) : Reads w' e l := ⟨h.1, h.2.1, h.2.2.1.grown hf, h.2.2.2.grown hf⟩
theorem info5 : (Yba.prog.info? 5).isSome = true := by kernel_rfl
theorem neq39 (a : Addr) (w : World) : (binOp .neq 39 (.pointer (some a)) (.pointer (some a))).run Yba.prog w = .ok (.bool false) w := by
  obtain ⟨j, hj⟩ := Option.isSome_iff_exists.1 info5
  have h : ∀ d : Nat, (Op.equalIn (d + 1) 39 (.pointer (some a)) (.pointer (some a))).run Yba.prog w = .ok true w := fun d => by
    simp [Op.equalIn, run_underlying Yba.underlying39, sizeOf, typeInfo, hj, run_sameAddr_same]
  simp only [binOp]
  simp [Op.equal, Op.maxDepth, h 9999]
theorem index32z {b n c : Nat} (h : 0 < n) (w : World) : (Instr.indexAt 32 (.slice (some ⟨b, 0, none⟩) n c) (.int .i64 0)).run Yba.prog w = .ok (.pointer (some ⟨b, 0, none⟩)) w := by
  simp [Instr.indexAt, run_underlying Yba.underlying32, asIntOf, h, Addr.add]
/-- after put: everything that the law then asks -/
structure Aft (w wx wp : World) (nb g' n' cap' gz capz : Nat) (br ub : Bool) (id : Int) (ES' : List EE) (WL : List SE) (kv vv : Value) (key value : ByteArray) (i : Nat) (flags : Int) : Prop where
  node : wp.heap[nb]? = some (.cells #[.bool br, .int .u64 id, .slice (some ⟨g', 0, none⟩) n' cap', .bool ub] 31 (0, 0))
  own : wp.ownsRow w.heap.size 34 5 (.slice (some ⟨g', 0, none⟩) n' cap') n' (ES'.flatMap cells5)
  len : ES'.length = n'
  wlen : WL.length = n'
  want : wp.ownsRow wx.heap.size 37 4 (.slice (some ⟨gz, 0, none⟩) n' capz) n' (WL.flatMap cells4)
  rd : ∀ (q : Nat) (e : EE) (l : SE), ES'[q]? = some e → WL[q]? = some l → Reads wp e l
  at_ : ES'[i]? = some ⟨flags, kv, vv, 0⟩
  kb : BytesAt wp kv key
  vb : BytesAt wp vv value
  bel : Below w.heap.size w wp
theorem aft_of {w wx wv wp : World} {v : Value} {L : List SE} {eg nb n i st gz capz : Nat} {br ub fnd : Bool} {id flags : Int} {ES : List EE} {kv vv : Value} {key value : ByteArray}
    (hp : Ph2 w wx v L eg nb n n br ub id ES) (hn : n = L.length) (hf : Fr wx wv []) (hsp : Spot (L.map (·.k)) key i) (hfnd : fnd = true ↔ (L.map (·.k))[i]? = some key) (hst : st = if fnd then i + 1 else i)
    (hwant : wv.ownsRow wx.heap.size 37 4 (.slice (some ⟨gz, 0, none⟩) (L.take i ++ ⟨flags, key, value, 0⟩ :: L.drop st).length capz) (L.take i ++ ⟨flags, key, value, 0⟩ :: L.drop st).length ((L.take i ++ ⟨flags, key, value, 0⟩ :: L.drop st).flatMap cells4))
    (hk : BytesAt wv kv key) (hkh : Hi nb kv) (hv : BytesAt wv vv value) (hvh : Hi nb vv)
    (hd : PutDone wv wp nb eg w.heap.size br ub id ES (L.map (·.k)) key ⟨flags, kv, vv, 0⟩) :
    ∃ g' n' cap' ES', Aft w wx wp nb g' n' cap' gz capz br ub id ES' (L.take i ++ ⟨flags, key, value, 0⟩ :: L.drop st) kv vv key value i flags := by
  obtain ⟨⟨j, g', n', cap', ES', hsp', hES, hnode, hown, hlen⟩, hfr⟩ := hd
  obtain rfl := hsp.uniq hsp'
  obtain ⟨_, _, hrows, _, _⟩ := hp.done hf hn
  have lt2 := hp.lt2
  have hnbz : nb < wx.heap.size := blk_lt' hp.node
  have hfs := hf.size
  have keep : ∀ c, nb < c → c < wv.heap.size → wp.heap[c]? = wv.heap[c]? := fun c h1 h2 => hfr.same c h2 (by simp; omega)
  have hrows' : RowsAt nb wp ES L := hrows.keep keep
  have hk' : BytesAt wp kv key := hk.same fun b len cap e => keep b (hkh b len cap e) (hk.lt b len cap e)
  have hv' : BytesAt wp vv value := hv.same fun b len cap e => keep b (hvh b len cap e) (hv.lt b len cap e)
  have hel : ES.length = L.length := by rw [hp.len, hn]
  have hile : i ≤ L.length := by have := hsp.le; simpa using this
  have hfi : fnd = true → i < L.length := fun h => by have := (List.getElem?_eq_some_iff.1 (hfnd.1 h)).1; simpa using this
  have hcase : (fnd = true ∧ ES' = ES.set i ⟨flags, kv, vv, 0⟩) ∨ (fnd = false ∧ ES' = ES.take i ++ ⟨flags, kv, vv, 0⟩ :: ES.drop i) := by
    rcases hES with ⟨h1, h2⟩ | ⟨h1, h2⟩
    · exact .inl ⟨hfnd.2 h1, h2⟩
    · refine .inr ⟨?_, h2⟩
      cases hb : fnd with
      | false => rfl
      | true => exact absurd (hfnd.1 hb) h1
  obtain ⟨hl, hrd⟩ := rows_after (nl := ⟨flags, key, value, 0⟩) hrows' hel hile (⟨rfl, rfl, hk', hv'⟩ : Reads wp ⟨flags, kv, vv, 0⟩ ⟨flags, key, value, 0⟩) hst hfi hcase
  have hat : ES'[i]? = some ⟨flags, kv, vv, 0⟩ := by
    rcases hcase with ⟨h1, rfl⟩ | ⟨h1, rfl⟩
    · rw [List.getElem?_set, if_pos rfl, if_pos (by rw [hel]; exact hfi h1)]
    · exact mid_get _ _ _ (by rw [hel]; exact hile)
  have hw : wp.ownsRow wx.heap.size 37 4 (.slice (some ⟨gz, 0, none⟩) n' capz) n' ((L.take i ++ ⟨flags, key, value, 0⟩ :: L.drop st).flatMap cells4) := by
    have := own_same (w' := wp) hwant fun b hb => keep b (by have := (hwant.lt b hb).1; omega) (hwant.lt b hb).2
    rw [← hl, hlen] at this; exact this
  refine ⟨g', n', cap', ES', hnode, hown, hlen, by rw [← hl, hlen], hw, hrd, hat, hk', hv', ?_⟩
  have hge : w.heap.size ≤ eg := (hp.own.lt eg rfl).1
  exact hfr.below (fun c hc => by simp at hc; omega) (hf.below (by simp) hp.bel hp.bel.size) (by have := hp.bel.size; omega)
end Go.Proofs.Ybulkdxeq
