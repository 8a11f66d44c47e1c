import Derived.Test.YbulkdxeqRows
import Derived.WalkKit
import Derived.WalkSpells
import Derived.Lib.Strings
import Derived.Lib.Slices
import Derived.Lib.Walk
import Derived.Lib.Bytealg
import Derived.Lib.ConvBytes
import Derived.Laws.BytesArg
import Derived.Deep.AppendLies
import Derived.BigQuiet
import Derived.Lib.BytesEntry
import Derived.Laws.IdiomStrings
import Derived.Handy
import Derived.Outline
namespace Go.Proofs.Ybulkdxeq
open Go.RowKit
set_option linter.unusedVariables false

set_option maxHeartbeats 1000000 in
set_option maxRecDepth 100000 in
theorem compareString (a b : ByteArray) (w : World) :
    Calls Yba.prog 10 #[.string a, .string b] w fun e w' => e = .returned (.int .i64 (Lib.compareBytes a.data.toList b.data.toList)) ∧ w' = w := by
  go_enter Yba.func10, Yba.ntmps10
  go_wp2
  rw [run_callFunc_extern Yba.func12 (by kernel_rfl) (by kernel_rfl) (by kernel_rfl) (e := Extern.BytealgCompare.compare) (by kernel_rfl), Lib.run_compareString]
  simp only [Result.andThen]
  rw [Oper.upon_value]
  go_wp2
  go_ret
  exact ⟨rfl, rfl⟩
theorem stringsCompare (a b : ByteArray) (w : World) :
    Calls Yba.prog 5 #[.string a, .string b] w fun e w' => e = .returned (.int .i64 (Lib.compareBytes a.data.toList b.data.toList)) ∧ w' = w := by
  go_enter Yba.func5, Yba.ntmps5
  go_wp2_with (go_at_call 10; refine (compareString _ _ _).mono ?_; rintro e w' ⟨rfl, rfl⟩)
  go_ret
  exact ⟨rfl, rfl⟩

/-! ### A []byte of the law's own -/
def BytesAt (w : World) (v : Value) (s : ByteArray) : Prop :=
  ∃ b cap cs t fr, v = .slice (some ⟨b, 0, none⟩) s.size cap ∧ w.heap[b]? = some (.cells cs t fr) ∧ ∀ j (h : j < s.data.toList.length), cs[j]? = some (.int .u8 (s.data.toList[j].toNat : Int))
theorem add0 (b j : Nat) : (⟨b, 0, none⟩ : Addr).add j = ⟨b, j, none⟩ := by unfold Addr.add; split <;> simp_all
theorem size_len (s : ByteArray) : s.size = s.data.toList.length := rfl
theorem BytesAt.cell {w : World} {b cap : Nat} {s : ByteArray} (h : BytesAt w (.slice (some ⟨b, 0, none⟩) s.size cap) s) : ∀ j (hj : j < s.data.toList.length), w.cell? ((⟨b, 0, none⟩ : Addr).add j) = some (.int .u8 (s.data.toList[j].toNat : Int)) := by
  obtain ⟨b', cap', cs, t, fr, hv, h1, h2⟩ := h
  cases hv
  intro j hj
  rw [add0]
  simp only [World.cell?, h1]
  exact h2 j hj
theorem BytesAt.conv {w : World} {v : Value} {s : ByteArray} (h : BytesAt w v s) : (convert 32 9 v).run Yba.prog w = .ok (.string s) w := by
  have h' := h
  obtain ⟨b, cap, cs, t, fr, rfl, h1, h2⟩ := h
  have := run_convert_bytes_back (P := Yba.prog) w 32 9 5 ⟨b, 0, none⟩ cap s.data.toList Yba.underlying32 Yba.underlying5 Yba.underlying9 h'.cell
  exact this
theorem BytesAt.bytes {w : World} {v : Value} {s : ByteArray} (h : BytesAt w v s) : (Extern.Bytes.bytesOf v).run Yba.prog w = .ok s w := by
  have h' := h
  obtain ⟨b, cap, cs, t, fr, rfl, h1, h2⟩ := h
  have := Lib.run_loadBytesX (P := Yba.prog) w (s.data.toList.map (fun x => (x.toNat : Int))) ⟨b, 0, none⟩ .empty (fun j x hj => by
    have hlt : j < s.data.toList.length := by have := (List.getElem?_eq_some_iff.1 hj).1; simpa using this
    rw [h'.cell j hlt]
    rw [List.getElem?_map, List.getElem?_eq_getElem hlt] at hj
    simp only [Option.map_some, Option.some.injEq] at hj
    rw [hj])
  simp only [List.length_map] at this
  refine Eq.trans this ?_
  congr 1
  have e : Lib.bytesOf (s.data.toList.map (fun x => (x.toNat : Int))) = s.data.toList := by
    simp [Lib.bytesOf, Function.comp_def]
  rw [e]
  show (⟨#[] ++ s.data.toList.toArray⟩ : ByteArray) = s
  simp
theorem BytesAt.same {w w' : World} {v : Value} {s : ByteArray} (h : BytesAt w v s) (hk : ∀ b len cap, v = .slice (some ⟨b, 0, none⟩) len cap → w'.heap[b]? = w.heap[b]?) : BytesAt w' v s := by
  obtain ⟨b, cap, cs, t, fr, rfl, h1, h2⟩ := h
  exact ⟨b, cap, cs, t, fr, rfl, (hk _ _ _ rfl).trans h1, h2⟩
theorem run_compareBoth {w : World} {v1 v2 : Value} {a b : ByteArray} (h1 : BytesAt w v1 a) (h2 : BytesAt w v2 b) :
    (Extern.BytealgCompare.compare #[v1, v2]).run Yba.prog w = .ok (.int .i64 (Lib.compareBytes a.data.toList b.data.toList)) w := by
  change Sem.run Yba.prog (do pure (goInt (Extern.BytealgCompare.cmp (← Extern.Bytes.bytesOf v1) (← Extern.Bytes.bytesOf v2)))) w = _
  simp only [Sem.run_bind, h1.bytes, h2.bytes, Sem.run_pure, Result.andThen]
  rw [Lib.cmp_eq]
  rfl
set_option maxHeartbeats 1000000 in
set_option maxRecDepth 100000 in
theorem bytesCompare (v1 v2 : Value) (a b : ByteArray) (w : World) (h1 : BytesAt w v1 a) (h2 : BytesAt w v2 b) :
    Calls Yba.prog 15 #[v1, v2] w fun e w' => e = .returned (.int .i64 (Lib.compareBytes a.data.toList b.data.toList)) ∧ w' = w := by
  have hr := run_compareBoth h1 h2
  clear h1 h2
  go_enter Yba.func15, Yba.ntmps15
  go_wp2
  rw [run_callFunc_extern Yba.func17 (by kernel_rfl) (by kernel_rfl) (by kernel_rfl) (e := Extern.BytealgCompare.compare) (by kernel_rfl), hr]
  simp only [Result.andThen]
  rw [Oper.upon_value]
  go_wp2
  go_ret
  exact ⟨rfl, rfl⟩
theorem bytesEqual (v1 v2 : Value) (a b : ByteArray) (w : World) (h1 : BytesAt w v1 a) (h2 : BytesAt w v2 b) :
    Calls Yba.prog 16 #[v1, v2] w fun e w' => e = .returned (.bool (a.toList == b.toList)) ∧ w' = w := by
  have c1 := h1.conv
  have c2 := h2.conv
  clear h1 h2
  go_enter Yba.func16, Yba.ntmps16
  go_wp2
  go_ret
  exact ⟨rfl, rfl⟩
end Go.Proofs.Ybulkdxeq
