import Derived.Test.YbulkdxbkDoorKi
namespace Go.Proofs.YbulkdxbkDoor
open Go.RowKit
set_option linter.unusedVariables false
set_option linter.unusedSectionVars false

section
variable {w0 w w2 : World} {wv0 kv0 : Value} {B K cb gb mk m : Nat} {nf : Bool} {sv rv : Value} {b1 b2 nw nu : Nat} {wo : Option Addr} {wc : Nat} {od : Bool} {ko : Option Addr} {kc : Nat} {BL UL WL KL : List Nat}
/-- the blocks' list, sorted in place -/
theorem SB.kRow {gk : Nat} (h : SB w0 wv0 kv0 B K cb gb mk m nf sv rv b1 b2 nw nu w wo wc od (some ⟨gk, 0, none⟩) kc BL UL WL KL) {K2 : List Nat} (hl : K2.length = KL.length)
    (ho : w2.ownsRow K 3 1 (.slice (some ⟨gk, 0, none⟩) KL.length kc) KL.length (ints K2)) (hf : Fr w w2 [gk]) : SB w0 wv0 kv0 B K cb gb mk m nf sv rv b1 b2 nw nu w2 wo wc od (some ⟨gk, 0, none⟩) kc BL UL WL K2 := by
  have hg := (h.kown.lt gk rfl).1
  have hc2 := h.c2
  have hl1 := h.l1
  have hl2 := h.l2
  have hn : ∀ c, c < K → c ∉ [gk] := fun c hc hm => by simp at hm; omega
  refine ⟨by rw [hl]; exact hf.blk h.blk (hn cb hc2), hf.own h.bits (fun b hb => by cases hb; exact hn b1 hl1), hf.own h.use (fun b hb => by cases hb; exact hn b2 hl2), hf.own h.wown (fun b hb hm => ?_), by rw [hl]; exact ho, h.c1, h.c2, h.l1, h.l2, h.n1, h.n2, h.n3, Nat.le_trans h.kw hf.size, by rw [hl]; exact h.dis, h.fr.then hf (fun c hc => ?_), h.mw, by rw [hl]; exact h.mk2⟩
  · simp at hm; subst hm; exact h.dis b hb rfl
  · simp at hc; subst hc
    rcases h.mk2 c rfl with h1 | h1
    · exact .inl (by simp [sbS, mem_blks.2 h1])
    · exact .inr h1
theorem SB.tab (h : SB w0 wv0 kv0 B K cb gb mk m nf sv rv b1 b2 nw nu w wo wc od ko kc BL UL WL KL) (hT : TabAt w0) (h3 : 3 ∉ sbS cb b1 b2 wv0 kv0) : TabAt w := fun i x hx => h.fr.cell (hT i x hx) h3
end
theorem tab_fr {w w' : World} {S : List Nat} (hf : Fr w w' S) (hT : TabAt w) (h3 : 3 ∉ S) : TabAt w' := fun i x hx => hf.cell (hT i x hx) h3
theorem asc_take {L : List Nat} (h : Asc L) (t : Nat) : Asc (L.take t) := h.sublist (List.take_sublist t L)
theorem and_pred_u64 {x k m : Nat} (e : x = 2 ^ k * (2 * m + 1)) (hx : x < 18446744073709551616) : bits BinOp.and IntKind.u64 (x : Int) (IntKind.u64.wrap ((x : Int) - 1)) = ((2 ^ k * (2 * m) : Nat) : Int) := by
  have h0 : 0 < x := by rw [e]; exact Nat.mul_pos (Nat.two_pow_pos k) (by omega)
  have hw1 : IntKind.u64.wrap ((x : Int) - 1) = ((x - 1 : Nat) : Int) := by simp [IntKind.wrap, IntKind.signed, IntKind.bits]; omega
  rw [hw1, bits_and_u64_nat x (x - 1) hx (by omega), e, and_pred]
/-- a call of TrailingZeros64, in a region that draws -/
theorem step_tz {ops : Array Oper} {o : Oper} {a : Act} {w1 : World} {K' : Act → World → Prop} {Q : Exit → Act → World → Prop} {E : Prop} (hgd : o.guard = none) (x : Operand)
    (ho : o.op = .call { callee := .value (.func 33), args := #[x], argTypes := #[79] }) (hf : a.eval (.func 33) = .func (.func 33) #[] #[]) {n k m : Nat} (hx : a.eval x = .int .u64 (n : Int)) (e : n = 2 ^ k * (2 * m + 1)) (hn : n < 18446744073709551616) (hT : TabAt w1)
    (h : K' (a.put o.dst (.int .i64 (k : Int))) w1) : if Region.wanted o (yielded ops a.tmps) = true then Oper.wp Ybad.prog o a w1 K' Q else E := by
  have hw : Region.wanted o (yielded ops a.tmps) = true := by simp [Region.wanted, hgd]
  rw [if_pos hw]
  have hc := tz_any w1 n k m e hn hT
  unfold Oper.wp execOp
  simp [ho, resolve, invoke, Deferred.ofValue, hx, hf]
  rw [Oper.upon_enter]
  refine hc.mono ?_
  rintro e w' ⟨rfl, rfl⟩
  exact h
end Go.Proofs.YbulkdxbkDoor
