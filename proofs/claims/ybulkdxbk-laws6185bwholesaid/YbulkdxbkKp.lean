import Derived.Test.YbulkdxbkKo
namespace Go.Proofs.Ybulkdxbk
open Go.RowKit
set_option linter.unusedVariables false

/-- the runner, whichever way -/
def Run (wC w : World) (NL : List (List Nat)) (n ab gb cb mk rb : Nat) : Prop := Fr wC w [] ∧
  ((hasNull NL = true ∧ ∃ K cnf x5 x6 x7 x8 x9 fv stv sev so sn sc ro rn rc tt tn tc R, RunA wC w K cb gb mk n ab rb cnf x5 x6 x7 x8 x9 fv stv sev (.slice so sn sc) (.slice ro rn rc) (.slice tt tn tc) R ∧ sev = .slice none 0 0) ∨
   (hasNull NL = false ∧ ∃ sk fv stv tv, RunB wC w cb gb mk n ab rb sk fv stv tv))
theorem Run.keep {wC w w' : World} {NL : List (List Nat)} {n ab gb cb mk rb : Nat} (h : Run wC w NL n ab gb cb mk rb) (hf : Fr w w' []) : Run wC w' NL n ab gb cb mk rb := by
  refine ⟨h.1.trans hf, ?_⟩
  rcases h.2 with ⟨hn, K, cnf, x5, x6, x7, x8, x9, fv, stv, sev, so, sn, sc, ro, rn, rc, tt, tn, tc, R, hA, hs⟩ | ⟨hn, sk, fv, stv, tv, hB⟩
  · exact .inl ⟨hn, K, cnf, x5, x6, x7, x8, x9, fv, stv, sev, so, sn, sc, ro, rn, rc, tt, tn, tc, R, hA.keep hf (by simp), hs⟩
  · exact .inr ⟨hn, sk, fv, stv, tv, hB.keep hf (by simp) (hf.own hB.seen (by simp))⟩
theorem Run.view {wC w : World} {NL : List (List Nat)} {n ab gb cb mk rb : Nat} (h : Run wC w NL n ab gb cb mk rb) :
    (∃ (o : Option Addr) (m b : Nat), m ≤ n ∧ w.cell? ⟨rb, 6, none⟩ = some (.slice o m m) ∧ (0 < m → o = some ⟨b, 0, none⟩) ∧ ∀ i, i < m → w.cell? ⟨b, i, none⟩ = some (.bool false)) ∧
    w.cell? ⟨rb, 2, none⟩ = some (.pointer (some ⟨cb, 0, none⟩)) ∧ w.cell? ⟨cb, 2, none⟩ = some (.slice (some ⟨mk, 0, none⟩) n n) ∧ ∀ i, i < n → w.cell? ⟨mk, i, none⟩ = some (.bool false) := by
  rcases h.2 with ⟨hn, K, cnf, x5, x6, x7, x8, x9, fv, stv, sev, so, sn, sc, ro, rn, rc, tt, tn, tc, R, hA, rfl⟩ | ⟨hn, sk, fv, stv, tv, hB⟩
  · have h1 := hA.blk
    have h2 := hA.clo.blk
    refine ⟨⟨none, 0, 0, Nat.zero_le _, by simp [World.cell?, h1], fun h => by omega, fun i h => by omega⟩, by simp [World.cell?, h1], by simp [World.cell?, h2], fun i hi => own_cell hA.clo.mark (bools_get hi)⟩
  · have h1 := hB.blk
    exact ⟨⟨_, n, sk, Nat.le_refl _, by simp [World.cell?, h1], fun _ => rfl, fun i hi => own_cell hB.seen (bools_get hi)⟩, by simp [World.cell?, h1], hB.cblk, fun i hi => own_cell hB.mark (bools_get hi)⟩
theorem index30o {a : Option Addr} {n c b k : Nat} (ha : 0 < n → a = some ⟨b, 0, none⟩) (hk : k < n) (w : World) : (Instr.indexAt 30 (.slice a n c) (.int .i64 (k : Int))).run Yba.prog w = .ok (.pointer (some ⟨b, k, none⟩)) w := by
  rw [ha (by omega)]; exact index30 hk w
theorem step_any (wC w0 w : World) (cb gb mk n ab rb ns st x : Nat) (MV : List (List (Nat × Nat))) (NL : List (List Nat))
    (a : Option Addr) (m c b o : Nat) (S : List Nat) (dd : Option Addr) (dn dc : Nat) (dx : List Value)
    (hG : Good n MV NL) (hx : x ≤ 65536) (hC : Cond wC gb n NL) (hA : Aut wC ab n ns st MV NL) (hrun : Run wC w0 NL n ab gb cb mk rb) (hf : Fr w0 w [])
    (hm : m = S.length) (hm2 : m ≤ 65536) (hs : ∀ q ∈ S, q < n) (ha : 0 < m → a = some ⟨b, o, none⟩) (hr : NatsAt wC b o S)
    (hd : w.ownsRow w0.heap.size 3 1 (.slice dd dn dc) dn dx) (hdn : dn ≤ 65536) :
    Calls Yba.prog 7 #[.pointer (some ⟨rb, 0, none⟩), .slice dd dn dc, .slice a m c, .int .i64 (x : Int)] w fun e w' => ∃ vo cap, e = .returned (.slice vo (dn + (stepOf MV NL n x S).length) cap) ∧
      w'.ownsRow w0.heap.size 3 1 (.slice vo (dn + (stepOf MV NL n x S).length) cap) (dn + (stepOf MV NL n x S).length) (dx ++ ints (stepOf MV NL n x S)) ∧ Run wC w' NL n ab gb cb mk rb := by
  have hrun1 := hrun.keep hf
  have hfl := hG.flat
  rcases hrun.2 with ⟨hn, K, cnf, x5, x6, x7, x8, x9, fv, stv, sev, so, sn, sc, ro, rn, rc, tt, tn, tc, R, hA', rfl⟩ | ⟨hn, sk, fv, stv, tv, hB⟩
  · have hge := hA'.ge
    refine (stepA_any wC w K cb gb mk n ab rb ns st x cnf x5 x6 x7 x8 x9 fv stv (.slice none 0 0) so sn sc ro rn rc tt tn tc R MV NL a m c b o S dd dn dc w0.heap.size dx hG hx hC hA hfl (hA'.keep hf (by simp)) hm hm2 hs ha hr hd hdn hf.size (fun c hc => (hge c hc).2)).mono ?_
    rintro e w' ⟨vo, cap, so', sn', sc', ro', rn', rc', to', tn', tc', R', rfl, h1, h2, h3, h4⟩
    refine ⟨vo, cap, rfl, h1, hrun1.1.then h3 fun c hc => ?_, .inl ⟨hn, _, _, _, _, _, _, _, _, _, _, _, _, _, _, _, _, _, _, _, _, h2, rfl⟩⟩
    rcases List.mem_append.1 hc with h | h
    · exact .inr (hge c h).1
    · have h5 := (hd.lt c (mem_blks.1 h)).1
      exact .inr (by have := hrun.1.size; omega)
  · have hz : sk < w0.heap.size ∧ rb < w0.heap.size ∧ cb < w0.heap.size ∧ mk < w0.heap.size := ⟨(hB.seen.lt sk rfl).2, blk_lt hB.blk, cell_lt hB.cblk, (hB.mark.lt mk rfl).2⟩
    refine (stepB_any wC w cb gb mk n ab rb sk ns st x fv stv tv MV NL a m c b o S dd dn dc w0.heap.size dx hG hx hA hn (hB.keep hf (by simp) (hf.own hB.seen (by simp))) hm hm2 hs ha hr hd hdn hf.size hz).mono ?_
    rintro e w' ⟨vo, cap, rfl, h1, h2, h3⟩
    refine ⟨vo, cap, rfl, h1, hrun1.1.then h3 fun c hc => ?_, .inr ⟨hn, _, _, _, _, h2⟩⟩
    rcases List.mem_cons.1 hc with h | h
    · subst h; exact .inr (hB.seen.lt c rfl).1
    · have h5 := (hd.lt c (mem_blks.1 h)).1
      exact .inr (by have := hrun.1.size; omega)
end Go.Proofs.Ybulkdxbk
