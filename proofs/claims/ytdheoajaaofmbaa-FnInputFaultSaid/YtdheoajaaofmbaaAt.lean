/- A struct, or an array, read, laid, built as a whole. -/
import Derived.Test.YtdheoajaaofmbaaBase
import Derived.Test.YtdheoajaaofmbaaQFnScriptPlacesx
import Derived.Test.YtdheoajaaofmbaaWArr
import Derived.Laws.Rows
namespace Go.Proofs.YtdheoajaaofmbaaW.PrintWords
open Go.RowKit
set_option linter.unusedVariables false
section
variable {P : Program} {ops : Array Oper} {rest : List Oper} {o : Oper} {a : Act} {w : World} {Q : Exit → Act → World → Prop}
/-- A struct, or an array, read as a whole, wherever it lies. -/
theorem run_loadVar_at (w : World) (p : Addr) (ty : TypeId) (cs : List Value) (d : TypeDesc) (hc : ∀ j v, cs[j]? = some v → w.cell? (p.add j) = some v)
    (hu : P.underlying ty = some d) (hd : (match d with | .struct _ | .array _ _ => true | _ => false) = true) (hi : (P.info? ty).map (·.size) = some cs.length) : (loadVar ty p).run P w = .ok (.agg cs.toArray) w := by
  have hl : (loadCells p cs.length).run P w = .ok cs.toArray w := run_loadCells_list (P := P) w p cs (fun j v hv => hc j v (by simpa using hv))
  cases hq : P.info? ty with
  | none => simp [hq] at hi
  | some i =>
    have hs : i.size = cs.length := by simpa [hq] using hi
    have hagg : (isAgg ty).run P w = .ok true w := by
      unfold isAgg
      rw [Sem.run_bind, run_underlying hu w]
      cases d <;> simp_all
    simp [loadVar, Sem.run_bind, hagg, sizeOf, typeInfo, hq, hs, hl]
theorem run_load_at {ρ : Operand → Value} (ty : TypeId) (x : Operand) (ho : o.op = .load ty x) (p : Addr) (hx : ρ x = .pointer (some p)) (cs : List Value) (d : TypeDesc) (hc : ∀ j v, cs[j]? = some v → w.cell? (p.add j) = some v)
    (hu : P.underlying ty = some d) (hd : (match d with | .struct _ | .array _ _ => true | _ => false) = true) (hi : (P.info? ty).map (·.size) = some cs.length) : (execOp ρ o).run P w = .ok (.value (.agg cs.toArray)) w := by
  unfold execOp
  simp only [ho, hx, Instr.loadAt, Instr.sureAddr, Sem.run_bind, Sem.run_pure, Result.andThen_ok, run_loadVar_at w p ty cs d hc hu hd hi]
theorem wpList_load_at (hgd : o.guard = none) (ty : TypeId) (x : Operand) (ho : o.op = .load ty x) (p : Addr) (hx : a.eval x = .pointer (some p)) (cs : List Value) (d : TypeDesc) (hc : ∀ j v, cs[j]? = some v → w.cell? (p.add j) = some v)
    (hu : P.underlying ty = some d) (hd : (match d with | .struct _ | .array _ _ => true | _ => false) = true) (hi : (P.info? ty).map (·.size) = some cs.length) (h : wpList P ops Q rest (a.put o.dst (.agg cs.toArray)) w) : wpList P ops Q (o :: rest) a w :=
  wpList_run hgd _ (run_load_at ty x ho p hx cs d hc hu hd hi) h
theorem at_none {P : Program} {ops : Array Oper} {rest : List Oper} {o : Oper} {a : Act} {w : World} {Q : Exit → Act → World → Prop} (_h : o.dst = none) (h : wpList P ops Q (o :: rest) a w) : wpList P ops Q (o :: rest) a w := h
/-- A store of a whole struct into a block that is told. -/
theorem wpList_store_whole (hgd : o.guard = none) (ty : TypeId) (x y : Operand) (ho : o.op = .store ty x y) (g : Nat) (cells : Array Value) (hx : a.eval x = .pointer (some ⟨g, 0, none⟩)) (hy : a.eval y = .agg cells)
    (t : TypeId) (old : Array Value) (hg : w.heap[g]? = some (.cells old t (0, 0))) (hi : (P.info? ty).map (·.size) = some cells.size) (hold : old.size = cells.size) (h1 : cells.all (·.oneCell') = true) {w0 : World} {B : Nat} (hB : Below B w0 w) (hg0 : B ≤ g)
    (h : ∀ W, W.heap[g]? = some (.cells cells t (0, 0)) → Below B w0 W → (∀ k, k ≠ g → W.heap[k]? = w.heap[k]?) → W.heap.size = w.heap.size → wpList P ops Q rest (a.put o.dst undef) W) : wpList P ops Q (o :: rest) a w := by
  refine wpList_store_row hgd ty x y ho g cells hx hy t old hg hi hold h1 ?_
  have hlt := blk_lt' hg
  have hs : (w.setRow g cells).heap.size = w.heap.size := by simp [World.setRow]
  have hk : ∀ k, k ≠ g → (w.setRow g cells).heap[k]? = w.heap[k]? := fun k hk => by simp [World.setRow, Array.getElem?_modify, Ne.symm hk]
  refine h _ (by simp [World.setRow, Array.getElem?_modify, hg]) ⟨hB.os, hB.tape, hB.output, by rw [hs]; exact hB.size, fun k hk2 => (hk k (by omega)).trans (hB.block k hk2)⟩ hk hs
end
theorem run_built {P : Program} {o : Oper} {w : World} {ρ : Operand → Value} (t : TypeId) (parts : Array (Nat × Operand)) (ho : o.op = .build t parts) (l : List (Nat × Value)) (hp : (parts.map fun (i, x) => (i, ρ x)).toList = l) (cells : Array Value) (h : P.built t l = some cells) : (execOp ρ o).run P w = .ok (.value (.agg cells)) w := by
  subst hp
  unfold execOp
  simp only [ho, Sem.run_bind, run_build w t _ cells h, Result.andThen_ok]
  rfl
theorem uncons_ {n : Nat} (h : List Value) (hl : h.length = n + 1) : ∃ a t, h = a :: t ∧ t.length = n := by
  cases h with
  | nil => simp at hl
  | cons a t => exact ⟨a, t, rfl, by simpa using hl⟩
theorem list32 (t0 : List Value) (l0 : t0.length = 32) : ∃ a0 a1 a2 a3 a4 a5 a6 a7 a8 a9 a10 a11 a12 a13 a14 a15 a16 a17 a18 a19 a20 a21 a22 a23 a24 a25 a26 a27 a28 a29 a30 a31 : Value, t0 = [a0, a1, a2, a3, a4, a5, a6, a7, a8, a9, a10, a11, a12, a13, a14, a15, a16, a17, a18, a19, a20, a21, a22, a23, a24, a25, a26, a27, a28, a29, a30, a31] := by
  obtain ⟨a0, t1, e0, l1⟩ := uncons_ (n := 31) t0 l0
  obtain ⟨a1, t2, e1, l2⟩ := uncons_ (n := 30) t1 l1
  obtain ⟨a2, t3, e2, l3⟩ := uncons_ (n := 29) t2 l2
  obtain ⟨a3, t4, e3, l4⟩ := uncons_ (n := 28) t3 l3
  obtain ⟨a4, t5, e4, l5⟩ := uncons_ (n := 27) t4 l4
  obtain ⟨a5, t6, e5, l6⟩ := uncons_ (n := 26) t5 l5
  obtain ⟨a6, t7, e6, l7⟩ := uncons_ (n := 25) t6 l6
  obtain ⟨a7, t8, e7, l8⟩ := uncons_ (n := 24) t7 l7
  obtain ⟨a8, t9, e8, l9⟩ := uncons_ (n := 23) t8 l8
  obtain ⟨a9, t10, e9, l10⟩ := uncons_ (n := 22) t9 l9
  obtain ⟨a10, t11, e10, l11⟩ := uncons_ (n := 21) t10 l10
  obtain ⟨a11, t12, e11, l12⟩ := uncons_ (n := 20) t11 l11
  obtain ⟨a12, t13, e12, l13⟩ := uncons_ (n := 19) t12 l12
  obtain ⟨a13, t14, e13, l14⟩ := uncons_ (n := 18) t13 l13
  obtain ⟨a14, t15, e14, l15⟩ := uncons_ (n := 17) t14 l14
  obtain ⟨a15, t16, e15, l16⟩ := uncons_ (n := 16) t15 l15
  obtain ⟨a16, t17, e16, l17⟩ := uncons_ (n := 15) t16 l16
  obtain ⟨a17, t18, e17, l18⟩ := uncons_ (n := 14) t17 l17
  obtain ⟨a18, t19, e18, l19⟩ := uncons_ (n := 13) t18 l18
  obtain ⟨a19, t20, e19, l20⟩ := uncons_ (n := 12) t19 l19
  obtain ⟨a20, t21, e20, l21⟩ := uncons_ (n := 11) t20 l20
  obtain ⟨a21, t22, e21, l22⟩ := uncons_ (n := 10) t21 l21
  obtain ⟨a22, t23, e22, l23⟩ := uncons_ (n := 9) t22 l22
  obtain ⟨a23, t24, e23, l24⟩ := uncons_ (n := 8) t23 l23
  obtain ⟨a24, t25, e24, l25⟩ := uncons_ (n := 7) t24 l24
  obtain ⟨a25, t26, e25, l26⟩ := uncons_ (n := 6) t25 l25
  obtain ⟨a26, t27, e26, l27⟩ := uncons_ (n := 5) t26 l26
  obtain ⟨a27, t28, e27, l28⟩ := uncons_ (n := 4) t27 l27
  obtain ⟨a28, t29, e28, l29⟩ := uncons_ (n := 3) t28 l28
  obtain ⟨a29, t30, e29, l30⟩ := uncons_ (n := 2) t29 l29
  obtain ⟨a30, t31, e30, l31⟩ := uncons_ (n := 1) t30 l30
  obtain ⟨a31, t32, e31, l32⟩ := uncons_ (n := 0) t31 l31
  have e := List.length_eq_zero_iff.1 l32
  exact ⟨_, _, _, _, _, _, _, _, _, _, _, _, _, _, _, _, _, _, _, _, _, _, _, _, _, _, _, _, _, _, _, _, by rw [e0, e1, e2, e3, e4, e5, e6, e7, e8, e9, e10, e11, e12, e13, e14, e15, e16, e17, e18, e19, e20, e21, e22, e23, e24, e25, e26, e27, e28, e29, e30, e31, e]⟩
theorem run_boxed {P : Program} {o : Oper} {w : World} {ρ : Operand → Value} (t : TypeId) (x : Operand) (ho : o.op = .box t x) (cs : Array Value) (hx : ρ x = .agg cs) : (execOp ρ o).run P w = .ok (.value (.pointer (some ⟨w.heap.size, 0, none⟩))) (w.alloc (.cells cs t)) := by
  unfold execOp
  simp [ho, hx, Instr.box, newVar, Value.cells, newRow]
end Go.Proofs.YtdheoajaaofmbaaW.PrintWords
namespace Go.Proofs.YtdheoajaaofmbaaW.PrintLast
open Go.RowKit Go.Proofs.YtdheoajaaofmbaaW.PrintWords
/-- An operation of a drawn region that yields a value and turns the world. -/
theorem yval_ {P : Program} {ops : Array Oper} {Q : Exit → Act → World → Prop} {oi : Oper} {N : Option Tmp} {a : Act} {w w1 : World} {K : Act → World → Prop} (v : Value) (hw : Region.wanted oi (yielded ops a.tmps) = true) (hN : oi.dst = N) (hrun : (execOp a.eval oi).run P w = .ok (.value v) w1)
    (h : K (a.put N v) w1) : if Region.wanted oi (yielded ops a.tmps) = true then Oper.wp P oi a w K Q else K (a.put N undef) w := by
  rw [if_pos hw]
  unfold Oper.wp
  rw [hrun]
  subst hN
  exact h
end Go.Proofs.YtdheoajaaofmbaaW.PrintLast
