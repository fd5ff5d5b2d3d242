/- Words of my own: a call that turns one block only; facts that stay. -/
import Derived.Test.YtpogfbompljkkaaDoorWWords
import Derived.Test.YtpogfbompljkkaaDoorWMore
import Derived.Test.YtpogfbompljkkaaDoorWLast
import Derived.Test.YtpogfbompljkkaaDoorWShare
import Derived.WalkKit
import Derived.WalkSpells
import Derived.WalkLawsBesides
import Derived.KernelRfl
import Derived.Test.YtpogfbompljkkaaDoorProg
import Derived.Below
import Derived.Deep.Draws
import Derived.Deep.AppendLies
import Derived.Maps.AppendAt
import Derived.OwnWalk
import Derived.Laws.BytesArg
import Derived.Laws.MakeOwn
import Derived.Laws.OwnMore
import Derived.Deep.OwnRows
import Derived.Tactics
import Derived.Lib.ConvBytes
import Derived.Laws.Slices
import Derived.RowKit3
import Derived.Deep.LoopGhost
import Derived.Deep.QuietTactic
import Derived.BigQuiet
import Derived.WideLaws
import Derived.Deep.DeepCutAuto
import Derived.Deep.CutBlock
import Derived.Deep.RegionHeld3
import Derived.Laws.Rows
import Derived.Lib.AppendStr
import Derived.ArgAppend
import Derived.Laws.IdiomCopy
import Derived.OrdersHeld
import Derived.Laws.BitsLemmas
import Derived.RowKit
import Derived.Test.YtpogfbompljkkaaDoorWTab
import Derived.Test.YtpogfbompljkkaaDoorWFour
import Derived.Test.YtpogfbompljkkaaDoorWQPut
import Derived.Test.YtpogfbompljkkaaDoorWApart
import Derived.Test.YtpogfbompljkkaaDoorWArr
import Derived.Test.YtpogfbompljkkaaDoorWZeros
import Derived.Test.YtpogfbompljkkaaDoorWFoot
import Derived.Test.YtpogfbompljkkaaDoorWKept
import Derived.Test.YtpogfbompljkkaaDoorWN
import Derived.Test.YtpogfbompljkkaaDoorWFootNe
import Derived.Test.YtpogfbompljkkaaDoorWAt
import Derived.Test.YtpogfbompljkkaaDoorWEqStruct
import Derived.Test.YtpogfbompljkkaaDoorWRepsOne
import Derived.Test.YtpogfbompljkkaaDoorWInv
import Derived.Test.YtpogfbompljkkaaDoorWInvWords
import Derived.Test.YtpogfbompljkkaaDoorWGuard
import Derived.Test.YtpogfbompljkkaaDoorWNEv
import Derived.Laws.IdiomStrings
namespace Go.Proofs.YtpogfbompljkkaaDoorW.PrintWords
open Go.RowKit
set_option linter.unusedVariables false
section
variable {P : Program} {ops : Array Oper} {rest : List Oper} {o : Oper} {a : Act} {w w' : World} {Q : Exit → Act → World → Prop}
/-- An operation that yields a value. -/
theorem wpList_run (hg : o.guard = none) (v : Value) (hr : (execOp a.eval o).run P w = .ok (.value v) w') (h : wpList P ops Q rest (a.put o.dst v) w') : wpList P ops Q (o :: rest) a w :=
  wpList_plain hg fun K hK => by
    show Oper.upon P o a K Q _
    rw [hr]
    exact hK _ _ h
/-- A store. -/
theorem wpList_skip_ (hg : o.guard = none) (hd : o.dst = none) (hr : (execOp a.eval o).run P w = .ok .skip w') (h : wpList P ops Q rest a w') : wpList P ops Q (o :: rest) a w :=
  wpList_plain hg fun K hK => by
    show Oper.upon P o a K Q _
    rw [hr]
    show K (a.put o.dst undef) w'
    rw [hd]
    exact hK _ _ h
theorem at_dst {N : Nat} (_h : o.dst = some N) (h : wpList P ops Q (o :: rest) a w) : wpList P ops Q (o :: rest) a w := h
theorem at_pos {s : String} (_h : o.pos = s) (h : wpList P ops Q (o :: rest) a w) : wpList P ops Q (o :: rest) a w := h
end
/-- Of the blocks that were, at most g has turned. -/
structure Only (g : Nat) (w w' : World) : Prop where
  os : w'.os = w.os
  tape : w'.tape = w.tape
  output : w'.output = w.output
  size : w.heap.size ≤ w'.heap.size
  block : ∀ k, k < w.heap.size → k ≠ g → w'.heap[k]? = w.heap[k]?
namespace Only
variable {g : Nat} {w w1 w2 : World}
theorem refl (g : Nat) (w : World) : Only g w w := ⟨rfl, rfl, rfl, Nat.le_refl _, fun _ _ _ => rfl⟩
theorem trans (h : Only g w w1) (k : Only g w1 w2) : Only g w w2 :=
  ⟨k.os.trans h.os, k.tape.trans h.tape, k.output.trans h.output, Nat.le_trans h.size k.size, fun i hi hg => (k.block i (Nat.lt_of_lt_of_le hi h.size) hg).trans (h.block i hi hg)⟩
theorem of_below (h : Below w.heap.size w w1) : Only g w w1 := ⟨h.os, h.tape, h.output, h.size, fun k hk _ => h.block k hk⟩
theorem set (h : Only g w w1) (j : Nat) (u : Value) : Only g w (w1.setCell ⟨g, j, none⟩ u) :=
  ⟨h.os, h.tape, h.output, by simpa [World.setCell] using h.size, fun k hk hg => (Below.heap_setCell w1 ⟨g, j, none⟩ u k hg).trans (h.block k hk hg)⟩
/-- A store into a block that was made meanwhile. -/
theorem setNew (h : Only g w w1) {p : Addr} (hp : w.heap.size ≤ p.block) (u : Value) : Only g w (w1.setCell p u) :=
  ⟨h.os, h.tape, h.output, by simpa [World.setCell] using h.size, fun k hk hg => (Below.heap_setCell w1 p u k (by omega)).trans (h.block k hk hg)⟩
theorem alloc (h : Only g w w1) (o : Obj) : Only g w (w1.alloc o) :=
  ⟨h.os, h.tape, h.output, by have := h.size; simp; omega, fun k hk hg => (Below.heap_alloc w1 o k (Nat.lt_of_lt_of_le hk h.size)).trans (h.block k hk hg)⟩
theorem drew (h : Only g w w1) : Only g w w1.drew := ⟨h.os, h.tape, h.output, h.size, h.block⟩
theorem drewN (h : Only g w w1) (n : Nat) : Only g w (w1.drewN n) := ⟨h.os, h.tape, h.output, h.size, h.block⟩
theorem step (h : Only g w w1) (k : Below w1.heap.size w1 w2) : Only g w w2 := h.trans (of_below k)
theorem below {B : Nat} {w0 : World} (h : Only g w w1) (hb : Below B w0 w) (hg : B ≤ g) (hs : B ≤ w.heap.size) : Below B w0 w1 :=
  hb.trans ⟨h.os, h.tape, h.output, h.size, fun k hk => h.block k (by omega) (by omega)⟩
theorem keep (h : Only g w w1) : KeepBut w w1 g none := ⟨h.size, fun i hi hg _ => h.block i hi hg⟩
theorem cell (h : Only g w w1) {p : Addr} (hp : p.block ≠ g) {v : Value} (hv : w.cell? p = some v) : w1.cell? p = some v :=
  (World.cell?_of_block (w := w) (h.block p.block (World.block_lt_of_cell? w _ hv) hp)).trans hv
end Only
theorem blk_lt0_ {w : World} {g : Nat} {x : Obj} (h : w.heap[g]? = some x) : g < w.heap.size := by
  rcases Nat.lt_or_ge g w.heap.size with h1 | h1
  · exact h1
  · rw [Array.getElem?_eq_none h1] at h; cases h
namespace Kd
variable {α : Type} {d : Kd α} {e base : Nat} {ok : Nat → Prop} {w w1 : World} {v : Value} {xs : List α} {g : Nat}
theorem V_only (h : V d e w base ok v xs) (ho : Only g w w1) (hok : ∀ k, ok k → k ≠ g) : V d e w1 base ok v xs := V_step h (fun k hk hlt => ho.block k hlt (hok k hk))
theorem V_any {e' base' : Nat} (h : V d e w base ok v xs) : V d e' w base' ok v xs := h
theorem V_reads (h : V d e w base ok v xs) : ∃ A c, v = .slice A xs.length c ∧ xs.length ≤ c ∧ d.C w A xs.length xs := by
  obtain ⟨A, c, rfl, hl, hf⟩ := h
  exact ⟨A, c, rfl, hl, F_now hf⟩
/-- A row that has a block begins at its head. -/
theorem R_first_ {b : Nat} (h : d.R e w base ok v xs) (hb : v.ownBlock = some b) : ∃ cap, v = .slice (some ⟨b, 0, none⟩) xs.length cap ∧ xs.length ≤ cap ∧ base ≤ b ∧ b < w.heap.size ∧ ∃ cells, w.heap[b]? = some (.cells cells e (0, 0)) := by
  obtain ⟨h0, inner, ho, hr⟩ := h
  have ht := own_typed ho b hb
  rcases ho.2 with ⟨rfl, _⟩ | ⟨g, cap, cur, rfl, hg, hh, hl, r⟩
  · simp [Value.ownBlock] at hb
  · have : g = b := by simpa [Value.ownBlock] using hb
    subst this
    exact ⟨cap, rfl, hl, hg, blk_lt0_ hh, cur, hh⟩
end Kd
theorem heap_set_same {w : World} {g j : Nat} {cs : Array Value} {t : TypeId} {fr : Nat × Nat} (h : w.heap[g]? = some (.cells cs t fr)) (u : Value) :
    (w.setCell ⟨g, j, none⟩ u).heap[g]? = some (.cells (cs.setIfInBounds j u) t fr) := by
  simp [World.setCell, Array.getElem?_modify, h]
theorem heap_alloc_lt {w : World} {g : Nat} {x : Obj} (h : w.heap[g]? = some x) (o : Obj) : (w.alloc o).heap[g]? = some x := by
  have hlt : g < w.heap.size := by
    rcases Nat.lt_or_ge g w.heap.size with h1 | h1
    · exact h1
    · rw [Array.getElem?_eq_none h1] at h; cases h
  rw [Below.heap_alloc w o g hlt]; exact h
theorem blk_lt' {w : World} {g : Nat} {x : Obj} (h : w.heap[g]? = some x) : g < w.heap.size := by
  rcases Nat.lt_or_ge g w.heap.size with h1 | h1
  · exact h1
  · rw [Array.getElem?_eq_none h1] at h; cases h
theorem cell_of {w : World} {g j : Nat} {cs : Array Value} {t : TypeId} {fr : Nat × Nat} {v : Value} (h : w.heap[g]? = some (.cells cs t fr)) (hv : cs[j]? = some v) : w.cell? ⟨g, j, none⟩ = some v := by
  simp [World.cell?, h, hv]
theorem frozen_of {w : World} {g : Nat} {cs : Array Value} {t : TypeId} (h : w.heap[g]? = some (.cells cs t (0, 0))) (j : Nat) : w.frozen? ⟨g, j, none⟩ = false := by
  simp [World.frozen?, h]
end Go.Proofs.YtpogfbompljkkaaDoorW.PrintWords
/- A call through an interface, as an arm; in a drawn region. -/
namespace Go.Proofs.YtpogfbompljkkaaDoorW.PrintLast
open Go.RowKit Go.Proofs.YtpogfbompljkkaaDoorW.PrintWords
set_option linter.unusedVariables false
section
variable {P : Program} {md : Region.Mode} {ops : Array Oper} {S : World → Prop} {ds : List Nat} {Q : Exit → Act → World → Prop}
/-- What a type's method is called with: whatever the fuel. -/
def Meth (P : Program) (t : TypeId) (v : Value) (name : String) (f : FuncId) (v' : Value) : Prop := ∀ n w, (method (n + 1) t v name).run P w = .ok (f, v') w
theorem inv_enters {oi : Oper} {ρ : Operand → Value} {w : World} (recv : Operand) (name : String) (ops1 : Array Operand) (ts : Array TypeId) (hop : oi.op = .call { callee := .invoke recv name, args := ops1, argTypes := ts }) (t : TypeId) (v : Value) (hr : ρ recv = .iface t v) (f : FuncId) (v' : Value) (hm : Meth P t v name f v')
    {fn : Func} (hf : P.funcs[f]? = some fn) (hname : (fn.name == "runtime.NumGoroutine") = false) (hb : fn.body.isSome = true) (all : Array Value) (hall : #[v'] ++ ops1.map ρ = all) : (execOp ρ oi).run P w = .ok (.enter f all) w := by
  subst hall
  obtain ⟨args, hargs⟩ : ∃ args, ops1.map ρ = args := ⟨_, rfl⟩
  rw [hargs]
  have he := enters_ hf hname hb (#[v'] ++ args) w
  have h0 : 0 < P.types.size + Made.depth := Nat.lt_of_lt_of_le (show 0 < Made.depth by decide) (Nat.le_add_left _ _)
  obtain ⟨n, hn⟩ : ∃ n, P.types.size + Made.depth = n + 1 := ⟨P.types.size + Made.depth - 1, by omega⟩
  have h1 := hm n w
  rw [← hn] at h1
  unfold execOp
  have e0 : (#[Value.iface t v] ++ args)[0]? = some (.iface t v) := by rw [Array.getElem?_append_left (by simp)]; simp
  have e1 : (#[v'] ++ args : Array Value) = #[v'] ++ args := rfl
  simp [hop, resolve, invoke, callMethod, hargs, hr]
  rw [e0]
  simp [h1, he, Result.andThen]
theorem invL_ {rest : List Oper} {oi : Oper} {a : Act} {w : World} (N : Option Tmp) (hd : oi.dst = N) (hg : oi.guard = none) (recv : Operand) (name : String) {ops1 : Array Operand} {ts : Array TypeId} (hop : oi.op = .call { callee := .invoke recv name, args := ops1, argTypes := ts }) (t : TypeId) (v : Value) (hr : a.eval recv = .iface t v) (f : FuncId) {v' : Value} (hm : Meth P t v name f v')
    {fn : Func} (hf : P.funcs[f]? = some fn) (hname : (fn.name == "runtime.NumGoroutine") = false) (hb : fn.body.isSome = true) (all : Array Value) (hall : #[v'] ++ ops1.map a.eval = all)
    (h : Calls P f all w fun e w' => ∃ v, e = .returned v ∧ wpList P ops Q rest (a.put N v) w') : wpList P ops Q (oi :: rest) a w := by
  refine wpList_plain hg fun K hK => ?_
  unfold Oper.wp
  rw [inv_enters recv name ops1 ts hop t v hr f v' hm hf hname hb all hall, Oper.upon_enter]
  refine h.mono fun e w'' hh => ?_
  obtain ⟨v, rfl, hk⟩ := hh
  subst hd
  exact hK _ _ hk
theorem goesI_ {oi : Oper} {N : Option Tmp} {a : Act} {w : World} {K : Act → World → Prop} (hw : Region.wanted oi (yielded ops a.tmps) = true) (hN : oi.dst = N) (recv : Operand) (name : String) {ops1 : Array Operand} {ts : Array TypeId} (hop : oi.op = .call { callee := .invoke recv name, args := ops1, argTypes := ts }) (t : TypeId) (v : Value) (hr : a.eval recv = .iface t v) (f : FuncId) {v' : Value} (hm : Meth P t v name f v')
    {fn : Func} (hf : P.funcs[f]? = some fn) (hname : (fn.name == "runtime.NumGoroutine") = false) (hb : fn.body.isSome = true) (all : Array Value) (hall : #[v'] ++ ops1.map a.eval = all)
    (h : Calls P f all w fun e w' => ∃ v, e = .returned v ∧ K (a.put N v) w') : if Region.wanted oi (yielded ops a.tmps) = true then Oper.wp P oi a w K Q else K (a.put N undef) w :=
  call_ f all hw hN (inv_enters recv name ops1 ts hop t v hr f v' hm hf hname hb all hall) h
/-! ### A call of a function value -/
theorem val_enters {oi : Oper} {ρ : Operand → Value} {w : World} (recv : Operand) (ops1 : Array Operand) (ts : Array TypeId) (hop : oi.op = .call { callee := .value recv, args := ops1, argTypes := ts }) (f : FuncId) (first cap : Array Value) (hr : ρ recv = .func (.func f) first cap)
    {fn : Func} (hf : P.funcs[f]? = some fn) (hname : (fn.name == "runtime.NumGoroutine") = false) (hb : fn.body.isSome = true) (all : Array Value) (hall : (first ++ ops1.map ρ) ++ cap = all) : (execOp ρ oi).run P w = .ok (.enter f all) w := by
  subst hall
  obtain ⟨args, hargs⟩ : ∃ args, ops1.map ρ = args := ⟨_, rfl⟩
  rw [hargs]
  have he := enters_ hf hname hb ((first ++ args) ++ cap) w
  unfold execOp
  simp [hop, resolve, Deferred.ofValue, invoke, hargs, hr]
  simpa using he
theorem valL_ {rest : List Oper} {oi : Oper} {a : Act} {w : World} (N : Option Tmp) (hd : oi.dst = N) (hg : oi.guard = none) (recv : Operand) {ops1 : Array Operand} {ts : Array TypeId} (hop : oi.op = .call { callee := .value recv, args := ops1, argTypes := ts }) (f : FuncId) (first cap : Array Value) (hr : a.eval recv = .func (.func f) first cap)
    {fn : Func} (hf : P.funcs[f]? = some fn) (hname : (fn.name == "runtime.NumGoroutine") = false) (hb : fn.body.isSome = true) (all : Array Value) (hall : (first ++ ops1.map a.eval) ++ cap = all)
    (h : Calls P f all w fun e w' => ∃ v, e = .returned v ∧ wpList P ops Q rest (a.put N v) w') : wpList P ops Q (oi :: rest) a w := by
  refine wpList_plain hg fun K hK => ?_
  unfold Oper.wp
  rw [val_enters recv ops1 ts hop f first cap hr hf hname hb all hall, Oper.upon_enter]
  refine h.mono fun e w'' hh => ?_
  obtain ⟨v, rfl, hk⟩ := hh
  subst hd
  exact hK _ _ hk
theorem goesV_ {oi : Oper} {N : Option Tmp} {a : Act} {w : World} {K : Act → World → Prop} (hw : Region.wanted oi (yielded ops a.tmps) = true) (hN : oi.dst = N) (recv : Operand) {ops1 : Array Operand} {ts : Array TypeId} (hop : oi.op = .call { callee := .value recv, args := ops1, argTypes := ts }) (f : FuncId) (first cap : Array Value) (hr : a.eval recv = .func (.func f) first cap)
    {fn : Func} (hf : P.funcs[f]? = some fn) (hname : (fn.name == "runtime.NumGoroutine") = false) (hb : fn.body.isSome = true) (all : Array Value) (hall : (first ++ ops1.map a.eval) ++ cap = all)
    (h : Calls P f all w fun e w' => ∃ v, e = .returned v ∧ K (a.put N v) w') : if Region.wanted oi (yielded ops a.tmps) = true then Oper.wp P oi a w K Q else K (a.put N undef) w :=
  call_ f all hw hN (val_enters recv ops1 ts hop f first cap hr hf hname hb all hall) h
end
end Go.Proofs.YtpogfbompljkkaaDoorW.PrintLast
/- Rows of bytes as cells. -/
namespace Go.Proofs.YtpogfbompljkkaaDoor.Snk
open Go.RowKit Go.Proofs.YtpogfbompljkkaaDoorW.PrintWords
def byteC (l : List Int) : List Value := l.map (Value.int .u8)
theorem byteC_len (l : List Int) : (byteC l).length = l.length := List.length_map _
theorem byteC_at {l : List Int} {j : Nat} (h : j < l.length) : (byteC l)[j]? = some (.int .u8 (l.getD j 0)) := by
  unfold byteC
  rw [List.getElem?_map, List.getD_eq_getElem?_getD, List.getElem?_eq_getElem h]; rfl
theorem byteC_set (l : List Int) (j : Nat) (v : Int) : (byteC l).set j (.int .u8 v) = byteC (l.set j v) := by unfold byteC; rw [List.map_set]
theorem row_set {l : List Int} {t : TypeId} {W : World} {g : Nat} (h : W.heap[g]? = some (.cells (byteC l).toArray t (0, 0))) (j : Nat) (v : Int) : (W.setCell ⟨g, j, none⟩ (.int .u8 v)).heap[g]? = some (.cells (byteC (l.set j v)).toArray t (0, 0)) := by
  rw [heap_set_same h (j := j) (.int .u8 v), List.setIfInBounds_toArray, byteC_set]
theorem row_cell {l : List Int} {t : TypeId} {W : World} {g : Nat} (h : W.heap[g]? = some (.cells (byteC l).toArray t (0, 0))) (j : Nat) (hj : j < l.length) : W.cell? ⟨g, j, none⟩ = some (.int .u8 (l.getD j 0)) :=
  cell_of h (by rw [List.getElem?_toArray]; exact byteC_at hj)
end Go.Proofs.YtpogfbompljkkaaDoor.Snk
/- Words beside the print's: an empty row made with a capacity of its own. -/
namespace Go.Proofs.YtpogfbompljkkaaDoorW.PrintWords
open Go.RowKit
theorem nn_mod256 (x : Int) : ((0 : Int) ≤ x % 256) = True := eq_true (Int.emod_nonneg _ (by decide))
theorem nn_mod65536 (x : Int) : ((0 : Int) ≤ x % 65536) = True := eq_true (Int.emod_nonneg _ (by decide))
theorem nn_mod32 (x : Int) : ((0 : Int) ≤ x % 4294967296) = True := eq_true (Int.emod_nonneg _ (by decide))
namespace Kd
section
variable {P : Program} {ops : Array Oper} {rest : List Oper} {o : Oper} {a : Act} {Q : Exit → Act → World → Prop} {α : Type}
theorem R_makecap (d : Kd α) {w0 W : World} (base e : Nat) (hgd : o.guard = none) {N : Tmp} (_hd : o.dst = some N) (t : TypeId) (x y : Operand) (ho : o.op = .makeSlice t x y) (n : Int) (hx : a.eval x = .int .i64 0) (hy : a.eval y = .int .i64 n)
    (ht : P.underlying t = some (.slice e)) (z : Value) (bytes : Nat) (hinfo : (P.info? e).map (fun i => (i.zero, i.size, i.bytes)) = some (some z, d.sz, bytes)) (_hz : z.cells.size = d.sz) (_hs0 : 0 < d.sz) (hb0 : 0 < bytes)
    (z0 : α) {ok okp : Nat → Prop} (_hzero : d.M W base okp z0 z.cells.toList) (_hok : ∀ k, okp k → ok k) (hfresh : ok W.heap.size) (h0 : 0 ≤ n) (hl : n.toNat * bytes ≤ 281474976710656) (HB : Below base w0 W) (hbase : base ≤ W.heap.size)
    (h : ∀ v1 w1, d.R e w1 base ok v1 (List.replicate 0 z0) → Below base w0 w1 → W.grownBy w1 none → (∃ b, v1.ownBlock = some b ∧ W.heap.size ≤ b) → wpList P ops Q rest (a.put o.dst v1) w1) : wpList P ops Q (o :: rest) a W := by
  obtain ⟨m, rfl⟩ := Int.eq_ofNat_of_zero_le h0
  simp only [Int.toNat_natCast] at hl
  obtain ⟨i0, hi, hzz⟩ := Option.map_eq_some_iff.1 hinfo
  simp only [Prod.mk.injEq] at hzz
  obtain ⟨hz0, hz1, hz2⟩ := hzz
  have hm : m ≤ 281474976710656 := Nat.le_trans (Nat.le_mul_of_pos_right _ hb0) hl
  refine wpList_make_own W hgd x y t ho base e i0 z d.sz ht hi hz0 hz1 .i64 .i64 (m : Int) m hx hy rfl (by rw [hz2, Nat.mul_comm]; exact hl) (by unfold maxLen; omega) hbase (fun w1 hown hg => ?_)
  exact h _ w1 ⟨fun k hk => by simp [Value.ownBlock] at hk; subst hk; exact hfresh, [], hown, Reps.none _ _⟩ (HB.grown hg hbase (fun k hk => by cases hk)) hg ⟨W.heap.size, rfl, Nat.le_refl _⟩
end
end Kd
end Go.Proofs.YtpogfbompljkkaaDoorW.PrintWords
-- Made by a turned print (own tool turnprint.py over the kit print).
namespace Go.Proofs.YtpogfbompljkkaaDoor.QFnVarBytes
open Go.RowKit Go.Proofs.YtpogfbompljkkaaDoorW.PrintWords Go.Proofs.YtpogfbompljkkaaDoorW.PrintLast Go.Proofs.YtpogfbompljkkaaDoorW.PrintMore
attribute [local go_sem] nn_mod256 nn_mod65536 nn_mod32 max2_int min2_int max_two min_two max_three min_three max_four min_four   -- for this text's walks alone
set_option linter.unusedVariables false
set_option linter.unusedSimpArgs false



def errW : Option Int → Value
  | none => .nilIface
  | some c => .iface (c.toNat + 0 * 0) (.agg #[])
theorem errW_none : errW none = .nilIface := rfl
theorem errW_some (c : Int) : errW (some c) = .iface (c.toNat + 0 * 0) (.agg #[]) := rfl

theorem info5 : (Tryd.prog.info? 5).map (fun i => (i.zero, i.size, i.bytes)) = some (some (.int .u8 0), 1, 1) := by kernel_rfl
-- the values' own types

end Go.Proofs.YtpogfbompljkkaaDoor.QFnVarBytes
-- Made by a turned print (own tool turnprint.py over the kit print).
namespace Go.Proofs.YtpogfbompljkkaaDoor.QFnVarBytes
open Go.RowKit Go.Proofs.YtpogfbompljkkaaDoorW.PrintWords Go.Proofs.YtpogfbompljkkaaDoorW.PrintLast Go.Proofs.YtpogfbompljkkaaDoorW.PrintMore
attribute [local go_sem] nn_mod256 nn_mod65536 nn_mod32 max2_int min2_int max_two min_two max_three min_three max_four min_four   -- for this text's walks alone
set_option linter.unusedVariables false
set_option linter.unusedSimpArgs false

-- NOT PRINTED: function 23 (btcdwire_binaryFreeList_Borrow)

-- NOT PRINTED: function 24 (btcdwire_binaryFreeList_Return)

-- NOT PRINTED: function 36 (binary_littleEndian_PutUint16)

-- NOT PRINTED: function 37 (binary_littleEndian_PutUint32)

-- NOT PRINTED: function 38 (binary_littleEndian_PutUint64)

-- NOT PRINTED: function 30 (btcdwire_WriteVarIntBuf)

-- NOT PRINTED: function 25 (btcdwire_WriteVarBytesBuf)

-- NOT PRINTED: function 14 (btcdwire_WriteVarBytes)

-- NOT PRINTED: function 15 (bytes_Buffer_Bytes)

-- NOT PRINTED: function 7 (impl_VarBytes)

/-! ### laws_same: function 8 -/
def laws_same.l0 : Nat → List Int → List Int → Int → Option (Bool)
  | 0, _, _, _ => none
  | k + 1, x0, x1, x5 => if x5 < (x0.length : Int) then (if 0 ≤ x5 then (if x5 < (x1.length : Int) then (if (rd x0 x5) = (rd x1 x5) then (laws_same.l0 k x0 x1 (wrap64 (x5 + 1))) else (some false)) else (none)) else (none)) else (some true)
def laws_same.f (k : Nat) (l0 : List Int) (l1 : List Int) : Option (Bool) := if (l0.length : Int) = (l1.length : Int) then (laws_same.l0 k l0 l1 0) else (some false)
theorem laws_same.mono_l : ∀ k, (∀ y0 y1 y2, LeO (laws_same.l0 k y0 y1 y2) (laws_same.l0 (k + 1) y0 y1 y2))
  | 0 => fun _ _ _ r h => by simp [laws_same.l0] at h
  | k + 1 => by
    have ih0 := laws_same.mono_l k
    · intro y0 y1 y2
      unfold laws_same.l0
      repeat' first
      | (with_reducible exact ih0 _ _ _)
      | (with_reducible exact LeO.refl _)
      | (with_reducible exact LeO.none _)
      | (with_reducible refine LeO.ite ?_ ?_)
      | (with_reducible refine LeO.bind ?_ (fun _ => ?_))
      | exact ih0 _ _ _
      | exact LeO.none _
      | refine LeO.ite ?_ ?_
      | refine LeO.bind ?_ (fun _ => ?_)
theorem laws_same.mono : ∀ a0 a1 k, LeO (laws_same.f k a0 a1) (laws_same.f (k + 1) a0 a1) := by
  intro a0 a1 k
  have ih0 := laws_same.mono_l k
  unfold laws_same.f
  repeat' first
      | (with_reducible exact ih0 _ _ _)
      | (with_reducible exact LeO.refl _)
      | (with_reducible exact LeO.none _)
      | (with_reducible refine LeO.ite ?_ ?_)
      | (with_reducible refine LeO.bind ?_ (fun _ => ?_))
      | exact ih0 _ _ _
      | exact LeO.none _
      | refine LeO.ite ?_ ?_
      | refine LeO.bind ?_ (fun _ => ?_)
set_option maxHeartbeats 8000000 in
set_option maxRecDepth 100000 in
theorem laws_same.calls (k : Nat) (A0 : Option Addr) (c0 : Nat) (l0 : List Int) (A1 : Option Addr) (c1 : Nat) (l1 : List Int) (r : Bool) (w : World) (hr0 : Kd.C (Kd.int .u8) w A0 l0.length l0) (hc0 : l0.length ≤ c0) (hr1 : Kd.C (Kd.int .u8) w A1 l1.length l1) (hc1 : l1.length ≤ c1) (h : laws_same.f k l0 l1 = some r) :
    Calls Tryd.prog 8 #[.slice A0 l0.length c0, .slice A1 l1.length c1] w fun e w' => e = .returned (.bool r) ∧ Drawn0 w w' := by
  have HR0 := Aside0.mk hr0
  have HC0 := Aside0.mk hc0
  clear hr0 hc0
  have HR1 := Aside0.mk hr1
  have HC1 := Aside0.mk hc1
  clear hr1 hc1
  have H : (if (l0.length : Int) = (l1.length : Int) then (laws_same.l0 k l0 l1 0) else (some false)) = some r := h
  clear h
  by_cases c3 : (l0.length : Int) = (l1.length : Int)
  · rw [if_pos c3] at H
    have c3b0 : ((l0.length : Int) == (l1.length : Int)) = true := beq_iff_eq.mpr c3
    have c3b1 : ((l0.length : Int) != (l1.length : Int)) = false := bne_eq_false_iff_eq.mpr c3
    have c3b2 : (l0.length == l1.length) = true := by first | simpa using c3 | (simp at c3 ⊢; omega)
    clear c3
    have H' := Aside0.mk H
    clear H
    go_enter Tryd.func8, Tryd.ntmps8
    go_wp2
    repeat (go_quiet (fail); try go_wp2)
    go_loopg [5] k (fun kq v5 w' => ∃ (x5_1 : Int), v5 = .int .i64 x5_1 ∧ Aside0 (laws_same.l0 kq l0 l1 x5_1 = some r) ∧ Aside0 (kq ≤ k) ∧ Drawn0 w w')
    case atStart => exact ⟨(0), (by first | rfl | (simp; done) | (simp [*]; done)), H', ⟨Nat.le_refl _⟩, by repeat (first | exact Drawn0.refl _ | apply Drawn0.step)⟩
    case round =>
      clear H'
      try clear c1
      try clear p2
      try clear c3
      try clear c3b0
      try clear c3b1
      try clear c3b2
      obtain ⟨x5_1, rfl, HA, HK1, ⟨m1, rfl⟩⟩ := hrel
      cases gk with
      | zero => exact absurd HA.out (by simp [laws_same.l0])
      | succ k1 =>
        have H := HA.out
        clear HA
        simp only [laws_same.l0] at H
        by_cases c4 : x5_1 < (l0.length : Int)
        · rw [if_pos c4] at H
          have c4b0 : decide (x5_1 < (l0.length : Int)) = true := decide_eq_true c4
          clear c4
          by_cases c5 : 0 ≤ x5_1
          · rw [if_pos c5] at H
            have c5b0 : decide (0 ≤ x5_1) = true := decide_eq_true c5
            clear c5
            by_cases c6 : x5_1 < (l1.length : Int)
            · rw [if_pos c6] at H
              have c6b0 : decide (x5_1 < (l1.length : Int)) = true := decide_eq_true c6
              clear c6
              by_cases c7 : (rd l0 x5_1) = (rd l1 x5_1)
              · rw [if_pos c7] at H
                have c7b0 : ((rd l0 x5_1) == (rd l1 x5_1)) = true := beq_iff_eq.mpr c7
                have c7b1 : ((rd l0 x5_1) != (rd l1 x5_1)) = false := bne_eq_false_iff_eq.mpr c7
                clear c7
                have H' := Aside0.mk H
                clear H
                have p102 : 0 ≤ (x5_1 : Int) := of_decide_eq_true (by first | (with_reducible assumption) | assumption)
                have q102 : x5_1 < (l0.length : Int) := of_decide_eq_true (by first | (with_reducible assumption) | assumption)
                obtain ⟨ad102, e102, hx102_0⟩ := Kd.at_int HR0.out x5_1 p102 q102
                cases e102
                replace p102 := eq_true p102
                replace q102 := eq_true q102
                have p103 : 0 ≤ (x5_1 : Int) := of_decide_eq_true (by first | (with_reducible assumption) | assumption)
                have q103 : x5_1 < (l1.length : Int) := of_decide_eq_true (by first | (with_reducible assumption) | assumption)
                obtain ⟨ad103, e103, hx103_0⟩ := Kd.at_int HR1.out x5_1 p103 q103
                cases e103
                replace p103 := eq_true p103
                replace q103 := eq_true q103
                go_wp2
                repeat (go_quiet (fail); try go_wp2)
                go_roundg k1
                case measure => have := HK1.out; omega
                case rel => exact ⟨(wrap64 (x5_1 + 1)), (by first | rfl | (simp; done) | (simp [*]; done)), (by first | exact H' | (subst_vars; exact H')), ⟨by have := HK1.out; omega⟩, by repeat (first | exact Drawn0.refl _ | apply Drawn0.step)⟩
              · rw [if_neg c7] at H
                have c7b0 : ((rd l0 x5_1) == (rd l1 x5_1)) = false := beq_eq_false_iff_ne.mpr c7
                have c7b1 : ((rd l0 x5_1) != (rd l1 x5_1)) = true := bne_iff_ne.mpr c7
                obtain rfl := Option.some.inj H
                have p102 : 0 ≤ (x5_1 : Int) := of_decide_eq_true (by first | (with_reducible assumption) | assumption)
                have q102 : x5_1 < (l0.length : Int) := of_decide_eq_true (by first | (with_reducible assumption) | assumption)
                obtain ⟨ad102, e102, hx102_0⟩ := Kd.at_int HR0.out x5_1 p102 q102
                cases e102
                replace p102 := eq_true p102
                replace q102 := eq_true q102
                have p103 : 0 ≤ (x5_1 : Int) := of_decide_eq_true (by first | (with_reducible assumption) | assumption)
                have q103 : x5_1 < (l1.length : Int) := of_decide_eq_true (by first | (with_reducible assumption) | assumption)
                obtain ⟨ad103, e103, hx103_0⟩ := Kd.at_int HR1.out x5_1 p103 q103
                cases e103
                replace p103 := eq_true p103
                replace q103 := eq_true q103
                go_wp2
                repeat (go_quiet (fail); try go_wp2)
                go_ret
                exact ⟨by first | rfl | (simp; done) | (simp [*]; done), by repeat (first | exact Drawn0.refl _ | apply Drawn0.step)⟩
            · rw [if_neg c6] at H
              exact absurd H (by simp)
          · rw [if_neg c5] at H
            exact absurd H (by simp)
        · rw [if_neg c4] at H
          have c4b0 : decide (x5_1 < (l0.length : Int)) = false := decide_eq_false c4
          clear c4
          obtain rfl := Option.some.inj H
          go_wp2
          repeat (go_quiet (fail); try go_wp2)
          go_ret
          exact ⟨by first | rfl | (simp; done) | (simp [*]; done), by repeat (first | exact Drawn0.refl _ | apply Drawn0.step)⟩
  · rw [if_neg c3] at H
    have c3b0 : ((l0.length : Int) == (l1.length : Int)) = false := beq_eq_false_iff_ne.mpr c3
    have c3b1 : ((l0.length : Int) != (l1.length : Int)) = true := bne_iff_ne.mpr c3
    have c3b2 : (l0.length == l1.length) = false := by first | simpa using c3 | (simp at c3 ⊢; omega)
    obtain rfl := Option.some.inj H
    go_enter Tryd.func8, Tryd.ntmps8
    go_wp2
    repeat (go_quiet (fail); try go_wp2)
    go_ret
    exact ⟨by first | rfl | (simp; done) | (simp [*]; done), by repeat (first | exact Drawn0.refl _ | apply Drawn0.step)⟩

/-! ### spec_little: function 26 -/
def spec_little.l0 : Nat → Int → List Int → Int → Int → Option (List Int)
  | 0, _, _, _, _ => none
  | k + 1, x0, x5, x6, x7 => if x7 < x6 then (if x5.length < 140737488355328 then (spec_little.l0 k (IntKind.u64.wrap (Int.tdiv x0 256)) (x5 ++ [(Int.tmod x0 256) % 256]) x6 (wrap64 (x7 + 1))) else (none)) else (some x5)
def spec_little.f (k : Nat) (a0 : Int) (a1 : Int) : Option (List Int) := spec_little.l0 k a0 ([] : List Int) a1 0
theorem spec_little.mono_l : ∀ k, (∀ y0 y1 y2 y3, LeO (spec_little.l0 k y0 y1 y2 y3) (spec_little.l0 (k + 1) y0 y1 y2 y3))
  | 0 => fun _ _ _ _ r h => by simp [spec_little.l0] at h
  | k + 1 => by
    have ih0 := spec_little.mono_l k
    · intro y0 y1 y2 y3
      unfold spec_little.l0
      repeat' first
      | (with_reducible exact ih0 _ _ _ _)
      | (with_reducible exact LeO.refl _)
      | (with_reducible exact LeO.none _)
      | (with_reducible refine LeO.ite ?_ ?_)
      | (with_reducible refine LeO.bind ?_ (fun _ => ?_))
      | exact ih0 _ _ _ _
      | exact LeO.none _
      | refine LeO.ite ?_ ?_
      | refine LeO.bind ?_ (fun _ => ?_)
theorem spec_little.mono : ∀ a0 a1 k, LeO (spec_little.f k a0 a1) (spec_little.f (k + 1) a0 a1) := by
  intro a0 a1 k
  have ih0 := spec_little.mono_l k
  unfold spec_little.f
  repeat' first
      | (with_reducible exact ih0 _ _ _ _)
      | (with_reducible exact LeO.refl _)
      | (with_reducible exact LeO.none _)
      | (with_reducible refine LeO.ite ?_ ?_)
      | (with_reducible refine LeO.bind ?_ (fun _ => ?_))
      | exact ih0 _ _ _ _
      | exact LeO.none _
      | refine LeO.ite ?_ ?_
      | refine LeO.bind ?_ (fun _ => ?_)
set_option maxHeartbeats 8000000 in
set_option maxRecDepth 100000 in
theorem spec_little.calls (k : Nat) (a0 : Int) (a1 : Int) (r : List Int) (w : World) (h : spec_little.f k a0 a1 = some r) :
    Calls Tryd.prog 26 #[.int .u64 a0, .int .i64 a1] w fun e w' => ∃ v0_ : Value, e = .returned (v0_) ∧ Kd.R (Kd.int .u8) 5 w' w.heap.size (fun _ => True) v0_ r ∧ Below w.heap.size w w' := by
  have HB := Aside0.mk (Below.refl w.heap.size w)
  have H : (spec_little.l0 k a0 ([] : List Int) a1 0) = some r := h
  clear h
  have H' := Aside0.mk H
  clear H
  go_enter Tryd.func26, Tryd.ntmps26
  go_wp2
  go_loopg [0, 5, 7] k (fun kq v0 v5 v7 w' => ∃ (x0_1 : Int) (x5_1 : List Int) (x7_1 : Int), v0 = .int .u64 x0_1 ∧ v7 = .int .i64 x7_1 ∧ Aside0 (spec_little.l0 kq x0_1 x5_1 a1 x7_1 = some r) ∧ Aside0 (kq ≤ k) ∧ Aside0 (Kd.R (Kd.int .u8) 5 w' w.heap.size (fun _ => True) v5 x5_1) ∧ Aside0 (Below w.heap.size w w'))
  case atStart => exact ⟨(a0), (([] : List Int)), (0), (by first | rfl | (simp; done) | (simp [*]; done)), (by first | rfl | (simp; done) | (simp [*]; done)), H', ⟨Nat.le_refl _⟩, ⟨by first | exact Kd.R_nil _ _ _ _ _ | exact Kd.N_nil _ _ _ _ _ | exact Kd.V_nil _ _ _ _ _ | exact Kd.Q_nil _ _ _ _ _ | exact Kd.S_nil _ _ _ _ _⟩, ⟨by repeat (first | (with_reducible first | exact HB.out | apply below_alloc | apply pw_below_drewN | apply below_drew1) | exact HB.out)⟩⟩
  case round =>
    clear H'
    try clear c2
    try clear p2
    obtain ⟨x0_1, x5_1, x7_1, rfl, rfl, HA, HK1, HO_5, HB⟩ := hrel
    cases gk with
    | zero => exact absurd HA.out (by simp [spec_little.l0])
    | succ k1 =>
      have H := HA.out
      clear HA
      simp only [spec_little.l0] at H
      by_cases c3 : x7_1 < a1
      · rw [if_pos c3] at H
        have c3b0 : decide (x7_1 < a1) = true := decide_eq_true c3
        clear c3
        by_cases c4 : x5_1.length < 140737488355328
        · rw [if_pos c4] at H
          have LMc4 := Aside0.mk c4
          clear c4
          obtain ⟨y104, hy104⟩ : ∃ y_ : List Int, y_ = (x5_1 ++ [(Int.tmod x0_1 256) % 256]) := ⟨_, rfl⟩
          replace H : (spec_little.l0 k1 (IntKind.u64.wrap (Int.tdiv x0_1 256)) y104 a1 (wrap64 (x7_1 + 1))) = some r := by first | (rw [hy104]; with_reducible exact H) | (have H2_ := (Option.bind_some _ _).symm.trans H; rw [hy104]; with_reducible exact H2_) | (have H2_ := (Option.bind_some _ _).symm.trans H; with_reducible exact H2_) | with_reducible exact H | (rw [hy104]; exact H) | exact H
          have Ny104 := Aside0.mk hy104
          clear hy104
          have H' := Aside0.mk H
          clear H
          go_wp2_with (first | ((with_reducible refine gate_builtin (b := .append) (xs := #[.tmp 9, .tmp 13]) rfl ?_); at_builtin; refine Kd.R_append (Kd.int .u8) (w0 := w) w.heap.size rfl (.tmp 9) (.tmp 13) 28 5 (.int .u8 0) 1 rfl Tryd.underlying28 info5 rfl (by decide) (by omega) u5 x5_1 ((Int.tmod x0_1 256) % 256) [.int .u8 ((Int.tmod x0_1 256) % 256)] (fun _ => True) (fun _ => False) rfl rfl ?aP (fun _ hk => hk.elim) ?aF ?aO ?aB ?aS ?aL ?_; (case aP => exact rfl); (case aB => exact (by repeat (first | (with_reducible first | exact HB.out | apply below_alloc | apply pw_below_drewN | apply below_drew1) | exact HB.out))); (case aF => exact (fun _ _ => trivial)); (case aO => exact (by (with_reducible repeat (first | apply Kd.R_alloc | apply Kd.R_drewN | apply Kd.R_drew)); exact HO_5.out)); (case aS => exact (below_size (by repeat (first | (with_reducible first | exact HB.out | apply below_alloc | apply pw_below_drewN | apply below_drew1) | exact HB.out)))); (case aL => have := LMc4.out; omega); intro v105 w5 ho hb hg hat; rw [← Ny104.out] at ho; have n0_ := Aside0.mk (hb); have n1_ := Aside0.mk (ho); clear HB; clear HO_5; have HB := n0_; have HO106 := n1_; clear n0_ n1_; clear ho hb hg hat))
          go_roundg k1
          case measure => have := HK1.out; omega
          case rel => exact ⟨(IntKind.u64.wrap (Int.tdiv x0_1 256)), (y104), (wrap64 (x7_1 + 1)), (by first | rfl | (simp; done) | (simp [*]; done)), (by first | rfl | (simp; done) | (simp [*]; done)), (by first | exact H' | (subst_vars; exact H')), ⟨by have := HK1.out; omega⟩, ⟨by (with_reducible repeat (first | apply Kd.R_alloc | apply Kd.R_drewN | apply Kd.R_drew)); exact HO106.out⟩, ⟨by repeat (first | (with_reducible first | exact HB.out | apply below_alloc | apply pw_below_drewN | apply below_drew1) | exact HB.out)⟩⟩
        · rw [if_neg c4] at H
          exact absurd H (by simp)
      · rw [if_neg c3] at H
        have c3b0 : decide (x7_1 < a1) = false := decide_eq_false c3
        clear c3
        obtain rfl := Option.some.inj H
        go_wp2
        go_ret
        exact ⟨_, by first | rfl | (simp [errW_none, errW_some] <;> rfl) | (simp [*, errW_none, errW_some] <;> rfl), by (with_reducible repeat (first | apply Kd.R_alloc | apply Kd.R_drewN | apply Kd.R_drew)); exact HO_5.out, by repeat (first | (with_reducible first | exact HB.out | apply below_alloc | apply pw_below_drewN | apply below_drew1) | exact HB.out)⟩

/-! ### spec_VarInt: function 16 -/
def spec_VarInt.f (k : Nat) (a0 : Int) : Option (List Int) := if a0 < 253 then (some (([(a0) % 256] : List Int))) else (if a0 < 65536 then ((some (([253] : List Int) : List Int)).bind fun y110 => ((spec_little.f k a0 2).bind fun t113 => (if y110.length + t113.length < 140737488355328 then (some (y110 ++ t113)) else (none)))) else (if a0 < 4294967296 then ((some (([254] : List Int) : List Int)).bind fun y119 => ((spec_little.f k a0 4).bind fun t122 => (if y119.length + t122.length < 140737488355328 then (some (y119 ++ t122)) else (none)))) else ((some (([255] : List Int) : List Int)).bind fun y128 => ((spec_little.f k a0 8).bind fun t131 => (if y128.length + t131.length < 140737488355328 then (some (y128 ++ t131)) else (none))))))
theorem spec_VarInt.mono : ∀ a0 k, LeO (spec_VarInt.f k a0) (spec_VarInt.f (k + 1) a0) := by
  intro a0 k
  unfold spec_VarInt.f
  repeat' first
      | (with_reducible exact spec_little.mono _ _ _)
      | (with_reducible exact LeO.refl _)
      | (with_reducible exact LeO.none _)
      | (with_reducible refine LeO.ite ?_ ?_)
      | (with_reducible refine LeO.bind ?_ (fun _ => ?_))
      | exact spec_little.mono _ _ _
      | exact LeO.none _
      | refine LeO.ite ?_ ?_
      | refine LeO.bind ?_ (fun _ => ?_)
set_option maxHeartbeats 8000000 in
set_option maxRecDepth 100000 in
theorem spec_VarInt.calls (k : Nat) (a0 : Int) (r : List Int) (w : World) (h : spec_VarInt.f k a0 = some r) :
    Calls Tryd.prog 16 #[.int .u64 a0] w fun e w' => ∃ v0_ : Value, e = .returned (v0_) ∧ Kd.R (Kd.int .u8) 5 w' w.heap.size (fun _ => True) v0_ r ∧ Below w.heap.size w w' := by
  have HB := Aside0.mk (Below.refl w.heap.size w)
  have H : (if a0 < 253 then (some (([(a0) % 256] : List Int))) else (if a0 < 65536 then ((some (([253] : List Int) : List Int)).bind fun y110 => ((spec_little.f k a0 2).bind fun t113 => (if y110.length + t113.length < 140737488355328 then (some (y110 ++ t113)) else (none)))) else (if a0 < 4294967296 then ((some (([254] : List Int) : List Int)).bind fun y119 => ((spec_little.f k a0 4).bind fun t122 => (if y119.length + t122.length < 140737488355328 then (some (y119 ++ t122)) else (none)))) else ((some (([255] : List Int) : List Int)).bind fun y128 => ((spec_little.f k a0 8).bind fun t131 => (if y128.length + t131.length < 140737488355328 then (some (y128 ++ t131)) else (none))))))) = some r := h
  clear h
  by_cases c2 : a0 < 253
  · rw [if_pos c2] at H
    have c2b0 : decide (a0 < 253) = true := decide_eq_true c2
    clear c2
    obtain ⟨y107, hy107⟩ : ∃ y_ : List Int, y_ = (([(a0) % 256] : List Int)) := ⟨_, rfl⟩
    replace H : (some y107) = some r := by first | (rw [hy107]; with_reducible exact H) | (have H2_ := (Option.bind_some _ _).symm.trans H; rw [hy107]; with_reducible exact H2_) | (have H2_ := (Option.bind_some _ _).symm.trans H; with_reducible exact H2_) | with_reducible exact H | (rw [hy107]; exact H) | exact H
    have Ny107 := Aside0.mk hy107
    clear hy107
    obtain rfl := Option.some.inj H
    go_enter Tryd.func16, Tryd.ntmps16
    go_wp2_with (first | ((with_reducible refine gate_dst (N := 8) rfl ?_); refine Kd.R_lit (Kd.int .u8) _ 5 ?hg (N := 8) ?hd (xs := ([(a0) % 256] : List Int)) (inner := [.int .u8 ((a0) % 256)]) (ok := fun _ => True) (okp := fun _ => True) ?hr ?hp (fun _ hk => hk) trivial (Below.refl _ _) (Nat.le_refl _) (by simp) ?_; (case hd => rfl); (case hg => rfl); (case hr => first | (go_simp; done) | (go_simp; rfl)); (case hp => exact (Reps.one (show Kd.M (Kd.int .u8) _ _ _ ((a0) % 256) [.int .u8 ((a0) % 256)] from rfl) (Reps.none _ _))); intro v108 w3 ho4 hb hg_ hnew_; clear hg_ hnew_; (first | rw [← Ny107.out] at ho4 | (simp only [Int.reduceToNat] at ho4; rw [← Ny107.out] at ho4)); have n0_ := Aside0.mk (Kd.R_lower ho4 (below_size (by repeat (first | (with_reducible first | exact HB.out | apply below_alloc | apply pw_below_drewN | apply below_drew1) | exact HB.out)))); have n1_ := Aside0.mk (below_step (by repeat (first | (with_reducible first | exact HB.out | apply below_alloc | apply pw_below_drewN | apply below_drew1) | exact HB.out)) hb); clear HB; have HO109 := n0_; have HB := n1_; clear n0_ n1_; clear hb ho4))
    go_ret
    exact ⟨_, by first | rfl | (simp [errW_none, errW_some] <;> rfl) | (simp [*, errW_none, errW_some] <;> rfl), by (with_reducible repeat (first | apply Kd.R_alloc | apply Kd.R_drewN | apply Kd.R_drew)); exact HO109.out, by repeat (first | (with_reducible first | exact HB.out | apply below_alloc | apply pw_below_drewN | apply below_drew1) | exact HB.out)⟩
  · rw [if_neg c2] at H
    have c2b0 : decide (a0 < 253) = false := decide_eq_false c2
    clear c2
    by_cases c5 : a0 < 65536
    · rw [if_pos c5] at H
      have c5b0 : decide (a0 < 65536) = true := decide_eq_true c5
      clear c5
      obtain ⟨y110, hy110⟩ : ∃ y_ : List Int, y_ = (([253] : List Int)) := ⟨_, rfl⟩
      replace H : ((spec_little.f k a0 2).bind fun t113 => (if y110.length + t113.length < 140737488355328 then (some (y110 ++ t113)) else (none))) = some r := by first | (rw [hy110]; with_reducible exact H) | (have H2_ := (Option.bind_some _ _).symm.trans H; rw [hy110]; with_reducible exact H2_) | (have H2_ := (Option.bind_some _ _).symm.trans H; with_reducible exact H2_) | with_reducible exact H | (rw [hy110]; exact H) | exact H
      have Ny110 := Aside0.mk hy110
      clear hy110
      replace H := Option.bind_eq_some_iff.mp H
      obtain ⟨t113, A60, H⟩ := H
      replace H : (if y110.length + t113.length < 140737488355328 then (some (y110 ++ t113)) else (none)) = some r := H
      have A6 := Aside0.mk A60
      clear A60
      by_cases c7 : y110.length + t113.length < 140737488355328
      · rw [if_pos c7] at H
        have LMc7 := Aside0.mk c7
        clear c7
        obtain ⟨y116, hy116⟩ : ∃ y_ : List Int, y_ = (y110 ++ t113) := ⟨_, rfl⟩
        replace H : (some y116) = some r := by first | (rw [hy116]; with_reducible exact H) | (have H2_ := (Option.bind_some _ _).symm.trans H; rw [hy116]; with_reducible exact H2_) | (have H2_ := (Option.bind_some _ _).symm.trans H; with_reducible exact H2_) | with_reducible exact H | (rw [hy116]; exact H) | exact H
        have Ny116 := Aside0.mk hy116
        clear hy116
        obtain rfl := Option.some.inj H
        go_enter Tryd.func16, Tryd.ntmps16
        go_wp2_with (first | ((with_reducible refine gate_dst (N := 12) rfl ?_); refine Kd.R_lit (Kd.int .u8) _ 5 ?hg (N := 12) ?hd (xs := ([253] : List Int)) (inner := [.int .u8 253]) (ok := fun _ => True) (okp := fun _ => True) ?hr ?hp (fun _ hk => hk) trivial (Below.refl _ _) (Nat.le_refl _) (by simp) ?_; (case hd => rfl); (case hg => rfl); (case hr => first | (go_simp; done) | (go_simp; rfl)); (case hp => exact (Reps.one (show Kd.M (Kd.int .u8) _ _ _ 253 [.int .u8 253] from rfl) (Reps.none _ _))); intro v111 w8 ho9 hb hg_ hnew_; clear hg_ hnew_; (first | rw [← Ny110.out] at ho9 | (simp only [Int.reduceToNat] at ho9; rw [← Ny110.out] at ho9)); have n0_ := Aside0.mk (Kd.R_lower ho9 (below_size (by repeat (first | (with_reducible first | exact HB.out | apply below_alloc | apply pw_below_drewN | apply below_drew1) | exact HB.out)))); have n1_ := Aside0.mk (below_step (by repeat (first | (with_reducible first | exact HB.out | apply below_alloc | apply pw_below_drewN | apply below_drew1) | exact HB.out)) hb); clear HB; have HO112 := n0_; have HB := n1_; clear n0_ n1_; clear hb ho9) | ((with_reducible refine gate_callee (f := 26) rfl ?_); refine goesL_ (some 14) rfl rfl Tryd.func26 (by kernel_rfl) rfl #[.int .u64 a0, .int .i64 2] rfl (by (try simp only [List.map_toArray, List.map_cons, List.map_nil]); first | done | rfl | (simp only [List.length_drop, List.length_take]; rfl)) ?_; (with_reducible refine (spec_little.calls k a0 2 t113 _ A6.out).mono ?_); rintro e w10 ⟨v114, rfl, ho0, hb⟩; refine ⟨_, rfl, ?_⟩; have n0_ := Aside0.mk (Kd.R_elder' (by (with_reducible repeat (first | apply Kd.R_alloc | apply Kd.R_drewN | apply Kd.R_drew)); exact HO112.out) (Kd.R_base ho0) hb); have n1_ := Aside0.mk (Kd.R_lower (Kd.R_new' ho0 (Kd.R_lt (by (with_reducible repeat (first | apply Kd.R_alloc | apply Kd.R_drewN | apply Kd.R_drew)); exact HO112.out))) (below_size (by repeat (first | (with_reducible first | exact HB.out | apply below_alloc | apply pw_below_drewN | apply below_drew1) | exact HB.out)))); have n2_ := Aside0.mk (below_step (by repeat (first | (with_reducible first | exact HB.out | apply below_alloc | apply pw_below_drewN | apply below_drew1) | exact HB.out)) hb); clear HO112; clear HB; have HO112 := n0_; have HO115 := n1_; have HB := n2_; clear n0_ n1_ n2_; (try clear hb); (try clear hb2); (try clear hk); (try clear hi); (try clear ho0); obtain ⟨Ao12, co12, eo12⟩ := Kd.R_slice HO115.out; subst eo12) | ((with_reducible refine gate_builtin (b := .append) (xs := #[.tmp 12, .tmp 14]) rfl ?_); at_builtin; refine Kd.R_append_rows (Kd.int .u8) (w0 := w) w.heap.size rfl (.tmp 12) (.tmp 14) 28 5 (.int .u8 0) 1 rfl Tryd.underlying28 info5 rfl (by decide) (by omega) v111 y110 t113 _ _ _ (fun k_ => some k_ ≠ (.slice Ao12 t113.length co12 : Value).ownBlock) (fun _ => False) rfl rfl ?aO ?aR (fun _ _ h => h) (fun _ h => h.elim) ?aF ?aB ?aS ?aL ?_; (case aR => repeat (first | exact (Kd.R_reads' HO115.out).2.2 | (with_reducible refine Kd.C_alloc ?_ _) | (with_reducible refine Kd.C_drewN ?_ _) | (with_reducible refine Kd.C_drew ?_))); (case aB => exact (by repeat (first | (with_reducible first | exact HB.out | apply below_alloc | apply pw_below_drewN | apply below_drew1) | exact HB.out))); (case aF => exact (fun k_ hk => Kd.fresh' (Kd.R_lt (by (with_reducible repeat (first | apply Kd.R_alloc | apply Kd.R_drewN | apply Kd.R_drew)); exact HO115.out)) k_ hk)); (case aO => exact (by (with_reducible repeat (first | apply Kd.R_alloc | apply Kd.R_drewN | apply Kd.R_drew)); exact Kd.R_mono HO112.out (fun _ hk => hk.2))); (case aS => exact (below_size (by repeat (first | (with_reducible first | exact HB.out | apply below_alloc | apply pw_below_drewN | apply below_drew1) | exact HB.out)))); (case aL => have := LMc7.out; omega); intro v117 w11 ho hb hg hat; rw [← Ny116.out] at ho; have n0_ := Aside0.mk (Kd.R_after (ok := (fun _ => True)) (by (with_reducible repeat (first | apply Kd.R_alloc | apply Kd.R_drewN | apply Kd.R_drew)); exact HO115.out) hg hat); have n1_ := Aside0.mk (hb); have n2_ := Aside0.mk (ho); clear HO115; clear HB; clear HO112; have HO115 := n0_; have HB := n1_; have HO118 := n2_; clear n0_ n1_ n2_; clear ho hb hg hat))
        go_ret
        exact ⟨_, by first | rfl | (simp [errW_none, errW_some] <;> rfl) | (simp [*, errW_none, errW_some] <;> rfl), by (with_reducible repeat (first | apply Kd.R_alloc | apply Kd.R_drewN | apply Kd.R_drew)); exact Kd.R_mono HO118.out (fun _ hk => trivial), by repeat (first | (with_reducible first | exact HB.out | apply below_alloc | apply pw_below_drewN | apply below_drew1) | exact HB.out)⟩
      · rw [if_neg c7] at H
        exact absurd H (by simp)
    · rw [if_neg c5] at H
      have c5b0 : decide (a0 < 65536) = false := decide_eq_false c5
      clear c5
      by_cases c13 : a0 < 4294967296
      · rw [if_pos c13] at H
        have c13b0 : decide (a0 < 4294967296) = true := decide_eq_true c13
        clear c13
        obtain ⟨y119, hy119⟩ : ∃ y_ : List Int, y_ = (([254] : List Int)) := ⟨_, rfl⟩
        replace H : ((spec_little.f k a0 4).bind fun t122 => (if y119.length + t122.length < 140737488355328 then (some (y119 ++ t122)) else (none))) = some r := by first | (rw [hy119]; with_reducible exact H) | (have H2_ := (Option.bind_some _ _).symm.trans H; rw [hy119]; with_reducible exact H2_) | (have H2_ := (Option.bind_some _ _).symm.trans H; with_reducible exact H2_) | with_reducible exact H | (rw [hy119]; exact H) | exact H
        have Ny119 := Aside0.mk hy119
        clear hy119
        replace H := Option.bind_eq_some_iff.mp H
        obtain ⟨t122, A140, H⟩ := H
        replace H : (if y119.length + t122.length < 140737488355328 then (some (y119 ++ t122)) else (none)) = some r := H
        have A14 := Aside0.mk A140
        clear A140
        by_cases c15 : y119.length + t122.length < 140737488355328
        · rw [if_pos c15] at H
          have LMc15 := Aside0.mk c15
          clear c15
          obtain ⟨y125, hy125⟩ : ∃ y_ : List Int, y_ = (y119 ++ t122) := ⟨_, rfl⟩
          replace H : (some y125) = some r := by first | (rw [hy125]; with_reducible exact H) | (have H2_ := (Option.bind_some _ _).symm.trans H; rw [hy125]; with_reducible exact H2_) | (have H2_ := (Option.bind_some _ _).symm.trans H; with_reducible exact H2_) | with_reducible exact H | (rw [hy125]; exact H) | exact H
          have Ny125 := Aside0.mk hy125
          clear hy125
          obtain rfl := Option.some.inj H
          go_enter Tryd.func16, Tryd.ntmps16
          go_wp2_with (first | ((with_reducible refine gate_dst (N := 19) rfl ?_); refine Kd.R_lit (Kd.int .u8) _ 5 ?hg (N := 19) ?hd (xs := ([254] : List Int)) (inner := [.int .u8 254]) (ok := fun _ => True) (okp := fun _ => True) ?hr ?hp (fun _ hk => hk) trivial (Below.refl _ _) (Nat.le_refl _) (by simp) ?_; (case hd => rfl); (case hg => rfl); (case hr => first | (go_simp; done) | (go_simp; rfl)); (case hp => exact (Reps.one (show Kd.M (Kd.int .u8) _ _ _ 254 [.int .u8 254] from rfl) (Reps.none _ _))); intro v120 w16 ho17 hb hg_ hnew_; clear hg_ hnew_; (first | rw [← Ny119.out] at ho17 | (simp only [Int.reduceToNat] at ho17; rw [← Ny119.out] at ho17)); have n0_ := Aside0.mk (Kd.R_lower ho17 (below_size (by repeat (first | (with_reducible first | exact HB.out | apply below_alloc | apply pw_below_drewN | apply below_drew1) | exact HB.out)))); have n1_ := Aside0.mk (below_step (by repeat (first | (with_reducible first | exact HB.out | apply below_alloc | apply pw_below_drewN | apply below_drew1) | exact HB.out)) hb); clear HB; have HO121 := n0_; have HB := n1_; clear n0_ n1_; clear hb ho17) | ((with_reducible refine gate_callee (f := 26) rfl ?_); refine goesL_ (some 21) rfl rfl Tryd.func26 (by kernel_rfl) rfl #[.int .u64 a0, .int .i64 4] rfl (by (try simp only [List.map_toArray, List.map_cons, List.map_nil]); first | done | rfl | (simp only [List.length_drop, List.length_take]; rfl)) ?_; (with_reducible refine (spec_little.calls k a0 4 t122 _ A14.out).mono ?_); rintro e w18 ⟨v123, rfl, ho0, hb⟩; refine ⟨_, rfl, ?_⟩; have n0_ := Aside0.mk (Kd.R_elder' (by (with_reducible repeat (first | apply Kd.R_alloc | apply Kd.R_drewN | apply Kd.R_drew)); exact HO121.out) (Kd.R_base ho0) hb); have n1_ := Aside0.mk (Kd.R_lower (Kd.R_new' ho0 (Kd.R_lt (by (with_reducible repeat (first | apply Kd.R_alloc | apply Kd.R_drewN | apply Kd.R_drew)); exact HO121.out))) (below_size (by repeat (first | (with_reducible first | exact HB.out | apply below_alloc | apply pw_below_drewN | apply below_drew1) | exact HB.out)))); have n2_ := Aside0.mk (below_step (by repeat (first | (with_reducible first | exact HB.out | apply below_alloc | apply pw_below_drewN | apply below_drew1) | exact HB.out)) hb); clear HO121; clear HB; have HO121 := n0_; have HO124 := n1_; have HB := n2_; clear n0_ n1_ n2_; (try clear hb); (try clear hb2); (try clear hk); (try clear hi); (try clear ho0); obtain ⟨Ao20, co20, eo20⟩ := Kd.R_slice HO124.out; subst eo20) | ((with_reducible refine gate_builtin (b := .append) (xs := #[.tmp 19, .tmp 21]) rfl ?_); at_builtin; refine Kd.R_append_rows (Kd.int .u8) (w0 := w) w.heap.size rfl (.tmp 19) (.tmp 21) 28 5 (.int .u8 0) 1 rfl Tryd.underlying28 info5 rfl (by decide) (by omega) v120 y119 t122 _ _ _ (fun k_ => some k_ ≠ (.slice Ao20 t122.length co20 : Value).ownBlock) (fun _ => False) rfl rfl ?aO ?aR (fun _ _ h => h) (fun _ h => h.elim) ?aF ?aB ?aS ?aL ?_; (case aR => repeat (first | exact (Kd.R_reads' HO124.out).2.2 | (with_reducible refine Kd.C_alloc ?_ _) | (with_reducible refine Kd.C_drewN ?_ _) | (with_reducible refine Kd.C_drew ?_))); (case aB => exact (by repeat (first | (with_reducible first | exact HB.out | apply below_alloc | apply pw_below_drewN | apply below_drew1) | exact HB.out))); (case aF => exact (fun k_ hk => Kd.fresh' (Kd.R_lt (by (with_reducible repeat (first | apply Kd.R_alloc | apply Kd.R_drewN | apply Kd.R_drew)); exact HO124.out)) k_ hk)); (case aO => exact (by (with_reducible repeat (first | apply Kd.R_alloc | apply Kd.R_drewN | apply Kd.R_drew)); exact Kd.R_mono HO121.out (fun _ hk => hk.2))); (case aS => exact (below_size (by repeat (first | (with_reducible first | exact HB.out | apply below_alloc | apply pw_below_drewN | apply below_drew1) | exact HB.out)))); (case aL => have := LMc15.out; omega); intro v126 w19 ho hb hg hat; rw [← Ny125.out] at ho; have n0_ := Aside0.mk (Kd.R_after (ok := (fun _ => True)) (by (with_reducible repeat (first | apply Kd.R_alloc | apply Kd.R_drewN | apply Kd.R_drew)); exact HO124.out) hg hat); have n1_ := Aside0.mk (hb); have n2_ := Aside0.mk (ho); clear HO124; clear HB; clear HO121; have HO124 := n0_; have HB := n1_; have HO127 := n2_; clear n0_ n1_ n2_; clear ho hb hg hat))
          go_ret
          exact ⟨_, by first | rfl | (simp [errW_none, errW_some] <;> rfl) | (simp [*, errW_none, errW_some] <;> rfl), by (with_reducible repeat (first | apply Kd.R_alloc | apply Kd.R_drewN | apply Kd.R_drew)); exact Kd.R_mono HO127.out (fun _ hk => trivial), by repeat (first | (with_reducible first | exact HB.out | apply below_alloc | apply pw_below_drewN | apply below_drew1) | exact HB.out)⟩
        · rw [if_neg c15] at H
          exact absurd H (by simp)
      · rw [if_neg c13] at H
        have c13b0 : decide (a0 < 4294967296) = false := decide_eq_false c13
        clear c13
        obtain ⟨y128, hy128⟩ : ∃ y_ : List Int, y_ = (([255] : List Int)) := ⟨_, rfl⟩
        replace H : ((spec_little.f k a0 8).bind fun t131 => (if y128.length + t131.length < 140737488355328 then (some (y128 ++ t131)) else (none))) = some r := by first | (rw [hy128]; with_reducible exact H) | (have H2_ := (Option.bind_some _ _).symm.trans H; rw [hy128]; with_reducible exact H2_) | (have H2_ := (Option.bind_some _ _).symm.trans H; with_reducible exact H2_) | with_reducible exact H | (rw [hy128]; exact H) | exact H
        have Ny128 := Aside0.mk hy128
        clear hy128
        replace H := Option.bind_eq_some_iff.mp H
        obtain ⟨t131, A210, H⟩ := H
        replace H : (if y128.length + t131.length < 140737488355328 then (some (y128 ++ t131)) else (none)) = some r := H
        have A21 := Aside0.mk A210
        clear A210
        by_cases c22 : y128.length + t131.length < 140737488355328
        · rw [if_pos c22] at H
          have LMc22 := Aside0.mk c22
          clear c22
          obtain ⟨y134, hy134⟩ : ∃ y_ : List Int, y_ = (y128 ++ t131) := ⟨_, rfl⟩
          replace H : (some y134) = some r := by first | (rw [hy134]; with_reducible exact H) | (have H2_ := (Option.bind_some _ _).symm.trans H; rw [hy134]; with_reducible exact H2_) | (have H2_ := (Option.bind_some _ _).symm.trans H; with_reducible exact H2_) | with_reducible exact H | (rw [hy134]; exact H) | exact H
          have Ny134 := Aside0.mk hy134
          clear hy134
          obtain rfl := Option.some.inj H
          go_enter Tryd.func16, Tryd.ntmps16
          go_wp2_with (first | ((with_reducible refine gate_dst (N := 23) rfl ?_); refine Kd.R_lit (Kd.int .u8) _ 5 ?hg (N := 23) ?hd (xs := ([255] : List Int)) (inner := [.int .u8 255]) (ok := fun _ => True) (okp := fun _ => True) ?hr ?hp (fun _ hk => hk) trivial (Below.refl _ _) (Nat.le_refl _) (by simp) ?_; (case hd => rfl); (case hg => rfl); (case hr => first | (go_simp; done) | (go_simp; rfl)); (case hp => exact (Reps.one (show Kd.M (Kd.int .u8) _ _ _ 255 [.int .u8 255] from rfl) (Reps.none _ _))); intro v129 w23 ho24 hb hg_ hnew_; clear hg_ hnew_; (first | rw [← Ny128.out] at ho24 | (simp only [Int.reduceToNat] at ho24; rw [← Ny128.out] at ho24)); have n0_ := Aside0.mk (Kd.R_lower ho24 (below_size (by repeat (first | (with_reducible first | exact HB.out | apply below_alloc | apply pw_below_drewN | apply below_drew1) | exact HB.out)))); have n1_ := Aside0.mk (below_step (by repeat (first | (with_reducible first | exact HB.out | apply below_alloc | apply pw_below_drewN | apply below_drew1) | exact HB.out)) hb); clear HB; have HO130 := n0_; have HB := n1_; clear n0_ n1_; clear hb ho24) | ((with_reducible refine gate_callee (f := 26) rfl ?_); refine goesL_ (some 25) rfl rfl Tryd.func26 (by kernel_rfl) rfl #[.int .u64 a0, .int .i64 8] rfl (by (try simp only [List.map_toArray, List.map_cons, List.map_nil]); first | done | rfl | (simp only [List.length_drop, List.length_take]; rfl)) ?_; (with_reducible refine (spec_little.calls k a0 8 t131 _ A21.out).mono ?_); rintro e w25 ⟨v132, rfl, ho0, hb⟩; refine ⟨_, rfl, ?_⟩; have n0_ := Aside0.mk (Kd.R_elder' (by (with_reducible repeat (first | apply Kd.R_alloc | apply Kd.R_drewN | apply Kd.R_drew)); exact HO130.out) (Kd.R_base ho0) hb); have n1_ := Aside0.mk (Kd.R_lower (Kd.R_new' ho0 (Kd.R_lt (by (with_reducible repeat (first | apply Kd.R_alloc | apply Kd.R_drewN | apply Kd.R_drew)); exact HO130.out))) (below_size (by repeat (first | (with_reducible first | exact HB.out | apply below_alloc | apply pw_below_drewN | apply below_drew1) | exact HB.out)))); have n2_ := Aside0.mk (below_step (by repeat (first | (with_reducible first | exact HB.out | apply below_alloc | apply pw_below_drewN | apply below_drew1) | exact HB.out)) hb); clear HO130; clear HB; have HO130 := n0_; have HO133 := n1_; have HB := n2_; clear n0_ n1_ n2_; (try clear hb); (try clear hb2); (try clear hk); (try clear hi); (try clear ho0); obtain ⟨Ao27, co27, eo27⟩ := Kd.R_slice HO133.out; subst eo27) | ((with_reducible refine gate_builtin (b := .append) (xs := #[.tmp 23, .tmp 25]) rfl ?_); at_builtin; refine Kd.R_append_rows (Kd.int .u8) (w0 := w) w.heap.size rfl (.tmp 23) (.tmp 25) 28 5 (.int .u8 0) 1 rfl Tryd.underlying28 info5 rfl (by decide) (by omega) v129 y128 t131 _ _ _ (fun k_ => some k_ ≠ (.slice Ao27 t131.length co27 : Value).ownBlock) (fun _ => False) rfl rfl ?aO ?aR (fun _ _ h => h) (fun _ h => h.elim) ?aF ?aB ?aS ?aL ?_; (case aR => repeat (first | exact (Kd.R_reads' HO133.out).2.2 | (with_reducible refine Kd.C_alloc ?_ _) | (with_reducible refine Kd.C_drewN ?_ _) | (with_reducible refine Kd.C_drew ?_))); (case aB => exact (by repeat (first | (with_reducible first | exact HB.out | apply below_alloc | apply pw_below_drewN | apply below_drew1) | exact HB.out))); (case aF => exact (fun k_ hk => Kd.fresh' (Kd.R_lt (by (with_reducible repeat (first | apply Kd.R_alloc | apply Kd.R_drewN | apply Kd.R_drew)); exact HO133.out)) k_ hk)); (case aO => exact (by (with_reducible repeat (first | apply Kd.R_alloc | apply Kd.R_drewN | apply Kd.R_drew)); exact Kd.R_mono HO130.out (fun _ hk => hk.2))); (case aS => exact (below_size (by repeat (first | (with_reducible first | exact HB.out | apply below_alloc | apply pw_below_drewN | apply below_drew1) | exact HB.out)))); (case aL => have := LMc22.out; omega); intro v135 w26 ho hb hg hat; rw [← Ny134.out] at ho; have n0_ := Aside0.mk (Kd.R_after (ok := (fun _ => True)) (by (with_reducible repeat (first | apply Kd.R_alloc | apply Kd.R_drewN | apply Kd.R_drew)); exact HO133.out) hg hat); have n1_ := Aside0.mk (hb); have n2_ := Aside0.mk (ho); clear HO133; clear HB; clear HO130; have HO133 := n0_; have HB := n1_; have HO136 := n2_; clear n0_ n1_ n2_; clear ho hb hg hat))
          go_ret
          exact ⟨_, by first | rfl | (simp [errW_none, errW_some] <;> rfl) | (simp [*, errW_none, errW_some] <;> rfl), by (with_reducible repeat (first | apply Kd.R_alloc | apply Kd.R_drewN | apply Kd.R_drew)); exact Kd.R_mono HO136.out (fun _ hk => trivial), by repeat (first | (with_reducible first | exact HB.out | apply below_alloc | apply pw_below_drewN | apply below_drew1) | exact HB.out)⟩
        · rw [if_neg c22] at H
          exact absurd H (by simp)

/-! ### spec_VarBytes: function 9 -/
def spec_VarBytes.f (k : Nat) (l0 : List Int) : Option (List Int) := (spec_VarInt.f k (IntKind.u64.wrap ((l0.length : Int)))).bind fun t137 => (if t137.length + l0.length < 140737488355328 then (some (t137 ++ l0)) else (none))
theorem spec_VarBytes.mono : ∀ a0 k, LeO (spec_VarBytes.f k a0) (spec_VarBytes.f (k + 1) a0) := by
  intro a0 k
  unfold spec_VarBytes.f
  repeat' first
      | (with_reducible exact spec_VarInt.mono _ _)
      | (with_reducible exact LeO.refl _)
      | (with_reducible exact LeO.none _)
      | (with_reducible refine LeO.ite ?_ ?_)
      | (with_reducible refine LeO.bind ?_ (fun _ => ?_))
      | exact spec_VarInt.mono _ _
      | exact LeO.none _
      | refine LeO.ite ?_ ?_
      | refine LeO.bind ?_ (fun _ => ?_)
set_option maxHeartbeats 8000000 in
set_option maxRecDepth 100000 in
theorem spec_VarBytes.calls (k : Nat) (A0 : Option Addr) (c0 : Nat) (l0 : List Int) (r : List Int) (w : World) (hr0 : Kd.C (Kd.int .u8) w A0 l0.length l0) (hc0 : l0.length ≤ c0) (h : spec_VarBytes.f k l0 = some r) :
    Calls Tryd.prog 9 #[.slice A0 l0.length c0] w fun e w' => ∃ v0_ : Value, e = .returned (v0_) ∧ Kd.R (Kd.int .u8) 5 w' w.heap.size (fun _ => True) v0_ r ∧ Below w.heap.size w w' := by
  have HR0 := Aside0.mk hr0
  have HC0 := Aside0.mk hc0
  clear hr0 hc0
  have HB := Aside0.mk (Below.refl w.heap.size w)
  have H : ((spec_VarInt.f k (IntKind.u64.wrap ((l0.length : Int)))).bind fun t137 => (if t137.length + l0.length < 140737488355328 then (some (t137 ++ l0)) else (none))) = some r := h
  clear h
  replace H := Option.bind_eq_some_iff.mp H
  obtain ⟨t137, A20, H⟩ := H
  replace H : (if t137.length + l0.length < 140737488355328 then (some (t137 ++ l0)) else (none)) = some r := H
  have A2 := Aside0.mk A20
  clear A20
  by_cases c3 : t137.length + l0.length < 140737488355328
  · rw [if_pos c3] at H
    have LMc3 := Aside0.mk c3
    clear c3
    obtain ⟨y140, hy140⟩ : ∃ y_ : List Int, y_ = (t137 ++ l0) := ⟨_, rfl⟩
    replace H : (some y140) = some r := by first | (rw [hy140]; with_reducible exact H) | (have H2_ := (Option.bind_some _ _).symm.trans H; rw [hy140]; with_reducible exact H2_) | (have H2_ := (Option.bind_some _ _).symm.trans H; with_reducible exact H2_) | with_reducible exact H | (rw [hy140]; exact H) | exact H
    have Ny140 := Aside0.mk hy140
    clear hy140
    obtain rfl := Option.some.inj H
    go_enter Tryd.func9, Tryd.ntmps9
    go_wp2_with (first | ((with_reducible refine gate_callee (f := 16) rfl ?_); refine goesL_ (some 6) rfl rfl Tryd.func16 (by kernel_rfl) rfl #[.int .u64 (IntKind.u64.wrap ((l0.length : Int)))] rfl (by (try simp only [List.map_toArray, List.map_cons, List.map_nil]); first | done | rfl | (simp only [List.length_drop, List.length_take]; rfl)) ?_; (with_reducible refine (spec_VarInt.calls k (IntKind.u64.wrap ((l0.length : Int))) t137 _ A2.out).mono ?_); rintro e w4 ⟨v138, rfl, ho0, hb⟩; refine ⟨_, rfl, ?_⟩; have n0_ := Aside0.mk (Kd.R_lower ho0 (below_size (by repeat (first | (with_reducible first | exact HB.out | apply below_alloc | apply pw_below_drewN | apply below_drew1) | exact HB.out)))); have n1_ := Aside0.mk (below_step (by repeat (first | (with_reducible first | exact HB.out | apply below_alloc | apply pw_below_drewN | apply below_drew1) | exact HB.out)) hb); clear HB; have HO139 := n0_; have HB := n1_; clear n0_ n1_; (try clear hb); (try clear hb2); (try clear hk); (try clear hi); (try clear ho0)) | ((with_reducible refine gate_builtin (b := .append) (xs := #[.tmp 6, .tmp 7]) rfl ?_); at_builtin; refine Kd.R_append_rows (Kd.int .u8) (w0 := w) w.heap.size rfl (.tmp 6) (.tmp 7) 28 5 (.int .u8 0) 1 rfl Tryd.underlying28 info5 rfl (by decide) (by omega) v138 t137 l0 _ _ _ (fun _ => True) (fun _ => False) rfl rfl ?aO ?aR (fun _ _ h => h) (fun _ h => h.elim) ?aF ?aB ?aS ?aL ?_; (case aR => repeat (first | exact (Kd.C_below HR0.out HB.out) | (with_reducible refine Kd.C_alloc ?_ _) | (with_reducible refine Kd.C_drewN ?_ _) | (with_reducible refine Kd.C_drew ?_))); (case aB => exact (by repeat (first | (with_reducible first | exact HB.out | apply below_alloc | apply pw_below_drewN | apply below_drew1) | exact HB.out))); (case aF => exact (fun _ _ => trivial)); (case aO => exact (by (with_reducible repeat (first | apply Kd.R_alloc | apply Kd.R_drewN | apply Kd.R_drew)); exact HO139.out)); (case aS => exact (below_size (by repeat (first | (with_reducible first | exact HB.out | apply below_alloc | apply pw_below_drewN | apply below_drew1) | exact HB.out)))); (case aL => have := LMc3.out; omega); intro v141 w5 ho hb hg hat; rw [← Ny140.out] at ho; have n0_ := Aside0.mk (hb); have n1_ := Aside0.mk (ho); clear HB; clear HO139; have HB := n0_; have HO142 := n1_; clear n0_ n1_; clear ho hb hg hat))
    go_ret
    exact ⟨_, by first | rfl | (simp [errW_none, errW_some] <;> rfl) | (simp [*, errW_none, errW_some] <;> rfl), by (with_reducible repeat (first | apply Kd.R_alloc | apply Kd.R_drewN | apply Kd.R_drew)); exact HO142.out, by repeat (first | (with_reducible first | exact HB.out | apply below_alloc | apply pw_below_drewN | apply below_drew1) | exact HB.out)⟩
  · rw [if_neg c3] at H
    exact absurd H (by simp)

/-- A state of type 69 at block g of W; what its slices lead to came in by w0. -/
def IsS69 (w0 W : World) (g : Nat) (f0 : List Int) (f1 : Int) (f2 : Int) : Prop := ∃ A0 c0, W.heap[g]? = some (.cells #[.slice A0 f0.length c0, .int .i64 f1, .int .i64 f2] 69 (0, 0)) ∧ w0.heap.size ≤ g ∧ Kd.C (Kd.int .u8) w0 A0 f0.length f0
theorem IsS69.grown {w0 W : World} {g : Nat} {f0 : List Int} {f1 : Int} {f2 : Int} {W1 : World} {row : Option Nat} (h : IsS69 w0 W g f0 f1 f2) (hw : W.grownBy W1 row) (hne : some g ≠ row) : IsS69 w0 W1 g f0 f1 f2 := by
  obtain ⟨A0, c0, hb, hg, hr0⟩ := h
  exact ⟨A0, c0, blk_grown hb hw hne, hg, hr0⟩
theorem IsS69.own_neN {w0 W : World} {g : Nat} {f0 : List Int} {f1 : Int} {f2 : Int} {α : Type} {d : Kd α} {e : Nat} {base : Nat} {ok : Nat → Prop} {v : Value} {xs : List α} (h : IsS69 w0 W g f0 f1 f2) (ho : Kd.N d e W base ok v xs) (ht : e ≠ 69) : some g ≠ v.ownBlock := by
  obtain ⟨A0, c0, hb, hg, hr0⟩ := h
  exact Kd.N_ne ho hb ht
theorem IsS69.fresh {w0 W : World} {g : Nat} {f0 : List Int} {f1 : Int} {f2 : Int} (h : IsS69 w0 W g f0 f1 f2) : ∀ k, W.heap.size ≤ k → k ≠ g := by
  obtain ⟨A0, c0, hb, hg, hr0⟩ := h
  exact Kd.freshB hb
theorem IsS69.kept {w0 W : World} {g : Nat} {f0 : List Int} {f1 : Int} {f2 : Int} {W1 : World} {S : Nat → Prop} (h : IsS69 w0 W g f0 f1 f2) (hk : Kept W W1 S) (hne : ¬ S g) : IsS69 w0 W1 g f0 f1 f2 := by
  obtain ⟨A0, c0, hb, hg, hr0⟩ := h
  exact ⟨A0, c0, blk_kept hb hk hne, hg, hr0⟩
theorem IsS69.below {w0 W : World} {g : Nat} {f0 : List Int} {f1 : Int} {f2 : Int} {W1 : World} (h : IsS69 w0 W g f0 f1 f2) (hw : Below W.heap.size W W1) : IsS69 w0 W1 g f0 f1 f2 := h.grown (grown_of_below hw none) (by simp)
theorem IsS69.alloc {w0 W : World} {g : Nat} {f0 : List Int} {f1 : Int} {f2 : Int} (h : IsS69 w0 W g f0 f1 f2) (o : Obj) : IsS69 w0 (W.alloc o) g f0 f1 f2 := h.below (below_alloc (Below.refl _ _) o)
theorem IsS69.drewN {w0 W : World} {g : Nat} {f0 : List Int} {f1 : Int} {f2 : Int} (h : IsS69 w0 W g f0 f1 f2) (m : Nat) : IsS69 w0 (W.drewN m) g f0 f1 f2 := h
theorem IsS69.drew {w0 W : World} {g : Nat} {f0 : List Int} {f1 : Int} {f2 : Int} (h : IsS69 w0 W g f0 f1 f2) : IsS69 w0 W.drew g f0 f1 f2 := h
theorem IsS69.at_ {w0 W : World} {g : Nat} {f0 : List Int} {f1 : Int} {f2 : Int} {w' : World} {m : Nat} (hq : W.drewN m = w') (h : IsS69 w0 W g f0 f1 f2) : IsS69 w0 w' g f0 f1 f2 := by subst hq; exact IsS69.drewN h m
theorem IsS69.apart {w0 W : World} {g : Nat} {f0 : List Int} {f1 : Int} {f2 : Int} {α : Type} {d : Kd α} {e : Nat} {base : Nat} {ok : Nat → Prop} {v : Value} {xs : List α} (h : IsS69 w0 W g f0 f1 f2) (ho : d.R e W base ok v xs) (ht : ∀ q, q ∈ e :: d.E → q ≠ 69) : d.R e W base (fun k => ok k ∧ k ≠ g) v xs := by
  obtain ⟨A0, c0, hb, hg, hr0⟩ := h
  exact Kd.R_types ho hb ht
theorem IsS69.own_ne {w0 W : World} {g : Nat} {f0 : List Int} {f1 : Int} {f2 : Int} {α : Type} {d : Kd α} {e : Nat} {base : Nat} {ok : Nat → Prop} {v : Value} {xs : List α} (h : IsS69 w0 W g f0 f1 f2) (ho : d.R e W base ok v xs) (ht : e ≠ 69) : some g ≠ v.ownBlock := by
  obtain ⟨A0, c0, hb, hg, hr0⟩ := h
  exact Kd.R_ne ho hb ht
theorem IsS69.apartQ {w0 W : World} {g : Nat} {f0 : List Int} {f1 : Int} {f2 : Int} {α : Type} {d : Kd α} {e : Nat} {base : Nat} {ok : Nat → Prop} {v : Value} {xs : List α} (h : IsS69 w0 W g f0 f1 f2) (ho : d.Q e W base ok v xs) (ht : ∀ q, q ∈ e :: d.E → q ≠ 69) : d.Q e W base (fun k => ok k ∧ k ≠ g) v xs := by
  obtain ⟨A0, c0, hb, hg, hr0⟩ := h
  exact Kd.Q_types ho hb ht
theorem IsS69.own_neQ {w0 W : World} {g : Nat} {f0 : List Int} {f1 : Int} {f2 : Int} {α : Type} {d : Kd α} {e : Nat} {base : Nat} {ok : Nat → Prop} {v : Value} {xs : List α} (h : IsS69 w0 W g f0 f1 f2) (ho : d.Q e W base ok v xs) (ht : e ≠ 69) : some g ≠ v.ownBlock := by
  obtain ⟨A0, c0, hb, hg, hr0⟩ := h
  exact Kd.Q_ne ho hb ht
theorem IsS69.apartS {w0 W : World} {g : Nat} {f0 : List Int} {f1 : Int} {f2 : Int} {α : Type} {d : Kd α} {e : Nat} {base : Nat} {ok : Nat → Prop} {v : Value} {xs : List α} (h : IsS69 w0 W g f0 f1 f2) (ho : d.S e W base ok v xs) (ht : ∀ q, q ∈ e :: d.E → q ≠ 69) : d.S e W base (fun k => ok k ∧ k ≠ g) v xs := by
  obtain ⟨A0, c0, hb, hg, hr0⟩ := h
  exact Kd.S_types ho hb ht
theorem IsS69.own_neS {w0 W : World} {g : Nat} {f0 : List Int} {f1 : Int} {f2 : Int} {α : Type} {d : Kd α} {e : Nat} {base : Nat} {ok : Nat → Prop} {v : Value} {xs : List α} (h : IsS69 w0 W g f0 f1 f2) (ho : d.S e W base ok v xs) (ht : e ≠ 69) : some g ≠ v.ownBlock := by
  obtain ⟨A0, c0, hb, hg, hr0⟩ := h
  exact Kd.S_ne ho hb ht
theorem IsS69.lt {w0 W : World} {g : Nat} {f0 : List Int} {f1 : Int} {f2 : Int} (h : IsS69 w0 W g f0 f1 f2) : g < W.heap.size := by
  obtain ⟨A0, c0, hb, hg, hr0⟩ := h
  exact blk_lt hb
theorem IsS69.ge {w0 W : World} {g : Nat} {f0 : List Int} {f1 : Int} {f2 : Int} (h : IsS69 w0 W g f0 f1 f2) : w0.heap.size ≤ g := by
  obtain ⟨A0, c0, hb, hg, hr0⟩ := h
  exact hg
theorem IsS69.ne_blk {w0 W : World} {g : Nat} {f0 : List Int} {f1 : Int} {f2 : Int} {a : Nat} {cs : Array Value} {t : TypeId} {fr : Nat × Nat} (h : IsS69 w0 W g f0 f1 f2) (hb2 : W.heap[a]? = some (.cells cs t fr)) (ht : t ≠ 69) : g ≠ a := by
  obtain ⟨A0, c0, hb, hg, hr0⟩ := h
  rintro rfl
  rw [hb] at hb2
  injection hb2 with hb2
  injection hb2 with _ ht2
  exact ht ht2.symm
theorem IsS69.far {w0 W : World} {g : Nat} {f0 : List Int} {f1 : Int} {f2 : Int} {p : Addr} (h : IsS69 w0 W g f0 f1 f2) (hne : g ≠ p.block) (u : Value) : IsS69 w0 (W.setCell p u) g f0 f1 f2 := by
  obtain ⟨A0, c0, hb, hg, hr0⟩ := h
  exact ⟨A0, c0, blk_far hb hne u, hg, hr0⟩
theorem cellS69_0 {W : World} {g : Nat} {A0 : Option Addr} {c0 : Nat} {f0 : List Int} {f1 : Int} {f2 : Int} (h : W.heap[g]? = some (.cells #[.slice A0 f0.length c0, .int .i64 f1, .int .i64 f2] 69 (0, 0))) : W.cell? ⟨g, 0, none⟩ = some (.slice A0 f0.length c0) := (blk_cell h 0).trans rfl
theorem cellS69_1 {W : World} {g : Nat} {A0 : Option Addr} {c0 : Nat} {f0 : List Int} {f1 : Int} {f2 : Int} (h : W.heap[g]? = some (.cells #[.slice A0 f0.length c0, .int .i64 f1, .int .i64 f2] 69 (0, 0))) : W.cell? ⟨g, 1, none⟩ = some (.int .i64 f1) := (blk_cell h 1).trans rfl
theorem IsS69.set_1 {w0 W : World} {g : Nat} {f0 : List Int} {f1 : Int} {f2 : Int} (h : IsS69 w0 W g f0 f1 f2) (x : Int) : IsS69 w0 (W.setCell ⟨g, 1, none⟩ (.int .i64 x)) g f0 x f2 := by
  obtain ⟨A0, c0, hb, hg, hr0⟩ := h
  exact ⟨A0, c0, by simpa using blk_set hb 1 (.int .i64 x), hg, hr0⟩
theorem cellS69_2 {W : World} {g : Nat} {A0 : Option Addr} {c0 : Nat} {f0 : List Int} {f1 : Int} {f2 : Int} (h : W.heap[g]? = some (.cells #[.slice A0 f0.length c0, .int .i64 f1, .int .i64 f2] 69 (0, 0))) : W.cell? ⟨g, 2, none⟩ = some (.int .i64 f2) := (blk_cell h 2).trans rfl
theorem IsS69.set_2 {w0 W : World} {g : Nat} {f0 : List Int} {f1 : Int} {f2 : Int} (h : IsS69 w0 W g f0 f1 f2) (x : Int) : IsS69 w0 (W.setCell ⟨g, 2, none⟩ (.int .i64 x)) g f0 f1 x := by
  obtain ⟨A0, c0, hb, hg, hr0⟩ := h
  exact ⟨A0, c0, by simpa using blk_set hb 2 (.int .i64 x), hg, hr0⟩
theorem IsS69.new (w0 W : World) (A0 : Option Addr) (c0 : Nat) (f0 : List Int) (f1 : Int) (f2 : Int) (hB : Below w0.heap.size w0 W) (hr0 : Kd.C (Kd.int .u8) w0 A0 f0.length f0) : IsS69 w0 (W.alloc (.cells #[.slice A0 f0.length c0, .int .i64 f1, .int .i64 f2] 69)) W.heap.size f0 f1 f2 := ⟨A0, c0, by simpa using heap_alloc_new W _, hB.size, hr0⟩

/-! ### bytes_NewReader: function 27 -/
def bytes_NewReader.f (l0 : List Int) : Option (List Int × Int × Int) := some (l0, 0, (-1))
set_option maxHeartbeats 8000000 in
set_option maxRecDepth 100000 in
theorem bytes_NewReader.calls (A0 : Option Addr) (c0 : Nat) (l0 : List Int) (r1 : List Int) (r2 : Int) (r3 : Int) (w0 w : World) (hB : Below w0.heap.size w0 w) (hr0 : Kd.C (Kd.int .u8) w0 A0 l0.length l0) (hc0 : l0.length ≤ c0) (h : bytes_NewReader.f l0 = some (r1, r2, r3)) :
    Calls Tryd.prog 27 #[.slice A0 l0.length c0] w fun e w' => ∃ g_ : Nat, e = .returned (.pointer (some ⟨g_, 0, none⟩)) ∧ IsS69 w0 w' g_ r1 r2 r3 ∧ Below w0.heap.size w0 w' ∧ Below w.heap.size w w' := by
  have hu69 := Tryd.underlying69
  have HR0 := Aside0.mk hr0
  have HC0 := Aside0.mk hc0
  clear hr0 hc0
  have HBW := Aside0.mk (Below.refl w.heap.size w)
  have HW0 := Aside0.mk hB.size
  have HB := Aside0.mk hB
  clear hB
  have H : (some (l0, 0, (-1))) = some (r1, r2, r3) := h
  clear h
  simp only [Option.some.injEq, Prod.mk.injEq] at H
  obtain ⟨rfl, rfl, rfl⟩ := H
  go_enter Tryd.func27, Tryd.ntmps27
  go_wp2_with (first | ((with_reducible refine gate_dst (N := 5) rfl ?_); refine box_event ?hg (N := 5) ?hd (cs := #[.slice A0 l0.length c0, .int .i64 0, .int .i64 (-1)]) (t := 69) ?hr ?_; (case hd => rfl); (case hg => rfl); (case hr => first | (go_simp; done) | (go_simp; rfl)); intro gb143 hg w2 hbox hb; have n0_ := Aside0.mk (below_step HBW.out hb); have n1_ := Aside0.mk (below_step (by repeat (first | (with_reducible first | exact HB.out | apply below_alloc | apply pw_below_drewN | apply below_drew1) | exact HB.out)) hb); have n2_ := Aside0.mk (hbox); have n3_ := Aside0.mk ((by rw [hg]; exact (below_size (by repeat (first | (with_reducible first | exact HBW.out | apply below_alloc | apply pw_below_drewN | apply below_drew1) | exact HBW.out))) : w.heap.size ≤ gb143)); have n4_ := Aside0.mk ((Nat.le_trans HW0.out (by rw [hg]; exact (below_size (by repeat (first | (with_reducible first | exact HBW.out | apply below_alloc | apply pw_below_drewN | apply below_drew1) | exact HBW.out))) : w.heap.size ≤ gb143) : w0.heap.size ≤ gb143)); clear HBW; clear HB; have HBW := n0_; have HB := n1_; have BK143 := n2_; have GW143 := n3_; have GE143 := n4_; clear n0_ n1_ n2_ n3_ n4_; clear hb hbox hg))
  go_ret
  exact ⟨_, rfl, (show IsS69 w0 _ gb143 l0 0 (-1) from ⟨_, _, by (with_reducible repeat (first | refine blk_drewN ?_ _ | refine blk_drew ?_ | refine blk_alloc ?_ _)); exact BK143.out, GE143.out, HR0.out⟩), by repeat (first | (with_reducible first | exact HB.out | apply below_alloc | apply pw_below_drewN | apply below_drew1 | refine below_set ?_ GE143.out) | exact HB.out), by repeat (first | (with_reducible first | exact HBW.out | apply below_alloc | apply pw_below_drewN | apply below_drew1 | refine below_set ?_ GW143.out) | exact HBW.out)⟩

-- NOT PRINTED: function 17 (impl_reader)

/-- A state of type 90 at block g of W; what its slices lead to came in by w0. -/
def IsS90 (w0 W : World) (g : Nat) (f0 : ByteArray) (f1 : ByteArray) : Prop := W.heap[g]? = some (.cells #[.string f0, .string f1] 90 (0, 0)) ∧ w0.heap.size ≤ g
theorem IsS90.grown {w0 W : World} {g : Nat} {f0 : ByteArray} {f1 : ByteArray} {W1 : World} {row : Option Nat} (h : IsS90 w0 W g f0 f1) (hw : W.grownBy W1 row) (hne : some g ≠ row) : IsS90 w0 W1 g f0 f1 := by
  obtain ⟨hb, hg⟩ := h
  exact ⟨blk_grown hb hw hne, hg⟩
theorem IsS90.own_neN {w0 W : World} {g : Nat} {f0 : ByteArray} {f1 : ByteArray} {α : Type} {d : Kd α} {e : Nat} {base : Nat} {ok : Nat → Prop} {v : Value} {xs : List α} (h : IsS90 w0 W g f0 f1) (ho : Kd.N d e W base ok v xs) (ht : e ≠ 90) : some g ≠ v.ownBlock := by
  obtain ⟨hb, hg⟩ := h
  exact Kd.N_ne ho hb ht
theorem IsS90.fresh {w0 W : World} {g : Nat} {f0 : ByteArray} {f1 : ByteArray} (h : IsS90 w0 W g f0 f1) : ∀ k, W.heap.size ≤ k → k ≠ g := by
  obtain ⟨hb, hg⟩ := h
  exact Kd.freshB hb
theorem IsS90.kept {w0 W : World} {g : Nat} {f0 : ByteArray} {f1 : ByteArray} {W1 : World} {S : Nat → Prop} (h : IsS90 w0 W g f0 f1) (hk : Kept W W1 S) (hne : ¬ S g) : IsS90 w0 W1 g f0 f1 := by
  obtain ⟨hb, hg⟩ := h
  exact ⟨blk_kept hb hk hne, hg⟩
theorem IsS90.below {w0 W : World} {g : Nat} {f0 : ByteArray} {f1 : ByteArray} {W1 : World} (h : IsS90 w0 W g f0 f1) (hw : Below W.heap.size W W1) : IsS90 w0 W1 g f0 f1 := h.grown (grown_of_below hw none) (by simp)
theorem IsS90.alloc {w0 W : World} {g : Nat} {f0 : ByteArray} {f1 : ByteArray} (h : IsS90 w0 W g f0 f1) (o : Obj) : IsS90 w0 (W.alloc o) g f0 f1 := h.below (below_alloc (Below.refl _ _) o)
theorem IsS90.drewN {w0 W : World} {g : Nat} {f0 : ByteArray} {f1 : ByteArray} (h : IsS90 w0 W g f0 f1) (m : Nat) : IsS90 w0 (W.drewN m) g f0 f1 := h
theorem IsS90.drew {w0 W : World} {g : Nat} {f0 : ByteArray} {f1 : ByteArray} (h : IsS90 w0 W g f0 f1) : IsS90 w0 W.drew g f0 f1 := h
theorem IsS90.at_ {w0 W : World} {g : Nat} {f0 : ByteArray} {f1 : ByteArray} {w' : World} {m : Nat} (hq : W.drewN m = w') (h : IsS90 w0 W g f0 f1) : IsS90 w0 w' g f0 f1 := by subst hq; exact IsS90.drewN h m
theorem IsS90.apart {w0 W : World} {g : Nat} {f0 : ByteArray} {f1 : ByteArray} {α : Type} {d : Kd α} {e : Nat} {base : Nat} {ok : Nat → Prop} {v : Value} {xs : List α} (h : IsS90 w0 W g f0 f1) (ho : d.R e W base ok v xs) (ht : ∀ q, q ∈ e :: d.E → q ≠ 90) : d.R e W base (fun k => ok k ∧ k ≠ g) v xs := by
  obtain ⟨hb, hg⟩ := h
  exact Kd.R_types ho hb ht
theorem IsS90.own_ne {w0 W : World} {g : Nat} {f0 : ByteArray} {f1 : ByteArray} {α : Type} {d : Kd α} {e : Nat} {base : Nat} {ok : Nat → Prop} {v : Value} {xs : List α} (h : IsS90 w0 W g f0 f1) (ho : d.R e W base ok v xs) (ht : e ≠ 90) : some g ≠ v.ownBlock := by
  obtain ⟨hb, hg⟩ := h
  exact Kd.R_ne ho hb ht
theorem IsS90.apartQ {w0 W : World} {g : Nat} {f0 : ByteArray} {f1 : ByteArray} {α : Type} {d : Kd α} {e : Nat} {base : Nat} {ok : Nat → Prop} {v : Value} {xs : List α} (h : IsS90 w0 W g f0 f1) (ho : d.Q e W base ok v xs) (ht : ∀ q, q ∈ e :: d.E → q ≠ 90) : d.Q e W base (fun k => ok k ∧ k ≠ g) v xs := by
  obtain ⟨hb, hg⟩ := h
  exact Kd.Q_types ho hb ht
theorem IsS90.own_neQ {w0 W : World} {g : Nat} {f0 : ByteArray} {f1 : ByteArray} {α : Type} {d : Kd α} {e : Nat} {base : Nat} {ok : Nat → Prop} {v : Value} {xs : List α} (h : IsS90 w0 W g f0 f1) (ho : d.Q e W base ok v xs) (ht : e ≠ 90) : some g ≠ v.ownBlock := by
  obtain ⟨hb, hg⟩ := h
  exact Kd.Q_ne ho hb ht
theorem IsS90.apartS {w0 W : World} {g : Nat} {f0 : ByteArray} {f1 : ByteArray} {α : Type} {d : Kd α} {e : Nat} {base : Nat} {ok : Nat → Prop} {v : Value} {xs : List α} (h : IsS90 w0 W g f0 f1) (ho : d.S e W base ok v xs) (ht : ∀ q, q ∈ e :: d.E → q ≠ 90) : d.S e W base (fun k => ok k ∧ k ≠ g) v xs := by
  obtain ⟨hb, hg⟩ := h
  exact Kd.S_types ho hb ht
theorem IsS90.own_neS {w0 W : World} {g : Nat} {f0 : ByteArray} {f1 : ByteArray} {α : Type} {d : Kd α} {e : Nat} {base : Nat} {ok : Nat → Prop} {v : Value} {xs : List α} (h : IsS90 w0 W g f0 f1) (ho : d.S e W base ok v xs) (ht : e ≠ 90) : some g ≠ v.ownBlock := by
  obtain ⟨hb, hg⟩ := h
  exact Kd.S_ne ho hb ht
theorem IsS90.lt {w0 W : World} {g : Nat} {f0 : ByteArray} {f1 : ByteArray} (h : IsS90 w0 W g f0 f1) : g < W.heap.size := by
  obtain ⟨hb, hg⟩ := h
  exact blk_lt hb
theorem IsS90.ge {w0 W : World} {g : Nat} {f0 : ByteArray} {f1 : ByteArray} (h : IsS90 w0 W g f0 f1) : w0.heap.size ≤ g := by
  obtain ⟨hb, hg⟩ := h
  exact hg
theorem IsS90.ne_blk {w0 W : World} {g : Nat} {f0 : ByteArray} {f1 : ByteArray} {a : Nat} {cs : Array Value} {t : TypeId} {fr : Nat × Nat} (h : IsS90 w0 W g f0 f1) (hb2 : W.heap[a]? = some (.cells cs t fr)) (ht : t ≠ 90) : g ≠ a := by
  obtain ⟨hb, hg⟩ := h
  rintro rfl
  rw [hb] at hb2
  injection hb2 with hb2
  injection hb2 with _ ht2
  exact ht ht2.symm
theorem IsS90.far {w0 W : World} {g : Nat} {f0 : ByteArray} {f1 : ByteArray} {p : Addr} (h : IsS90 w0 W g f0 f1) (hne : g ≠ p.block) (u : Value) : IsS90 w0 (W.setCell p u) g f0 f1 := by
  obtain ⟨hb, hg⟩ := h
  exact ⟨blk_far hb hne u, hg⟩
theorem cellS90_0 {W : World} {g : Nat} {f0 : ByteArray} {f1 : ByteArray} (h : W.heap[g]? = some (.cells #[.string f0, .string f1] 90 (0, 0))) : W.cell? ⟨g, 0, none⟩ = some (.string f0) := (blk_cell h 0).trans rfl
theorem IsS90.set_0 {w0 W : World} {g : Nat} {f0 : ByteArray} {f1 : ByteArray} (h : IsS90 w0 W g f0 f1) (x : ByteArray) : IsS90 w0 (W.setCell ⟨g, 0, none⟩ (.string x)) g x f1 := by
  obtain ⟨hb, hg⟩ := h
  exact ⟨by simpa using blk_set hb 0 (.string x), hg⟩
theorem cellS90_1 {W : World} {g : Nat} {f0 : ByteArray} {f1 : ByteArray} (h : W.heap[g]? = some (.cells #[.string f0, .string f1] 90 (0, 0))) : W.cell? ⟨g, 1, none⟩ = some (.string f1) := (blk_cell h 1).trans rfl
theorem IsS90.set_1 {w0 W : World} {g : Nat} {f0 : ByteArray} {f1 : ByteArray} (h : IsS90 w0 W g f0 f1) (x : ByteArray) : IsS90 w0 (W.setCell ⟨g, 1, none⟩ (.string x)) g f0 x := by
  obtain ⟨hb, hg⟩ := h
  exact ⟨by simpa using blk_set hb 1 (.string x), hg⟩
theorem IsS90.new (w0 W : World) (f0 : ByteArray) (f1 : ByteArray) (hB : Below w0.heap.size w0 W) : IsS90 w0 (W.alloc (.cells #[.string f0, .string f1] 90)) W.heap.size f0 f1 := ⟨by simpa using heap_alloc_new W _, hB.size⟩

/-! ### btcdwire_messageError: function 32 -/
def btcdwire_messageError.f (a0 : ByteArray) (a1 : ByteArray) : Option (ByteArray × ByteArray) := some (a0, a1)
set_option maxHeartbeats 8000000 in
set_option maxRecDepth 100000 in
theorem btcdwire_messageError.calls (a0 : ByteArray) (a1 : ByteArray) (r1 : ByteArray) (r2 : ByteArray) (w0 w : World) (hB : Below w0.heap.size w0 w) (h : btcdwire_messageError.f a0 a1 = some (r1, r2)) :
    Calls Tryd.prog 32 #[.string a0, .string a1] w fun e w' => ∃ g_ : Nat, e = .returned (.pointer (some ⟨g_, 0, none⟩)) ∧ IsS90 w0 w' g_ r1 r2 ∧ Below w0.heap.size w0 w' ∧ Below w.heap.size w w' := by
  have hu90 := Tryd.underlying90
  have HBW := Aside0.mk (Below.refl w.heap.size w)
  have HW0 := Aside0.mk hB.size
  have HB := Aside0.mk hB
  clear hB
  have H : (some (a0, a1)) = some (r1, r2) := h
  clear h
  simp only [Option.some.injEq, Prod.mk.injEq] at H
  obtain ⟨rfl, rfl⟩ := H
  go_enter Tryd.func32, Tryd.ntmps32
  go_wp2_with (first | ((with_reducible refine gate_dst (N := 8) rfl ?_); refine box_event ?hg (N := 8) ?hd (cs := #[.string a0, .string a1]) (t := 90) ?hr ?_; (case hd => rfl); (case hg => rfl); (case hr => first | (go_simp; done) | (go_simp; rfl)); intro gb148 hg w3 hbox hb; have n0_ := Aside0.mk (below_step HBW.out hb); have n1_ := Aside0.mk (below_step (by repeat (first | (with_reducible first | exact HB.out | apply below_alloc | apply pw_below_drewN | apply below_drew1) | exact HB.out)) hb); have n2_ := Aside0.mk (hbox); have n3_ := Aside0.mk ((by rw [hg]; exact (below_size (by repeat (first | (with_reducible first | exact HBW.out | apply below_alloc | apply pw_below_drewN | apply below_drew1) | exact HBW.out))) : w.heap.size ≤ gb148)); have n4_ := Aside0.mk ((Nat.le_trans HW0.out (by rw [hg]; exact (below_size (by repeat (first | (with_reducible first | exact HBW.out | apply below_alloc | apply pw_below_drewN | apply below_drew1) | exact HBW.out))) : w.heap.size ≤ gb148) : w0.heap.size ≤ gb148)); clear HBW; clear HB; have HBW := n0_; have HB := n1_; have BK148 := n2_; have GW148 := n3_; have GE148 := n4_; clear n0_ n1_ n2_ n3_ n4_; clear hb hbox hg))
  go_ret
  exact ⟨_, rfl, (show IsS90 w0 _ gb148 a0 a1 from ⟨by (with_reducible repeat (first | refine blk_drewN ?_ _ | refine blk_drew ?_ | refine blk_alloc ?_ _)); exact BK148.out, GE148.out⟩), by repeat (first | (with_reducible first | exact HB.out | apply below_alloc | apply pw_below_drewN | apply below_drew1 | refine below_set ?_ GE148.out) | exact HB.out), by repeat (first | (with_reducible first | exact HBW.out | apply below_alloc | apply pw_below_drewN | apply below_drew1 | refine below_set ?_ GW148.out) | exact HBW.out)⟩

-- NOT PRINTED: function 42 (io_ReadAtLeast)

-- NOT PRINTED: function 33 (io_ReadFull)

-- NOT PRINTED: function 39 (binary_littleEndian_Uint64)

-- NOT PRINTED: function 40 (binary_littleEndian_Uint32)

-- NOT PRINTED: function 41 (binary_littleEndian_Uint16)

-- NOT PRINTED: function 31 (btcdwire_ReadVarIntBuf)

-- NOT PRINTED: function 28 (btcdwire_ReadVarBytesBuf)

-- NOT PRINTED: function 18 (btcdwire_ReadVarBytes)

/-! ### impl_copied: function 19 -/
def impl_copied.f (l0 : List Int) : Option (List Int) := (some (([] : List Int) : List Int)).bind fun y149 => (if y149.length + l0.length < 140737488355328 then (some (y149 ++ l0)) else (none))
set_option maxHeartbeats 8000000 in
set_option maxRecDepth 100000 in
theorem impl_copied.calls (A0 : Option Addr) (c0 : Nat) (l0 : List Int) (r : List Int) (w : World) (hr0 : Kd.C (Kd.int .u8) w A0 l0.length l0) (hc0 : l0.length ≤ c0) (h : impl_copied.f l0 = some r) :
    Calls Tryd.prog 19 #[.slice A0 l0.length c0] w fun e w' => ∃ v0_ : Value, e = .returned (v0_) ∧ Kd.R (Kd.int .u8) 5 w' w.heap.size (fun _ => True) v0_ r ∧ Below w.heap.size w w' := by
  have HR0 := Aside0.mk hr0
  have HC0 := Aside0.mk hc0
  clear hr0 hc0
  have HB := Aside0.mk (Below.refl w.heap.size w)
  have H : ((some (([] : List Int) : List Int)).bind fun y149 => (if y149.length + l0.length < 140737488355328 then (some (y149 ++ l0)) else (none))) = some r := h
  clear h
  obtain ⟨y149, hy149⟩ : ∃ y_ : List Int, y_ = (([] : List Int)) := ⟨_, rfl⟩
  replace H : (if y149.length + l0.length < 140737488355328 then (some (y149 ++ l0)) else (none)) = some r := by first | (rw [hy149]; with_reducible exact H) | (have H2_ := (Option.bind_some _ _).symm.trans H; rw [hy149]; with_reducible exact H2_) | (have H2_ := (Option.bind_some _ _).symm.trans H; with_reducible exact H2_) | with_reducible exact H | (rw [hy149]; exact H) | exact H
  have Ny149 := Aside0.mk hy149
  clear hy149
  by_cases c2 : y149.length + l0.length < 140737488355328
  · rw [if_pos c2] at H
    have LMc2 := Aside0.mk c2
    clear c2
    obtain ⟨y152, hy152⟩ : ∃ y_ : List Int, y_ = (y149 ++ l0) := ⟨_, rfl⟩
    replace H : (some y152) = some r := by first | (rw [hy152]; with_reducible exact H) | (have H2_ := (Option.bind_some _ _).symm.trans H; rw [hy152]; with_reducible exact H2_) | (have H2_ := (Option.bind_some _ _).symm.trans H; with_reducible exact H2_) | with_reducible exact H | (rw [hy152]; exact H) | exact H
    have Ny152 := Aside0.mk hy152
    clear hy152
    obtain rfl := Option.some.inj H
    go_enter Tryd.func19, Tryd.ntmps19
    go_wp2_with (first | ((with_reducible refine gate_dst (N := 3) rfl ?_); refine Kd.R_lit (Kd.int .u8) _ 5 ?hg (N := 3) ?hd (xs := ([] : List Int)) (inner := []) (ok := fun _ => True) (okp := fun _ => True) ?hr ?hp (fun _ hk => hk) trivial (Below.refl _ _) (Nat.le_refl _) (by simp) ?_; (case hd => rfl); (case hg => rfl); (case hr => first | (go_simp; done) | (go_simp; rfl)); (case hp => exact (Reps.none _ _)); intro v150 w3 ho4 hb hg_ hnew_; clear hg_ hnew_; (first | rw [← Ny149.out] at ho4 | (simp only [Int.reduceToNat] at ho4; rw [← Ny149.out] at ho4)); have n0_ := Aside0.mk (Kd.R_lower ho4 (below_size (by repeat (first | (with_reducible first | exact HB.out | apply below_alloc | apply pw_below_drewN | apply below_drew1) | exact HB.out)))); have n1_ := Aside0.mk (below_step (by repeat (first | (with_reducible first | exact HB.out | apply below_alloc | apply pw_below_drewN | apply below_drew1) | exact HB.out)) hb); clear HB; have HO151 := n0_; have HB := n1_; clear n0_ n1_; clear hb ho4) | ((with_reducible refine gate_builtin (b := .append) (xs := #[.tmp 3, .tmp 4]) rfl ?_); at_builtin; refine Kd.R_append_rows (Kd.int .u8) (w0 := w) w.heap.size rfl (.tmp 3) (.tmp 4) 28 5 (.int .u8 0) 1 rfl Tryd.underlying28 info5 rfl (by decide) (by omega) v150 y149 l0 _ _ _ (fun _ => True) (fun _ => False) rfl rfl ?aO ?aR (fun _ _ h => h) (fun _ h => h.elim) ?aF ?aB ?aS ?aL ?_; (case aR => repeat (first | exact (Kd.C_below HR0.out HB.out) | (with_reducible refine Kd.C_alloc ?_ _) | (with_reducible refine Kd.C_drewN ?_ _) | (with_reducible refine Kd.C_drew ?_))); (case aB => exact (by repeat (first | (with_reducible first | exact HB.out | apply below_alloc | apply pw_below_drewN | apply below_drew1) | exact HB.out))); (case aF => exact (fun _ _ => trivial)); (case aO => exact (by (with_reducible repeat (first | apply Kd.R_alloc | apply Kd.R_drewN | apply Kd.R_drew)); exact HO151.out)); (case aS => exact (below_size (by repeat (first | (with_reducible first | exact HB.out | apply below_alloc | apply pw_below_drewN | apply below_drew1) | exact HB.out)))); (case aL => have := LMc2.out; omega); intro v153 w5 ho hb hg hat; rw [← Ny152.out] at ho; have n0_ := Aside0.mk (hb); have n1_ := Aside0.mk (ho); clear HB; clear HO151; have HB := n0_; have HO154 := n1_; clear n0_ n1_; clear ho hb hg hat))
    go_ret
    exact ⟨_, by first | rfl | (simp [errW_none, errW_some] <;> rfl) | (simp [*, errW_none, errW_some] <;> rfl), by (with_reducible repeat (first | apply Kd.R_alloc | apply Kd.R_drewN | apply Kd.R_drew)); exact HO154.out, by repeat (first | (with_reducible first | exact HB.out | apply below_alloc | apply pw_below_drewN | apply below_drew1) | exact HB.out)⟩
  · rw [if_neg c2] at H
    exact absurd H (by simp)

/-! ### bytes_Reader_Len: function 20 -/
def bytes_Reader_Len.f (s0_0 : List Int) (s0_1 : Int) (s0_2 : Int) : Option (Int × Int × Int) := if s0_1 ≥ (s0_0.length : Int) then (some (0, s0_1, s0_2)) else (some (wrap64 ((s0_0.length : Int) - s0_1), s0_1, s0_2))
set_option maxHeartbeats 8000000 in
set_option maxRecDepth 100000 in
theorem bytes_Reader_Len.calls (g : Nat) (s0_0 : List Int) (s0_1 : Int) (s0_2 : Int) (r1 : Int) (r2 : Int) (r3 : Int) (w0 w : World) (hI : IsS69 w0 w g s0_0 s0_1 s0_2) (hB : Below w0.heap.size w0 w) (h : bytes_Reader_Len.f s0_0 s0_1 s0_2 = some (r1, r2, r3)) :
    Calls Tryd.prog 20 #[.pointer (some ⟨g, 0, none⟩)] w fun e w' => e = .returned (.int .i64 r1) ∧ IsS69 w0 w' g s0_0 r2 r3 ∧ Below w0.heap.size w0 w' ∧ KeepBut w w' g none := by
  have HI0 := Aside0.mk hI
  have HK := Aside0.mk (KeepBut.refl w g none)
  have HL := Aside0.mk hB.size
  clear hI
  have HW0 := Aside0.mk hB.size
  have HB := Aside0.mk hB
  clear hB
  have H : (if s0_1 ≥ (s0_0.length : Int) then (some (0, s0_1, s0_2)) else (some (wrap64 ((s0_0.length : Int) - s0_1), s0_1, s0_2))) = some (r1, r2, r3) := h
  clear h
  by_cases c2 : s0_1 ≥ (s0_0.length : Int)
  · rw [if_pos c2] at H
    have c2b0 : decide ((s0_0.length : Int) ≤ s0_1) = true := decide_eq_true c2
    clear c2
    simp only [Option.some.injEq, Prod.mk.injEq] at H
    obtain ⟨rfl, rfl, rfl⟩ := H
    obtain ⟨ASz3_0, cSz3_0, HGz3, hgz3, HSz3_0⟩ := HI0.out
    have hcz3_0 := cellS69_0 HGz3
    have hcz3_1 := cellS69_1 HGz3
    have hcz3_2 := cellS69_2 HGz3
    have hfz3_1 := blk_frozen HGz3 1
    have hfz3_2 := blk_frozen HGz3 2
    clear HGz3 hgz3
    go_enter Tryd.func20, Tryd.ntmps20
    go_wp2
    repeat (go_quiet (fail); try go_wp2)
    go_ret
    exact ⟨by first | rfl | (simp [errW_none, errW_some] <;> rfl) | (simp [*, errW_none, errW_some] <;> rfl), by repeat (first | (with_reducible first | exact HI0.out | apply IsS69.alloc | apply IsS69.drewN | apply IsS69.drew | apply IsS69.set_1 | apply IsS69.set_2) | exact HI0.out), by repeat (first | (with_reducible first | exact HB.out | apply below_alloc | apply pw_below_drewN | apply below_drew1 | refine below_set ?_ (IsS69.ge HI0.out)) | exact HB.out), by repeat (first | (with_reducible first | exact HK.out | apply KeepBut.set_ | apply keep_drewN | apply keep_drew | apply keep_alloc) | exact HK.out)⟩
  · rw [if_neg c2] at H
    have c2b0 : decide ((s0_0.length : Int) ≤ s0_1) = false := decide_eq_false c2
    clear c2
    simp only [Option.some.injEq, Prod.mk.injEq] at H
    obtain ⟨rfl, rfl, rfl⟩ := H
    obtain ⟨ASz4_0, cSz4_0, HGz4, hgz4, HSz4_0⟩ := HI0.out
    have hcz4_0 := cellS69_0 HGz4
    have hcz4_1 := cellS69_1 HGz4
    have hcz4_2 := cellS69_2 HGz4
    have hfz4_1 := blk_frozen HGz4 1
    have hfz4_2 := blk_frozen HGz4 2
    clear HGz4 hgz4
    go_enter Tryd.func20, Tryd.ntmps20
    go_wp2
    repeat (go_quiet (fail); try go_wp2)
    go_ret
    exact ⟨by first | rfl | (simp [errW_none, errW_some] <;> rfl) | (simp [*, errW_none, errW_some] <;> rfl), by repeat (first | (with_reducible first | exact HI0.out | apply IsS69.alloc | apply IsS69.drewN | apply IsS69.drew | apply IsS69.set_1 | apply IsS69.set_2) | exact HI0.out), by repeat (first | (with_reducible first | exact HB.out | apply below_alloc | apply pw_below_drewN | apply below_drew1 | refine below_set ?_ (IsS69.ge HI0.out)) | exact HB.out), by repeat (first | (with_reducible first | exact HK.out | apply KeepBut.set_ | apply keep_drewN | apply keep_drew | apply keep_alloc) | exact HK.out)⟩

/-! ### impl_one: function 21 -/
def impl_one.f (a0 : Option Int) : Option (Int) := if a0.isNone = true then (some 0) else (some 1)
set_option maxHeartbeats 8000000 in
set_option maxRecDepth 100000 in
theorem impl_one.calls (a0 : Option Int) (r : Int) (w : World) (h : impl_one.f a0 = some r) :
    Calls Tryd.prog 21 #[errW a0] w fun e w' => e = .returned (.int .i64 r) ∧ Drawn0 w w' := by
  have hu37 := Tryd.underlying37
  have H : (if a0.isNone = true then (some 0) else (some 1)) = some r := h
  clear h
  rcases a0 with _ | q155
  · have H1 : (some 0) = some r := by rw [if_pos (show (none : Option Int).isNone = true by rfl)] at H; exact H
    clear H
    have H := H1
    clear H1
    simp only [errW_none, errW_some]
    obtain rfl := Option.some.inj H
    go_enter Tryd.func21, Tryd.ntmps21
    go_wp2
    go_ret
    exact ⟨by first | rfl | (simp; done) | (simp [*]; done), by repeat (first | exact Drawn0.refl _ | apply Drawn0.step)⟩
  · have H1 : (some 1) = some r := by rw [if_neg (show ¬ (some q155).isNone = true by simp)] at H; exact H
    clear H
    have H := H1
    clear H1
    simp only [errW_none, errW_some]
    obtain rfl := Option.some.inj H
    go_enter Tryd.func21, Tryd.ntmps21
    go_wp2
    go_ret
    exact ⟨by first | rfl | (simp; done) | (simp [*]; done), by repeat (first | exact Drawn0.refl _ | apply Drawn0.step)⟩

-- NOT PRINTED: function 10 (impl_ReadVarBytes)

-- NOT PRINTED: function 4 (laws_FnVarBytes)

end Go.Proofs.YtpogfbompljkkaaDoor.QFnVarBytes
-- Made by a turned print (own tool turnprint.py over the kit print).
namespace Go.Proofs.YtpogfbompljkkaaDoor.QFnVarBytes
open Go.RowKit Go.Proofs.YtpogfbompljkkaaDoorW.PrintWords Go.Proofs.YtpogfbompljkkaaDoorW.PrintLast Go.Proofs.YtpogfbompljkkaaDoorW.PrintMore
attribute [local go_sem] nn_mod256 nn_mod65536 nn_mod32 max2_int min2_int max_two min_two max_three min_three max_four min_four   -- for this text's walks alone
set_option linter.unusedVariables false
set_option linter.unusedSimpArgs false

end Go.Proofs.YtpogfbompljkkaaDoor.QFnVarBytes
/- Four bytes laid down, the least first. -/
namespace Go.Proofs.YtpogfbompljkkaaDoor.Snk
open Go.RowKit Go.Proofs.YtpogfbompljkkaaDoorW.PrintWords Go.Proofs.YtpogfbompljkkaaDoorW.PrintLast Go.Proofs.YtpogfbompljkkaaDoorW.PrintMore
set_option linter.unusedVariables false
set_option linter.unusedSimpArgs false
def lput4 (l : List Int) (o : Nat) (v : Int) : List Int := ((((l.set o (v % 256)).set (o + 1) ((v / 256) % 256)).set (o + 2) ((v / 65536) % 256)).set (o + 3) ((v / 16777216) % 256))
def le4 (v : Int) : List Int := [v % 256, (v / 256) % 256, (v / 65536) % 256, (v / 16777216) % 256]
theorem lput4_len (l : List Int) (o : Nat) (v : Int) : (lput4 l o v).length = l.length := by unfold lput4; simp only [List.length_set]
theorem lput4_take (l : List Int) (v : Int) (hl : 4 ≤ l.length) : (lput4 l 0 v).take 4 = le4 v := by
  match l, hl with
  | a :: b :: c :: d :: r, _ => rfl
set_option maxRecDepth 100000 in
set_option maxHeartbeats 4000000 in
theorem lput4C (g o n c : Nat) (l : List Int) (t : TypeId) (v : Int) (E : Value) (w : World) (h : w.heap[g]? = some (.cells (byteC l).toArray t (0, 0))) (ho : o + 4 ≤ l.length) (hn : 4 ≤ n) :
    Calls Tryd.prog 37 #[.agg #[], .slice (some ⟨g, o, none⟩) n c, .int .u32 v] w fun e w' => e = .returned (.tuple #[]) ∧ w'.heap[g]? = some (.cells (byteC (lput4 l o v)).toArray t (0, 0)) ∧ Only g w w' := by
  have hn1 : 3 < (n : Int) := by omega
  have GW := Aside0.mk h
  have HO := Aside0.mk ho
  clear h ho
  go_enter Tryd.func37, Tryd.ntmps37
  go_upto_region 1 with fail
  generalize hv0 : World.alloc _ _ = v0
  have O0 : Aside0 (Only g w v0) := ⟨by rw [← hv0]; exact (Only.refl g w).alloc _⟩
  have G0 : Aside0 (v0.heap[g]? = some (.cells (byteC l).toArray t (0, 0))) := ⟨by rw [← hv0]; exact heap_alloc_lt GW.out _⟩
  clear hv0
  have z9 := row_cell G0.out (o + 3) (by have := HO.out; omega)
  go_upto_region 2 with fail
  clear z9
  have z0 := row_cell G0.out (o) (by have := HO.out; (try simp only [List.length_set]); omega)
  have f0 := frozen_of G0.out (o)
  go_upto_region 3 with fail
  generalize hv1 : World.setCell _ _ _ = v1
  have G1 : Aside0 (v1.heap[g]? = some (.cells (byteC (l.set o (v % 256))).toArray t (0, 0))) := ⟨by rw [← hv1]; exact row_set G0.out _ _⟩
  have O1 : Aside0 (Only g w v1) := ⟨by rw [← hv1]; exact O0.out.set _ _⟩
  clear hv1 z0 f0
  have z1 := row_cell G1.out (o + 1) (by have := HO.out; (try simp only [List.length_set]); omega)
  have f1 := frozen_of G1.out (o + 1)
  go_upto_region 4 with fail
  generalize hv2 : World.setCell _ _ _ = v2
  have G2 : Aside0 (v2.heap[g]? = some (.cells (byteC ((l.set o (v % 256)).set (o + 1) ((v / 256) % 256))).toArray t (0, 0))) := ⟨by rw [← hv2]; exact row_set G1.out _ _⟩
  have O2 : Aside0 (Only g w v2) := ⟨by rw [← hv2]; exact O1.out.set _ _⟩
  clear hv2 z1 f1
  have z2 := row_cell G2.out (o + 2) (by have := HO.out; (try simp only [List.length_set]); omega)
  have f2 := frozen_of G2.out (o + 2)
  go_upto_region 5 with fail
  generalize hv3 : World.setCell _ _ _ = v3
  have G3 : Aside0 (v3.heap[g]? = some (.cells (byteC (((l.set o (v % 256)).set (o + 1) ((v / 256) % 256)).set (o + 2) ((v / 65536) % 256))).toArray t (0, 0))) := ⟨by rw [← hv3]; exact row_set G2.out _ _⟩
  have O3 : Aside0 (Only g w v3) := ⟨by rw [← hv3]; exact O2.out.set _ _⟩
  clear hv3 z2 f2
  have z3 := row_cell G3.out (o + 3) (by have := HO.out; (try simp only [List.length_set]); omega)
  have f3 := frozen_of G3.out (o + 3)
  go_wp2_with fail
  go_end0
  exact ⟨rfl, row_set G3.out _ _, O3.out.set _ _⟩
end Go.Proofs.YtpogfbompljkkaaDoor.Snk
/- What bytes are written to, behind an interface. -/
namespace Go.Proofs.YtpogfbompljkkaaDoor.Snk
open Go.RowKit Go.Proofs.YtpogfbompljkkaaDoorW.PrintWords Go.Proofs.YtpogfbompljkkaaDoorW.PrintLast
set_option linter.unusedVariables false
/-- A method value's test for nil. -/
def NilNot (P : Program) (t : TypeId) (v : Value) (name : String) : Prop := ∀ n w, (nilAhead (n + 1) t v name).run P w = .ok (some false) w
theorem nil_run {P : Program} {t : TypeId} {v : Value} {name : String} (h : NilNot P t v name) (w : World) {ρ : Operand → Value} {o : Oper} (x : Operand) (ho : o.op = .nilCheck x) (hx : ρ x = .func (.method name) #[.iface t v] #[]) : (execOp ρ o).run P w = .ok (.value (.func (.method name) #[.iface t v] #[])) w := by
  have h0 : 0 < P.types.size + Made.depth := Nat.lt_of_lt_of_le (show 0 < Made.depth by decide) (Nat.le_add_left _ _)
  obtain ⟨n, hn⟩ : ∃ n, P.types.size + Made.depth = n + 1 := ⟨P.types.size + Made.depth - 1, by omega⟩
  have h1 := h n w
  rw [← hn] at h1
  unfold execOp
  rw [ho]
  show Sem.run _ (match ρ x with | .pointer none | .nilIface | .nilFunc => _ | .func (.method name) first captured => _ | x => _) w = _
  rw [hx]
  simp [h1, Result.andThen]
/-- Things to which bytes can be written: T its type, v the value, f the type's Write. w0: the world ahead of them all. M: how much they take. -/
structure Sink (P : Program) (w0 : World) (T : TypeId) (v : Value) (f : FuncId) (M : Nat) where
  St : World → List Int → Prop
  own : World → Nat → Prop
  meth : Meth P T v "Write" f v
  nil : NilNot P T v "Write"
  below : ∀ {w bs}, St w bs → Below w0.heap.size w0 w
  fresh : ∀ {w bs k}, St w bs → own w k → w0.heap.size ≤ k ∧ k < w.heap.size
  stay : ∀ {w bs w'}, St w bs → Below w0.heap.size w0 w' → (∀ k, own w k → w'.heap[k]? = w.heap[k]?) → St w' bs ∧ ∀ k, own w' k → own w k
  write : ∀ {w bs} {p : List Int} {A : Option Addr} {c n : Nat}, St w bs → p.length = n → bs.length + n ≤ M → n ≤ c → ReadsInt w .u8 A n p → (0 < n → ∀ a, A = some a → ¬ own w a.block) →
    Calls P f #[v, .slice A n c] w fun e w' => e = .returned (.tuple #[.int .i64 (n : Int), .nilIface]) ∧ St w' (bs ++ p) ∧ (w'.os = w.os ∧ w'.tape = w.tape ∧ w'.output = w.output ∧ w.heap.size ≤ w'.heap.size ∧ (∀ k, k < w.heap.size → ¬ own w k → w'.heap[k]? = w.heap[k]?) ∧ ∀ k, own w' k → own w k ∨ w.heap.size ≤ k)
section
variable {P : Program} {w0 : World} {T : TypeId} {v : Value} {f : FuncId} {M : Nat} (S : Sink P w0 T v f M)
/-- What a writer may turn: the sink's own blocks, and what is new. -/
structure Step (w w' : World) : Prop where
  os : w'.os = w.os
  tape : w'.tape = w.tape
  output : w'.output = w.output
  size : w.heap.size ≤ w'.heap.size
  block : ∀ k, k < w.heap.size → ¬ S.own w k → w'.heap[k]? = w.heap[k]?
  grow : ∀ k, S.own w' k → S.own w k ∨ w.heap.size ≤ k
variable {S}
theorem Step.refl (w : World) : Step S w w := ⟨rfl, rfl, rfl, Nat.le_refl _, fun _ _ _ => rfl, fun _ h => .inl h⟩
theorem Step.trans {w w1 w2 : World} (h : Step S w w1) (k : Step S w1 w2) : Step S w w2 :=
  ⟨k.os.trans h.os, k.tape.trans h.tape, k.output.trans h.output, Nat.le_trans h.size k.size, fun i hi ho => (k.block i (Nat.lt_of_lt_of_le hi h.size) (fun hh => (h.grow i hh).elim ho (fun h1 => Nat.not_le.2 hi h1))).trans (h.block i hi ho), fun i hi => by
    rcases k.grow i hi with h1 | h1
    · exact h.grow i h1
    · exact .inr (Nat.le_trans h.size h1)⟩
theorem below_step {w w1 : World} {bs : List Int} (hs : S.St w bs) (hb : Below w.heap.size w w1) : S.St w1 bs ∧ Step S w w1 := by
  have h := S.stay hs ((S.below hs).trans ⟨hb.os, hb.tape, hb.output, hb.size, fun k hk => hb.block k (Nat.lt_of_lt_of_le hk (S.below hs).size)⟩) (fun k hk => hb.block k (S.fresh hs hk).2)
  exact ⟨h.1, hb.os, hb.tape, hb.output, hb.size, fun k hk _ => hb.block k hk, fun k hk => .inl (h.2 k hk)⟩
theorem below_own {w w1 : World} {bs : List Int} (hs : S.St w bs) (hb : Below w.heap.size w w1) (k : Nat) (h : S.own w1 k) : S.own w k :=
  (S.stay hs ((S.below hs).trans ⟨hb.os, hb.tape, hb.output, hb.size, fun k hk => hb.block k (Nat.lt_of_lt_of_le hk (S.below hs).size)⟩) (fun k hk => hb.block k (S.fresh hs hk).2)).2 k h
/-- A block of one's own, made behind wE, turns. -/
theorem only_step {wE w w1 : World} {bs : List Int} {g : Nat} (hs : S.St w bs) (hE : Step S wE w) (hg : wE.heap.size ≤ g) (hg0 : w0.heap.size ≤ g) (hn : ¬ S.own w g) (ho : Only g w w1) : S.St w1 bs ∧ Step S wE w1 ∧ ¬ S.own w1 g := by
  have h := S.stay hs ((S.below hs).trans ⟨ho.os, ho.tape, ho.output, ho.size, fun k hk => ho.block k (Nat.lt_of_lt_of_le hk (S.below hs).size) (by omega)⟩) (fun k hk => ho.block k (S.fresh hs hk).2 (fun e => hn (e ▸ hk)))
  exact ⟨h.1, ⟨ho.os.trans hE.os, ho.tape.trans hE.tape, ho.output.trans hE.output, Nat.le_trans hE.size ho.size, fun k hk hk2 => (ho.block k (Nat.lt_of_lt_of_le hk hE.size) (by omega)).trans (hE.block k hk hk2), fun k hk => hE.grow k (h.2 k hk)⟩, fun hh => hn (h.2 g hh)⟩
/-- A block that is not the sink's stays. -/
theorem Step.kept {w w1 : World} {g : Nat} {x : Obj} (h : Step S w w1) (hn : ¬ S.own w g) (hx : w.heap[g]? = some x) : w1.heap[g]? = some x ∧ ¬ S.own w1 g :=
  ⟨(h.block g (blk_lt' hx) hn).trans hx, fun hh => (h.grow g hh).elim hn (fun h1 => Nat.not_le.2 (blk_lt' hx) h1)⟩
theorem Sink.writeC (S : Sink P w0 T v f M) {w : World} {bs p : List Int} {A : Option Addr} {c n : Nat} (hs : S.St w bs) (hp : p.length = n) (hM : bs.length + n ≤ M) (hc : n ≤ c) (hr : ReadsInt w .u8 A n p) (ho : 0 < n → ∀ a, A = some a → ¬ S.own w a.block) :
    Calls P f #[v, .slice A n c] w fun e w' => e = .returned (.tuple #[.int .i64 (n : Int), .nilIface]) ∧ S.St w' (bs ++ p) ∧ Step S w w' :=
  (S.write hs hp hM hc hr ho).mono fun e w' ⟨h1, h2, h3, h4, h5, h6, h7, h8⟩ => ⟨h1, h2, h3, h4, h5, h6, h7, h8⟩
end
end Go.Proofs.YtpogfbompljkkaaDoor.Snk
/- A scratch row is borrowed. -/
namespace Go.Proofs.YtpogfbompljkkaaDoor.Snk
open Go.RowKit Go.Proofs.YtpogfbompljkkaaDoorW.PrintWords Go.Proofs.YtpogfbompljkkaaDoorW.PrintLast Go.Proofs.YtpogfbompljkkaaDoorW.PrintMore
set_option linter.unusedVariables false
set_option linter.unusedSimpArgs false
theorem add_any (g o j : Nat) : (⟨g, o, none⟩ : Addr).add j = ⟨g, o + j, none⟩ := by
  unfold Addr.add
  split
  · rename_i h; rw [h]; rfl
  · rfl
theorem read4 {w : World} {g : Nat} {l : List Int} {t : TypeId} (h : w.heap[g]? = some (.cells (byteC l).toArray t (0, 0))) (hl : l.length = 8) : ReadsInt w .u8 (some ⟨g, 0, none⟩) 4 (l.take 4) :=
  ⟨by rw [List.length_take]; omega, by decide, fun _ => ⟨_, rfl, fun j hj => by
    rw [add_any, Nat.zero_add, row_cell h j (by omega), List.getD_eq_getElem?_getD, List.getD_eq_getElem?_getD, List.getElem?_take_of_lt hj]⟩⟩
theorem le4_len (v : Int) : (le4 v).length = 4 := rfl
theorem mk_opS {P : Program} {w w' : World} {ρ : Operand → Value} {o : Oper} (t : TypeId) (l c : Operand) (ho : o.op = .makeSlice t l c) (L C v : Value) (hl : ρ l = L) (hc : ρ c = C) (hr : (Instr.makeSlice t L C).run P w = .ok v w') : (execOp ρ o).run P w = .ok (.value v) w' := by
  unfold execOp
  simp [ho, hl, hc, hr, Result.andThen]
theorem mk8 (w : World) : (Instr.makeSlice 28 (.int .i64 8) (.int .i64 8)).run Tryd.prog w = .ok (.slice (some ⟨w.heap.size, 0, none⟩) 8 8) (w.alloc (.cells (byteC (List.replicate 8 0)).toArray 5)) := by kernel_rfl
set_option maxRecDepth 100000 in
theorem borrowC (w : World) : Calls Tryd.prog 23 #[.agg #[]] w fun e w' => ∃ gb, e = .returned (.slice (some ⟨gb, 0, none⟩) 8 8) ∧ w'.heap[gb]? = some (.cells (byteC (List.replicate 8 0)).toArray 5 (0, 0)) ∧ w.heap.size ≤ gb ∧ Below w.heap.size w w' := by
  go_enter Tryd.func23, Tryd.ntmps23
  go_upto_region 1 with fail
  generalize hw1 : World.alloc _ _ = w1
  have HB1 : Aside0 (Below w.heap.size w w1) := ⟨by rw [← hw1]; exact below_alloc (Below.refl _ _) _⟩
  clear hw1
  go_wp2_with ((with_reducible refine at_dst (N := 3) rfl ?_); refine wpList_run rfl _ (mk_opS 28 (.const (.int .i64 8)) (.const (.int .i64 8)) rfl _ _ _ rfl rfl (mk8 w1)) ?_)
  go_ret
  exact ⟨_, rfl, heap_alloc_new w1 _, HB1.out.size, below_alloc HB1.out _⟩
set_option maxRecDepth 100000 in
theorem returnC (x : Value) (w : World) : Calls Tryd.prog 24 #[.agg #[], x] w fun e w' => e = .returned (.tuple #[]) ∧ Below w.heap.size w w' := by
  go_enter Tryd.func24, Tryd.ntmps24
  go_wp2_with fail
  go_end0
  exact ⟨rfl, below_alloc (Below.refl _ _) _⟩
theorem below_trV {w w1 w2 : World} (h : Below w.heap.size w w1) (k : Below w1.heap.size w1 w2) : Below w.heap.size w w2 :=
  ⟨k.os.trans h.os, k.tape.trans h.tape, k.output.trans h.output, Nat.le_trans h.size k.size, fun i hi => (k.block i (Nat.lt_of_lt_of_le hi h.size)).trans (h.block i hi)⟩
end Go.Proofs.YtpogfbompljkkaaDoor.Snk
/- A struct, or an array, read, laid, built as a whole. -/
namespace Go.Proofs.YtpogfbompljkkaaDoorW.PrintWords
open Go.RowKit
set_option linter.unusedVariables false
section
variable {P : Program} {ops : Array Oper} {rest : List Oper} {o : Oper} {a : Act} {w : World} {Q : Exit → Act → World → Prop}
/-- A struct, or an array, read as a whole, wherever it lies. -/
theorem run_loadVar_at (w : World) (p : Addr) (ty : TypeId) (cs : List Value) (d : TypeDesc) (hc : ∀ j v, cs[j]? = some v → w.cell? (p.add j) = some v)
    (hu : P.underlying ty = some d) (hd : (match d with | .struct _ | .array _ _ => true | _ => false) = true) (hi : (P.info? ty).map (·.size) = some cs.length) : (loadVar ty p).run P w = .ok (.agg cs.toArray) w := by
  have hl : (loadCells p cs.length).run P w = .ok cs.toArray w := run_loadCells_list (P := P) w p cs (fun j v hv => hc j v (by simpa using hv))
  cases hq : P.info? ty with
  | none => simp [hq] at hi
  | some i =>
    have hs : i.size = cs.length := by simpa [hq] using hi
    have hagg : (isAgg ty).run P w = .ok true w := by
      unfold isAgg
      rw [Sem.run_bind, run_underlying hu w]
      cases d <;> simp_all
    simp [loadVar, Sem.run_bind, hagg, sizeOf, typeInfo, hq, hs, hl]
theorem run_load_at {ρ : Operand → Value} (ty : TypeId) (x : Operand) (ho : o.op = .load ty x) (p : Addr) (hx : ρ x = .pointer (some p)) (cs : List Value) (d : TypeDesc) (hc : ∀ j v, cs[j]? = some v → w.cell? (p.add j) = some v)
    (hu : P.underlying ty = some d) (hd : (match d with | .struct _ | .array _ _ => true | _ => false) = true) (hi : (P.info? ty).map (·.size) = some cs.length) : (execOp ρ o).run P w = .ok (.value (.agg cs.toArray)) w := by
  unfold execOp
  simp only [ho, hx, Instr.loadAt, Instr.sureAddr, Sem.run_bind, Sem.run_pure, Result.andThen_ok, run_loadVar_at w p ty cs d hc hu hd hi]
theorem wpList_load_at (hgd : o.guard = none) (ty : TypeId) (x : Operand) (ho : o.op = .load ty x) (p : Addr) (hx : a.eval x = .pointer (some p)) (cs : List Value) (d : TypeDesc) (hc : ∀ j v, cs[j]? = some v → w.cell? (p.add j) = some v)
    (hu : P.underlying ty = some d) (hd : (match d with | .struct _ | .array _ _ => true | _ => false) = true) (hi : (P.info? ty).map (·.size) = some cs.length) (h : wpList P ops Q rest (a.put o.dst (.agg cs.toArray)) w) : wpList P ops Q (o :: rest) a w :=
  wpList_run hgd _ (run_load_at ty x ho p hx cs d hc hu hd hi) h
theorem at_none {P : Program} {ops : Array Oper} {rest : List Oper} {o : Oper} {a : Act} {w : World} {Q : Exit → Act → World → Prop} (_h : o.dst = none) (h : wpList P ops Q (o :: rest) a w) : wpList P ops Q (o :: rest) a w := h
/-- A store of a whole struct into a block that is told. -/
theorem wpList_store_whole (hgd : o.guard = none) (ty : TypeId) (x y : Operand) (ho : o.op = .store ty x y) (g : Nat) (cells : Array Value) (hx : a.eval x = .pointer (some ⟨g, 0, none⟩)) (hy : a.eval y = .agg cells)
    (t : TypeId) (old : Array Value) (hg : w.heap[g]? = some (.cells old t (0, 0))) (hi : (P.info? ty).map (·.size) = some cells.size) (hold : old.size = cells.size) (h1 : cells.all (·.oneCell') = true) {w0 : World} {B : Nat} (hB : Below B w0 w) (hg0 : B ≤ g)
    (h : ∀ W, W.heap[g]? = some (.cells cells t (0, 0)) → Below B w0 W → (∀ k, k ≠ g → W.heap[k]? = w.heap[k]?) → W.heap.size = w.heap.size → wpList P ops Q rest (a.put o.dst undef) W) : wpList P ops Q (o :: rest) a w := by
  refine wpList_store_row hgd ty x y ho g cells hx hy t old hg hi hold h1 ?_
  have hlt := blk_lt' hg
  have hs : (w.setRow g cells).heap.size = w.heap.size := by simp [World.setRow]
  have hk : ∀ k, k ≠ g → (w.setRow g cells).heap[k]? = w.heap[k]? := fun k hk => by simp [World.setRow, Array.getElem?_modify, Ne.symm hk]
  refine h _ (by simp [World.setRow, Array.getElem?_modify, hg]) ⟨hB.os, hB.tape, hB.output, by rw [hs]; exact hB.size, fun k hk2 => (hk k (by omega)).trans (hB.block k hk2)⟩ hk hs
end
theorem run_built {P : Program} {o : Oper} {w : World} {ρ : Operand → Value} (t : TypeId) (parts : Array (Nat × Operand)) (ho : o.op = .build t parts) (l : List (Nat × Value)) (hp : (parts.map fun (i, x) => (i, ρ x)).toList = l) (cells : Array Value) (h : P.built t l = some cells) : (execOp ρ o).run P w = .ok (.value (.agg cells)) w := by
  subst hp
  unfold execOp
  simp only [ho, Sem.run_bind, run_build w t _ cells h, Result.andThen_ok]
  rfl
theorem uncons_ {n : Nat} (h : List Value) (hl : h.length = n + 1) : ∃ a t, h = a :: t ∧ t.length = n := by
  cases h with
  | nil => simp at hl
  | cons a t => exact ⟨a, t, rfl, by simpa using hl⟩
theorem list32 (t0 : List Value) (l0 : t0.length = 32) : ∃ a0 a1 a2 a3 a4 a5 a6 a7 a8 a9 a10 a11 a12 a13 a14 a15 a16 a17 a18 a19 a20 a21 a22 a23 a24 a25 a26 a27 a28 a29 a30 a31 : Value, t0 = [a0, a1, a2, a3, a4, a5, a6, a7, a8, a9, a10, a11, a12, a13, a14, a15, a16, a17, a18, a19, a20, a21, a22, a23, a24, a25, a26, a27, a28, a29, a30, a31] := by
  obtain ⟨a0, t1, e0, l1⟩ := uncons_ (n := 31) t0 l0
  obtain ⟨a1, t2, e1, l2⟩ := uncons_ (n := 30) t1 l1
  obtain ⟨a2, t3, e2, l3⟩ := uncons_ (n := 29) t2 l2
  obtain ⟨a3, t4, e3, l4⟩ := uncons_ (n := 28) t3 l3
  obtain ⟨a4, t5, e4, l5⟩ := uncons_ (n := 27) t4 l4
  obtain ⟨a5, t6, e5, l6⟩ := uncons_ (n := 26) t5 l5
  obtain ⟨a6, t7, e6, l7⟩ := uncons_ (n := 25) t6 l6
  obtain ⟨a7, t8, e7, l8⟩ := uncons_ (n := 24) t7 l7
  obtain ⟨a8, t9, e8, l9⟩ := uncons_ (n := 23) t8 l8
  obtain ⟨a9, t10, e9, l10⟩ := uncons_ (n := 22) t9 l9
  obtain ⟨a10, t11, e10, l11⟩ := uncons_ (n := 21) t10 l10
  obtain ⟨a11, t12, e11, l12⟩ := uncons_ (n := 20) t11 l11
  obtain ⟨a12, t13, e12, l13⟩ := uncons_ (n := 19) t12 l12
  obtain ⟨a13, t14, e13, l14⟩ := uncons_ (n := 18) t13 l13
  obtain ⟨a14, t15, e14, l15⟩ := uncons_ (n := 17) t14 l14
  obtain ⟨a15, t16, e15, l16⟩ := uncons_ (n := 16) t15 l15
  obtain ⟨a16, t17, e16, l17⟩ := uncons_ (n := 15) t16 l16
  obtain ⟨a17, t18, e17, l18⟩ := uncons_ (n := 14) t17 l17
  obtain ⟨a18, t19, e18, l19⟩ := uncons_ (n := 13) t18 l18
  obtain ⟨a19, t20, e19, l20⟩ := uncons_ (n := 12) t19 l19
  obtain ⟨a20, t21, e20, l21⟩ := uncons_ (n := 11) t20 l20
  obtain ⟨a21, t22, e21, l22⟩ := uncons_ (n := 10) t21 l21
  obtain ⟨a22, t23, e22, l23⟩ := uncons_ (n := 9) t22 l22
  obtain ⟨a23, t24, e23, l24⟩ := uncons_ (n := 8) t23 l23
  obtain ⟨a24, t25, e24, l25⟩ := uncons_ (n := 7) t24 l24
  obtain ⟨a25, t26, e25, l26⟩ := uncons_ (n := 6) t25 l25
  obtain ⟨a26, t27, e26, l27⟩ := uncons_ (n := 5) t26 l26
  obtain ⟨a27, t28, e27, l28⟩ := uncons_ (n := 4) t27 l27
  obtain ⟨a28, t29, e28, l29⟩ := uncons_ (n := 3) t28 l28
  obtain ⟨a29, t30, e29, l30⟩ := uncons_ (n := 2) t29 l29
  obtain ⟨a30, t31, e30, l31⟩ := uncons_ (n := 1) t30 l30
  obtain ⟨a31, t32, e31, l32⟩ := uncons_ (n := 0) t31 l31
  have e := List.length_eq_zero_iff.1 l32
  exact ⟨_, _, _, _, _, _, _, _, _, _, _, _, _, _, _, _, _, _, _, _, _, _, _, _, _, _, _, _, _, _, _, _, by rw [e0, e1, e2, e3, e4, e5, e6, e7, e8, e9, e10, e11, e12, e13, e14, e15, e16, e17, e18, e19, e20, e21, e22, e23, e24, e25, e26, e27, e28, e29, e30, e31, e]⟩
theorem run_boxed {P : Program} {o : Oper} {w : World} {ρ : Operand → Value} (t : TypeId) (x : Operand) (ho : o.op = .box t x) (cs : Array Value) (hx : ρ x = .agg cs) : (execOp ρ o).run P w = .ok (.value (.pointer (some ⟨w.heap.size, 0, none⟩))) (w.alloc (.cells cs t)) := by
  unfold execOp
  simp [ho, hx, Instr.box, newVar, Value.cells, newRow]
end Go.Proofs.YtpogfbompljkkaaDoorW.PrintWords
namespace Go.Proofs.YtpogfbompljkkaaDoorW.PrintLast
open Go.RowKit Go.Proofs.YtpogfbompljkkaaDoorW.PrintWords
/-- An operation of a drawn region that yields a value and turns the world. -/
theorem yval_ {P : Program} {ops : Array Oper} {Q : Exit → Act → World → Prop} {oi : Oper} {N : Option Tmp} {a : Act} {w w1 : World} {K : Act → World → Prop} (v : Value) (hw : Region.wanted oi (yielded ops a.tmps) = true) (hN : oi.dst = N) (hrun : (execOp a.eval oi).run P w = .ok (.value v) w1)
    (h : K (a.put N v) w1) : if Region.wanted oi (yielded ops a.tmps) = true then Oper.wp P oi a w K Q else K (a.put N undef) w := by
  rw [if_pos hw]
  unfold Oper.wp
  rw [hrun]
  subst hN
  exact h
end Go.Proofs.YtpogfbompljkkaaDoorW.PrintLast
/- Strings as lists of bytes; spec.lower. -/
namespace Go.Proofs.YtpogfbompljkkaaDoor.Snk
open Go.RowKit Go.Proofs.YtpogfbompljkkaaDoorW.PrintWords Go.Proofs.YtpogfbompljkkaaDoorW.PrintLast Go.Proofs.YtpogfbompljkkaaDoorW.PrintMore
set_option linter.unusedVariables false
set_option linter.unusedSimpArgs false
def ByteL (l : List Int) : Prop := ∀ x ∈ l, 0 ≤ x ∧ x < 256
theorem ByteL.at {l : List Int} (h : ByteL l) (j : Nat) : 0 ≤ l.getD j 0 ∧ l.getD j 0 < 256 := by
  rw [List.getD_eq_getElem?_getD]
  cases hq : l[j]? with
  | none => exact ⟨by decide, by decide⟩
  | some x => exact h x (List.mem_of_getElem? hq)
/-- A block that begins with these bytes. -/
def BR (w : World) (g : Nat) (l : List Int) : Prop := ∃ cs N M, w.heap[g]? = some (.cells cs 5 (N, M)) ∧ (M = 0 ∨ l.length ≤ N) ∧ l.length ≤ cs.size ∧ ∀ j, j < l.length → cs[j]? = some (.int .u8 (l.getD j 0))
theorem BR.cell {w : World} {g : Nat} {l : List Int} (h : BR w g l) (j : Nat) (hj : j < l.length) : w.cell? ⟨g, j, none⟩ = some (.int .u8 (l.getD j 0)) := by
  obtain ⟨cs, N, M, h1, h2, h3, h4⟩ := h
  exact cell_of h1 (h4 j hj)
theorem BR.frozen {w : World} {g : Nat} {l : List Int} (h : BR w g l) (j : Nat) (hj : j < l.length) : w.frozen? ⟨g, j, none⟩ = false := by
  obtain ⟨cs, N, M, h1, h2, h3, h4⟩ := h
  rcases h2 with h2 | h2
  · subst h2; simp [World.frozen?, h1]
  · have : ¬ N ≤ j := by omega
    simp [World.frozen?, h1, this]
theorem BR.lt {w : World} {g : Nat} {l : List Int} (h : BR w g l) : g < w.heap.size := by
  obtain ⟨cs, N, M, h1, _⟩ := h
  exact blk_lt' h1
theorem BR.below {w w1 : World} {g : Nat} {l : List Int} (h : BR w g l) (hb : Below w.heap.size w w1) : BR w1 g l := by
  have hl := h.lt
  obtain ⟨cs, N, M, h1, h2⟩ := h
  exact ⟨cs, N, M, (hb.block _ hl).trans h1, h2⟩
theorem BR.set {w : World} {g : Nat} {l : List Int} (h : BR w g l) (j : Nat) (v : Int) : BR (w.setCell ⟨g, j, none⟩ (.int .u8 v)) g (l.set j v) := by
  obtain ⟨cs, N, M, h1, h2, h3, h4⟩ := h
  refine ⟨_, N, M, heap_set_same h1 (j := j) _, by rw [List.length_set]; exact h2, by rw [Array.size_setIfInBounds, List.length_set]; exact h3, fun t ht => ?_⟩
  rw [List.length_set] at ht
  have hts : t < cs.size := by omega
  rw [Array.getElem?_setIfInBounds, List.getD_eq_getElem?_getD, List.getElem?_set]
  by_cases e : j = t
  · subst e
    rw [if_pos rfl, if_pos rfl, if_pos hts, if_pos ht]; rfl
  · rw [if_neg e, if_neg e, h4 t ht, List.getD_eq_getElem?_getD]
theorem BR.row {w : World} {g : Nat} {l : List Int} (h : w.heap[g]? = some (.cells (byteC l).toArray 5 (0, 0))) : BR w g l :=
  ⟨_, 0, 0, h, .inl rfl, by rw [List.size_toArray, byteC_len]; exact Nat.le_refl _, fun j hj => by rw [List.getElem?_toArray]; exact byteC_at hj⟩
theorem BR.reads {w : World} {g : Nat} {l : List Int} (h : BR w g l) (hn : l.length ≤ 1000000) : ReadsInt w .u8 (some ⟨g, 0, none⟩) l.length l :=
  ⟨rfl, by omega, fun _ => ⟨_, rfl, fun j hj => by rw [add_any, Nat.zero_add]; exact h.cell j hj⟩⟩
theorem conv_op3 {P : Program} {ρ : Operand → Value} {o : Oper} {w w' : World} {v v' : Value} (t u : TypeId) (x : Operand) (ho : o.op = .convert t u x) (hx : ρ x = v) (h : (convert t u v).run P w = .ok v' w') : (execOp ρ o).run P w = .ok (.value v') w' := by
  unfold execOp
  simp [ho, hx, h, Result.andThen]
theorem nums_len (l : List Int) : (strOfNums l).size = l.length := strOfNums_size l
theorem nums_data {l : List Int} (h : ByteL l) : (strOfNums l).data.toList.map (fun b => (b.toNat : Int)) = l := by
  rw [strOfNums_data, List.map_map]
  conv => rhs; rw [← List.map_id l]
  refine List.map_congr_left fun x hx => ?_
  have hb := h x hx
  simp only [Function.comp, id, UInt8.toNat_ofNat']
  omega
/-- '[]byte(s)'. -/
theorem strBR {l : List Int} (hl : ByteL l) (hn : l.length ≤ 1000) (w : World) : ∃ g c W', (convert 9 28 (.string (strOfNums l))).run Tryd.prog w = .ok (.slice (some ⟨g, 0, none⟩) l.length c) W' ∧ BR W' g l ∧ l.length ≤ c ∧ w.heap.size ≤ g ∧ Below w.heap.size w W' := by
  have hsz : (strOfNums l).data.size = l.length := strOfNums_size l
  have hr := run_bytes_of_string (P := Tryd.prog) w 9 28 5 (strOfNums l) Tryd.underlying9 Tryd.underlying28 Tryd.underlying5
  rw [show (strOfNums l).size = l.length from hsz] at hr
  have hc : l.length ≤ grownCap w l.length 0 5 := grownCap_ge _ _ _ _
  refine ⟨_, _, _, hr, ⟨_, _, _, heap_alloc_new w.drew _, ?_, ?_, fun j hj => ?_⟩, hc, Nat.le_refl _, below_alloc (below_drew (Below.refl _ _)) _⟩
  · refine .inr ?_; unfold bytesRow; rw [Array.size_append, Array.size_map, hsz]; omega
  · unfold bytesRow; rw [Array.size_append, Array.size_map, hsz]; omega
  · unfold bytesRow
    have hj2 : j < ((strOfNums l).data.map fun b => Value.int .u8 (b.toNat : Int)).size := by rw [Array.size_map, hsz]; exact hj
    rw [Array.getElem?_append_left hj2, Array.getElem?_map, ← Array.getElem?_toList, List.getD_eq_getElem?_getD]
    have e := congrArg (fun q => q[j]?) (nums_data hl)
    simp only [List.getElem?_map] at e
    rw [← e]
    cases hq : (strOfNums l).data.toList[j]? with
    | none => exact absurd (List.getElem?_eq_none_iff.1 hq) (by rw [Array.length_toList, hsz]; omega)
    | some b => rfl
/-- A string's byte, as an operation. -/
theorem index_op {ρ : Operand → Value} {o : Oper} (s x : Operand) (ho : o.op = .index 9 s x) {l : List Int} (hl : ByteL l) (j : Nat) (y : Int) (hs : ρ s = .string (strOfNums l)) (hx : ρ x = .int .i64 y) (hy : y = (j : Int)) (hj : j < l.length) (z : Int) (hz : l.getD j 0 = z) (w : World) : (execOp ρ o).run Tryd.prog w = .ok (.value (.int .u8 z)) w := by
  have hsz : (strOfNums l).size = l.length := strOfNums_size l
  subst hy hz
  have h1 : 0 ≤ (j : Int) ∧ (j : Int) < (strOfNums l).size := by rw [hsz]; omega
  have hr := run_index_string (P := Tryd.prog) w 9 (strOfNums l) .i64 (j : Int) Tryd.underlying9
  rw [dif_pos h1] at hr
  have e : ((strOfNums l)[(j : Int).toNat]'(by rw [hsz]; omega)).toNat = l.getD j 0 := by
    have e := congrArg (fun q => q[j]?) (nums_data hl)
    simp only [List.getElem?_map] at e
    rw [List.getD_eq_getElem?_getD, ← e, Array.getElem?_toList, Array.getElem?_eq_getElem (show j < (strOfNums l).data.size by rw [show (strOfNums l).data.size = l.length from hsz]; exact hj)]
    rfl
  rw [e] at hr
  unfold execOp
  simp [ho, hs, hx, hr, Result.andThen]
/-- A digit ahead. -/
theorem cat_op {P : Program} {ρ : Operand → Value} {o : Oper} {w : World} (t u : TypeId) (x y : Operand) (ho : o.op = .binOp .add t x y u) (a b : ByteArray) (hx : ρ x = .string a) (hy : ρ y = .string b) (hs : a.size + b.size ≤ 1000000) : (execOp ρ o).run P w = .ok (.value (.string (a ++ b))) w := by
  unfold execOp
  simp [ho, hx, hy, eqGuard, binOp_string_add, run_string_add_sum w a b (by omega), Result.andThen]
theorem cat48 (l : List Int) : ({ data := #[48] } : ByteArray) ++ strOfNums l = strOfNums (48 :: l) := by
  apply ByteArray.ext
  rw [ByteArray.data_append]
  unfold strOfNums
  simp
def lowB (c : Int) : Int := if 65 ≤ c ∧ c ≤ 90 then c + 32 else c
def low (i : Nat) (l : List Int) : List Int := (l.take i).map lowB ++ l.drop i
theorem low_len (i : Nat) (l : List Int) : (low i l).length = l.length := by
  unfold low; rw [List.length_append, List.length_map, List.length_take, List.length_drop]; omega
theorem low_at (i : Nat) (l : List Int) (hi : i < l.length) : (low i l).getD i 0 = l.getD i 0 := by
  unfold low
  rw [List.getD_eq_getElem?_getD, List.getElem?_append_right (by rw [List.length_map, List.length_take]; omega), List.length_map, List.length_take, Nat.min_eq_left (by omega), Nat.sub_self, List.getElem?_drop, Nat.add_zero, List.getD_eq_getElem?_getD]
theorem low_succ (i : Nat) (l : List Int) (hi : i < l.length) : (low i l).set i (lowB (l.getD i 0)) = low (i + 1) l := by
  unfold low
  have hL : ((l.take i).map lowB).length = i := by rw [List.length_map, List.length_take]; omega
  rw [List.set_append_right _ _ (by omega), hL, Nat.sub_self, List.take_add_one, List.map_append, List.append_assoc, List.drop_eq_getElem_cons hi, List.getD_eq_getElem?_getD, List.getElem?_eq_getElem hi]
  rfl
theorem low_all (l : List Int) : low l.length l = l.map lowB := by
  unfold low; rw [List.take_length, List.drop_length, List.append_nil]
theorem lowB_byte {c : Int} (h : 0 ≤ c ∧ c < 256) : 0 ≤ lowB c ∧ lowB c < 256 := by
  unfold lowB; split <;> omega
theorem low_bytes {l : List Int} (h : ByteL l) : ByteL (l.map lowB) := fun x hx => by
  obtain ⟨y, hy, rfl⟩ := List.mem_map.1 hx
  exact lowB_byte (h y hy)
theorem u8wr {x : Int} (h0 : 0 ≤ x) (h1 : x < 256) : IntKind.u8.wrap x = x := by
  unfold IntKind.wrap; simp [IntKind.signed, IntKind.bits]; omega
theorem wrn (x : Int) (h0 : 0 ≤ x) (h1 : x ≤ 9223372036854775807) : wrap64 x = x := by unfold wrap64; omega
set_option maxRecDepth 100000 in
set_option maxHeartbeats 4000000 in
theorem lowerC (l : List Int) (hl : ByteL l) (hn : l.length ≤ 1000) (w : World) : Calls Tryd.prog 11 #[.string (strOfNums l)] w fun e w' => e = .returned (.string (strOfNums (l.map lowB))) ∧ Below w.heap.size w w' := by
  have HL := Aside0.mk hl
  have HN := Aside0.mk hn
  have HST : Aside0 (∀ w1 : World, ∃ g c W', (convert 9 28 (.string (strOfNums l))).run Tryd.prog w1 = .ok (.slice (some ⟨g, 0, none⟩) l.length c) W' ∧ BR W' g l ∧ l.length ≤ c ∧ w1.heap.size ≤ g ∧ Below w1.heap.size w1 W') := ⟨fun w1 => strBR hl hn w1⟩
  obtain ⟨g, c, w1, hcv, hbr, hcc, hgg, hbl⟩ := HST.out w
  have HCV := Aside0.mk hcv
  have HBR := Aside0.mk hbr
  have HGG := Aside0.mk hgg
  have HBL := Aside0.mk hbl
  obtain ⟨s, hs⟩ : ∃ s, strOfNums l = s := ⟨_, rfl⟩
  rw [hs] at HCV ⊢
  have hcs : Aside0 (strOfNums (l.map lowB) = strOfNums (low l.length l)) := ⟨by rw [low_all]⟩
  rw [hcs.out]
  clear hl hn HST hcv hbr hcc hgg hbl hs hcs
  go_enter Tryd.func11, Tryd.ntmps11
  go_upto_region 3 with ((with_reducible refine at_dst (N := 6) rfl ?_); refine wpList_run rfl _ (conv_op3 9 28 (.tmp 5) rfl rfl HCV.out) ?_)
  go_loopw [4] (fun v4 wr => ∃ i : Nat, i ≤ l.length ∧ v4 = .int .i64 i ∧ Aside0 (BR wr g (low i l)) ∧ Aside0 (Below w.heap.size w wr)) (fun v4 _ => l.length - (intOf v4).toNat)
  case atStart => exact ⟨0, Nat.zero_le _, rfl, ⟨by unfold low; exact HBR.out⟩, HBL⟩
  case round =>
    obtain ⟨i, hi, rfl, HB, HW⟩ := hrel
    by_cases hlt : i < l.length
    · have HLT := Aside0.mk hlt
      have hb := HL.out.at i
      have hc := HB.out.cell i (by rw [low_len]; exact hlt)
      have hf := HB.out.frozen i (by rw [low_len]; exact hlt)
      rw [low_at i l hlt] at hc
      have HSU := Aside0.mk (low_succ i l hlt)
      obtain ⟨x, hx⟩ : ∃ x, l.getD i 0 = x := ⟨_, rfl⟩
      rw [hx] at hc hb HSU
      have HXA := Aside0.mk hx
      have hlti : (i : Int) < (l.length : Int) := by omega
      have hi1 : (i : Int) + 1 ≤ 1000 := by have := HN.out; omega
      have HI1 : Aside0 (wrap64 ((i : Int) + 1) = (i : Int) + 1) := ⟨wrn _ (by omega) (by omega)⟩
      by_cases h65 : 65 ≤ x
      · by_cases h90 : x ≤ 90
        · have hu : IntKind.u8.wrap (x + 32) = x + 32 := u8wr (by omega) (by omega)
          have HE : Aside0 (lowB x = x + 32) := ⟨by unfold lowB; rw [if_pos ⟨h65, h90⟩]⟩
          have hi1' := HI1.out
          clear hi hlt hx
          go_wp2_with fail
          go_roundw
          case rel => exact ⟨i + 1, by have := HLT.out; omega, by go_num, ⟨by rw [← HSU.out, HE.out]; exact HB.out.set i _⟩, ⟨HW.out.trans ⟨rfl, rfl, rfl, by simp [World.setCell], fun k hk => ((Only.refl g wr).set _ _).block k (Nat.lt_of_lt_of_le hk HW.out.size) (by have := HGG.out; omega)⟩⟩⟩
          case measure => simp [intOf]; have := HLT.out; clear hi1' hu; omega
        · have HE : Aside0 (lowB x = x) := ⟨by unfold lowB; rw [if_neg (by omega)]⟩
          have HS : Aside0 (low (i + 1) l = low i l) := ⟨by
            rw [← HSU.out, HE.out]
            have e := low_at i l HLT.out
            rw [hx] at e
            refine List.ext_getElem? fun t => ?_
            rw [List.getElem?_set]
            split
            · rename_i h1; subst h1
              rw [if_pos (by rw [low_len]; exact HLT.out)]
              rw [List.getD_eq_getElem?_getD, List.getElem?_eq_getElem (by rw [low_len]; exact HLT.out)] at e
              rw [List.getElem?_eq_getElem (by rw [low_len]; exact HLT.out)]
              exact congrArg some e.symm
            · rfl⟩
          have hi1' := HI1.out
          clear hi hlt hx
          go_wp2_with fail
          go_roundw
          case rel => exact ⟨i + 1, by have := HLT.out; omega, by go_num, ⟨by rw [HS.out]; exact HB.out⟩, HW⟩
          case measure => simp [intOf]; have := HLT.out; clear hi1'; omega
      · have HE : Aside0 (lowB x = x) := ⟨by unfold lowB; rw [if_neg (by omega)]⟩
        have HS : Aside0 (low (i + 1) l = low i l) := ⟨by
            rw [← HSU.out, HE.out]
            have e := low_at i l HLT.out
            rw [hx] at e
            refine List.ext_getElem? fun t => ?_
            rw [List.getElem?_set]
            split
            · rename_i h1; subst h1
              rw [if_pos (by rw [low_len]; exact HLT.out)]
              rw [List.getD_eq_getElem?_getD, List.getElem?_eq_getElem (by rw [low_len]; exact HLT.out)] at e
              rw [List.getElem?_eq_getElem (by rw [low_len]; exact HLT.out)]
              exact congrArg some e.symm
            · rfl⟩
        have hi1' := HI1.out
        clear hi hlt hx
        go_wp2_with fail
        go_roundw
        case rel => exact ⟨i + 1, by have := HLT.out; omega, by go_num, ⟨by rw [HS.out]; exact HB.out⟩, HW⟩
        case measure => simp [intOf]; have := HLT.out; clear hi1'; omega
    · obtain rfl : i = l.length := by omega
      have hge : ¬ (l.length : Int) < (l.length : Int) := by omega
      have HRD : Aside0 (ReadsInt wr .u8 (some ⟨g, 0, none⟩) l.length (low l.length l)) := ⟨by have q := HB.out.reads (by rw [low_len]; have := HN.out; omega); rw [low_len] at q; exact q⟩
      clear hi hlt
      go_wp2_with ((with_reducible refine at_dst (N := 34) rfl ?_); refine wpList_run rfl _ (conv_op3 28 9 (.tmp 33) rfl rfl (string_of_reads Tryd.underlying28 Tryd.underlying5 Tryd.underlying9 HRD.out)) ?_)
      go_ret
      exact ⟨rfl, HW.out⟩
end Go.Proofs.YtpogfbompljkkaaDoor.Snk
-- Made by a turned print (own tool turnprint.py over the kit print).
namespace Go.Proofs.YtpogfbompljkkaaDoor.QFnReadHashText
open Go.RowKit Go.Proofs.YtpogfbompljkkaaDoorW.PrintWords Go.Proofs.YtpogfbompljkkaaDoorW.PrintLast Go.Proofs.YtpogfbompljkkaaDoorW.PrintMore
attribute [local go_sem] nn_mod256 nn_mod65536 nn_mod32 max2_int min2_int max_two min_two max_three min_three max_four min_four   -- for this text's walks alone
set_option linter.unusedVariables false
set_option linter.unusedSimpArgs false



def errW : Option Int → Value
  | none => .nilIface
  | some c => .iface (c.toNat + 0 * 0) (.agg #[])
theorem errW_none : errW none = .nilIface := rfl
theorem errW_some (c : Int) : errW (some c) = .iface (c.toNat + 0 * 0) (.agg #[]) := rfl

-- the values' own types

end Go.Proofs.YtpogfbompljkkaaDoor.QFnReadHashText
-- Made by a turned print (own tool turnprint.py over the kit print).
namespace Go.Proofs.YtpogfbompljkkaaDoor.QFnReadHashText
open Go.RowKit Go.Proofs.YtpogfbompljkkaaDoorW.PrintWords Go.Proofs.YtpogfbompljkkaaDoorW.PrintLast Go.Proofs.YtpogfbompljkkaaDoorW.PrintMore
attribute [local go_sem] nn_mod256 nn_mod65536 nn_mod32 max2_int min2_int max_two min_two max_three min_three max_four min_four   -- for this text's walks alone
set_option linter.unusedVariables false
set_option linter.unusedSimpArgs false

-- NOT PRINTED: function 11 (spec_lower)

/-! ### spec_place: function 12 -/
def spec_place.l0 : Nat → ByteArray → Int → Int → Option (Int)
  | 0, _, _, _ => none
  | k + 1, x0, x1, x5 => if x5 < (x0.size : Int) then (if 0 ≤ x5 then (if (bt x0 x5) = x1 then (some x5) else (spec_place.l0 k x0 x1 (wrap64 (x5 + 1)))) else (none)) else (some (-1))
def spec_place.f (k : Nat) (a0 : ByteArray) (a1 : Int) : Option (Int) := spec_place.l0 k a0 a1 0
theorem spec_place.mono_l : ∀ k, (∀ y0 y1 y2, LeO (spec_place.l0 k y0 y1 y2) (spec_place.l0 (k + 1) y0 y1 y2))
  | 0 => fun _ _ _ r h => by simp [spec_place.l0] at h
  | k + 1 => by
    have ih0 := spec_place.mono_l k
    · intro y0 y1 y2
      unfold spec_place.l0
      repeat' first
      | (with_reducible exact ih0 _ _ _)
      | (with_reducible exact LeO.refl _)
      | (with_reducible exact LeO.none _)
      | (with_reducible refine LeO.ite ?_ ?_)
      | (with_reducible refine LeO.bind ?_ (fun _ => ?_))
      | exact ih0 _ _ _
      | exact LeO.none _
      | refine LeO.ite ?_ ?_
      | refine LeO.bind ?_ (fun _ => ?_)
theorem spec_place.mono : ∀ a0 a1 k, LeO (spec_place.f k a0 a1) (spec_place.f (k + 1) a0 a1) := by
  intro a0 a1 k
  have ih0 := spec_place.mono_l k
  unfold spec_place.f
  repeat' first
      | (with_reducible exact ih0 _ _ _)
      | (with_reducible exact LeO.refl _)
      | (with_reducible exact LeO.none _)
      | (with_reducible refine LeO.ite ?_ ?_)
      | (with_reducible refine LeO.bind ?_ (fun _ => ?_))
      | exact ih0 _ _ _
      | exact LeO.none _
      | refine LeO.ite ?_ ?_
      | refine LeO.bind ?_ (fun _ => ?_)
set_option maxHeartbeats 8000000 in
set_option maxRecDepth 100000 in
theorem spec_place.calls (k : Nat) (a0 : ByteArray) (a1 : Int) (r : Int) (w : World) (h : spec_place.f k a0 a1 = some r) :
    Calls Tryd.prog 12 #[.string a0, .int .u8 a1] w fun e w' => e = .returned (.int .i64 r) ∧ Drawn0 w w' := by
  have H : (spec_place.l0 k a0 a1 0) = some r := h
  clear h
  have H' := Aside0.mk H
  clear H
  go_enter Tryd.func12, Tryd.ntmps12
  go_wp2
  go_loopg [5] k (fun kq v5 w' => ∃ (x5_1 : Int), v5 = .int .i64 x5_1 ∧ Aside0 (spec_place.l0 kq a0 a1 x5_1 = some r) ∧ Aside0 (kq ≤ k) ∧ Drawn0 w w')
  case atStart => exact ⟨(0), (by first | rfl | (simp; done) | (simp [*]; done)), H', ⟨Nat.le_refl _⟩, by repeat (first | exact Drawn0.refl _ | apply Drawn0.step)⟩
  case round =>
    clear H'
    try clear c1
    try clear p2
    obtain ⟨x5_1, rfl, HA, HK1, ⟨m1, rfl⟩⟩ := hrel
    cases gk with
    | zero => exact absurd HA.out (by simp [spec_place.l0])
    | succ k1 =>
      have H := HA.out
      clear HA
      simp only [spec_place.l0] at H
      by_cases c3 : x5_1 < (a0.size : Int)
      · rw [if_pos c3] at H
        have c3b0 : decide (x5_1 < (a0.size : Int)) = true := decide_eq_true c3
        clear c3
        by_cases c4 : 0 ≤ x5_1
        · rw [if_pos c4] at H
          have c4b0 : decide (0 ≤ x5_1) = true := decide_eq_true c4
          clear c4
          by_cases c6 : (bt a0 x5_1) = a1
          · rw [if_pos c6] at H
            have c6b0 : ((bt a0 x5_1) == a1) = true := beq_iff_eq.mpr c6
            have c6b1 : ((bt a0 x5_1) != a1) = false := bne_eq_false_iff_eq.mpr c6
            clear c6
            obtain rfl := Option.some.inj H
            have p5 : 0 ≤ (x5_1 : Int) := of_decide_eq_true (by first | (with_reducible assumption) | assumption)
            have q5 : x5_1 < (a0.size : Int) := of_decide_eq_true (by first | (with_reducible assumption) | assumption)
            have hx5 := bt_at a0 x5_1
            replace p5 := eq_true p5
            replace q5 := eq_true q5
            go_wp2
            go_ret
            exact ⟨by first | rfl | (simp; done) | (simp [*]; done), by repeat (first | exact Drawn0.refl _ | apply Drawn0.step)⟩
          · rw [if_neg c6] at H
            have c6b0 : ((bt a0 x5_1) == a1) = false := beq_eq_false_iff_ne.mpr c6
            have c6b1 : ((bt a0 x5_1) != a1) = true := bne_iff_ne.mpr c6
            have H' := Aside0.mk H
            clear H
            have p5 : 0 ≤ (x5_1 : Int) := of_decide_eq_true (by first | (with_reducible assumption) | assumption)
            have q5 : x5_1 < (a0.size : Int) := of_decide_eq_true (by first | (with_reducible assumption) | assumption)
            have hx5 := bt_at a0 x5_1
            replace p5 := eq_true p5
            replace q5 := eq_true q5
            go_wp2
            go_roundg k1
            case measure => have := HK1.out; omega
            case rel => exact ⟨(wrap64 (x5_1 + 1)), (by first | rfl | (simp; done) | (simp [*]; done)), (by first | exact H' | (subst_vars; exact H')), ⟨by have := HK1.out; omega⟩, by repeat (first | exact Drawn0.refl _ | apply Drawn0.step)⟩
        · rw [if_neg c4] at H
          exact absurd H (by simp)
      · rw [if_neg c3] at H
        have c3b0 : decide (x5_1 < (a0.size : Int)) = false := decide_eq_false c3
        clear c3
        obtain rfl := Option.some.inj H
        go_wp2
        go_ret
        exact ⟨by first | rfl | (simp; done) | (simp [*]; done), by repeat (first | exact Drawn0.refl _ | apply Drawn0.step)⟩

-- NOT PRINTED: function 5 (spec_ReadHashText)

-- NOT PRINTED: function 34 (hex_Decode)

/-! ### hex_DecodedLen: function 35 -/
def hex_DecodedLen.f (a0 : Int) : Option (Int) := some (wrap64 (Int.tdiv a0 2))
set_option maxHeartbeats 8000000 in
set_option maxRecDepth 100000 in
theorem hex_DecodedLen.calls (a0 : Int) (r : Int) (w : World) (h : hex_DecodedLen.f a0 = some r) :
    Calls Tryd.prog 35 #[.int .i64 a0] w fun e w' => e = .returned (.int .i64 r) ∧ Drawn0 w w' := by
  have H : (some (wrap64 (Int.tdiv a0 2))) = some r := h
  clear h
  obtain rfl := Option.some.inj H
  go_enter Tryd.func35, Tryd.ntmps35
  go_wp2
  go_ret
  exact ⟨by first | rfl | (simp; done) | (simp [*]; done), by repeat (first | exact Drawn0.refl _ | apply Drawn0.step)⟩

-- NOT PRINTED: function 29 (btcdchainhash_decodeHash)

-- NOT PRINTED: function 22 (btcdchainhash_Decode)

-- NOT PRINTED: function 13 (btcdchainhash_NewHashFromStr)

-- NOT PRINTED: function 6 (impl_ReadHashText)

-- NOT PRINTED: function 3 (laws_FnReadHashText)

end Go.Proofs.YtpogfbompljkkaaDoor.QFnReadHashText
-- Made by a turned print (own tool turnprint.py over the kit print).
namespace Go.Proofs.YtpogfbompljkkaaDoor.QFnReadHashText
open Go.RowKit Go.Proofs.YtpogfbompljkkaaDoorW.PrintWords Go.Proofs.YtpogfbompljkkaaDoorW.PrintLast Go.Proofs.YtpogfbompljkkaaDoorW.PrintMore
attribute [local go_sem] nn_mod256 nn_mod65536 nn_mod32 max2_int min2_int max_two min_two max_three min_three max_four min_four   -- for this text's walks alone
set_option linter.unusedVariables false
set_option linter.unusedSimpArgs false

end Go.Proofs.YtpogfbompljkkaaDoor.QFnReadHashText
