/- Words of my own: a call that turns one block only; facts that stay. -/
import Derived.Test.YtigpdgfhngknhaaDoorWWords
import Derived.Test.YtigpdgfhngknhaaDoorWMore
import Derived.Test.YtigpdgfhngknhaaDoorWLast
import Derived.Test.YtigpdgfhngknhaaDoorWShare
import Derived.WalkKit
import Derived.WalkSpells
import Derived.WalkLawsBesides
import Derived.KernelRfl
import Derived.Test.YtigpdgfhngknhaaDoorProg
import Derived.Below
import Derived.Deep.Draws
import Derived.Deep.AppendLies
import Derived.Maps.AppendAt
import Derived.OwnWalk
import Derived.Laws.BytesArg
import Derived.Laws.MakeOwn
import Derived.Laws.OwnMore
import Derived.Deep.OwnRows
import Derived.Tactics
import Derived.Lib.ConvBytes
import Derived.Laws.Slices
import Derived.RowKit3
import Derived.Deep.LoopGhost
import Derived.Deep.QuietTactic
import Derived.BigQuiet
import Derived.WideLaws
import Derived.Deep.DeepCutAuto
import Derived.Deep.CutBlock
import Derived.Deep.RegionHeld3
import Derived.Laws.Rows
import Derived.Lib.AppendStr
import Derived.ArgAppend
import Derived.Laws.IdiomCopy
import Derived.OrdersHeld
import Derived.Laws.BitsLemmas
import Derived.RowKit
import Derived.Test.YtigpdgfhngknhaaDoorWTab
import Derived.Test.YtigpdgfhngknhaaDoorWFour
import Derived.Test.YtigpdgfhngknhaaDoorWQPut
import Derived.Test.YtigpdgfhngknhaaDoorWApart
import Derived.Test.YtigpdgfhngknhaaDoorWArr
import Derived.Test.YtigpdgfhngknhaaDoorWZeros
import Derived.Test.YtigpdgfhngknhaaDoorWFoot
import Derived.Test.YtigpdgfhngknhaaDoorWKept
import Derived.Test.YtigpdgfhngknhaaDoorWN
import Derived.Test.YtigpdgfhngknhaaDoorWFootNe
import Derived.Test.YtigpdgfhngknhaaDoorWAt
import Derived.Test.YtigpdgfhngknhaaDoorWEqStruct
import Derived.Test.YtigpdgfhngknhaaDoorWRepsOne
import Derived.Test.YtigpdgfhngknhaaDoorWInv
import Derived.Test.YtigpdgfhngknhaaDoorWInvWords
import Derived.Test.YtigpdgfhngknhaaDoorWGuard
import Derived.Test.YtigpdgfhngknhaaDoorWNEv
namespace Go.Proofs.YtigpdgfhngknhaaDoorW.PrintWords
open Go.RowKit
set_option linter.unusedVariables false
section
variable {P : Program} {ops : Array Oper} {rest : List Oper} {o : Oper} {a : Act} {w w' : World} {Q : Exit → Act → World → Prop}
/-- An operation that yields a value. -/
theorem wpList_run (hg : o.guard = none) (v : Value) (hr : (execOp a.eval o).run P w = .ok (.value v) w') (h : wpList P ops Q rest (a.put o.dst v) w') : wpList P ops Q (o :: rest) a w :=
  wpList_plain hg fun K hK => by
    show Oper.upon P o a K Q _
    rw [hr]
    exact hK _ _ h
/-- A store. -/
theorem wpList_skip_ (hg : o.guard = none) (hd : o.dst = none) (hr : (execOp a.eval o).run P w = .ok .skip w') (h : wpList P ops Q rest a w') : wpList P ops Q (o :: rest) a w :=
  wpList_plain hg fun K hK => by
    show Oper.upon P o a K Q _
    rw [hr]
    show K (a.put o.dst undef) w'
    rw [hd]
    exact hK _ _ h
theorem at_dst {N : Nat} (_h : o.dst = some N) (h : wpList P ops Q (o :: rest) a w) : wpList P ops Q (o :: rest) a w := h
theorem at_pos {s : String} (_h : o.pos = s) (h : wpList P ops Q (o :: rest) a w) : wpList P ops Q (o :: rest) a w := h
end
/-- Of the blocks that were, at most g has turned. -/
structure Only (g : Nat) (w w' : World) : Prop where
  os : w'.os = w.os
  tape : w'.tape = w.tape
  output : w'.output = w.output
  size : w.heap.size ≤ w'.heap.size
  block : ∀ k, k < w.heap.size → k ≠ g → w'.heap[k]? = w.heap[k]?
namespace Only
variable {g : Nat} {w w1 w2 : World}
theorem refl (g : Nat) (w : World) : Only g w w := ⟨rfl, rfl, rfl, Nat.le_refl _, fun _ _ _ => rfl⟩
theorem trans (h : Only g w w1) (k : Only g w1 w2) : Only g w w2 :=
  ⟨k.os.trans h.os, k.tape.trans h.tape, k.output.trans h.output, Nat.le_trans h.size k.size, fun i hi hg => (k.block i (Nat.lt_of_lt_of_le hi h.size) hg).trans (h.block i hi hg)⟩
theorem of_below (h : Below w.heap.size w w1) : Only g w w1 := ⟨h.os, h.tape, h.output, h.size, fun k hk _ => h.block k hk⟩
theorem set (h : Only g w w1) (j : Nat) (u : Value) : Only g w (w1.setCell ⟨g, j, none⟩ u) :=
  ⟨h.os, h.tape, h.output, by simpa [World.setCell] using h.size, fun k hk hg => (Below.heap_setCell w1 ⟨g, j, none⟩ u k hg).trans (h.block k hk hg)⟩
/-- A store into a block that was made meanwhile. -/
theorem setNew (h : Only g w w1) {p : Addr} (hp : w.heap.size ≤ p.block) (u : Value) : Only g w (w1.setCell p u) :=
  ⟨h.os, h.tape, h.output, by simpa [World.setCell] using h.size, fun k hk hg => (Below.heap_setCell w1 p u k (by omega)).trans (h.block k hk hg)⟩
theorem alloc (h : Only g w w1) (o : Obj) : Only g w (w1.alloc o) :=
  ⟨h.os, h.tape, h.output, by have := h.size; simp; omega, fun k hk hg => (Below.heap_alloc w1 o k (Nat.lt_of_lt_of_le hk h.size)).trans (h.block k hk hg)⟩
theorem drew (h : Only g w w1) : Only g w w1.drew := ⟨h.os, h.tape, h.output, h.size, h.block⟩
theorem drewN (h : Only g w w1) (n : Nat) : Only g w (w1.drewN n) := ⟨h.os, h.tape, h.output, h.size, h.block⟩
theorem step (h : Only g w w1) (k : Below w1.heap.size w1 w2) : Only g w w2 := h.trans (of_below k)
theorem below {B : Nat} {w0 : World} (h : Only g w w1) (hb : Below B w0 w) (hg : B ≤ g) (hs : B ≤ w.heap.size) : Below B w0 w1 :=
  hb.trans ⟨h.os, h.tape, h.output, h.size, fun k hk => h.block k (by omega) (by omega)⟩
theorem keep (h : Only g w w1) : KeepBut w w1 g none := ⟨h.size, fun i hi hg _ => h.block i hi hg⟩
theorem cell (h : Only g w w1) {p : Addr} (hp : p.block ≠ g) {v : Value} (hv : w.cell? p = some v) : w1.cell? p = some v :=
  (World.cell?_of_block (w := w) (h.block p.block (World.block_lt_of_cell? w _ hv) hp)).trans hv
end Only
theorem blk_lt0_ {w : World} {g : Nat} {x : Obj} (h : w.heap[g]? = some x) : g < w.heap.size := by
  rcases Nat.lt_or_ge g w.heap.size with h1 | h1
  · exact h1
  · rw [Array.getElem?_eq_none h1] at h; cases h
namespace Kd
variable {α : Type} {d : Kd α} {e base : Nat} {ok : Nat → Prop} {w w1 : World} {v : Value} {xs : List α} {g : Nat}
theorem V_only (h : V d e w base ok v xs) (ho : Only g w w1) (hok : ∀ k, ok k → k ≠ g) : V d e w1 base ok v xs := V_step h (fun k hk hlt => ho.block k hlt (hok k hk))
theorem V_any {e' base' : Nat} (h : V d e w base ok v xs) : V d e' w base' ok v xs := h
theorem V_reads (h : V d e w base ok v xs) : ∃ A c, v = .slice A xs.length c ∧ xs.length ≤ c ∧ d.C w A xs.length xs := by
  obtain ⟨A, c, rfl, hl, hf⟩ := h
  exact ⟨A, c, rfl, hl, F_now hf⟩
/-- A row that has a block begins at its head. -/
theorem R_first_ {b : Nat} (h : d.R e w base ok v xs) (hb : v.ownBlock = some b) : ∃ cap, v = .slice (some ⟨b, 0, none⟩) xs.length cap ∧ xs.length ≤ cap ∧ base ≤ b ∧ b < w.heap.size ∧ ∃ cells, w.heap[b]? = some (.cells cells e (0, 0)) := by
  obtain ⟨h0, inner, ho, hr⟩ := h
  have ht := own_typed ho b hb
  rcases ho.2 with ⟨rfl, _⟩ | ⟨g, cap, cur, rfl, hg, hh, hl, r⟩
  · simp [Value.ownBlock] at hb
  · have : g = b := by simpa [Value.ownBlock] using hb
    subst this
    exact ⟨cap, rfl, hl, hg, blk_lt0_ hh, cur, hh⟩
end Kd
theorem heap_set_same {w : World} {g j : Nat} {cs : Array Value} {t : TypeId} {fr : Nat × Nat} (h : w.heap[g]? = some (.cells cs t fr)) (u : Value) :
    (w.setCell ⟨g, j, none⟩ u).heap[g]? = some (.cells (cs.setIfInBounds j u) t fr) := by
  simp [World.setCell, Array.getElem?_modify, h]
theorem heap_alloc_lt {w : World} {g : Nat} {x : Obj} (h : w.heap[g]? = some x) (o : Obj) : (w.alloc o).heap[g]? = some x := by
  have hlt : g < w.heap.size := by
    rcases Nat.lt_or_ge g w.heap.size with h1 | h1
    · exact h1
    · rw [Array.getElem?_eq_none h1] at h; cases h
  rw [Below.heap_alloc w o g hlt]; exact h
theorem blk_lt' {w : World} {g : Nat} {x : Obj} (h : w.heap[g]? = some x) : g < w.heap.size := by
  rcases Nat.lt_or_ge g w.heap.size with h1 | h1
  · exact h1
  · rw [Array.getElem?_eq_none h1] at h; cases h
theorem cell_of {w : World} {g j : Nat} {cs : Array Value} {t : TypeId} {fr : Nat × Nat} {v : Value} (h : w.heap[g]? = some (.cells cs t fr)) (hv : cs[j]? = some v) : w.cell? ⟨g, j, none⟩ = some v := by
  simp [World.cell?, h, hv]
theorem frozen_of {w : World} {g : Nat} {cs : Array Value} {t : TypeId} (h : w.heap[g]? = some (.cells cs t (0, 0))) (j : Nat) : w.frozen? ⟨g, j, none⟩ = false := by
  simp [World.frozen?, h]
end Go.Proofs.YtigpdgfhngknhaaDoorW.PrintWords
/- A call through an interface, as an arm; in a drawn region. -/
namespace Go.Proofs.YtigpdgfhngknhaaDoorW.PrintLast
open Go.RowKit Go.Proofs.YtigpdgfhngknhaaDoorW.PrintWords
set_option linter.unusedVariables false
section
variable {P : Program} {md : Region.Mode} {ops : Array Oper} {S : World → Prop} {ds : List Nat} {Q : Exit → Act → World → Prop}
/-- What a type's method is called with: whatever the fuel. -/
def Meth (P : Program) (t : TypeId) (v : Value) (name : String) (f : FuncId) (v' : Value) : Prop := ∀ n w, (method (n + 1) t v name).run P w = .ok (f, v') w
theorem inv_enters {oi : Oper} {ρ : Operand → Value} {w : World} (recv : Operand) (name : String) (ops1 : Array Operand) (ts : Array TypeId) (hop : oi.op = .call { callee := .invoke recv name, args := ops1, argTypes := ts }) (t : TypeId) (v : Value) (hr : ρ recv = .iface t v) (f : FuncId) (v' : Value) (hm : Meth P t v name f v')
    {fn : Func} (hf : P.funcs[f]? = some fn) (hname : (fn.name == "runtime.NumGoroutine") = false) (hb : fn.body.isSome = true) (all : Array Value) (hall : #[v'] ++ ops1.map ρ = all) : (execOp ρ oi).run P w = .ok (.enter f all) w := by
  subst hall
  obtain ⟨args, hargs⟩ : ∃ args, ops1.map ρ = args := ⟨_, rfl⟩
  rw [hargs]
  have he := enters_ hf hname hb (#[v'] ++ args) w
  have h0 : 0 < P.types.size + Made.depth := Nat.lt_of_lt_of_le (show 0 < Made.depth by decide) (Nat.le_add_left _ _)
  obtain ⟨n, hn⟩ : ∃ n, P.types.size + Made.depth = n + 1 := ⟨P.types.size + Made.depth - 1, by omega⟩
  have h1 := hm n w
  rw [← hn] at h1
  unfold execOp
  have e0 : (#[Value.iface t v] ++ args)[0]? = some (.iface t v) := by rw [Array.getElem?_append_left (by simp)]; simp
  have e1 : (#[v'] ++ args : Array Value) = #[v'] ++ args := rfl
  simp [hop, resolve, invoke, callMethod, hargs, hr]
  rw [e0]
  simp [h1, he, Result.andThen]
theorem invL_ {rest : List Oper} {oi : Oper} {a : Act} {w : World} (N : Option Tmp) (hd : oi.dst = N) (hg : oi.guard = none) (recv : Operand) (name : String) {ops1 : Array Operand} {ts : Array TypeId} (hop : oi.op = .call { callee := .invoke recv name, args := ops1, argTypes := ts }) (t : TypeId) (v : Value) (hr : a.eval recv = .iface t v) (f : FuncId) {v' : Value} (hm : Meth P t v name f v')
    {fn : Func} (hf : P.funcs[f]? = some fn) (hname : (fn.name == "runtime.NumGoroutine") = false) (hb : fn.body.isSome = true) (all : Array Value) (hall : #[v'] ++ ops1.map a.eval = all)
    (h : Calls P f all w fun e w' => ∃ v, e = .returned v ∧ wpList P ops Q rest (a.put N v) w') : wpList P ops Q (oi :: rest) a w := by
  refine wpList_plain hg fun K hK => ?_
  unfold Oper.wp
  rw [inv_enters recv name ops1 ts hop t v hr f v' hm hf hname hb all hall, Oper.upon_enter]
  refine h.mono fun e w'' hh => ?_
  obtain ⟨v, rfl, hk⟩ := hh
  subst hd
  exact hK _ _ hk
theorem goesI_ {oi : Oper} {N : Option Tmp} {a : Act} {w : World} {K : Act → World → Prop} (hw : Region.wanted oi (yielded ops a.tmps) = true) (hN : oi.dst = N) (recv : Operand) (name : String) {ops1 : Array Operand} {ts : Array TypeId} (hop : oi.op = .call { callee := .invoke recv name, args := ops1, argTypes := ts }) (t : TypeId) (v : Value) (hr : a.eval recv = .iface t v) (f : FuncId) {v' : Value} (hm : Meth P t v name f v')
    {fn : Func} (hf : P.funcs[f]? = some fn) (hname : (fn.name == "runtime.NumGoroutine") = false) (hb : fn.body.isSome = true) (all : Array Value) (hall : #[v'] ++ ops1.map a.eval = all)
    (h : Calls P f all w fun e w' => ∃ v, e = .returned v ∧ K (a.put N v) w') : if Region.wanted oi (yielded ops a.tmps) = true then Oper.wp P oi a w K Q else K (a.put N undef) w :=
  call_ f all hw hN (inv_enters recv name ops1 ts hop t v hr f v' hm hf hname hb all hall) h
/-! ### A call of a function value -/
theorem val_enters {oi : Oper} {ρ : Operand → Value} {w : World} (recv : Operand) (ops1 : Array Operand) (ts : Array TypeId) (hop : oi.op = .call { callee := .value recv, args := ops1, argTypes := ts }) (f : FuncId) (first cap : Array Value) (hr : ρ recv = .func (.func f) first cap)
    {fn : Func} (hf : P.funcs[f]? = some fn) (hname : (fn.name == "runtime.NumGoroutine") = false) (hb : fn.body.isSome = true) (all : Array Value) (hall : (first ++ ops1.map ρ) ++ cap = all) : (execOp ρ oi).run P w = .ok (.enter f all) w := by
  subst hall
  obtain ⟨args, hargs⟩ : ∃ args, ops1.map ρ = args := ⟨_, rfl⟩
  rw [hargs]
  have he := enters_ hf hname hb ((first ++ args) ++ cap) w
  unfold execOp
  simp [hop, resolve, Deferred.ofValue, invoke, hargs, hr]
  simpa using he
theorem valL_ {rest : List Oper} {oi : Oper} {a : Act} {w : World} (N : Option Tmp) (hd : oi.dst = N) (hg : oi.guard = none) (recv : Operand) {ops1 : Array Operand} {ts : Array TypeId} (hop : oi.op = .call { callee := .value recv, args := ops1, argTypes := ts }) (f : FuncId) (first cap : Array Value) (hr : a.eval recv = .func (.func f) first cap)
    {fn : Func} (hf : P.funcs[f]? = some fn) (hname : (fn.name == "runtime.NumGoroutine") = false) (hb : fn.body.isSome = true) (all : Array Value) (hall : (first ++ ops1.map a.eval) ++ cap = all)
    (h : Calls P f all w fun e w' => ∃ v, e = .returned v ∧ wpList P ops Q rest (a.put N v) w') : wpList P ops Q (oi :: rest) a w := by
  refine wpList_plain hg fun K hK => ?_
  unfold Oper.wp
  rw [val_enters recv ops1 ts hop f first cap hr hf hname hb all hall, Oper.upon_enter]
  refine h.mono fun e w'' hh => ?_
  obtain ⟨v, rfl, hk⟩ := hh
  subst hd
  exact hK _ _ hk
theorem goesV_ {oi : Oper} {N : Option Tmp} {a : Act} {w : World} {K : Act → World → Prop} (hw : Region.wanted oi (yielded ops a.tmps) = true) (hN : oi.dst = N) (recv : Operand) {ops1 : Array Operand} {ts : Array TypeId} (hop : oi.op = .call { callee := .value recv, args := ops1, argTypes := ts }) (f : FuncId) (first cap : Array Value) (hr : a.eval recv = .func (.func f) first cap)
    {fn : Func} (hf : P.funcs[f]? = some fn) (hname : (fn.name == "runtime.NumGoroutine") = false) (hb : fn.body.isSome = true) (all : Array Value) (hall : (first ++ ops1.map a.eval) ++ cap = all)
    (h : Calls P f all w fun e w' => ∃ v, e = .returned v ∧ K (a.put N v) w') : if Region.wanted oi (yielded ops a.tmps) = true then Oper.wp P oi a w K Q else K (a.put N undef) w :=
  call_ f all hw hN (val_enters recv ops1 ts hop f first cap hr hf hname hb all hall) h
end
end Go.Proofs.YtigpdgfhngknhaaDoorW.PrintLast
/- Rows of bytes as cells. -/
namespace Go.Proofs.YtigpdgfhngknhaaDoor.Snk
open Go.RowKit Go.Proofs.YtigpdgfhngknhaaDoorW.PrintWords
def byteC (l : List Int) : List Value := l.map (Value.int .u8)
theorem byteC_len (l : List Int) : (byteC l).length = l.length := List.length_map _
theorem byteC_at {l : List Int} {j : Nat} (h : j < l.length) : (byteC l)[j]? = some (.int .u8 (l.getD j 0)) := by
  unfold byteC
  rw [List.getElem?_map, List.getD_eq_getElem?_getD, List.getElem?_eq_getElem h]; rfl
theorem byteC_set (l : List Int) (j : Nat) (v : Int) : (byteC l).set j (.int .u8 v) = byteC (l.set j v) := by unfold byteC; rw [List.map_set]
theorem row_set {l : List Int} {t : TypeId} {W : World} {g : Nat} (h : W.heap[g]? = some (.cells (byteC l).toArray t (0, 0))) (j : Nat) (v : Int) : (W.setCell ⟨g, j, none⟩ (.int .u8 v)).heap[g]? = some (.cells (byteC (l.set j v)).toArray t (0, 0)) := by
  rw [heap_set_same h (j := j) (.int .u8 v), List.setIfInBounds_toArray, byteC_set]
theorem row_cell {l : List Int} {t : TypeId} {W : World} {g : Nat} (h : W.heap[g]? = some (.cells (byteC l).toArray t (0, 0))) (j : Nat) (hj : j < l.length) : W.cell? ⟨g, j, none⟩ = some (.int .u8 (l.getD j 0)) :=
  cell_of h (by rw [List.getElem?_toArray]; exact byteC_at hj)
end Go.Proofs.YtigpdgfhngknhaaDoor.Snk
/- Words beside the print's: an empty row made with a capacity of its own. -/
namespace Go.Proofs.YtigpdgfhngknhaaDoorW.PrintWords
open Go.RowKit
theorem nn_mod256 (x : Int) : ((0 : Int) ≤ x % 256) = True := eq_true (Int.emod_nonneg _ (by decide))
theorem nn_mod65536 (x : Int) : ((0 : Int) ≤ x % 65536) = True := eq_true (Int.emod_nonneg _ (by decide))
theorem nn_mod32 (x : Int) : ((0 : Int) ≤ x % 4294967296) = True := eq_true (Int.emod_nonneg _ (by decide))
namespace Kd
section
variable {P : Program} {ops : Array Oper} {rest : List Oper} {o : Oper} {a : Act} {Q : Exit → Act → World → Prop} {α : Type}
theorem R_makecap (d : Kd α) {w0 W : World} (base e : Nat) (hgd : o.guard = none) {N : Tmp} (_hd : o.dst = some N) (t : TypeId) (x y : Operand) (ho : o.op = .makeSlice t x y) (n : Int) (hx : a.eval x = .int .i64 0) (hy : a.eval y = .int .i64 n)
    (ht : P.underlying t = some (.slice e)) (z : Value) (bytes : Nat) (hinfo : (P.info? e).map (fun i => (i.zero, i.size, i.bytes)) = some (some z, d.sz, bytes)) (_hz : z.cells.size = d.sz) (_hs0 : 0 < d.sz) (hb0 : 0 < bytes)
    (z0 : α) {ok okp : Nat → Prop} (_hzero : d.M W base okp z0 z.cells.toList) (_hok : ∀ k, okp k → ok k) (hfresh : ok W.heap.size) (h0 : 0 ≤ n) (hl : n.toNat * bytes ≤ 281474976710656) (HB : Below base w0 W) (hbase : base ≤ W.heap.size)
    (h : ∀ v1 w1, d.R e w1 base ok v1 (List.replicate 0 z0) → Below base w0 w1 → W.grownBy w1 none → (∃ b, v1.ownBlock = some b ∧ W.heap.size ≤ b) → wpList P ops Q rest (a.put o.dst v1) w1) : wpList P ops Q (o :: rest) a W := by
  obtain ⟨m, rfl⟩ := Int.eq_ofNat_of_zero_le h0
  simp only [Int.toNat_natCast] at hl
  obtain ⟨i0, hi, hzz⟩ := Option.map_eq_some_iff.1 hinfo
  simp only [Prod.mk.injEq] at hzz
  obtain ⟨hz0, hz1, hz2⟩ := hzz
  have hm : m ≤ 281474976710656 := Nat.le_trans (Nat.le_mul_of_pos_right _ hb0) hl
  refine wpList_make_own W hgd x y t ho base e i0 z d.sz ht hi hz0 hz1 .i64 .i64 (m : Int) m hx hy rfl (by rw [hz2, Nat.mul_comm]; exact hl) (by unfold maxLen; omega) hbase (fun w1 hown hg => ?_)
  exact h _ w1 ⟨fun k hk => by simp [Value.ownBlock] at hk; subst hk; exact hfresh, [], hown, Reps.none _ _⟩ (HB.grown hg hbase (fun k hk => by cases hk)) hg ⟨W.heap.size, rfl, Nat.le_refl _⟩
end
end Kd
end Go.Proofs.YtigpdgfhngknhaaDoorW.PrintWords
-- Made by a turned print (own tool turnprint.py over the kit print).
namespace Go.Proofs.YtigpdgfhngknhaaDoor.QFnTapRoot
open Go.RowKit Go.Proofs.YtigpdgfhngknhaaDoorW.PrintWords Go.Proofs.YtigpdgfhngknhaaDoorW.PrintLast Go.Proofs.YtigpdgfhngknhaaDoorW.PrintMore
attribute [local go_sem] nn_mod256 nn_mod65536 nn_mod32 max2_int min2_int max_two min_two max_three min_three max_four min_four   -- for this text's walks alone
set_option linter.unusedVariables false
set_option linter.unusedSimpArgs false



def errW : Option Int → Value
  | none => .nilIface
  | some c => .iface (c.toNat + 0 * 0) (.agg #[])
theorem errW_none : errW none = .nilIface := rfl
theorem errW_some (c : Int) : errW (some c) = .iface (c.toNat + 0 * 0) (.agg #[]) := rfl

theorem info5 : (Tryd.prog.info? 5).map (fun i => (i.zero, i.size, i.bytes)) = some (some (.int .u8 0), 1, 1) := by kernel_rfl
-- the values' own types

end Go.Proofs.YtigpdgfhngknhaaDoor.QFnTapRoot
-- Made by a turned print (own tool turnprint.py over the kit print).
namespace Go.Proofs.YtigpdgfhngknhaaDoor.QFnTapRoot
open Go.RowKit Go.Proofs.YtigpdgfhngknhaaDoorW.PrintWords Go.Proofs.YtigpdgfhngknhaaDoorW.PrintLast Go.Proofs.YtigpdgfhngknhaaDoorW.PrintMore
attribute [local go_sem] nn_mod256 nn_mod65536 nn_mod32 max2_int min2_int max_two min_two max_three min_three max_four min_four   -- for this text's walks alone
set_option linter.unusedVariables false
set_option linter.unusedSimpArgs false

/-! ### laws_same: function 7 -/
def laws_same.l0 : Nat → List Int → List Int → Int → Option (Bool)
  | 0, _, _, _ => none
  | k + 1, x0, x1, x5 => if x5 < (x0.length : Int) then (if 0 ≤ x5 then (if x5 < (x1.length : Int) then (if (rd x0 x5) = (rd x1 x5) then (laws_same.l0 k x0 x1 (wrap64 (x5 + 1))) else (some false)) else (none)) else (none)) else (some true)
def laws_same.f (k : Nat) (l0 : List Int) (l1 : List Int) : Option (Bool) := if (l0.length : Int) = (l1.length : Int) then (laws_same.l0 k l0 l1 0) else (some false)
theorem laws_same.mono_l : ∀ k, (∀ y0 y1 y2, LeO (laws_same.l0 k y0 y1 y2) (laws_same.l0 (k + 1) y0 y1 y2))
  | 0 => fun _ _ _ r h => by simp [laws_same.l0] at h
  | k + 1 => by
    have ih0 := laws_same.mono_l k
    · intro y0 y1 y2
      unfold laws_same.l0
      repeat' first
      | (with_reducible exact ih0 _ _ _)
      | (with_reducible exact LeO.refl _)
      | (with_reducible exact LeO.none _)
      | (with_reducible refine LeO.ite ?_ ?_)
      | (with_reducible refine LeO.bind ?_ (fun _ => ?_))
      | exact ih0 _ _ _
      | exact LeO.none _
      | refine LeO.ite ?_ ?_
      | refine LeO.bind ?_ (fun _ => ?_)
theorem laws_same.mono : ∀ a0 a1 k, LeO (laws_same.f k a0 a1) (laws_same.f (k + 1) a0 a1) := by
  intro a0 a1 k
  have ih0 := laws_same.mono_l k
  unfold laws_same.f
  repeat' first
      | (with_reducible exact ih0 _ _ _)
      | (with_reducible exact LeO.refl _)
      | (with_reducible exact LeO.none _)
      | (with_reducible refine LeO.ite ?_ ?_)
      | (with_reducible refine LeO.bind ?_ (fun _ => ?_))
      | exact ih0 _ _ _
      | exact LeO.none _
      | refine LeO.ite ?_ ?_
      | refine LeO.bind ?_ (fun _ => ?_)
set_option maxHeartbeats 8000000 in
set_option maxRecDepth 100000 in
theorem laws_same.calls (k : Nat) (A0 : Option Addr) (c0 : Nat) (l0 : List Int) (A1 : Option Addr) (c1 : Nat) (l1 : List Int) (r : Bool) (w : World) (hr0 : Kd.C (Kd.int .u8) w A0 l0.length l0) (hc0 : l0.length ≤ c0) (hr1 : Kd.C (Kd.int .u8) w A1 l1.length l1) (hc1 : l1.length ≤ c1) (h : laws_same.f k l0 l1 = some r) :
    Calls Tryd.prog 7 #[.slice A0 l0.length c0, .slice A1 l1.length c1] w fun e w' => e = .returned (.bool r) ∧ Drawn0 w w' := by
  have HR0 := Aside0.mk hr0
  have HC0 := Aside0.mk hc0
  clear hr0 hc0
  have HR1 := Aside0.mk hr1
  have HC1 := Aside0.mk hc1
  clear hr1 hc1
  have H : (if (l0.length : Int) = (l1.length : Int) then (laws_same.l0 k l0 l1 0) else (some false)) = some r := h
  clear h
  by_cases c3 : (l0.length : Int) = (l1.length : Int)
  · rw [if_pos c3] at H
    have c3b0 : ((l0.length : Int) == (l1.length : Int)) = true := beq_iff_eq.mpr c3
    have c3b1 : ((l0.length : Int) != (l1.length : Int)) = false := bne_eq_false_iff_eq.mpr c3
    have c3b2 : (l0.length == l1.length) = true := by first | simpa using c3 | (simp at c3 ⊢; omega)
    clear c3
    have H' := Aside0.mk H
    clear H
    go_enter Tryd.func7, Tryd.ntmps7
    go_wp2
    repeat (go_quiet (fail); try go_wp2)
    go_loopg [5] k (fun kq v5 w' => ∃ (x5_1 : Int), v5 = .int .i64 x5_1 ∧ Aside0 (laws_same.l0 kq l0 l1 x5_1 = some r) ∧ Aside0 (kq ≤ k) ∧ Drawn0 w w')
    case atStart => exact ⟨(0), (by first | rfl | (simp; done) | (simp [*]; done)), H', ⟨Nat.le_refl _⟩, by repeat (first | exact Drawn0.refl _ | apply Drawn0.step)⟩
    case round =>
      clear H'
      try clear c1
      try clear p2
      try clear c3
      try clear c3b0
      try clear c3b1
      try clear c3b2
      obtain ⟨x5_1, rfl, HA, HK1, ⟨m1, rfl⟩⟩ := hrel
      cases gk with
      | zero => exact absurd HA.out (by simp [laws_same.l0])
      | succ k1 =>
        have H := HA.out
        clear HA
        simp only [laws_same.l0] at H
        by_cases c4 : x5_1 < (l0.length : Int)
        · rw [if_pos c4] at H
          have c4b0 : decide (x5_1 < (l0.length : Int)) = true := decide_eq_true c4
          clear c4
          by_cases c5 : 0 ≤ x5_1
          · rw [if_pos c5] at H
            have c5b0 : decide (0 ≤ x5_1) = true := decide_eq_true c5
            clear c5
            by_cases c6 : x5_1 < (l1.length : Int)
            · rw [if_pos c6] at H
              have c6b0 : decide (x5_1 < (l1.length : Int)) = true := decide_eq_true c6
              clear c6
              by_cases c7 : (rd l0 x5_1) = (rd l1 x5_1)
              · rw [if_pos c7] at H
                have c7b0 : ((rd l0 x5_1) == (rd l1 x5_1)) = true := beq_iff_eq.mpr c7
                have c7b1 : ((rd l0 x5_1) != (rd l1 x5_1)) = false := bne_eq_false_iff_eq.mpr c7
                clear c7
                have H' := Aside0.mk H
                clear H
                have p101 : 0 ≤ (x5_1 : Int) := of_decide_eq_true (by first | (with_reducible assumption) | assumption)
                have q101 : x5_1 < (l0.length : Int) := of_decide_eq_true (by first | (with_reducible assumption) | assumption)
                obtain ⟨ad101, e101, hx101_0⟩ := Kd.at_int HR0.out x5_1 p101 q101
                cases e101
                replace p101 := eq_true p101
                replace q101 := eq_true q101
                have p102 : 0 ≤ (x5_1 : Int) := of_decide_eq_true (by first | (with_reducible assumption) | assumption)
                have q102 : x5_1 < (l1.length : Int) := of_decide_eq_true (by first | (with_reducible assumption) | assumption)
                obtain ⟨ad102, e102, hx102_0⟩ := Kd.at_int HR1.out x5_1 p102 q102
                cases e102
                replace p102 := eq_true p102
                replace q102 := eq_true q102
                go_wp2
                repeat (go_quiet (fail); try go_wp2)
                go_roundg k1
                case measure => have := HK1.out; omega
                case rel => exact ⟨(wrap64 (x5_1 + 1)), (by first | rfl | (simp; done) | (simp [*]; done)), (by first | exact H' | (subst_vars; exact H')), ⟨by have := HK1.out; omega⟩, by repeat (first | exact Drawn0.refl _ | apply Drawn0.step)⟩
              · rw [if_neg c7] at H
                have c7b0 : ((rd l0 x5_1) == (rd l1 x5_1)) = false := beq_eq_false_iff_ne.mpr c7
                have c7b1 : ((rd l0 x5_1) != (rd l1 x5_1)) = true := bne_iff_ne.mpr c7
                obtain rfl := Option.some.inj H
                have p101 : 0 ≤ (x5_1 : Int) := of_decide_eq_true (by first | (with_reducible assumption) | assumption)
                have q101 : x5_1 < (l0.length : Int) := of_decide_eq_true (by first | (with_reducible assumption) | assumption)
                obtain ⟨ad101, e101, hx101_0⟩ := Kd.at_int HR0.out x5_1 p101 q101
                cases e101
                replace p101 := eq_true p101
                replace q101 := eq_true q101
                have p102 : 0 ≤ (x5_1 : Int) := of_decide_eq_true (by first | (with_reducible assumption) | assumption)
                have q102 : x5_1 < (l1.length : Int) := of_decide_eq_true (by first | (with_reducible assumption) | assumption)
                obtain ⟨ad102, e102, hx102_0⟩ := Kd.at_int HR1.out x5_1 p102 q102
                cases e102
                replace p102 := eq_true p102
                replace q102 := eq_true q102
                go_wp2
                repeat (go_quiet (fail); try go_wp2)
                go_ret
                exact ⟨by first | rfl | (simp; done) | (simp [*]; done), by repeat (first | exact Drawn0.refl _ | apply Drawn0.step)⟩
            · rw [if_neg c6] at H
              exact absurd H (by simp)
          · rw [if_neg c5] at H
            exact absurd H (by simp)
        · rw [if_neg c4] at H
          have c4b0 : decide (x5_1 < (l0.length : Int)) = false := decide_eq_false c4
          clear c4
          obtain rfl := Option.some.inj H
          go_wp2
          repeat (go_quiet (fail); try go_wp2)
          go_ret
          exact ⟨by first | rfl | (simp; done) | (simp [*]; done), by repeat (first | exact Drawn0.refl _ | apply Drawn0.step)⟩
  · rw [if_neg c3] at H
    have c3b0 : ((l0.length : Int) == (l1.length : Int)) = false := beq_eq_false_iff_ne.mpr c3
    have c3b1 : ((l0.length : Int) != (l1.length : Int)) = true := bne_iff_ne.mpr c3
    have c3b2 : (l0.length == l1.length) = false := by first | simpa using c3 | (simp at c3 ⊢; omega)
    obtain rfl := Option.some.inj H
    go_enter Tryd.func7, Tryd.ntmps7
    go_wp2
    repeat (go_quiet (fail); try go_wp2)
    go_ret
    exact ⟨by first | rfl | (simp; done) | (simp [*]; done), by repeat (first | exact Drawn0.refl _ | apply Drawn0.step)⟩

-- NOT PRINTED: function 37 (spec_Tagged)

/-! ### spec_little: function 21 -/
def spec_little.l0 : Nat → Int → List Int → Int → Int → Option (List Int)
  | 0, _, _, _, _ => none
  | k + 1, x0, x5, x6, x7 => if x7 < x6 then (if x5.length < 140737488355328 then (spec_little.l0 k (IntKind.u64.wrap (Int.tdiv x0 256)) (x5 ++ [(Int.tmod x0 256) % 256]) x6 (wrap64 (x7 + 1))) else (none)) else (some x5)
def spec_little.f (k : Nat) (a0 : Int) (a1 : Int) : Option (List Int) := spec_little.l0 k a0 ([] : List Int) a1 0
theorem spec_little.mono_l : ∀ k, (∀ y0 y1 y2 y3, LeO (spec_little.l0 k y0 y1 y2 y3) (spec_little.l0 (k + 1) y0 y1 y2 y3))
  | 0 => fun _ _ _ _ r h => by simp [spec_little.l0] at h
  | k + 1 => by
    have ih0 := spec_little.mono_l k
    · intro y0 y1 y2 y3
      unfold spec_little.l0
      repeat' first
      | (with_reducible exact ih0 _ _ _ _)
      | (with_reducible exact LeO.refl _)
      | (with_reducible exact LeO.none _)
      | (with_reducible refine LeO.ite ?_ ?_)
      | (with_reducible refine LeO.bind ?_ (fun _ => ?_))
      | exact ih0 _ _ _ _
      | exact LeO.none _
      | refine LeO.ite ?_ ?_
      | refine LeO.bind ?_ (fun _ => ?_)
theorem spec_little.mono : ∀ a0 a1 k, LeO (spec_little.f k a0 a1) (spec_little.f (k + 1) a0 a1) := by
  intro a0 a1 k
  have ih0 := spec_little.mono_l k
  unfold spec_little.f
  repeat' first
      | (with_reducible exact ih0 _ _ _ _)
      | (with_reducible exact LeO.refl _)
      | (with_reducible exact LeO.none _)
      | (with_reducible refine LeO.ite ?_ ?_)
      | (with_reducible refine LeO.bind ?_ (fun _ => ?_))
      | exact ih0 _ _ _ _
      | exact LeO.none _
      | refine LeO.ite ?_ ?_
      | refine LeO.bind ?_ (fun _ => ?_)
set_option maxHeartbeats 8000000 in
set_option maxRecDepth 100000 in
theorem spec_little.calls (k : Nat) (a0 : Int) (a1 : Int) (r : List Int) (w : World) (h : spec_little.f k a0 a1 = some r) :
    Calls Tryd.prog 21 #[.int .u64 a0, .int .i64 a1] w fun e w' => ∃ v0_ : Value, e = .returned (v0_) ∧ Kd.R (Kd.int .u8) 5 w' w.heap.size (fun _ => True) v0_ r ∧ Below w.heap.size w w' := by
  have HB := Aside0.mk (Below.refl w.heap.size w)
  have H : (spec_little.l0 k a0 ([] : List Int) a1 0) = some r := h
  clear h
  have H' := Aside0.mk H
  clear H
  go_enter Tryd.func21, Tryd.ntmps21
  go_wp2
  go_loopg [0, 5, 7] k (fun kq v0 v5 v7 w' => ∃ (x0_1 : Int) (x5_1 : List Int) (x7_1 : Int), v0 = .int .u64 x0_1 ∧ v7 = .int .i64 x7_1 ∧ Aside0 (spec_little.l0 kq x0_1 x5_1 a1 x7_1 = some r) ∧ Aside0 (kq ≤ k) ∧ Aside0 (Kd.R (Kd.int .u8) 5 w' w.heap.size (fun _ => True) v5 x5_1) ∧ Aside0 (Below w.heap.size w w'))
  case atStart => exact ⟨(a0), (([] : List Int)), (0), (by first | rfl | (simp; done) | (simp [*]; done)), (by first | rfl | (simp; done) | (simp [*]; done)), H', ⟨Nat.le_refl _⟩, ⟨by first | exact Kd.R_nil _ _ _ _ _ | exact Kd.N_nil _ _ _ _ _ | exact Kd.V_nil _ _ _ _ _ | exact Kd.Q_nil _ _ _ _ _ | exact Kd.S_nil _ _ _ _ _⟩, ⟨by repeat (first | (with_reducible first | exact HB.out | apply below_alloc | apply pw_below_drewN | apply below_drew1) | exact HB.out)⟩⟩
  case round =>
    clear H'
    try clear c2
    try clear p2
    obtain ⟨x0_1, x5_1, x7_1, rfl, rfl, HA, HK1, HO_5, HB⟩ := hrel
    cases gk with
    | zero => exact absurd HA.out (by simp [spec_little.l0])
    | succ k1 =>
      have H := HA.out
      clear HA
      simp only [spec_little.l0] at H
      by_cases c3 : x7_1 < a1
      · rw [if_pos c3] at H
        have c3b0 : decide (x7_1 < a1) = true := decide_eq_true c3
        clear c3
        by_cases c4 : x5_1.length < 140737488355328
        · rw [if_pos c4] at H
          have LMc4 := Aside0.mk c4
          clear c4
          obtain ⟨y103, hy103⟩ : ∃ y_ : List Int, y_ = (x5_1 ++ [(Int.tmod x0_1 256) % 256]) := ⟨_, rfl⟩
          replace H : (spec_little.l0 k1 (IntKind.u64.wrap (Int.tdiv x0_1 256)) y103 a1 (wrap64 (x7_1 + 1))) = some r := by first | (rw [hy103]; with_reducible exact H) | (have H2_ := (Option.bind_some _ _).symm.trans H; rw [hy103]; with_reducible exact H2_) | (have H2_ := (Option.bind_some _ _).symm.trans H; with_reducible exact H2_) | with_reducible exact H | (rw [hy103]; exact H) | exact H
          have Ny103 := Aside0.mk hy103
          clear hy103
          have H' := Aside0.mk H
          clear H
          go_wp2_with (first | ((with_reducible refine gate_builtin (b := .append) (xs := #[.tmp 9, .tmp 13]) rfl ?_); at_builtin; refine Kd.R_append (Kd.int .u8) (w0 := w) w.heap.size rfl (.tmp 9) (.tmp 13) 26 5 (.int .u8 0) 1 rfl Tryd.underlying26 info5 rfl (by decide) (by omega) u5 x5_1 ((Int.tmod x0_1 256) % 256) [.int .u8 ((Int.tmod x0_1 256) % 256)] (fun _ => True) (fun _ => False) rfl rfl ?aP (fun _ hk => hk.elim) ?aF ?aO ?aB ?aS ?aL ?_; (case aP => exact rfl); (case aB => exact (by repeat (first | (with_reducible first | exact HB.out | apply below_alloc | apply pw_below_drewN | apply below_drew1) | exact HB.out))); (case aF => exact (fun _ _ => trivial)); (case aO => exact (by (with_reducible repeat (first | apply Kd.R_alloc | apply Kd.R_drewN | apply Kd.R_drew)); exact HO_5.out)); (case aS => exact (below_size (by repeat (first | (with_reducible first | exact HB.out | apply below_alloc | apply pw_below_drewN | apply below_drew1) | exact HB.out)))); (case aL => have := LMc4.out; omega); intro v104 w5 ho hb hg hat; rw [← Ny103.out] at ho; have n0_ := Aside0.mk (hb); have n1_ := Aside0.mk (ho); clear HB; clear HO_5; have HB := n0_; have HO105 := n1_; clear n0_ n1_; clear ho hb hg hat))
          go_roundg k1
          case measure => have := HK1.out; omega
          case rel => exact ⟨(IntKind.u64.wrap (Int.tdiv x0_1 256)), (y103), (wrap64 (x7_1 + 1)), (by first | rfl | (simp; done) | (simp [*]; done)), (by first | rfl | (simp; done) | (simp [*]; done)), (by first | exact H' | (subst_vars; exact H')), ⟨by have := HK1.out; omega⟩, ⟨by (with_reducible repeat (first | apply Kd.R_alloc | apply Kd.R_drewN | apply Kd.R_drew)); exact HO105.out⟩, ⟨by repeat (first | (with_reducible first | exact HB.out | apply below_alloc | apply pw_below_drewN | apply below_drew1) | exact HB.out)⟩⟩
        · rw [if_neg c4] at H
          exact absurd H (by simp)
      · rw [if_neg c3] at H
        have c3b0 : decide (x7_1 < a1) = false := decide_eq_false c3
        clear c3
        obtain rfl := Option.some.inj H
        go_wp2
        go_ret
        exact ⟨_, by first | rfl | (simp [errW_none, errW_some] <;> rfl) | (simp [*, errW_none, errW_some] <;> rfl), by (with_reducible repeat (first | apply Kd.R_alloc | apply Kd.R_drewN | apply Kd.R_drew)); exact HO_5.out, by repeat (first | (with_reducible first | exact HB.out | apply below_alloc | apply pw_below_drewN | apply below_drew1) | exact HB.out)⟩

/-! ### spec_VarInt: function 48 -/
def spec_VarInt.f (k : Nat) (a0 : Int) : Option (List Int) := if a0 < 253 then (some (([(a0) % 256] : List Int))) else (if a0 < 65536 then ((some (([253] : List Int) : List Int)).bind fun y109 => ((spec_little.f k a0 2).bind fun t112 => (if y109.length + t112.length < 140737488355328 then (some (y109 ++ t112)) else (none)))) else (if a0 < 4294967296 then ((some (([254] : List Int) : List Int)).bind fun y118 => ((spec_little.f k a0 4).bind fun t121 => (if y118.length + t121.length < 140737488355328 then (some (y118 ++ t121)) else (none)))) else ((some (([255] : List Int) : List Int)).bind fun y127 => ((spec_little.f k a0 8).bind fun t130 => (if y127.length + t130.length < 140737488355328 then (some (y127 ++ t130)) else (none))))))
theorem spec_VarInt.mono : ∀ a0 k, LeO (spec_VarInt.f k a0) (spec_VarInt.f (k + 1) a0) := by
  intro a0 k
  unfold spec_VarInt.f
  repeat' first
      | (with_reducible exact spec_little.mono _ _ _)
      | (with_reducible exact LeO.refl _)
      | (with_reducible exact LeO.none _)
      | (with_reducible refine LeO.ite ?_ ?_)
      | (with_reducible refine LeO.bind ?_ (fun _ => ?_))
      | exact spec_little.mono _ _ _
      | exact LeO.none _
      | refine LeO.ite ?_ ?_
      | refine LeO.bind ?_ (fun _ => ?_)
set_option maxHeartbeats 8000000 in
set_option maxRecDepth 100000 in
theorem spec_VarInt.calls (k : Nat) (a0 : Int) (r : List Int) (w : World) (h : spec_VarInt.f k a0 = some r) :
    Calls Tryd.prog 48 #[.int .u64 a0] w fun e w' => ∃ v0_ : Value, e = .returned (v0_) ∧ Kd.R (Kd.int .u8) 5 w' w.heap.size (fun _ => True) v0_ r ∧ Below w.heap.size w w' := by
  have HB := Aside0.mk (Below.refl w.heap.size w)
  have H : (if a0 < 253 then (some (([(a0) % 256] : List Int))) else (if a0 < 65536 then ((some (([253] : List Int) : List Int)).bind fun y109 => ((spec_little.f k a0 2).bind fun t112 => (if y109.length + t112.length < 140737488355328 then (some (y109 ++ t112)) else (none)))) else (if a0 < 4294967296 then ((some (([254] : List Int) : List Int)).bind fun y118 => ((spec_little.f k a0 4).bind fun t121 => (if y118.length + t121.length < 140737488355328 then (some (y118 ++ t121)) else (none)))) else ((some (([255] : List Int) : List Int)).bind fun y127 => ((spec_little.f k a0 8).bind fun t130 => (if y127.length + t130.length < 140737488355328 then (some (y127 ++ t130)) else (none))))))) = some r := h
  clear h
  by_cases c2 : a0 < 253
  · rw [if_pos c2] at H
    have c2b0 : decide (a0 < 253) = true := decide_eq_true c2
    clear c2
    obtain ⟨y106, hy106⟩ : ∃ y_ : List Int, y_ = (([(a0) % 256] : List Int)) := ⟨_, rfl⟩
    replace H : (some y106) = some r := by first | (rw [hy106]; with_reducible exact H) | (have H2_ := (Option.bind_some _ _).symm.trans H; rw [hy106]; with_reducible exact H2_) | (have H2_ := (Option.bind_some _ _).symm.trans H; with_reducible exact H2_) | with_reducible exact H | (rw [hy106]; exact H) | exact H
    have Ny106 := Aside0.mk hy106
    clear hy106
    obtain rfl := Option.some.inj H
    go_enter Tryd.func48, Tryd.ntmps48
    go_wp2_with (first | ((with_reducible refine gate_dst (N := 8) rfl ?_); refine Kd.R_lit (Kd.int .u8) _ 5 ?hg (N := 8) ?hd (xs := ([(a0) % 256] : List Int)) (inner := [.int .u8 ((a0) % 256)]) (ok := fun _ => True) (okp := fun _ => True) ?hr ?hp (fun _ hk => hk) trivial (Below.refl _ _) (Nat.le_refl _) (by simp) ?_; (case hd => rfl); (case hg => rfl); (case hr => first | (go_simp; done) | (go_simp; rfl)); (case hp => exact (Reps.one (show Kd.M (Kd.int .u8) _ _ _ ((a0) % 256) [.int .u8 ((a0) % 256)] from rfl) (Reps.none _ _))); intro v107 w3 ho4 hb hg_ hnew_; clear hg_ hnew_; (first | rw [← Ny106.out] at ho4 | (simp only [Int.reduceToNat] at ho4; rw [← Ny106.out] at ho4)); have n0_ := Aside0.mk (Kd.R_lower ho4 (below_size (by repeat (first | (with_reducible first | exact HB.out | apply below_alloc | apply pw_below_drewN | apply below_drew1) | exact HB.out)))); have n1_ := Aside0.mk (below_step (by repeat (first | (with_reducible first | exact HB.out | apply below_alloc | apply pw_below_drewN | apply below_drew1) | exact HB.out)) hb); clear HB; have HO108 := n0_; have HB := n1_; clear n0_ n1_; clear hb ho4))
    go_ret
    exact ⟨_, by first | rfl | (simp [errW_none, errW_some] <;> rfl) | (simp [*, errW_none, errW_some] <;> rfl), by (with_reducible repeat (first | apply Kd.R_alloc | apply Kd.R_drewN | apply Kd.R_drew)); exact HO108.out, by repeat (first | (with_reducible first | exact HB.out | apply below_alloc | apply pw_below_drewN | apply below_drew1) | exact HB.out)⟩
  · rw [if_neg c2] at H
    have c2b0 : decide (a0 < 253) = false := decide_eq_false c2
    clear c2
    by_cases c5 : a0 < 65536
    · rw [if_pos c5] at H
      have c5b0 : decide (a0 < 65536) = true := decide_eq_true c5
      clear c5
      obtain ⟨y109, hy109⟩ : ∃ y_ : List Int, y_ = (([253] : List Int)) := ⟨_, rfl⟩
      replace H : ((spec_little.f k a0 2).bind fun t112 => (if y109.length + t112.length < 140737488355328 then (some (y109 ++ t112)) else (none))) = some r := by first | (rw [hy109]; with_reducible exact H) | (have H2_ := (Option.bind_some _ _).symm.trans H; rw [hy109]; with_reducible exact H2_) | (have H2_ := (Option.bind_some _ _).symm.trans H; with_reducible exact H2_) | with_reducible exact H | (rw [hy109]; exact H) | exact H
      have Ny109 := Aside0.mk hy109
      clear hy109
      replace H := Option.bind_eq_some_iff.mp H
      obtain ⟨t112, A60, H⟩ := H
      replace H : (if y109.length + t112.length < 140737488355328 then (some (y109 ++ t112)) else (none)) = some r := H
      have A6 := Aside0.mk A60
      clear A60
      by_cases c7 : y109.length + t112.length < 140737488355328
      · rw [if_pos c7] at H
        have LMc7 := Aside0.mk c7
        clear c7
        obtain ⟨y115, hy115⟩ : ∃ y_ : List Int, y_ = (y109 ++ t112) := ⟨_, rfl⟩
        replace H : (some y115) = some r := by first | (rw [hy115]; with_reducible exact H) | (have H2_ := (Option.bind_some _ _).symm.trans H; rw [hy115]; with_reducible exact H2_) | (have H2_ := (Option.bind_some _ _).symm.trans H; with_reducible exact H2_) | with_reducible exact H | (rw [hy115]; exact H) | exact H
        have Ny115 := Aside0.mk hy115
        clear hy115
        obtain rfl := Option.some.inj H
        go_enter Tryd.func48, Tryd.ntmps48
        go_wp2_with (first | ((with_reducible refine gate_dst (N := 12) rfl ?_); refine Kd.R_lit (Kd.int .u8) _ 5 ?hg (N := 12) ?hd (xs := ([253] : List Int)) (inner := [.int .u8 253]) (ok := fun _ => True) (okp := fun _ => True) ?hr ?hp (fun _ hk => hk) trivial (Below.refl _ _) (Nat.le_refl _) (by simp) ?_; (case hd => rfl); (case hg => rfl); (case hr => first | (go_simp; done) | (go_simp; rfl)); (case hp => exact (Reps.one (show Kd.M (Kd.int .u8) _ _ _ 253 [.int .u8 253] from rfl) (Reps.none _ _))); intro v110 w8 ho9 hb hg_ hnew_; clear hg_ hnew_; (first | rw [← Ny109.out] at ho9 | (simp only [Int.reduceToNat] at ho9; rw [← Ny109.out] at ho9)); have n0_ := Aside0.mk (Kd.R_lower ho9 (below_size (by repeat (first | (with_reducible first | exact HB.out | apply below_alloc | apply pw_below_drewN | apply below_drew1) | exact HB.out)))); have n1_ := Aside0.mk (below_step (by repeat (first | (with_reducible first | exact HB.out | apply below_alloc | apply pw_below_drewN | apply below_drew1) | exact HB.out)) hb); clear HB; have HO111 := n0_; have HB := n1_; clear n0_ n1_; clear hb ho9) | ((with_reducible refine gate_callee (f := 21) rfl ?_); refine goesL_ (some 14) rfl rfl Tryd.func21 (by kernel_rfl) rfl #[.int .u64 a0, .int .i64 2] rfl (by (try simp only [List.map_toArray, List.map_cons, List.map_nil]); first | done | rfl | (simp only [List.length_drop, List.length_take]; rfl)) ?_; (with_reducible refine (spec_little.calls k a0 2 t112 _ A6.out).mono ?_); rintro e w10 ⟨v113, rfl, ho0, hb⟩; refine ⟨_, rfl, ?_⟩; have n0_ := Aside0.mk (Kd.R_elder' (by (with_reducible repeat (first | apply Kd.R_alloc | apply Kd.R_drewN | apply Kd.R_drew)); exact HO111.out) (Kd.R_base ho0) hb); have n1_ := Aside0.mk (Kd.R_lower (Kd.R_new' ho0 (Kd.R_lt (by (with_reducible repeat (first | apply Kd.R_alloc | apply Kd.R_drewN | apply Kd.R_drew)); exact HO111.out))) (below_size (by repeat (first | (with_reducible first | exact HB.out | apply below_alloc | apply pw_below_drewN | apply below_drew1) | exact HB.out)))); have n2_ := Aside0.mk (below_step (by repeat (first | (with_reducible first | exact HB.out | apply below_alloc | apply pw_below_drewN | apply below_drew1) | exact HB.out)) hb); clear HO111; clear HB; have HO111 := n0_; have HO114 := n1_; have HB := n2_; clear n0_ n1_ n2_; (try clear hb); (try clear hb2); (try clear hk); (try clear hi); (try clear ho0); obtain ⟨Ao12, co12, eo12⟩ := Kd.R_slice HO114.out; subst eo12) | ((with_reducible refine gate_builtin (b := .append) (xs := #[.tmp 12, .tmp 14]) rfl ?_); at_builtin; refine Kd.R_append_rows (Kd.int .u8) (w0 := w) w.heap.size rfl (.tmp 12) (.tmp 14) 26 5 (.int .u8 0) 1 rfl Tryd.underlying26 info5 rfl (by decide) (by omega) v110 y109 t112 _ _ _ (fun k_ => some k_ ≠ (.slice Ao12 t112.length co12 : Value).ownBlock) (fun _ => False) rfl rfl ?aO ?aR (fun _ _ h => h) (fun _ h => h.elim) ?aF ?aB ?aS ?aL ?_; (case aR => repeat (first | exact (Kd.R_reads' HO114.out).2.2 | (with_reducible refine Kd.C_alloc ?_ _) | (with_reducible refine Kd.C_drewN ?_ _) | (with_reducible refine Kd.C_drew ?_))); (case aB => exact (by repeat (first | (with_reducible first | exact HB.out | apply below_alloc | apply pw_below_drewN | apply below_drew1) | exact HB.out))); (case aF => exact (fun k_ hk => Kd.fresh' (Kd.R_lt (by (with_reducible repeat (first | apply Kd.R_alloc | apply Kd.R_drewN | apply Kd.R_drew)); exact HO114.out)) k_ hk)); (case aO => exact (by (with_reducible repeat (first | apply Kd.R_alloc | apply Kd.R_drewN | apply Kd.R_drew)); exact Kd.R_mono HO111.out (fun _ hk => hk.2))); (case aS => exact (below_size (by repeat (first | (with_reducible first | exact HB.out | apply below_alloc | apply pw_below_drewN | apply below_drew1) | exact HB.out)))); (case aL => have := LMc7.out; omega); intro v116 w11 ho hb hg hat; rw [← Ny115.out] at ho; have n0_ := Aside0.mk (Kd.R_after (ok := (fun _ => True)) (by (with_reducible repeat (first | apply Kd.R_alloc | apply Kd.R_drewN | apply Kd.R_drew)); exact HO114.out) hg hat); have n1_ := Aside0.mk (hb); have n2_ := Aside0.mk (ho); clear HO114; clear HB; clear HO111; have HO114 := n0_; have HB := n1_; have HO117 := n2_; clear n0_ n1_ n2_; clear ho hb hg hat))
        go_ret
        exact ⟨_, by first | rfl | (simp [errW_none, errW_some] <;> rfl) | (simp [*, errW_none, errW_some] <;> rfl), by (with_reducible repeat (first | apply Kd.R_alloc | apply Kd.R_drewN | apply Kd.R_drew)); exact Kd.R_mono HO117.out (fun _ hk => trivial), by repeat (first | (with_reducible first | exact HB.out | apply below_alloc | apply pw_below_drewN | apply below_drew1) | exact HB.out)⟩
      · rw [if_neg c7] at H
        exact absurd H (by simp)
    · rw [if_neg c5] at H
      have c5b0 : decide (a0 < 65536) = false := decide_eq_false c5
      clear c5
      by_cases c13 : a0 < 4294967296
      · rw [if_pos c13] at H
        have c13b0 : decide (a0 < 4294967296) = true := decide_eq_true c13
        clear c13
        obtain ⟨y118, hy118⟩ : ∃ y_ : List Int, y_ = (([254] : List Int)) := ⟨_, rfl⟩
        replace H : ((spec_little.f k a0 4).bind fun t121 => (if y118.length + t121.length < 140737488355328 then (some (y118 ++ t121)) else (none))) = some r := by first | (rw [hy118]; with_reducible exact H) | (have H2_ := (Option.bind_some _ _).symm.trans H; rw [hy118]; with_reducible exact H2_) | (have H2_ := (Option.bind_some _ _).symm.trans H; with_reducible exact H2_) | with_reducible exact H | (rw [hy118]; exact H) | exact H
        have Ny118 := Aside0.mk hy118
        clear hy118
        replace H := Option.bind_eq_some_iff.mp H
        obtain ⟨t121, A140, H⟩ := H
        replace H : (if y118.length + t121.length < 140737488355328 then (some (y118 ++ t121)) else (none)) = some r := H
        have A14 := Aside0.mk A140
        clear A140
        by_cases c15 : y118.length + t121.length < 140737488355328
        · rw [if_pos c15] at H
          have LMc15 := Aside0.mk c15
          clear c15
          obtain ⟨y124, hy124⟩ : ∃ y_ : List Int, y_ = (y118 ++ t121) := ⟨_, rfl⟩
          replace H : (some y124) = some r := by first | (rw [hy124]; with_reducible exact H) | (have H2_ := (Option.bind_some _ _).symm.trans H; rw [hy124]; with_reducible exact H2_) | (have H2_ := (Option.bind_some _ _).symm.trans H; with_reducible exact H2_) | with_reducible exact H | (rw [hy124]; exact H) | exact H
          have Ny124 := Aside0.mk hy124
          clear hy124
          obtain rfl := Option.some.inj H
          go_enter Tryd.func48, Tryd.ntmps48
          go_wp2_with (first | ((with_reducible refine gate_dst (N := 19) rfl ?_); refine Kd.R_lit (Kd.int .u8) _ 5 ?hg (N := 19) ?hd (xs := ([254] : List Int)) (inner := [.int .u8 254]) (ok := fun _ => True) (okp := fun _ => True) ?hr ?hp (fun _ hk => hk) trivial (Below.refl _ _) (Nat.le_refl _) (by simp) ?_; (case hd => rfl); (case hg => rfl); (case hr => first | (go_simp; done) | (go_simp; rfl)); (case hp => exact (Reps.one (show Kd.M (Kd.int .u8) _ _ _ 254 [.int .u8 254] from rfl) (Reps.none _ _))); intro v119 w16 ho17 hb hg_ hnew_; clear hg_ hnew_; (first | rw [← Ny118.out] at ho17 | (simp only [Int.reduceToNat] at ho17; rw [← Ny118.out] at ho17)); have n0_ := Aside0.mk (Kd.R_lower ho17 (below_size (by repeat (first | (with_reducible first | exact HB.out | apply below_alloc | apply pw_below_drewN | apply below_drew1) | exact HB.out)))); have n1_ := Aside0.mk (below_step (by repeat (first | (with_reducible first | exact HB.out | apply below_alloc | apply pw_below_drewN | apply below_drew1) | exact HB.out)) hb); clear HB; have HO120 := n0_; have HB := n1_; clear n0_ n1_; clear hb ho17) | ((with_reducible refine gate_callee (f := 21) rfl ?_); refine goesL_ (some 21) rfl rfl Tryd.func21 (by kernel_rfl) rfl #[.int .u64 a0, .int .i64 4] rfl (by (try simp only [List.map_toArray, List.map_cons, List.map_nil]); first | done | rfl | (simp only [List.length_drop, List.length_take]; rfl)) ?_; (with_reducible refine (spec_little.calls k a0 4 t121 _ A14.out).mono ?_); rintro e w18 ⟨v122, rfl, ho0, hb⟩; refine ⟨_, rfl, ?_⟩; have n0_ := Aside0.mk (Kd.R_elder' (by (with_reducible repeat (first | apply Kd.R_alloc | apply Kd.R_drewN | apply Kd.R_drew)); exact HO120.out) (Kd.R_base ho0) hb); have n1_ := Aside0.mk (Kd.R_lower (Kd.R_new' ho0 (Kd.R_lt (by (with_reducible repeat (first | apply Kd.R_alloc | apply Kd.R_drewN | apply Kd.R_drew)); exact HO120.out))) (below_size (by repeat (first | (with_reducible first | exact HB.out | apply below_alloc | apply pw_below_drewN | apply below_drew1) | exact HB.out)))); have n2_ := Aside0.mk (below_step (by repeat (first | (with_reducible first | exact HB.out | apply below_alloc | apply pw_below_drewN | apply below_drew1) | exact HB.out)) hb); clear HO120; clear HB; have HO120 := n0_; have HO123 := n1_; have HB := n2_; clear n0_ n1_ n2_; (try clear hb); (try clear hb2); (try clear hk); (try clear hi); (try clear ho0); obtain ⟨Ao20, co20, eo20⟩ := Kd.R_slice HO123.out; subst eo20) | ((with_reducible refine gate_builtin (b := .append) (xs := #[.tmp 19, .tmp 21]) rfl ?_); at_builtin; refine Kd.R_append_rows (Kd.int .u8) (w0 := w) w.heap.size rfl (.tmp 19) (.tmp 21) 26 5 (.int .u8 0) 1 rfl Tryd.underlying26 info5 rfl (by decide) (by omega) v119 y118 t121 _ _ _ (fun k_ => some k_ ≠ (.slice Ao20 t121.length co20 : Value).ownBlock) (fun _ => False) rfl rfl ?aO ?aR (fun _ _ h => h) (fun _ h => h.elim) ?aF ?aB ?aS ?aL ?_; (case aR => repeat (first | exact (Kd.R_reads' HO123.out).2.2 | (with_reducible refine Kd.C_alloc ?_ _) | (with_reducible refine Kd.C_drewN ?_ _) | (with_reducible refine Kd.C_drew ?_))); (case aB => exact (by repeat (first | (with_reducible first | exact HB.out | apply below_alloc | apply pw_below_drewN | apply below_drew1) | exact HB.out))); (case aF => exact (fun k_ hk => Kd.fresh' (Kd.R_lt (by (with_reducible repeat (first | apply Kd.R_alloc | apply Kd.R_drewN | apply Kd.R_drew)); exact HO123.out)) k_ hk)); (case aO => exact (by (with_reducible repeat (first | apply Kd.R_alloc | apply Kd.R_drewN | apply Kd.R_drew)); exact Kd.R_mono HO120.out (fun _ hk => hk.2))); (case aS => exact (below_size (by repeat (first | (with_reducible first | exact HB.out | apply below_alloc | apply pw_below_drewN | apply below_drew1) | exact HB.out)))); (case aL => have := LMc15.out; omega); intro v125 w19 ho hb hg hat; rw [← Ny124.out] at ho; have n0_ := Aside0.mk (Kd.R_after (ok := (fun _ => True)) (by (with_reducible repeat (first | apply Kd.R_alloc | apply Kd.R_drewN | apply Kd.R_drew)); exact HO123.out) hg hat); have n1_ := Aside0.mk (hb); have n2_ := Aside0.mk (ho); clear HO123; clear HB; clear HO120; have HO123 := n0_; have HB := n1_; have HO126 := n2_; clear n0_ n1_ n2_; clear ho hb hg hat))
          go_ret
          exact ⟨_, by first | rfl | (simp [errW_none, errW_some] <;> rfl) | (simp [*, errW_none, errW_some] <;> rfl), by (with_reducible repeat (first | apply Kd.R_alloc | apply Kd.R_drewN | apply Kd.R_drew)); exact Kd.R_mono HO126.out (fun _ hk => trivial), by repeat (first | (with_reducible first | exact HB.out | apply below_alloc | apply pw_below_drewN | apply below_drew1) | exact HB.out)⟩
        · rw [if_neg c15] at H
          exact absurd H (by simp)
      · rw [if_neg c13] at H
        have c13b0 : decide (a0 < 4294967296) = false := decide_eq_false c13
        clear c13
        obtain ⟨y127, hy127⟩ : ∃ y_ : List Int, y_ = (([255] : List Int)) := ⟨_, rfl⟩
        replace H : ((spec_little.f k a0 8).bind fun t130 => (if y127.length + t130.length < 140737488355328 then (some (y127 ++ t130)) else (none))) = some r := by first | (rw [hy127]; with_reducible exact H) | (have H2_ := (Option.bind_some _ _).symm.trans H; rw [hy127]; with_reducible exact H2_) | (have H2_ := (Option.bind_some _ _).symm.trans H; with_reducible exact H2_) | with_reducible exact H | (rw [hy127]; exact H) | exact H
        have Ny127 := Aside0.mk hy127
        clear hy127
        replace H := Option.bind_eq_some_iff.mp H
        obtain ⟨t130, A210, H⟩ := H
        replace H : (if y127.length + t130.length < 140737488355328 then (some (y127 ++ t130)) else (none)) = some r := H
        have A21 := Aside0.mk A210
        clear A210
        by_cases c22 : y127.length + t130.length < 140737488355328
        · rw [if_pos c22] at H
          have LMc22 := Aside0.mk c22
          clear c22
          obtain ⟨y133, hy133⟩ : ∃ y_ : List Int, y_ = (y127 ++ t130) := ⟨_, rfl⟩
          replace H : (some y133) = some r := by first | (rw [hy133]; with_reducible exact H) | (have H2_ := (Option.bind_some _ _).symm.trans H; rw [hy133]; with_reducible exact H2_) | (have H2_ := (Option.bind_some _ _).symm.trans H; with_reducible exact H2_) | with_reducible exact H | (rw [hy133]; exact H) | exact H
          have Ny133 := Aside0.mk hy133
          clear hy133
          obtain rfl := Option.some.inj H
          go_enter Tryd.func48, Tryd.ntmps48
          go_wp2_with (first | ((with_reducible refine gate_dst (N := 23) rfl ?_); refine Kd.R_lit (Kd.int .u8) _ 5 ?hg (N := 23) ?hd (xs := ([255] : List Int)) (inner := [.int .u8 255]) (ok := fun _ => True) (okp := fun _ => True) ?hr ?hp (fun _ hk => hk) trivial (Below.refl _ _) (Nat.le_refl _) (by simp) ?_; (case hd => rfl); (case hg => rfl); (case hr => first | (go_simp; done) | (go_simp; rfl)); (case hp => exact (Reps.one (show Kd.M (Kd.int .u8) _ _ _ 255 [.int .u8 255] from rfl) (Reps.none _ _))); intro v128 w23 ho24 hb hg_ hnew_; clear hg_ hnew_; (first | rw [← Ny127.out] at ho24 | (simp only [Int.reduceToNat] at ho24; rw [← Ny127.out] at ho24)); have n0_ := Aside0.mk (Kd.R_lower ho24 (below_size (by repeat (first | (with_reducible first | exact HB.out | apply below_alloc | apply pw_below_drewN | apply below_drew1) | exact HB.out)))); have n1_ := Aside0.mk (below_step (by repeat (first | (with_reducible first | exact HB.out | apply below_alloc | apply pw_below_drewN | apply below_drew1) | exact HB.out)) hb); clear HB; have HO129 := n0_; have HB := n1_; clear n0_ n1_; clear hb ho24) | ((with_reducible refine gate_callee (f := 21) rfl ?_); refine goesL_ (some 25) rfl rfl Tryd.func21 (by kernel_rfl) rfl #[.int .u64 a0, .int .i64 8] rfl (by (try simp only [List.map_toArray, List.map_cons, List.map_nil]); first | done | rfl | (simp only [List.length_drop, List.length_take]; rfl)) ?_; (with_reducible refine (spec_little.calls k a0 8 t130 _ A21.out).mono ?_); rintro e w25 ⟨v131, rfl, ho0, hb⟩; refine ⟨_, rfl, ?_⟩; have n0_ := Aside0.mk (Kd.R_elder' (by (with_reducible repeat (first | apply Kd.R_alloc | apply Kd.R_drewN | apply Kd.R_drew)); exact HO129.out) (Kd.R_base ho0) hb); have n1_ := Aside0.mk (Kd.R_lower (Kd.R_new' ho0 (Kd.R_lt (by (with_reducible repeat (first | apply Kd.R_alloc | apply Kd.R_drewN | apply Kd.R_drew)); exact HO129.out))) (below_size (by repeat (first | (with_reducible first | exact HB.out | apply below_alloc | apply pw_below_drewN | apply below_drew1) | exact HB.out)))); have n2_ := Aside0.mk (below_step (by repeat (first | (with_reducible first | exact HB.out | apply below_alloc | apply pw_below_drewN | apply below_drew1) | exact HB.out)) hb); clear HO129; clear HB; have HO129 := n0_; have HO132 := n1_; have HB := n2_; clear n0_ n1_ n2_; (try clear hb); (try clear hb2); (try clear hk); (try clear hi); (try clear ho0); obtain ⟨Ao27, co27, eo27⟩ := Kd.R_slice HO132.out; subst eo27) | ((with_reducible refine gate_builtin (b := .append) (xs := #[.tmp 23, .tmp 25]) rfl ?_); at_builtin; refine Kd.R_append_rows (Kd.int .u8) (w0 := w) w.heap.size rfl (.tmp 23) (.tmp 25) 26 5 (.int .u8 0) 1 rfl Tryd.underlying26 info5 rfl (by decide) (by omega) v128 y127 t130 _ _ _ (fun k_ => some k_ ≠ (.slice Ao27 t130.length co27 : Value).ownBlock) (fun _ => False) rfl rfl ?aO ?aR (fun _ _ h => h) (fun _ h => h.elim) ?aF ?aB ?aS ?aL ?_; (case aR => repeat (first | exact (Kd.R_reads' HO132.out).2.2 | (with_reducible refine Kd.C_alloc ?_ _) | (with_reducible refine Kd.C_drewN ?_ _) | (with_reducible refine Kd.C_drew ?_))); (case aB => exact (by repeat (first | (with_reducible first | exact HB.out | apply below_alloc | apply pw_below_drewN | apply below_drew1) | exact HB.out))); (case aF => exact (fun k_ hk => Kd.fresh' (Kd.R_lt (by (with_reducible repeat (first | apply Kd.R_alloc | apply Kd.R_drewN | apply Kd.R_drew)); exact HO132.out)) k_ hk)); (case aO => exact (by (with_reducible repeat (first | apply Kd.R_alloc | apply Kd.R_drewN | apply Kd.R_drew)); exact Kd.R_mono HO129.out (fun _ hk => hk.2))); (case aS => exact (below_size (by repeat (first | (with_reducible first | exact HB.out | apply below_alloc | apply pw_below_drewN | apply below_drew1) | exact HB.out)))); (case aL => have := LMc22.out; omega); intro v134 w26 ho hb hg hat; rw [← Ny133.out] at ho; have n0_ := Aside0.mk (Kd.R_after (ok := (fun _ => True)) (by (with_reducible repeat (first | apply Kd.R_alloc | apply Kd.R_drewN | apply Kd.R_drew)); exact HO132.out) hg hat); have n1_ := Aside0.mk (hb); have n2_ := Aside0.mk (ho); clear HO132; clear HB; clear HO129; have HO132 := n0_; have HB := n1_; have HO135 := n2_; clear n0_ n1_ n2_; clear ho hb hg hat))
          go_ret
          exact ⟨_, by first | rfl | (simp [errW_none, errW_some] <;> rfl) | (simp [*, errW_none, errW_some] <;> rfl), by (with_reducible repeat (first | apply Kd.R_alloc | apply Kd.R_drewN | apply Kd.R_drew)); exact Kd.R_mono HO135.out (fun _ hk => trivial), by repeat (first | (with_reducible first | exact HB.out | apply below_alloc | apply pw_below_drewN | apply below_drew1) | exact HB.out)⟩
        · rw [if_neg c22] at H
          exact absurd H (by simp)

/-! ### spec_VarBytes: function 38 -/
def spec_VarBytes.f (k : Nat) (l0 : List Int) : Option (List Int) := (spec_VarInt.f k (IntKind.u64.wrap ((l0.length : Int)))).bind fun t136 => (if t136.length + l0.length < 140737488355328 then (some (t136 ++ l0)) else (none))
theorem spec_VarBytes.mono : ∀ a0 k, LeO (spec_VarBytes.f k a0) (spec_VarBytes.f (k + 1) a0) := by
  intro a0 k
  unfold spec_VarBytes.f
  repeat' first
      | (with_reducible exact spec_VarInt.mono _ _)
      | (with_reducible exact LeO.refl _)
      | (with_reducible exact LeO.none _)
      | (with_reducible refine LeO.ite ?_ ?_)
      | (with_reducible refine LeO.bind ?_ (fun _ => ?_))
      | exact spec_VarInt.mono _ _
      | exact LeO.none _
      | refine LeO.ite ?_ ?_
      | refine LeO.bind ?_ (fun _ => ?_)
set_option maxHeartbeats 8000000 in
set_option maxRecDepth 100000 in
theorem spec_VarBytes.calls (k : Nat) (A0 : Option Addr) (c0 : Nat) (l0 : List Int) (r : List Int) (w : World) (hr0 : Kd.C (Kd.int .u8) w A0 l0.length l0) (hc0 : l0.length ≤ c0) (h : spec_VarBytes.f k l0 = some r) :
    Calls Tryd.prog 38 #[.slice A0 l0.length c0] w fun e w' => ∃ v0_ : Value, e = .returned (v0_) ∧ Kd.R (Kd.int .u8) 5 w' w.heap.size (fun _ => True) v0_ r ∧ Below w.heap.size w w' := by
  have HR0 := Aside0.mk hr0
  have HC0 := Aside0.mk hc0
  clear hr0 hc0
  have HB := Aside0.mk (Below.refl w.heap.size w)
  have H : ((spec_VarInt.f k (IntKind.u64.wrap ((l0.length : Int)))).bind fun t136 => (if t136.length + l0.length < 140737488355328 then (some (t136 ++ l0)) else (none))) = some r := h
  clear h
  replace H := Option.bind_eq_some_iff.mp H
  obtain ⟨t136, A20, H⟩ := H
  replace H : (if t136.length + l0.length < 140737488355328 then (some (t136 ++ l0)) else (none)) = some r := H
  have A2 := Aside0.mk A20
  clear A20
  by_cases c3 : t136.length + l0.length < 140737488355328
  · rw [if_pos c3] at H
    have LMc3 := Aside0.mk c3
    clear c3
    obtain ⟨y139, hy139⟩ : ∃ y_ : List Int, y_ = (t136 ++ l0) := ⟨_, rfl⟩
    replace H : (some y139) = some r := by first | (rw [hy139]; with_reducible exact H) | (have H2_ := (Option.bind_some _ _).symm.trans H; rw [hy139]; with_reducible exact H2_) | (have H2_ := (Option.bind_some _ _).symm.trans H; with_reducible exact H2_) | with_reducible exact H | (rw [hy139]; exact H) | exact H
    have Ny139 := Aside0.mk hy139
    clear hy139
    obtain rfl := Option.some.inj H
    go_enter Tryd.func38, Tryd.ntmps38
    go_wp2_with (first | ((with_reducible refine gate_callee (f := 48) rfl ?_); refine goesL_ (some 6) rfl rfl Tryd.func48 (by kernel_rfl) rfl #[.int .u64 (IntKind.u64.wrap ((l0.length : Int)))] rfl (by (try simp only [List.map_toArray, List.map_cons, List.map_nil]); first | done | rfl | (simp only [List.length_drop, List.length_take]; rfl)) ?_; (with_reducible refine (spec_VarInt.calls k (IntKind.u64.wrap ((l0.length : Int))) t136 _ A2.out).mono ?_); rintro e w4 ⟨v137, rfl, ho0, hb⟩; refine ⟨_, rfl, ?_⟩; have n0_ := Aside0.mk (Kd.R_lower ho0 (below_size (by repeat (first | (with_reducible first | exact HB.out | apply below_alloc | apply pw_below_drewN | apply below_drew1) | exact HB.out)))); have n1_ := Aside0.mk (below_step (by repeat (first | (with_reducible first | exact HB.out | apply below_alloc | apply pw_below_drewN | apply below_drew1) | exact HB.out)) hb); clear HB; have HO138 := n0_; have HB := n1_; clear n0_ n1_; (try clear hb); (try clear hb2); (try clear hk); (try clear hi); (try clear ho0)) | ((with_reducible refine gate_builtin (b := .append) (xs := #[.tmp 6, .tmp 7]) rfl ?_); at_builtin; refine Kd.R_append_rows (Kd.int .u8) (w0 := w) w.heap.size rfl (.tmp 6) (.tmp 7) 26 5 (.int .u8 0) 1 rfl Tryd.underlying26 info5 rfl (by decide) (by omega) v137 t136 l0 _ _ _ (fun _ => True) (fun _ => False) rfl rfl ?aO ?aR (fun _ _ h => h) (fun _ h => h.elim) ?aF ?aB ?aS ?aL ?_; (case aR => repeat (first | exact (Kd.C_below HR0.out HB.out) | (with_reducible refine Kd.C_alloc ?_ _) | (with_reducible refine Kd.C_drewN ?_ _) | (with_reducible refine Kd.C_drew ?_))); (case aB => exact (by repeat (first | (with_reducible first | exact HB.out | apply below_alloc | apply pw_below_drewN | apply below_drew1) | exact HB.out))); (case aF => exact (fun _ _ => trivial)); (case aO => exact (by (with_reducible repeat (first | apply Kd.R_alloc | apply Kd.R_drewN | apply Kd.R_drew)); exact HO138.out)); (case aS => exact (below_size (by repeat (first | (with_reducible first | exact HB.out | apply below_alloc | apply pw_below_drewN | apply below_drew1) | exact HB.out)))); (case aL => have := LMc3.out; omega); intro v140 w5 ho hb hg hat; rw [← Ny139.out] at ho; have n0_ := Aside0.mk (hb); have n1_ := Aside0.mk (ho); clear HB; clear HO138; have HB := n0_; have HO141 := n1_; clear n0_ n1_; clear ho hb hg hat))
    go_ret
    exact ⟨_, by first | rfl | (simp [errW_none, errW_some] <;> rfl) | (simp [*, errW_none, errW_some] <;> rfl), by (with_reducible repeat (first | apply Kd.R_alloc | apply Kd.R_drewN | apply Kd.R_drew)); exact HO141.out, by repeat (first | (with_reducible first | exact HB.out | apply below_alloc | apply pw_below_drewN | apply below_drew1) | exact HB.out)⟩
  · rw [if_neg c3] at H
    exact absurd H (by simp)

-- NOT PRINTED: function 24 (spec_TapLeaf)

-- NOT PRINTED: function 25 (spec_TapBranch)

-- NOT PRINTED: function 12 (spec_TapRoot)

-- NOT PRINTED: function 56 (boring_NewSHA256)

-- NOT PRINTED: function 65 (sha256_Digest_Reset)

-- NOT PRINTED: function 57 (sha256_New_57)

-- NOT PRINTED: function 46 (sha256_New_46)

-- NOT PRINTED: function 47 (boring_SHA256)

-- NOT PRINTED: function 36 (sha256_Sum256)

-- NOT PRINTED: function 26 (btcdchainhash_HashH)

-- NOT PRINTED: function 13 (impl_Sha)

/-! ### impl_copied: function 27 -/
def impl_copied.f (l0 : List Int) : Option (List Int) := (some (([] : List Int) : List Int)).bind fun y142 => (if y142.length + l0.length < 140737488355328 then (some (y142 ++ l0)) else (none))
set_option maxHeartbeats 8000000 in
set_option maxRecDepth 100000 in
theorem impl_copied.calls (A0 : Option Addr) (c0 : Nat) (l0 : List Int) (r : List Int) (w : World) (hr0 : Kd.C (Kd.int .u8) w A0 l0.length l0) (hc0 : l0.length ≤ c0) (h : impl_copied.f l0 = some r) :
    Calls Tryd.prog 27 #[.slice A0 l0.length c0] w fun e w' => ∃ v0_ : Value, e = .returned (v0_) ∧ Kd.R (Kd.int .u8) 5 w' w.heap.size (fun _ => True) v0_ r ∧ Below w.heap.size w w' := by
  have HR0 := Aside0.mk hr0
  have HC0 := Aside0.mk hc0
  clear hr0 hc0
  have HB := Aside0.mk (Below.refl w.heap.size w)
  have H : ((some (([] : List Int) : List Int)).bind fun y142 => (if y142.length + l0.length < 140737488355328 then (some (y142 ++ l0)) else (none))) = some r := h
  clear h
  obtain ⟨y142, hy142⟩ : ∃ y_ : List Int, y_ = (([] : List Int)) := ⟨_, rfl⟩
  replace H : (if y142.length + l0.length < 140737488355328 then (some (y142 ++ l0)) else (none)) = some r := by first | (rw [hy142]; with_reducible exact H) | (have H2_ := (Option.bind_some _ _).symm.trans H; rw [hy142]; with_reducible exact H2_) | (have H2_ := (Option.bind_some _ _).symm.trans H; with_reducible exact H2_) | with_reducible exact H | (rw [hy142]; exact H) | exact H
  have Ny142 := Aside0.mk hy142
  clear hy142
  by_cases c2 : y142.length + l0.length < 140737488355328
  · rw [if_pos c2] at H
    have LMc2 := Aside0.mk c2
    clear c2
    obtain ⟨y145, hy145⟩ : ∃ y_ : List Int, y_ = (y142 ++ l0) := ⟨_, rfl⟩
    replace H : (some y145) = some r := by first | (rw [hy145]; with_reducible exact H) | (have H2_ := (Option.bind_some _ _).symm.trans H; rw [hy145]; with_reducible exact H2_) | (have H2_ := (Option.bind_some _ _).symm.trans H; with_reducible exact H2_) | with_reducible exact H | (rw [hy145]; exact H) | exact H
    have Ny145 := Aside0.mk hy145
    clear hy145
    obtain rfl := Option.some.inj H
    go_enter Tryd.func27, Tryd.ntmps27
    go_wp2_with (first | ((with_reducible refine gate_dst (N := 3) rfl ?_); refine Kd.R_lit (Kd.int .u8) _ 5 ?hg (N := 3) ?hd (xs := ([] : List Int)) (inner := []) (ok := fun _ => True) (okp := fun _ => True) ?hr ?hp (fun _ hk => hk) trivial (Below.refl _ _) (Nat.le_refl _) (by simp) ?_; (case hd => rfl); (case hg => rfl); (case hr => first | (go_simp; done) | (go_simp; rfl)); (case hp => exact (Reps.none _ _)); intro v143 w3 ho4 hb hg_ hnew_; clear hg_ hnew_; (first | rw [← Ny142.out] at ho4 | (simp only [Int.reduceToNat] at ho4; rw [← Ny142.out] at ho4)); have n0_ := Aside0.mk (Kd.R_lower ho4 (below_size (by repeat (first | (with_reducible first | exact HB.out | apply below_alloc | apply pw_below_drewN | apply below_drew1) | exact HB.out)))); have n1_ := Aside0.mk (below_step (by repeat (first | (with_reducible first | exact HB.out | apply below_alloc | apply pw_below_drewN | apply below_drew1) | exact HB.out)) hb); clear HB; have HO144 := n0_; have HB := n1_; clear n0_ n1_; clear hb ho4) | ((with_reducible refine gate_builtin (b := .append) (xs := #[.tmp 3, .tmp 4]) rfl ?_); at_builtin; refine Kd.R_append_rows (Kd.int .u8) (w0 := w) w.heap.size rfl (.tmp 3) (.tmp 4) 26 5 (.int .u8 0) 1 rfl Tryd.underlying26 info5 rfl (by decide) (by omega) v143 y142 l0 _ _ _ (fun _ => True) (fun _ => False) rfl rfl ?aO ?aR (fun _ _ h => h) (fun _ h => h.elim) ?aF ?aB ?aS ?aL ?_; (case aR => repeat (first | exact (Kd.C_below HR0.out HB.out) | (with_reducible refine Kd.C_alloc ?_ _) | (with_reducible refine Kd.C_drewN ?_ _) | (with_reducible refine Kd.C_drew ?_))); (case aB => exact (by repeat (first | (with_reducible first | exact HB.out | apply below_alloc | apply pw_below_drewN | apply below_drew1) | exact HB.out))); (case aF => exact (fun _ _ => trivial)); (case aO => exact (by (with_reducible repeat (first | apply Kd.R_alloc | apply Kd.R_drewN | apply Kd.R_drew)); exact HO144.out)); (case aS => exact (below_size (by repeat (first | (with_reducible first | exact HB.out | apply below_alloc | apply pw_below_drewN | apply below_drew1) | exact HB.out)))); (case aL => have := LMc2.out; omega); intro v146 w5 ho hb hg hat; rw [← Ny145.out] at ho; have n0_ := Aside0.mk (hb); have n1_ := Aside0.mk (ho); clear HB; clear HO144; have HB := n0_; have HO147 := n1_; clear n0_ n1_; clear ho hb hg hat))
    go_ret
    exact ⟨_, by first | rfl | (simp [errW_none, errW_some] <;> rfl) | (simp [*, errW_none, errW_some] <;> rfl), by (with_reducible repeat (first | apply Kd.R_alloc | apply Kd.R_drewN | apply Kd.R_drew)); exact HO147.out, by repeat (first | (with_reducible first | exact HB.out | apply below_alloc | apply pw_below_drewN | apply below_drew1) | exact HB.out)⟩
  · rw [if_neg c2] at H
    exact absurd H (by simp)

/-! ### btcdtxscript_NewTapLeaf: function 39 -/
def btcdtxscript_NewTapLeaf.f (a0 : Int) (l1 : List Int) : Option (Int × List Int) := some (a0, l1)
set_option maxHeartbeats 8000000 in
set_option maxRecDepth 100000 in
theorem btcdtxscript_NewTapLeaf.calls (a0 : Int) (P1_ : Nat → Prop) (u9000_ : Value) (l1 : List Int) (r1 : Int) (r2 : List Int) (w0 w : World) (hB : Below w0.heap.size w0 w) (ho1 : Kd.R (Kd.int .u8) 5 w w0.heap.size P1_ u9000_ l1) (h : btcdtxscript_NewTapLeaf.f a0 l1 = some (r1, r2)) :
    Calls Tryd.prog 39 #[.int .u8 a0, u9000_] w fun e w' => ∃ v1_ : Value, e = .returned (.agg #[.int .u8 r1, v1_]) ∧ Kd.R (Kd.int .u8) 5 w' w0.heap.size (fun k_ => (P1_ k_ ∨ w.heap.size ≤ k_)) v1_ r2 ∧ Below w0.heap.size w0 w' ∧ Kept w w' (fun k_ => P1_ k_) := by
  have hu82 := Tryd.underlying82
  have HO1 := Aside0.mk (show Kd.R (Kd.int .u8) 5 w w0.heap.size (fun k_ => (P1_ k_ ∨ w.heap.size ≤ k_)) u9000_ l1 from Kd.R_mono ho1 (fun k_ hk => (.inl hk)))
  have HK := Aside0.mk (Kept.refl w (fun k_ => P1_ k_))
  have HW0 := Aside0.mk hB.size
  have HB := Aside0.mk hB
  clear hB
  have H : (some (a0, l1)) = some (r1, r2) := h
  clear h
  simp only [Option.some.injEq, Prod.mk.injEq] at H
  obtain ⟨rfl, rfl⟩ := H
  go_enter Tryd.func39, Tryd.ntmps39
  go_wp2_with (first | ((with_reducible refine gate_dst (N := 4) rfl ?_); refine box_event ?hg (N := 4) ?hd (cs := #[.int .u8 0, .slice none 0 0]) (t := 82) ?hr ?_; (case hd => rfl); (case hg => rfl); (case hr => first | (go_simp; done) | (go_simp; rfl)); intro gb148 hg w3 hbox hb; have n0_ := Aside0.mk (Kd.R_below (by (with_reducible repeat (first | apply Kd.R_alloc | apply Kd.R_drewN | apply Kd.R_drew)); exact HO1.out) hb); have n1_ := Aside0.mk (Kept.below (S := (fun k_ => P1_ k_)) (by repeat (first | (with_reducible first | exact HK.out | apply Kept.alloc | apply Kept.drewN | apply Kept.drew) | exact HK.out)) hb); have n2_ := Aside0.mk (below_step (by repeat (first | (with_reducible first | exact HB.out | apply below_alloc | apply pw_below_drewN | apply below_drew1) | exact HB.out)) hb); have n3_ := Aside0.mk (hbox); have n4_ := Aside0.mk ((by rw [hg]; exact (by first | exact HK.out.1 | exact (show Kept w _ (fun k_ => P1_ k_) from by repeat (first | (with_reducible first | exact HK.out | apply Kept.alloc | apply Kept.drewN | apply Kept.drew) | exact HK.out)).1) : w.heap.size ≤ gb148)); have n5_ := Aside0.mk ((by rw [hg]; exact (below_size (by repeat (first | (with_reducible first | exact HB.out | apply below_alloc | apply pw_below_drewN | apply below_drew1) | exact HB.out))) : w0.heap.size ≤ gb148)); clear HO1; clear HK; clear HB; have HO1 := n0_; have HK := n1_; have HB := n2_; have BK148 := n3_; have GW148 := n4_; have GE148 := n5_; clear n0_ n1_ n2_ n3_ n4_ n5_; clear hb hbox hg; obtain ⟨Ao4, co4, eo4⟩ := Kd.R_slice HO1.out; subst eo4; have hcz5_0 : w3.cell? ⟨gb148, 0, none⟩ = some (.int .u8 0) := (blk_cell BK148.out 0).trans rfl; have hcz5_1 : w3.cell? ⟨gb148, 1, none⟩ = some (.slice none 0 0) := (blk_cell BK148.out 1).trans rfl; have hfz5_0 := blk_frozen BK148.out 0; have hfz5_1 := blk_frozen BK148.out 1))
  refine bodyPost_ret (results_cell_row rfl _ _ gb148 82 #[.int .u8 a0, .slice Ao4 l1.length co4] (0, 0) _ rfl (by (with_reducible repeat (first | refine blk_drewN ?_ _ | refine blk_drew ?_ | refine blk_alloc ?_ _)); refine blk_put (cs := #[.int .u8 a0, .slice none 0 0]) ?_ 1 _ rfl; (with_reducible repeat (first | refine blk_drewN ?_ _ | refine blk_drew ?_ | refine blk_alloc ?_ _)); refine blk_put (cs := #[.int .u8 0, .slice none 0 0]) ?_ 0 _ rfl; (with_reducible repeat (first | refine blk_drewN ?_ _ | refine blk_drew ?_ | refine blk_alloc ?_ _)); exact BK148.out) Tryd.underlying82 rfl (by kernel_rfl)) rfl ?_
  exact ⟨_, by first | rfl | (simp [errW_none, errW_some] <;> rfl) | (simp [*, errW_none, errW_some] <;> rfl), by (with_reducible repeat (first | apply Kd.R_alloc | apply Kd.R_drewN | apply Kd.R_drew)); exact Kd.R_mono (Kd.R_far (p := ⟨gb148, 1, none⟩) (Kd.R_far (p := ⟨gb148, 0, none⟩) (Kd.R_types HO1.out BK148.out (by decide)) (fun _ hk => hk.2) (.int .u8 a0)) (fun _ hk => hk.2) (.slice Ao4 l1.length co4)) (fun _ hk => hk.1), by repeat (first | (with_reducible first | exact HB.out | apply below_alloc | apply pw_below_drewN | apply below_drew1 | refine below_set ?_ GE148.out) | exact HB.out), by repeat (first | (with_reducible first | exact HK.out | apply Kept.alloc | apply Kept.drewN | apply Kept.drew | refine Kept.setCell ?_ (.inr GW148.out) _) | exact HK.out)⟩

-- NOT PRINTED: function 17 (bytes_Buffer_Bytes)

-- NOT PRINTED: function 58 (bytes_Buffer_tryGrowByReslice)

/-- A state of type 41 at block g of W; what its slices lead to came in by w0. -/
def IsS41 (w0 W : World) (g : Nat) (f0 : List Int) (f1 : Int) (f2 : Int) : Prop := ∃ A0 c0, W.heap[g]? = some (.cells #[.slice A0 f0.length c0, .int .i64 f1, .int .i8 f2] 41 (0, 0)) ∧ w0.heap.size ≤ g ∧ Kd.C (Kd.int .u8) w0 A0 f0.length f0
theorem IsS41.grown {w0 W : World} {g : Nat} {f0 : List Int} {f1 : Int} {f2 : Int} {W1 : World} {row : Option Nat} (h : IsS41 w0 W g f0 f1 f2) (hw : W.grownBy W1 row) (hne : some g ≠ row) : IsS41 w0 W1 g f0 f1 f2 := by
  obtain ⟨A0, c0, hb, hg, hr0⟩ := h
  exact ⟨A0, c0, blk_grown hb hw hne, hg, hr0⟩
theorem IsS41.own_neN {w0 W : World} {g : Nat} {f0 : List Int} {f1 : Int} {f2 : Int} {α : Type} {d : Kd α} {e : Nat} {base : Nat} {ok : Nat → Prop} {v : Value} {xs : List α} (h : IsS41 w0 W g f0 f1 f2) (ho : Kd.N d e W base ok v xs) (ht : e ≠ 41) : some g ≠ v.ownBlock := by
  obtain ⟨A0, c0, hb, hg, hr0⟩ := h
  exact Kd.N_ne ho hb ht
theorem IsS41.fresh {w0 W : World} {g : Nat} {f0 : List Int} {f1 : Int} {f2 : Int} (h : IsS41 w0 W g f0 f1 f2) : ∀ k, W.heap.size ≤ k → k ≠ g := by
  obtain ⟨A0, c0, hb, hg, hr0⟩ := h
  exact Kd.freshB hb
theorem IsS41.kept {w0 W : World} {g : Nat} {f0 : List Int} {f1 : Int} {f2 : Int} {W1 : World} {S : Nat → Prop} (h : IsS41 w0 W g f0 f1 f2) (hk : Kept W W1 S) (hne : ¬ S g) : IsS41 w0 W1 g f0 f1 f2 := by
  obtain ⟨A0, c0, hb, hg, hr0⟩ := h
  exact ⟨A0, c0, blk_kept hb hk hne, hg, hr0⟩
theorem IsS41.below {w0 W : World} {g : Nat} {f0 : List Int} {f1 : Int} {f2 : Int} {W1 : World} (h : IsS41 w0 W g f0 f1 f2) (hw : Below W.heap.size W W1) : IsS41 w0 W1 g f0 f1 f2 := h.grown (grown_of_below hw none) (by simp)
theorem IsS41.alloc {w0 W : World} {g : Nat} {f0 : List Int} {f1 : Int} {f2 : Int} (h : IsS41 w0 W g f0 f1 f2) (o : Obj) : IsS41 w0 (W.alloc o) g f0 f1 f2 := h.below (below_alloc (Below.refl _ _) o)
theorem IsS41.drewN {w0 W : World} {g : Nat} {f0 : List Int} {f1 : Int} {f2 : Int} (h : IsS41 w0 W g f0 f1 f2) (m : Nat) : IsS41 w0 (W.drewN m) g f0 f1 f2 := h
theorem IsS41.drew {w0 W : World} {g : Nat} {f0 : List Int} {f1 : Int} {f2 : Int} (h : IsS41 w0 W g f0 f1 f2) : IsS41 w0 W.drew g f0 f1 f2 := h
theorem IsS41.at_ {w0 W : World} {g : Nat} {f0 : List Int} {f1 : Int} {f2 : Int} {w' : World} {m : Nat} (hq : W.drewN m = w') (h : IsS41 w0 W g f0 f1 f2) : IsS41 w0 w' g f0 f1 f2 := by subst hq; exact IsS41.drewN h m
theorem IsS41.apart {w0 W : World} {g : Nat} {f0 : List Int} {f1 : Int} {f2 : Int} {α : Type} {d : Kd α} {e : Nat} {base : Nat} {ok : Nat → Prop} {v : Value} {xs : List α} (h : IsS41 w0 W g f0 f1 f2) (ho : d.R e W base ok v xs) (ht : ∀ q, q ∈ e :: d.E → q ≠ 41) : d.R e W base (fun k => ok k ∧ k ≠ g) v xs := by
  obtain ⟨A0, c0, hb, hg, hr0⟩ := h
  exact Kd.R_types ho hb ht
theorem IsS41.own_ne {w0 W : World} {g : Nat} {f0 : List Int} {f1 : Int} {f2 : Int} {α : Type} {d : Kd α} {e : Nat} {base : Nat} {ok : Nat → Prop} {v : Value} {xs : List α} (h : IsS41 w0 W g f0 f1 f2) (ho : d.R e W base ok v xs) (ht : e ≠ 41) : some g ≠ v.ownBlock := by
  obtain ⟨A0, c0, hb, hg, hr0⟩ := h
  exact Kd.R_ne ho hb ht
theorem IsS41.apartQ {w0 W : World} {g : Nat} {f0 : List Int} {f1 : Int} {f2 : Int} {α : Type} {d : Kd α} {e : Nat} {base : Nat} {ok : Nat → Prop} {v : Value} {xs : List α} (h : IsS41 w0 W g f0 f1 f2) (ho : d.Q e W base ok v xs) (ht : ∀ q, q ∈ e :: d.E → q ≠ 41) : d.Q e W base (fun k => ok k ∧ k ≠ g) v xs := by
  obtain ⟨A0, c0, hb, hg, hr0⟩ := h
  exact Kd.Q_types ho hb ht
theorem IsS41.own_neQ {w0 W : World} {g : Nat} {f0 : List Int} {f1 : Int} {f2 : Int} {α : Type} {d : Kd α} {e : Nat} {base : Nat} {ok : Nat → Prop} {v : Value} {xs : List α} (h : IsS41 w0 W g f0 f1 f2) (ho : d.Q e W base ok v xs) (ht : e ≠ 41) : some g ≠ v.ownBlock := by
  obtain ⟨A0, c0, hb, hg, hr0⟩ := h
  exact Kd.Q_ne ho hb ht
theorem IsS41.apartS {w0 W : World} {g : Nat} {f0 : List Int} {f1 : Int} {f2 : Int} {α : Type} {d : Kd α} {e : Nat} {base : Nat} {ok : Nat → Prop} {v : Value} {xs : List α} (h : IsS41 w0 W g f0 f1 f2) (ho : d.S e W base ok v xs) (ht : ∀ q, q ∈ e :: d.E → q ≠ 41) : d.S e W base (fun k => ok k ∧ k ≠ g) v xs := by
  obtain ⟨A0, c0, hb, hg, hr0⟩ := h
  exact Kd.S_types ho hb ht
theorem IsS41.own_neS {w0 W : World} {g : Nat} {f0 : List Int} {f1 : Int} {f2 : Int} {α : Type} {d : Kd α} {e : Nat} {base : Nat} {ok : Nat → Prop} {v : Value} {xs : List α} (h : IsS41 w0 W g f0 f1 f2) (ho : d.S e W base ok v xs) (ht : e ≠ 41) : some g ≠ v.ownBlock := by
  obtain ⟨A0, c0, hb, hg, hr0⟩ := h
  exact Kd.S_ne ho hb ht
theorem IsS41.lt {w0 W : World} {g : Nat} {f0 : List Int} {f1 : Int} {f2 : Int} (h : IsS41 w0 W g f0 f1 f2) : g < W.heap.size := by
  obtain ⟨A0, c0, hb, hg, hr0⟩ := h
  exact blk_lt hb
theorem IsS41.ge {w0 W : World} {g : Nat} {f0 : List Int} {f1 : Int} {f2 : Int} (h : IsS41 w0 W g f0 f1 f2) : w0.heap.size ≤ g := by
  obtain ⟨A0, c0, hb, hg, hr0⟩ := h
  exact hg
theorem IsS41.ne_blk {w0 W : World} {g : Nat} {f0 : List Int} {f1 : Int} {f2 : Int} {a : Nat} {cs : Array Value} {t : TypeId} {fr : Nat × Nat} (h : IsS41 w0 W g f0 f1 f2) (hb2 : W.heap[a]? = some (.cells cs t fr)) (ht : t ≠ 41) : g ≠ a := by
  obtain ⟨A0, c0, hb, hg, hr0⟩ := h
  rintro rfl
  rw [hb] at hb2
  injection hb2 with hb2
  injection hb2 with _ ht2
  exact ht ht2.symm
theorem IsS41.far {w0 W : World} {g : Nat} {f0 : List Int} {f1 : Int} {f2 : Int} {p : Addr} (h : IsS41 w0 W g f0 f1 f2) (hne : g ≠ p.block) (u : Value) : IsS41 w0 (W.setCell p u) g f0 f1 f2 := by
  obtain ⟨A0, c0, hb, hg, hr0⟩ := h
  exact ⟨A0, c0, blk_far hb hne u, hg, hr0⟩
theorem cellS41_0 {W : World} {g : Nat} {A0 : Option Addr} {c0 : Nat} {f0 : List Int} {f1 : Int} {f2 : Int} (h : W.heap[g]? = some (.cells #[.slice A0 f0.length c0, .int .i64 f1, .int .i8 f2] 41 (0, 0))) : W.cell? ⟨g, 0, none⟩ = some (.slice A0 f0.length c0) := (blk_cell h 0).trans rfl
theorem cellS41_1 {W : World} {g : Nat} {A0 : Option Addr} {c0 : Nat} {f0 : List Int} {f1 : Int} {f2 : Int} (h : W.heap[g]? = some (.cells #[.slice A0 f0.length c0, .int .i64 f1, .int .i8 f2] 41 (0, 0))) : W.cell? ⟨g, 1, none⟩ = some (.int .i64 f1) := (blk_cell h 1).trans rfl
theorem IsS41.set_1 {w0 W : World} {g : Nat} {f0 : List Int} {f1 : Int} {f2 : Int} (h : IsS41 w0 W g f0 f1 f2) (x : Int) : IsS41 w0 (W.setCell ⟨g, 1, none⟩ (.int .i64 x)) g f0 x f2 := by
  obtain ⟨A0, c0, hb, hg, hr0⟩ := h
  exact ⟨A0, c0, by simpa using blk_set hb 1 (.int .i64 x), hg, hr0⟩
theorem cellS41_2 {W : World} {g : Nat} {A0 : Option Addr} {c0 : Nat} {f0 : List Int} {f1 : Int} {f2 : Int} (h : W.heap[g]? = some (.cells #[.slice A0 f0.length c0, .int .i64 f1, .int .i8 f2] 41 (0, 0))) : W.cell? ⟨g, 2, none⟩ = some (.int .i8 f2) := (blk_cell h 2).trans rfl
theorem IsS41.set_2 {w0 W : World} {g : Nat} {f0 : List Int} {f1 : Int} {f2 : Int} (h : IsS41 w0 W g f0 f1 f2) (x : Int) : IsS41 w0 (W.setCell ⟨g, 2, none⟩ (.int .i8 x)) g f0 f1 x := by
  obtain ⟨A0, c0, hb, hg, hr0⟩ := h
  exact ⟨A0, c0, by simpa using blk_set hb 2 (.int .i8 x), hg, hr0⟩
theorem IsS41.new (w0 W : World) (A0 : Option Addr) (c0 : Nat) (f0 : List Int) (f1 : Int) (f2 : Int) (hB : Below w0.heap.size w0 W) (hr0 : Kd.C (Kd.int .u8) w0 A0 f0.length f0) : IsS41 w0 (W.alloc (.cells #[.slice A0 f0.length c0, .int .i64 f1, .int .i8 f2] 41)) W.heap.size f0 f1 f2 := ⟨A0, c0, by simpa using heap_alloc_new W _, hB.size, hr0⟩

/-! ### bytes_Buffer_Len: function 66 -/
def bytes_Buffer_Len.f (s0_0 : List Int) (s0_1 : Int) (s0_2 : Int) : Option (Int × Int × Int) := some (wrap64 ((s0_0.length : Int) - s0_1), s0_1, s0_2)
set_option maxHeartbeats 8000000 in
set_option maxRecDepth 100000 in
theorem bytes_Buffer_Len.calls (g : Nat) (s0_0 : List Int) (s0_1 : Int) (s0_2 : Int) (r1 : Int) (r2 : Int) (r3 : Int) (w0 w : World) (hI : IsS41 w0 w g s0_0 s0_1 s0_2) (hB : Below w0.heap.size w0 w) (h : bytes_Buffer_Len.f s0_0 s0_1 s0_2 = some (r1, r2, r3)) :
    Calls Tryd.prog 66 #[.pointer (some ⟨g, 0, none⟩)] w fun e w' => e = .returned (.int .i64 r1) ∧ IsS41 w0 w' g s0_0 r2 r3 ∧ Below w0.heap.size w0 w' ∧ KeepBut w w' g none := by
  have HI0 := Aside0.mk hI
  have HK := Aside0.mk (KeepBut.refl w g none)
  have HL := Aside0.mk hB.size
  clear hI
  have HW0 := Aside0.mk hB.size
  have HB := Aside0.mk hB
  clear hB
  have H : (some (wrap64 ((s0_0.length : Int) - s0_1), s0_1, s0_2)) = some (r1, r2, r3) := h
  clear h
  simp only [Option.some.injEq, Prod.mk.injEq] at H
  obtain ⟨rfl, rfl, rfl⟩ := H
  obtain ⟨ASz2_0, cSz2_0, HGz2, hgz2, HSz2_0⟩ := HI0.out
  have hcz2_0 := cellS41_0 HGz2
  have hcz2_1 := cellS41_1 HGz2
  have hcz2_2 := cellS41_2 HGz2
  have hfz2_1 := blk_frozen HGz2 1
  have hfz2_2 := blk_frozen HGz2 2
  clear HGz2 hgz2
  go_enter Tryd.func66, Tryd.ntmps66
  go_wp2
  repeat (go_quiet (fail); try go_wp2)
  go_ret
  exact ⟨by first | rfl | (simp [errW_none, errW_some] <;> rfl) | (simp [*, errW_none, errW_some] <;> rfl), by repeat (first | (with_reducible first | exact HI0.out | apply IsS41.alloc | apply IsS41.drewN | apply IsS41.drew | apply IsS41.set_1 | apply IsS41.set_2) | exact HI0.out), by repeat (first | (with_reducible first | exact HB.out | apply below_alloc | apply pw_below_drewN | apply below_drew1 | refine below_set ?_ (IsS41.ge HI0.out)) | exact HB.out), by repeat (first | (with_reducible first | exact HK.out | apply KeepBut.set_ | apply keep_drewN | apply keep_drew | apply keep_alloc) | exact HK.out)⟩

-- NOT PRINTED: function 67 (bytes_Buffer_Reset)

-- NOT PRINTED: function 68 (bytes_growSlice)

-- NOT PRINTED: function 59 (bytes_Buffer_grow)

-- NOT PRINTED: function 49 (bytes_Buffer_WriteByte)

-- NOT PRINTED: function 42 (btcdwire_binaryFreeList_Borrow)

-- NOT PRINTED: function 44 (btcdwire_binaryFreeList_Return)

-- NOT PRINTED: function 53 (binary_littleEndian_PutUint32)

-- NOT PRINTED: function 72 (binary_littleEndian_PutUint16)

-- NOT PRINTED: function 73 (binary_littleEndian_PutUint64)

-- NOT PRINTED: function 69 (btcdwire_WriteVarIntBuf)

-- NOT PRINTED: function 60 (btcdwire_WriteVarBytesBuf)

-- NOT PRINTED: function 50 (btcdwire_WriteVarBytes)

-- NOT PRINTED: function 74 (errors_New)

-- NOT PRINTED: function 70 (btcdchainhash_Hash_SetBytes)

-- NOT PRINTED: function 61 (btcdchainhash_NewHash)

-- NOT PRINTED: function 51 (btcdchainhash_TaggedHash)

-- NOT PRINTED: function 40 (btcdtxscript_TapLeaf_TapHash)

-- NOT PRINTED: function 62 (bytealg_Compare)

-- NOT PRINTED: function 52 (bytes_Compare)

-- NOT PRINTED: function 41 (btcdtxscript_tapBranchHash)

-- NOT PRINTED: function 28 (btcdtxscript_ControlBlock_RootHash)

-- NOT PRINTED: function 14 (impl_TapRoot)

-- NOT PRINTED: function 4 (laws_FnTapRoot)

end Go.Proofs.YtigpdgfhngknhaaDoor.QFnTapRoot
-- Made by a turned print (own tool turnprint.py over the kit print).
namespace Go.Proofs.YtigpdgfhngknhaaDoor.QFnTapRoot
open Go.RowKit Go.Proofs.YtigpdgfhngknhaaDoorW.PrintWords Go.Proofs.YtigpdgfhngknhaaDoorW.PrintLast Go.Proofs.YtigpdgfhngknhaaDoorW.PrintMore
attribute [local go_sem] nn_mod256 nn_mod65536 nn_mod32 max2_int min2_int max_two min_two max_three min_three max_four min_four   -- for this text's walks alone
set_option linter.unusedVariables false
set_option linter.unusedSimpArgs false

end Go.Proofs.YtigpdgfhngknhaaDoor.QFnTapRoot
/- Four bytes laid down, the least first. -/
namespace Go.Proofs.YtigpdgfhngknhaaDoor.Snk
open Go.RowKit Go.Proofs.YtigpdgfhngknhaaDoorW.PrintWords Go.Proofs.YtigpdgfhngknhaaDoorW.PrintLast Go.Proofs.YtigpdgfhngknhaaDoorW.PrintMore
set_option linter.unusedVariables false
set_option linter.unusedSimpArgs false
def lput4 (l : List Int) (o : Nat) (v : Int) : List Int := ((((l.set o (v % 256)).set (o + 1) ((v / 256) % 256)).set (o + 2) ((v / 65536) % 256)).set (o + 3) ((v / 16777216) % 256))
def le4 (v : Int) : List Int := [v % 256, (v / 256) % 256, (v / 65536) % 256, (v / 16777216) % 256]
theorem lput4_len (l : List Int) (o : Nat) (v : Int) : (lput4 l o v).length = l.length := by unfold lput4; simp only [List.length_set]
theorem lput4_take (l : List Int) (v : Int) (hl : 4 ≤ l.length) : (lput4 l 0 v).take 4 = le4 v := by
  match l, hl with
  | a :: b :: c :: d :: r, _ => rfl
set_option maxRecDepth 100000 in
set_option maxHeartbeats 4000000 in
theorem lput4C (g o n c : Nat) (l : List Int) (t : TypeId) (v : Int) (E : Value) (w : World) (h : w.heap[g]? = some (.cells (byteC l).toArray t (0, 0))) (ho : o + 4 ≤ l.length) (hn : 4 ≤ n) :
    Calls Tryd.prog 53 #[.agg #[], .slice (some ⟨g, o, none⟩) n c, .int .u32 v] w fun e w' => e = .returned (.tuple #[]) ∧ w'.heap[g]? = some (.cells (byteC (lput4 l o v)).toArray t (0, 0)) ∧ Only g w w' := by
  have hn1 : 3 < (n : Int) := by omega
  have GW := Aside0.mk h
  have HO := Aside0.mk ho
  clear h ho
  go_enter Tryd.func53, Tryd.ntmps53
  go_upto_region 1 with fail
  generalize hv0 : World.alloc _ _ = v0
  have O0 : Aside0 (Only g w v0) := ⟨by rw [← hv0]; exact (Only.refl g w).alloc _⟩
  have G0 : Aside0 (v0.heap[g]? = some (.cells (byteC l).toArray t (0, 0))) := ⟨by rw [← hv0]; exact heap_alloc_lt GW.out _⟩
  clear hv0
  have z9 := row_cell G0.out (o + 3) (by have := HO.out; omega)
  go_upto_region 2 with fail
  clear z9
  have z0 := row_cell G0.out (o) (by have := HO.out; (try simp only [List.length_set]); omega)
  have f0 := frozen_of G0.out (o)
  go_upto_region 3 with fail
  generalize hv1 : World.setCell _ _ _ = v1
  have G1 : Aside0 (v1.heap[g]? = some (.cells (byteC (l.set o (v % 256))).toArray t (0, 0))) := ⟨by rw [← hv1]; exact row_set G0.out _ _⟩
  have O1 : Aside0 (Only g w v1) := ⟨by rw [← hv1]; exact O0.out.set _ _⟩
  clear hv1 z0 f0
  have z1 := row_cell G1.out (o + 1) (by have := HO.out; (try simp only [List.length_set]); omega)
  have f1 := frozen_of G1.out (o + 1)
  go_upto_region 4 with fail
  generalize hv2 : World.setCell _ _ _ = v2
  have G2 : Aside0 (v2.heap[g]? = some (.cells (byteC ((l.set o (v % 256)).set (o + 1) ((v / 256) % 256))).toArray t (0, 0))) := ⟨by rw [← hv2]; exact row_set G1.out _ _⟩
  have O2 : Aside0 (Only g w v2) := ⟨by rw [← hv2]; exact O1.out.set _ _⟩
  clear hv2 z1 f1
  have z2 := row_cell G2.out (o + 2) (by have := HO.out; (try simp only [List.length_set]); omega)
  have f2 := frozen_of G2.out (o + 2)
  go_upto_region 5 with fail
  generalize hv3 : World.setCell _ _ _ = v3
  have G3 : Aside0 (v3.heap[g]? = some (.cells (byteC (((l.set o (v % 256)).set (o + 1) ((v / 256) % 256)).set (o + 2) ((v / 65536) % 256))).toArray t (0, 0))) := ⟨by rw [← hv3]; exact row_set G2.out _ _⟩
  have O3 : Aside0 (Only g w v3) := ⟨by rw [← hv3]; exact O2.out.set _ _⟩
  clear hv3 z2 f2
  have z3 := row_cell G3.out (o + 3) (by have := HO.out; (try simp only [List.length_set]); omega)
  have f3 := frozen_of G3.out (o + 3)
  go_wp2_with fail
  go_end0
  exact ⟨rfl, row_set G3.out _ _, O3.out.set _ _⟩
end Go.Proofs.YtigpdgfhngknhaaDoor.Snk
/- What bytes are written to, behind an interface. -/
namespace Go.Proofs.YtigpdgfhngknhaaDoor.Snk
open Go.RowKit Go.Proofs.YtigpdgfhngknhaaDoorW.PrintWords Go.Proofs.YtigpdgfhngknhaaDoorW.PrintLast
set_option linter.unusedVariables false
/-- A method value's test for nil. -/
def NilNot (P : Program) (t : TypeId) (v : Value) (name : String) : Prop := ∀ n w, (nilAhead (n + 1) t v name).run P w = .ok (some false) w
theorem nil_run {P : Program} {t : TypeId} {v : Value} {name : String} (h : NilNot P t v name) (w : World) {ρ : Operand → Value} {o : Oper} (x : Operand) (ho : o.op = .nilCheck x) (hx : ρ x = .func (.method name) #[.iface t v] #[]) : (execOp ρ o).run P w = .ok (.value (.func (.method name) #[.iface t v] #[])) w := by
  have h0 : 0 < P.types.size + Made.depth := Nat.lt_of_lt_of_le (show 0 < Made.depth by decide) (Nat.le_add_left _ _)
  obtain ⟨n, hn⟩ : ∃ n, P.types.size + Made.depth = n + 1 := ⟨P.types.size + Made.depth - 1, by omega⟩
  have h1 := h n w
  rw [← hn] at h1
  unfold execOp
  rw [ho]
  show Sem.run _ (match ρ x with | .pointer none | .nilIface | .nilFunc => _ | .func (.method name) first captured => _ | x => _) w = _
  rw [hx]
  simp [h1, Result.andThen]
/-- Things to which bytes can be written: T its type, v the value, f the type's Write. w0: the world ahead of them all. M: how much they take. -/
structure Sink (P : Program) (w0 : World) (T : TypeId) (v : Value) (f : FuncId) (M : Nat) where
  St : World → List Int → Prop
  own : World → Nat → Prop
  meth : Meth P T v "Write" f v
  nil : NilNot P T v "Write"
  below : ∀ {w bs}, St w bs → Below w0.heap.size w0 w
  fresh : ∀ {w bs k}, St w bs → own w k → w0.heap.size ≤ k ∧ k < w.heap.size
  stay : ∀ {w bs w'}, St w bs → Below w0.heap.size w0 w' → (∀ k, own w k → w'.heap[k]? = w.heap[k]?) → St w' bs ∧ ∀ k, own w' k → own w k
  write : ∀ {w bs} {p : List Int} {A : Option Addr} {c n : Nat}, St w bs → p.length = n → bs.length + n ≤ M → n ≤ c → ReadsInt w .u8 A n p → (0 < n → ∀ a, A = some a → ¬ own w a.block) →
    Calls P f #[v, .slice A n c] w fun e w' => e = .returned (.tuple #[.int .i64 (n : Int), .nilIface]) ∧ St w' (bs ++ p) ∧ (w'.os = w.os ∧ w'.tape = w.tape ∧ w'.output = w.output ∧ w.heap.size ≤ w'.heap.size ∧ (∀ k, k < w.heap.size → ¬ own w k → w'.heap[k]? = w.heap[k]?) ∧ ∀ k, own w' k → own w k ∨ w.heap.size ≤ k)
section
variable {P : Program} {w0 : World} {T : TypeId} {v : Value} {f : FuncId} {M : Nat} (S : Sink P w0 T v f M)
/-- What a writer may turn: the sink's own blocks, and what is new. -/
structure Step (w w' : World) : Prop where
  os : w'.os = w.os
  tape : w'.tape = w.tape
  output : w'.output = w.output
  size : w.heap.size ≤ w'.heap.size
  block : ∀ k, k < w.heap.size → ¬ S.own w k → w'.heap[k]? = w.heap[k]?
  grow : ∀ k, S.own w' k → S.own w k ∨ w.heap.size ≤ k
variable {S}
theorem Step.refl (w : World) : Step S w w := ⟨rfl, rfl, rfl, Nat.le_refl _, fun _ _ _ => rfl, fun _ h => .inl h⟩
theorem Step.trans {w w1 w2 : World} (h : Step S w w1) (k : Step S w1 w2) : Step S w w2 :=
  ⟨k.os.trans h.os, k.tape.trans h.tape, k.output.trans h.output, Nat.le_trans h.size k.size, fun i hi ho => (k.block i (Nat.lt_of_lt_of_le hi h.size) (fun hh => (h.grow i hh).elim ho (fun h1 => Nat.not_le.2 hi h1))).trans (h.block i hi ho), fun i hi => by
    rcases k.grow i hi with h1 | h1
    · exact h.grow i h1
    · exact .inr (Nat.le_trans h.size h1)⟩
theorem below_step {w w1 : World} {bs : List Int} (hs : S.St w bs) (hb : Below w.heap.size w w1) : S.St w1 bs ∧ Step S w w1 := by
  have h := S.stay hs ((S.below hs).trans ⟨hb.os, hb.tape, hb.output, hb.size, fun k hk => hb.block k (Nat.lt_of_lt_of_le hk (S.below hs).size)⟩) (fun k hk => hb.block k (S.fresh hs hk).2)
  exact ⟨h.1, hb.os, hb.tape, hb.output, hb.size, fun k hk _ => hb.block k hk, fun k hk => .inl (h.2 k hk)⟩
theorem below_own {w w1 : World} {bs : List Int} (hs : S.St w bs) (hb : Below w.heap.size w w1) (k : Nat) (h : S.own w1 k) : S.own w k :=
  (S.stay hs ((S.below hs).trans ⟨hb.os, hb.tape, hb.output, hb.size, fun k hk => hb.block k (Nat.lt_of_lt_of_le hk (S.below hs).size)⟩) (fun k hk => hb.block k (S.fresh hs hk).2)).2 k h
/-- A block of one's own, made behind wE, turns. -/
theorem only_step {wE w w1 : World} {bs : List Int} {g : Nat} (hs : S.St w bs) (hE : Step S wE w) (hg : wE.heap.size ≤ g) (hg0 : w0.heap.size ≤ g) (hn : ¬ S.own w g) (ho : Only g w w1) : S.St w1 bs ∧ Step S wE w1 ∧ ¬ S.own w1 g := by
  have h := S.stay hs ((S.below hs).trans ⟨ho.os, ho.tape, ho.output, ho.size, fun k hk => ho.block k (Nat.lt_of_lt_of_le hk (S.below hs).size) (by omega)⟩) (fun k hk => ho.block k (S.fresh hs hk).2 (fun e => hn (e ▸ hk)))
  exact ⟨h.1, ⟨ho.os.trans hE.os, ho.tape.trans hE.tape, ho.output.trans hE.output, Nat.le_trans hE.size ho.size, fun k hk hk2 => (ho.block k (Nat.lt_of_lt_of_le hk hE.size) (by omega)).trans (hE.block k hk hk2), fun k hk => hE.grow k (h.2 k hk)⟩, fun hh => hn (h.2 g hh)⟩
/-- A block that is not the sink's stays. -/
theorem Step.kept {w w1 : World} {g : Nat} {x : Obj} (h : Step S w w1) (hn : ¬ S.own w g) (hx : w.heap[g]? = some x) : w1.heap[g]? = some x ∧ ¬ S.own w1 g :=
  ⟨(h.block g (blk_lt' hx) hn).trans hx, fun hh => (h.grow g hh).elim hn (fun h1 => Nat.not_le.2 (blk_lt' hx) h1)⟩
theorem Sink.writeC (S : Sink P w0 T v f M) {w : World} {bs p : List Int} {A : Option Addr} {c n : Nat} (hs : S.St w bs) (hp : p.length = n) (hM : bs.length + n ≤ M) (hc : n ≤ c) (hr : ReadsInt w .u8 A n p) (ho : 0 < n → ∀ a, A = some a → ¬ S.own w a.block) :
    Calls P f #[v, .slice A n c] w fun e w' => e = .returned (.tuple #[.int .i64 (n : Int), .nilIface]) ∧ S.St w' (bs ++ p) ∧ Step S w w' :=
  (S.write hs hp hM hc hr ho).mono fun e w' ⟨h1, h2, h3, h4, h5, h6, h7, h8⟩ => ⟨h1, h2, h3, h4, h5, h6, h7, h8⟩
end
end Go.Proofs.YtigpdgfhngknhaaDoor.Snk
