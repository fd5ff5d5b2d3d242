/- Words of my own: a call that turns one block only; facts that stay. -/
import Derived.Test.YtdheoajaaofmbaaWWords
import Derived.Test.YtdheoajaaofmbaaWMore
import Derived.Test.YtdheoajaaofmbaaWLast
import Derived.Test.YtdheoajaaofmbaaWShare
import Derived.WalkKit
import Derived.WalkSpells
import Derived.WalkLawsBesides
import Derived.KernelRfl
namespace Go.Proofs.YtdheoajaaofmbaaW.PrintWords
open Go.RowKit
set_option linter.unusedVariables false
section
variable {P : Program} {ops : Array Oper} {rest : List Oper} {o : Oper} {a : Act} {w w' : World} {Q : Exit → Act → World → Prop}
/-- An operation that yields a value. -/
theorem wpList_run (hg : o.guard = none) (v : Value) (hr : (execOp a.eval o).run P w = .ok (.value v) w') (h : wpList P ops Q rest (a.put o.dst v) w') : wpList P ops Q (o :: rest) a w :=
  wpList_plain hg fun K hK => by
    show Oper.upon P o a K Q _
    rw [hr]
    exact hK _ _ h
/-- A store. -/
theorem wpList_skip_ (hg : o.guard = none) (hd : o.dst = none) (hr : (execOp a.eval o).run P w = .ok .skip w') (h : wpList P ops Q rest a w') : wpList P ops Q (o :: rest) a w :=
  wpList_plain hg fun K hK => by
    show Oper.upon P o a K Q _
    rw [hr]
    show K (a.put o.dst undef) w'
    rw [hd]
    exact hK _ _ h
theorem at_dst {N : Nat} (_h : o.dst = some N) (h : wpList P ops Q (o :: rest) a w) : wpList P ops Q (o :: rest) a w := h
theorem at_pos {s : String} (_h : o.pos = s) (h : wpList P ops Q (o :: rest) a w) : wpList P ops Q (o :: rest) a w := h
end
/-- Of the blocks that were, at most g has turned. -/
structure Only (g : Nat) (w w' : World) : Prop where
  os : w'.os = w.os
  tape : w'.tape = w.tape
  output : w'.output = w.output
  size : w.heap.size ≤ w'.heap.size
  block : ∀ k, k < w.heap.size → k ≠ g → w'.heap[k]? = w.heap[k]?
namespace Only
variable {g : Nat} {w w1 w2 : World}
theorem refl (g : Nat) (w : World) : Only g w w := ⟨rfl, rfl, rfl, Nat.le_refl _, fun _ _ _ => rfl⟩
theorem trans (h : Only g w w1) (k : Only g w1 w2) : Only g w w2 :=
  ⟨k.os.trans h.os, k.tape.trans h.tape, k.output.trans h.output, Nat.le_trans h.size k.size, fun i hi hg => (k.block i (Nat.lt_of_lt_of_le hi h.size) hg).trans (h.block i hi hg)⟩
theorem of_below (h : Below w.heap.size w w1) : Only g w w1 := ⟨h.os, h.tape, h.output, h.size, fun k hk _ => h.block k hk⟩
theorem set (h : Only g w w1) (j : Nat) (u : Value) : Only g w (w1.setCell ⟨g, j, none⟩ u) :=
  ⟨h.os, h.tape, h.output, by simpa [World.setCell] using h.size, fun k hk hg => (Below.heap_setCell w1 ⟨g, j, none⟩ u k hg).trans (h.block k hk hg)⟩
/-- A store into a block that was made meanwhile. -/
theorem setNew (h : Only g w w1) {p : Addr} (hp : w.heap.size ≤ p.block) (u : Value) : Only g w (w1.setCell p u) :=
  ⟨h.os, h.tape, h.output, by simpa [World.setCell] using h.size, fun k hk hg => (Below.heap_setCell w1 p u k (by omega)).trans (h.block k hk hg)⟩
theorem alloc (h : Only g w w1) (o : Obj) : Only g w (w1.alloc o) :=
  ⟨h.os, h.tape, h.output, by have := h.size; simp; omega, fun k hk hg => (Below.heap_alloc w1 o k (Nat.lt_of_lt_of_le hk h.size)).trans (h.block k hk hg)⟩
theorem drew (h : Only g w w1) : Only g w w1.drew := ⟨h.os, h.tape, h.output, h.size, h.block⟩
theorem drewN (h : Only g w w1) (n : Nat) : Only g w (w1.drewN n) := ⟨h.os, h.tape, h.output, h.size, h.block⟩
theorem step (h : Only g w w1) (k : Below w1.heap.size w1 w2) : Only g w w2 := h.trans (of_below k)
theorem below {B : Nat} {w0 : World} (h : Only g w w1) (hb : Below B w0 w) (hg : B ≤ g) (hs : B ≤ w.heap.size) : Below B w0 w1 :=
  hb.trans ⟨h.os, h.tape, h.output, h.size, fun k hk => h.block k (by omega) (by omega)⟩
theorem keep (h : Only g w w1) : KeepBut w w1 g none := ⟨h.size, fun i hi hg _ => h.block i hi hg⟩
theorem cell (h : Only g w w1) {p : Addr} (hp : p.block ≠ g) {v : Value} (hv : w.cell? p = some v) : w1.cell? p = some v :=
  (World.cell?_of_block (w := w) (h.block p.block (World.block_lt_of_cell? w _ hv) hp)).trans hv
end Only
theorem blk_lt0_ {w : World} {g : Nat} {x : Obj} (h : w.heap[g]? = some x) : g < w.heap.size := by
  rcases Nat.lt_or_ge g w.heap.size with h1 | h1
  · exact h1
  · rw [Array.getElem?_eq_none h1] at h; cases h
namespace Kd
variable {α : Type} {d : Kd α} {e base : Nat} {ok : Nat → Prop} {w w1 : World} {v : Value} {xs : List α} {g : Nat}
theorem V_only (h : V d e w base ok v xs) (ho : Only g w w1) (hok : ∀ k, ok k → k ≠ g) : V d e w1 base ok v xs := V_step h (fun k hk hlt => ho.block k hlt (hok k hk))
theorem V_any {e' base' : Nat} (h : V d e w base ok v xs) : V d e' w base' ok v xs := h
theorem V_reads (h : V d e w base ok v xs) : ∃ A c, v = .slice A xs.length c ∧ xs.length ≤ c ∧ d.C w A xs.length xs := by
  obtain ⟨A, c, rfl, hl, hf⟩ := h
  exact ⟨A, c, rfl, hl, F_now hf⟩
/-- A row that has a block begins at its head. -/
theorem R_first_ {b : Nat} (h : d.R e w base ok v xs) (hb : v.ownBlock = some b) : ∃ cap, v = .slice (some ⟨b, 0, none⟩) xs.length cap ∧ xs.length ≤ cap ∧ base ≤ b ∧ b < w.heap.size ∧ ∃ cells, w.heap[b]? = some (.cells cells e (0, 0)) := by
  obtain ⟨h0, inner, ho, hr⟩ := h
  have ht := own_typed ho b hb
  rcases ho.2 with ⟨rfl, _⟩ | ⟨g, cap, cur, rfl, hg, hh, hl, r⟩
  · simp [Value.ownBlock] at hb
  · have : g = b := by simpa [Value.ownBlock] using hb
    subst this
    exact ⟨cap, rfl, hl, hg, blk_lt0_ hh, cur, hh⟩
end Kd
theorem heap_set_same {w : World} {g j : Nat} {cs : Array Value} {t : TypeId} {fr : Nat × Nat} (h : w.heap[g]? = some (.cells cs t fr)) (u : Value) :
    (w.setCell ⟨g, j, none⟩ u).heap[g]? = some (.cells (cs.setIfInBounds j u) t fr) := by
  simp [World.setCell, Array.getElem?_modify, h]
theorem heap_alloc_lt {w : World} {g : Nat} {x : Obj} (h : w.heap[g]? = some x) (o : Obj) : (w.alloc o).heap[g]? = some x := by
  have hlt : g < w.heap.size := by
    rcases Nat.lt_or_ge g w.heap.size with h1 | h1
    · exact h1
    · rw [Array.getElem?_eq_none h1] at h; cases h
  rw [Below.heap_alloc w o g hlt]; exact h
theorem blk_lt' {w : World} {g : Nat} {x : Obj} (h : w.heap[g]? = some x) : g < w.heap.size := by
  rcases Nat.lt_or_ge g w.heap.size with h1 | h1
  · exact h1
  · rw [Array.getElem?_eq_none h1] at h; cases h
theorem cell_of {w : World} {g j : Nat} {cs : Array Value} {t : TypeId} {fr : Nat × Nat} {v : Value} (h : w.heap[g]? = some (.cells cs t fr)) (hv : cs[j]? = some v) : w.cell? ⟨g, j, none⟩ = some v := by
  simp [World.cell?, h, hv]
theorem frozen_of {w : World} {g : Nat} {cs : Array Value} {t : TypeId} (h : w.heap[g]? = some (.cells cs t (0, 0))) (j : Nat) : w.frozen? ⟨g, j, none⟩ = false := by
  simp [World.frozen?, h]
end Go.Proofs.YtdheoajaaofmbaaW.PrintWords
