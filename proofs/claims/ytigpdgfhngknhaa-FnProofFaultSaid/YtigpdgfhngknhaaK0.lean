/- Words of my own: a call that turns one block only; facts that stay. -/
import Derived.Test.YtigpdgfhngknhaaWWords
import Derived.Test.YtigpdgfhngknhaaWMore
import Derived.Test.YtigpdgfhngknhaaWLast
import Derived.Test.YtigpdgfhngknhaaWShare
import Derived.WalkKit
import Derived.WalkSpells
import Derived.WalkLawsBesides
import Derived.KernelRfl
import Derived.Test.YtigpdgfhngknhaaProg
import Derived.Below
import Derived.Deep.Draws
import Derived.Deep.AppendLies
import Derived.Maps.AppendAt
import Derived.OwnWalk
import Derived.Laws.BytesArg
import Derived.Laws.MakeOwn
import Derived.Laws.OwnMore
import Derived.Deep.OwnRows
import Derived.Tactics
import Derived.Lib.ConvBytes
import Derived.Laws.Slices
import Derived.RowKit3
import Derived.Deep.LoopGhost
import Derived.Deep.QuietTactic
import Derived.BigQuiet
import Derived.WideLaws
import Derived.Deep.DeepCutAuto
import Derived.Deep.CutBlock
import Derived.Deep.RegionHeld3
import Derived.Laws.Rows
import Derived.Lib.AppendStr
import Derived.ArgAppend
import Derived.Laws.IdiomCopy
import Derived.OrdersHeld
import Derived.Laws.BitsLemmas
import Derived.RowKit
import Derived.Test.YtigpdgfhngknhaaWTab
import Derived.Test.YtigpdgfhngknhaaWFour
import Derived.Test.YtigpdgfhngknhaaWQPut
import Derived.Test.YtigpdgfhngknhaaWApart
import Derived.Test.YtigpdgfhngknhaaWArr
import Derived.Test.YtigpdgfhngknhaaWZeros
import Derived.Test.YtigpdgfhngknhaaWFoot
import Derived.Test.YtigpdgfhngknhaaWKept
import Derived.Test.YtigpdgfhngknhaaWN
import Derived.Test.YtigpdgfhngknhaaWFootNe
import Derived.Test.YtigpdgfhngknhaaWAt
import Derived.Test.YtigpdgfhngknhaaWEqStruct
import Derived.Test.YtigpdgfhngknhaaWRepsOne
import Derived.Test.YtigpdgfhngknhaaWInv
import Derived.Test.YtigpdgfhngknhaaWInvWords
import Derived.Test.YtigpdgfhngknhaaWGuard
import Derived.Test.YtigpdgfhngknhaaWNEv
namespace Go.Proofs.YtigpdgfhngknhaaW.PrintWords
open Go.RowKit
set_option linter.unusedVariables false
section
variable {P : Program} {ops : Array Oper} {rest : List Oper} {o : Oper} {a : Act} {w w' : World} {Q : Exit → Act → World → Prop}
/-- An operation that yields a value. -/
theorem wpList_run (hg : o.guard = none) (v : Value) (hr : (execOp a.eval o).run P w = .ok (.value v) w') (h : wpList P ops Q rest (a.put o.dst v) w') : wpList P ops Q (o :: rest) a w :=
  wpList_plain hg fun K hK => by
    show Oper.upon P o a K Q _
    rw [hr]
    exact hK _ _ h
/-- A store. -/
theorem wpList_skip_ (hg : o.guard = none) (hd : o.dst = none) (hr : (execOp a.eval o).run P w = .ok .skip w') (h : wpList P ops Q rest a w') : wpList P ops Q (o :: rest) a w :=
  wpList_plain hg fun K hK => by
    show Oper.upon P o a K Q _
    rw [hr]
    show K (a.put o.dst undef) w'
    rw [hd]
    exact hK _ _ h
theorem at_dst {N : Nat} (_h : o.dst = some N) (h : wpList P ops Q (o :: rest) a w) : wpList P ops Q (o :: rest) a w := h
theorem at_pos {s : String} (_h : o.pos = s) (h : wpList P ops Q (o :: rest) a w) : wpList P ops Q (o :: rest) a w := h
end
/-- Of the blocks that were, at most g has turned. -/
structure Only (g : Nat) (w w' : World) : Prop where
  os : w'.os = w.os
  tape : w'.tape = w.tape
  output : w'.output = w.output
  size : w.heap.size ≤ w'.heap.size
  block : ∀ k, k < w.heap.size → k ≠ g → w'.heap[k]? = w.heap[k]?
namespace Only
variable {g : Nat} {w w1 w2 : World}
theorem refl (g : Nat) (w : World) : Only g w w := ⟨rfl, rfl, rfl, Nat.le_refl _, fun _ _ _ => rfl⟩
theorem trans (h : Only g w w1) (k : Only g w1 w2) : Only g w w2 :=
  ⟨k.os.trans h.os, k.tape.trans h.tape, k.output.trans h.output, Nat.le_trans h.size k.size, fun i hi hg => (k.block i (Nat.lt_of_lt_of_le hi h.size) hg).trans (h.block i hi hg)⟩
theorem of_below (h : Below w.heap.size w w1) : Only g w w1 := ⟨h.os, h.tape, h.output, h.size, fun k hk _ => h.block k hk⟩
theorem set (h : Only g w w1) (j : Nat) (u : Value) : Only g w (w1.setCell ⟨g, j, none⟩ u) :=
  ⟨h.os, h.tape, h.output, by simpa [World.setCell] using h.size, fun k hk hg => (Below.heap_setCell w1 ⟨g, j, none⟩ u k hg).trans (h.block k hk hg)⟩
/-- A store into a block that was made meanwhile. -/
theorem setNew (h : Only g w w1) {p : Addr} (hp : w.heap.size ≤ p.block) (u : Value) : Only g w (w1.setCell p u) :=
  ⟨h.os, h.tape, h.output, by simpa [World.setCell] using h.size, fun k hk hg => (Below.heap_setCell w1 p u k (by omega)).trans (h.block k hk hg)⟩
theorem alloc (h : Only g w w1) (o : Obj) : Only g w (w1.alloc o) :=
  ⟨h.os, h.tape, h.output, by have := h.size; simp; omega, fun k hk hg => (Below.heap_alloc w1 o k (Nat.lt_of_lt_of_le hk h.size)).trans (h.block k hk hg)⟩
theorem drew (h : Only g w w1) : Only g w w1.drew := ⟨h.os, h.tape, h.output, h.size, h.block⟩
theorem drewN (h : Only g w w1) (n : Nat) : Only g w (w1.drewN n) := ⟨h.os, h.tape, h.output, h.size, h.block⟩
theorem step (h : Only g w w1) (k : Below w1.heap.size w1 w2) : Only g w w2 := h.trans (of_below k)
theorem below {B : Nat} {w0 : World} (h : Only g w w1) (hb : Below B w0 w) (hg : B ≤ g) (hs : B ≤ w.heap.size) : Below B w0 w1 :=
  hb.trans ⟨h.os, h.tape, h.output, h.size, fun k hk => h.block k (by omega) (by omega)⟩
theorem keep (h : Only g w w1) : KeepBut w w1 g none := ⟨h.size, fun i hi hg _ => h.block i hi hg⟩
theorem cell (h : Only g w w1) {p : Addr} (hp : p.block ≠ g) {v : Value} (hv : w.cell? p = some v) : w1.cell? p = some v :=
  (World.cell?_of_block (w := w) (h.block p.block (World.block_lt_of_cell? w _ hv) hp)).trans hv
end Only
theorem blk_lt0_ {w : World} {g : Nat} {x : Obj} (h : w.heap[g]? = some x) : g < w.heap.size := by
  rcases Nat.lt_or_ge g w.heap.size with h1 | h1
  · exact h1
  · rw [Array.getElem?_eq_none h1] at h; cases h
namespace Kd
variable {α : Type} {d : Kd α} {e base : Nat} {ok : Nat → Prop} {w w1 : World} {v : Value} {xs : List α} {g : Nat}
theorem V_only (h : V d e w base ok v xs) (ho : Only g w w1) (hok : ∀ k, ok k → k ≠ g) : V d e w1 base ok v xs := V_step h (fun k hk hlt => ho.block k hlt (hok k hk))
theorem V_any {e' base' : Nat} (h : V d e w base ok v xs) : V d e' w base' ok v xs := h
theorem V_reads (h : V d e w base ok v xs) : ∃ A c, v = .slice A xs.length c ∧ xs.length ≤ c ∧ d.C w A xs.length xs := by
  obtain ⟨A, c, rfl, hl, hf⟩ := h
  exact ⟨A, c, rfl, hl, F_now hf⟩
/-- A row that has a block begins at its head. -/
theorem R_first_ {b : Nat} (h : d.R e w base ok v xs) (hb : v.ownBlock = some b) : ∃ cap, v = .slice (some ⟨b, 0, none⟩) xs.length cap ∧ xs.length ≤ cap ∧ base ≤ b ∧ b < w.heap.size ∧ ∃ cells, w.heap[b]? = some (.cells cells e (0, 0)) := by
  obtain ⟨h0, inner, ho, hr⟩ := h
  have ht := own_typed ho b hb
  rcases ho.2 with ⟨rfl, _⟩ | ⟨g, cap, cur, rfl, hg, hh, hl, r⟩
  · simp [Value.ownBlock] at hb
  · have : g = b := by simpa [Value.ownBlock] using hb
    subst this
    exact ⟨cap, rfl, hl, hg, blk_lt0_ hh, cur, hh⟩
end Kd
theorem heap_set_same {w : World} {g j : Nat} {cs : Array Value} {t : TypeId} {fr : Nat × Nat} (h : w.heap[g]? = some (.cells cs t fr)) (u : Value) :
    (w.setCell ⟨g, j, none⟩ u).heap[g]? = some (.cells (cs.setIfInBounds j u) t fr) := by
  simp [World.setCell, Array.getElem?_modify, h]
theorem heap_alloc_lt {w : World} {g : Nat} {x : Obj} (h : w.heap[g]? = some x) (o : Obj) : (w.alloc o).heap[g]? = some x := by
  have hlt : g < w.heap.size := by
    rcases Nat.lt_or_ge g w.heap.size with h1 | h1
    · exact h1
    · rw [Array.getElem?_eq_none h1] at h; cases h
  rw [Below.heap_alloc w o g hlt]; exact h
theorem blk_lt' {w : World} {g : Nat} {x : Obj} (h : w.heap[g]? = some x) : g < w.heap.size := by
  rcases Nat.lt_or_ge g w.heap.size with h1 | h1
  · exact h1
  · rw [Array.getElem?_eq_none h1] at h; cases h
theorem cell_of {w : World} {g j : Nat} {cs : Array Value} {t : TypeId} {fr : Nat × Nat} {v : Value} (h : w.heap[g]? = some (.cells cs t fr)) (hv : cs[j]? = some v) : w.cell? ⟨g, j, none⟩ = some v := by
  simp [World.cell?, h, hv]
theorem frozen_of {w : World} {g : Nat} {cs : Array Value} {t : TypeId} (h : w.heap[g]? = some (.cells cs t (0, 0))) (j : Nat) : w.frozen? ⟨g, j, none⟩ = false := by
  simp [World.frozen?, h]
end Go.Proofs.YtigpdgfhngknhaaW.PrintWords
/- Words beside the print's: an empty row made with a capacity of its own. -/
namespace Go.Proofs.YtigpdgfhngknhaaW.PrintWords
open Go.RowKit
theorem nn_mod256 (x : Int) : ((0 : Int) ≤ x % 256) = True := eq_true (Int.emod_nonneg _ (by decide))
theorem nn_mod65536 (x : Int) : ((0 : Int) ≤ x % 65536) = True := eq_true (Int.emod_nonneg _ (by decide))
theorem nn_mod32 (x : Int) : ((0 : Int) ≤ x % 4294967296) = True := eq_true (Int.emod_nonneg _ (by decide))
namespace Kd
section
variable {P : Program} {ops : Array Oper} {rest : List Oper} {o : Oper} {a : Act} {Q : Exit → Act → World → Prop} {α : Type}
theorem R_makecap (d : Kd α) {w0 W : World} (base e : Nat) (hgd : o.guard = none) {N : Tmp} (_hd : o.dst = some N) (t : TypeId) (x y : Operand) (ho : o.op = .makeSlice t x y) (n : Int) (hx : a.eval x = .int .i64 0) (hy : a.eval y = .int .i64 n)
    (ht : P.underlying t = some (.slice e)) (z : Value) (bytes : Nat) (hinfo : (P.info? e).map (fun i => (i.zero, i.size, i.bytes)) = some (some z, d.sz, bytes)) (_hz : z.cells.size = d.sz) (_hs0 : 0 < d.sz) (hb0 : 0 < bytes)
    (z0 : α) {ok okp : Nat → Prop} (_hzero : d.M W base okp z0 z.cells.toList) (_hok : ∀ k, okp k → ok k) (hfresh : ok W.heap.size) (h0 : 0 ≤ n) (hl : n.toNat * bytes ≤ 281474976710656) (HB : Below base w0 W) (hbase : base ≤ W.heap.size)
    (h : ∀ v1 w1, d.R e w1 base ok v1 (List.replicate 0 z0) → Below base w0 w1 → W.grownBy w1 none → (∃ b, v1.ownBlock = some b ∧ W.heap.size ≤ b) → wpList P ops Q rest (a.put o.dst v1) w1) : wpList P ops Q (o :: rest) a W := by
  obtain ⟨m, rfl⟩ := Int.eq_ofNat_of_zero_le h0
  simp only [Int.toNat_natCast] at hl
  obtain ⟨i0, hi, hzz⟩ := Option.map_eq_some_iff.1 hinfo
  simp only [Prod.mk.injEq] at hzz
  obtain ⟨hz0, hz1, hz2⟩ := hzz
  have hm : m ≤ 281474976710656 := Nat.le_trans (Nat.le_mul_of_pos_right _ hb0) hl
  refine wpList_make_own W hgd x y t ho base e i0 z d.sz ht hi hz0 hz1 .i64 .i64 (m : Int) m hx hy rfl (by rw [hz2, Nat.mul_comm]; exact hl) (by unfold maxLen; omega) hbase (fun w1 hown hg => ?_)
  exact h _ w1 ⟨fun k hk => by simp [Value.ownBlock] at hk; subst hk; exact hfresh, [], hown, Reps.none _ _⟩ (HB.grown hg hbase (fun k hk => by cases hk)) hg ⟨W.heap.size, rfl, Nat.le_refl _⟩
end
end Kd
end Go.Proofs.YtigpdgfhngknhaaW.PrintWords
-- Made by a turned print (own tool turnprint.py over the kit print).
namespace Go.Proofs.Ytigpdgfhngknhaa.QFnProofFault
open Go.RowKit Go.Proofs.YtigpdgfhngknhaaW.PrintWords Go.Proofs.YtigpdgfhngknhaaW.PrintLast Go.Proofs.YtigpdgfhngknhaaW.PrintMore
attribute [local go_sem] nn_mod256 nn_mod65536 nn_mod32 max2_int min2_int max_two min_two max_three min_three max_four min_four   -- for this text's walks alone
set_option linter.unusedVariables false
set_option linter.unusedSimpArgs false



def errW : Option Int → Value
  | none => .nilIface
  | some c => .iface (c.toNat + 0 * 0) (.agg #[])
theorem errW_none : errW none = .nilIface := rfl
theorem errW_some (c : Int) : errW (some c) = .iface (c.toNat + 0 * 0) (.agg #[]) := rfl

theorem info5 : (Try.prog.info? 5).map (fun i => (i.zero, i.size, i.bytes)) = some (some (.int .u8 0), 1, 1) := by kernel_rfl
theorem info23 : (Try.prog.info? 23).map (fun i => (i.zero, i.size, i.bytes)) = some (some (.int .u32 0), 1, 4) := by kernel_rfl
theorem info26 : (Try.prog.info? 26).map (fun i => (i.zero, i.size, i.bytes)) = some (some (.slice none 0 0), 1, 24) := by kernel_rfl
-- the values' own types
def rd_L2 (xs : List (List Int)) (i : Int) : (List Int) := xs.getD i.toNat ([] : List Int)
theorem at_L2 {w : World} {A : Option Addr} {n : Nat} {xs : List (List Int)} (h : Kd.C (Kd.slice 5 (Kd.int .u8)) w A n xs) (i : Int) (h0 : 0 ≤ i) (h1 : i < n) : ∃ ad A0 c0, A = some ad ∧ w.cell? (ad.add i.toNat) = some (.slice A0 (rd_L2 xs i).length c0) ∧ (rd_L2 xs i).length ≤ c0 ∧ (Kd.int .u8).C w A0 (rd_L2 xs i).length (rd_L2 xs i) := by
  obtain ⟨ad, c, e, _, hK, hc0⟩ := Kd.C_get h ([] : List Int) i h0 h1
  have hc : ∀ j u, c[j]? = some u → w.cell? (ad.add (i.toNat * 1 + j)) = some u := hc0
  obtain ⟨A0, c0, rfl, l0, g0⟩ := hK
  exact ⟨ad, A0, c0, e, by have hq := hc 0 _ rfl; rwa [Nat.mul_one, Nat.add_zero] at hq, l0, g0⟩

end Go.Proofs.Ytigpdgfhngknhaa.QFnProofFault
-- Made by a turned print (own tool turnprint.py over the kit print).
namespace Go.Proofs.Ytigpdgfhngknhaa.QFnProofFault
open Go.RowKit Go.Proofs.YtigpdgfhngknhaaW.PrintWords Go.Proofs.YtigpdgfhngknhaaW.PrintLast Go.Proofs.YtigpdgfhngknhaaW.PrintMore
attribute [local go_sem] nn_mod256 nn_mod65536 nn_mod32 max2_int min2_int max_two min_two max_three min_three max_four min_four   -- for this text's walks alone
set_option linter.unusedVariables false
set_option linter.unusedSimpArgs false

/-! ### laws_great: function 4 -/
def laws_great.f (l0 : List Int) (a1 : Int) : Option (Bool) := if (l0.length : Int) ≤ a1 then (if (l0.length : Int) = 0 then (some true) else (if 0 < (l0.length : Int) then (some ((rd l0 0) != 0)) else (none))) else (some false)
set_option maxHeartbeats 8000000 in
set_option maxRecDepth 100000 in
theorem laws_great.calls (A0 : Option Addr) (c0 : Nat) (l0 : List Int) (a1 : Int) (r : Bool) (w : World) (hr0 : Kd.C (Kd.int .u8) w A0 l0.length l0) (hc0 : l0.length ≤ c0) (h : laws_great.f l0 a1 = some r) :
    Calls Try.prog 4 #[.slice A0 l0.length c0, .int .i64 a1] w fun e w' => e = .returned (.bool r) ∧ Drawn0 w w' := by
  have HR0 := Aside0.mk hr0
  have HC0 := Aside0.mk hc0
  clear hr0 hc0
  have H : (if (l0.length : Int) ≤ a1 then (if (l0.length : Int) = 0 then (some true) else (if 0 < (l0.length : Int) then (some ((rd l0 0) != 0)) else (none))) else (some false)) = some r := h
  clear h
  by_cases c3 : (l0.length : Int) ≤ a1
  · rw [if_pos c3] at H
    have c3b0 : decide ((l0.length : Int) ≤ a1) = true := decide_eq_true c3
    clear c3
    by_cases c4 : (l0.length : Int) = 0
    · rw [if_pos c4] at H
      have c4b0 : ((l0.length : Int) == 0) = true := beq_iff_eq.mpr c4
      have c4b1 : ((l0.length : Int) != 0) = false := bne_eq_false_iff_eq.mpr c4
      clear c4
      obtain rfl := Option.some.inj H
      go_enter Try.func4, Try.ntmps4
      go_wp2
      go_ret
      exact ⟨by first | rfl | (simp; done) | (simp [*]; done), by repeat (first | exact Drawn0.refl _ | apply Drawn0.step)⟩
    · rw [if_neg c4] at H
      have c4b0 : ((l0.length : Int) == 0) = false := beq_eq_false_iff_ne.mpr c4
      have c4b1 : ((l0.length : Int) != 0) = true := bne_iff_ne.mpr c4
      have c4b2 : ¬ (l0 = []) := fun h_ => c4 (by rw [h_]; rfl)
      by_cases c5 : 0 < (l0.length : Int)
      · rw [if_pos c5] at H
        have c5b0 : decide (0 < (l0.length : Int)) = true := decide_eq_true c5
        have c5b1 : decide (0 < l0.length) = true := decide_eq_true (by omega)
        clear c5
        obtain rfl := Option.some.inj H
        have p101 : 0 ≤ (0 : Int) := (by omega)
        have q101 : 0 < (l0.length : Int) := of_decide_eq_true (by first | (with_reducible assumption) | assumption)
        obtain ⟨ad101, e101, hx101_0⟩ := Kd.at_int HR0.out 0 p101 q101
        cases e101
        have qi101 : (0 < l0.length) = True := eq_true (by omega)
        (try rw [show ((0 : Int)).toNat = 0 from rfl] at hx101_0)
        (try rw [Addr.add_zero'] at hx101_0)
        replace p101 := eq_true p101
        replace q101 := eq_true q101
        go_enter Try.func4, Try.ntmps4
        go_wp2
        go_ret
        exact ⟨by first | rfl | (simp; done) | (simp [*]; done), by repeat (first | exact Drawn0.refl _ | apply Drawn0.step)⟩
      · rw [if_neg c5] at H
        exact absurd H (by simp)
  · rw [if_neg c3] at H
    have c3b0 : decide ((l0.length : Int) ≤ a1) = false := decide_eq_false c3
    clear c3
    obtain rfl := Option.some.inj H
    go_enter Try.func4, Try.ntmps4
    go_wp2
    go_ret
    exact ⟨by first | rfl | (simp; done) | (simp [*]; done), by repeat (first | exact Drawn0.refl _ | apply Drawn0.step)⟩

-- NOT PRINTED: function 9 (impl_fault)

/-! ### smallbig_nat_norm: function 34 -/
def smallbig_nat_norm.l0 : Nat → List Int → Option (List Int)
  | 0, _ => none
  | k + 1, x0 => if (x0.length : Int) > 0 then (if 0 ≤ (wrap64 ((x0.length : Int) - 1)) then (if (wrap64 ((x0.length : Int) - 1)) < (x0.length : Int) then (if (rd x0 (wrap64 ((x0.length : Int) - 1))) = 0 then (if (wrap64 ((x0.length : Int) - 1)) ≤ (x0.length : Int) then (smallbig_nat_norm.l0 k (x0.take ((wrap64 ((x0.length : Int) - 1)) : Int).toNat)) else (none)) else (some x0)) else (none)) else (none)) else (some x0)
def smallbig_nat_norm.f (k : Nat) (l0 : List Int) : Option (List Int) := smallbig_nat_norm.l0 k l0
theorem smallbig_nat_norm.mono_l : ∀ k, (∀ y0, LeO (smallbig_nat_norm.l0 k y0) (smallbig_nat_norm.l0 (k + 1) y0))
  | 0 => fun _ r h => by simp [smallbig_nat_norm.l0] at h
  | k + 1 => by
    have ih0 := smallbig_nat_norm.mono_l k
    · intro y0
      unfold smallbig_nat_norm.l0
      repeat' first
      | (with_reducible exact ih0 _)
      | (with_reducible exact LeO.refl _)
      | (with_reducible exact LeO.none _)
      | (with_reducible refine LeO.ite ?_ ?_)
      | (with_reducible refine LeO.bind ?_ (fun _ => ?_))
      | exact ih0 _
      | exact LeO.none _
      | refine LeO.ite ?_ ?_
      | refine LeO.bind ?_ (fun _ => ?_)
theorem smallbig_nat_norm.mono : ∀ a0 k, LeO (smallbig_nat_norm.f k a0) (smallbig_nat_norm.f (k + 1) a0) := by
  intro a0 k
  have ih0 := smallbig_nat_norm.mono_l k
  unfold smallbig_nat_norm.f
  repeat' first
      | (with_reducible exact ih0 _)
      | (with_reducible exact LeO.refl _)
      | (with_reducible exact LeO.none _)
      | (with_reducible refine LeO.ite ?_ ?_)
      | (with_reducible refine LeO.bind ?_ (fun _ => ?_))
      | exact ih0 _
      | exact LeO.none _
      | refine LeO.ite ?_ ?_
      | refine LeO.bind ?_ (fun _ => ?_)
set_option maxHeartbeats 8000000 in
set_option maxRecDepth 100000 in
theorem smallbig_nat_norm.calls (k : Nat) (P0_ : Nat → Prop) (A0 : Option Addr) (c0 : Nat) (l0 : List Int) (r : List Int) (w : World) (hs0 : Kd.V (Kd.int .u32) 23 w w.heap.size (fun k_ => P0_ k_) (.slice A0 l0.length c0) l0) (h : smallbig_nat_norm.f k l0 = some r) :
    Calls Try.prog 34 #[.slice A0 l0.length c0] w fun e w' => ∃ v0_ : Value, e = .returned (v0_) ∧ Kd.V (Kd.int .u32) 23 w' w.heap.size (fun k_ => (P0_ k_ ∨ w.heap.size ≤ k_)) v0_ r ∧ Below w.heap.size w w' := by
  have HO0 := Aside0.mk (show Kd.V (Kd.int .u32) 23 w w.heap.size (fun k_ => (P0_ k_ ∨ w.heap.size ≤ k_)) (.slice A0 l0.length c0) l0 from Kd.V_mono hs0 (fun k_ hk => .inl hk))
  have HB := Aside0.mk (Below.refl w.heap.size w)
  have H : (smallbig_nat_norm.l0 k l0) = some r := h
  clear h
  have H' := Aside0.mk H
  clear H
  go_enter Try.func34, Try.ntmps34
  go_wp2
  go_loopg [0] k (fun kq v0 w' => ∃ (x0_1 : List Int), Aside0 (smallbig_nat_norm.l0 kq x0_1 = some r) ∧ Aside0 (kq ≤ k) ∧ Aside0 (Kd.V (Kd.int .u32) 23 w' w.heap.size (fun k_ => (P0_ k_ ∨ w.heap.size ≤ k_)) v0 x0_1) ∧ Aside0 (Below w.heap.size w w'))
  case atStart => exact ⟨(l0), H', ⟨Nat.le_refl _⟩, ⟨by (with_reducible repeat (first | apply Kd.V_alloc | apply Kd.V_drewN | apply Kd.V_drew)); exact HO0.out⟩, ⟨by repeat (first | (with_reducible first | exact HB.out | apply below_alloc | apply pw_below_drewN | apply below_drew1) | exact HB.out)⟩⟩
  case round =>
    clear H'
    obtain ⟨x0_1, HA, HK1, HO_0, HB⟩ := hrel
    cases gk with
    | zero => exact absurd HA.out (by simp [smallbig_nat_norm.l0])
    | succ k1 =>
      have H := HA.out
      clear HA
      simp only [smallbig_nat_norm.l0] at H
      by_cases c2 : (x0_1.length : Int) > 0
      · rw [if_pos c2] at H
        have c2b0 : decide (0 < (x0_1.length : Int)) = true := decide_eq_true c2
        have c2b1 : decide (0 < x0_1.length) = true := decide_eq_true (by omega)
        clear c2
        obtain ⟨ji3, hji3⟩ : ∃ j_ : Int, (wrap64 ((x0_1.length : Int) - 1)) = j_ := ⟨_, rfl⟩
        replace H : (if 0 ≤ (ji3) then (if (ji3) < (x0_1.length : Int) then (if (rd x0_1 (ji3)) = 0 then (if (ji3) ≤ (x0_1.length : Int) then (smallbig_nat_norm.l0 k1 (x0_1.take ((ji3) : Int).toNat)) else (none)) else (some x0_1)) else (none)) else (none)) = some r := by first | (rw [hji3] at H; exact H) | (simp only [hji3] at H ⊢; exact H)
        have hji3w : (IntKind.i64.wrap ((x0_1.length : Int) - 1)) = ji3 := (i64_w _).trans hji3
        by_cases c4 : 0 ≤ (ji3)
        · rw [if_pos c4] at H
          have c4b0 : decide (0 ≤ (ji3)) = true := decide_eq_true c4
          clear c4
          by_cases c5 : (ji3) < (x0_1.length : Int)
          · rw [if_pos c5] at H
            have c5b0 : decide ((ji3) < (x0_1.length : Int)) = true := decide_eq_true c5
            clear c5
            by_cases c6 : (rd x0_1 (ji3)) = 0
            · rw [if_pos c6] at H
              have c6b0 : ((rd x0_1 (ji3)) == 0) = true := beq_iff_eq.mpr c6
              have c6b1 : ((rd x0_1 (ji3)) != 0) = false := bne_eq_false_iff_eq.mpr c6
              clear c6
              have c7b0 := eq_true (of_decide_eq_true (by first | (with_reducible assumption) | assumption) : 0 ≤ (ji3))
              by_cases c8 : (ji3) ≤ (x0_1.length : Int)
              · rw [if_pos c8] at H
                have c8b0 := eq_true c8
                have c8b1 : decide ((ji3) ≤ (x0_1.length : Int)) = true := decide_eq_true c8
                clear c8
                obtain ⟨y105, hy105⟩ : ∃ y_ : List Int, y_ = (x0_1.take ((ji3) : Int).toNat) := ⟨_, rfl⟩
                replace H : (smallbig_nat_norm.l0 k1 y105) = some r := by first | (rw [hy105]; with_reducible exact H) | (have H2_ := (Option.bind_some _ _).symm.trans H; rw [hy105]; with_reducible exact H2_) | (have H2_ := (Option.bind_some _ _).symm.trans H; with_reducible exact H2_) | with_reducible exact H | (rw [hy105]; exact H) | exact H
                have Ny105 := Aside0.mk hy105
                clear hy105
                have H' := Aside0.mk H
                clear H
                obtain ⟨Ao9, co9, eo9⟩ := Kd.V_slice HO_0.out
                subst eo9
                have p104 : 0 ≤ ((ji3) : Int) := of_decide_eq_true (by first | (with_reducible assumption) | assumption)
                have q104 : (ji3) < (x0_1.length : Int) := of_decide_eq_true (by first | (with_reducible assumption) | assumption)
                obtain ⟨ad104, e104, hx104_0⟩ := Kd.at_int (Kd.V_reads' HO_0.out).2.2 (ji3) p104 q104
                cases e104
                replace p104 := eq_true p104
                replace q104 := eq_true q104
                have q10 : ((ji3) : Int) ≤ ((x0_1.length : Int) : Int) := of_decide_eq_true (by first | (with_reducible assumption) | assumption)
                obtain ⟨i010, hi010, _, hsz10, _⟩ := info_parts info23
                have hroom10 : x0_1.length ≤ co9 := (Kd.V_reads' HO_0.out).2.1
                have hC10 : Kd.F (Kd.int .u32) _ _ (some ad104) x0_1.length x0_1 := (Kd.V_at (base := w.heap.size) HO_0.out).2.2
                have hcut10 := cut_to (P := Try.prog) 71 23 .i64 Try.underlying71 hi010 (some ad104) x0_1.length co9 (ji3) (of_decide_eq_true (by first | (with_reducible assumption) | assumption)) q10 hroom10
                have hr10 := Kd.F_take (m := ((ji3) : Int).toNat) hC10 (by omega)
                have hy10 : y105.length = ((ji3) : Int).toNat := (by rw [Ny105.out, List.length_take]; omega)
                rw [← Ny105.out] at hr10
                rw [← hy10] at hcut10
                have HO109 := Aside0.mk (show Kd.V (Kd.int .u32) 23 _ w.heap.size _ (.slice (some ad104) y105.length co9) y105 from Kd.V_mk (by omega) hr10)
                have HC109 := Aside0.mk (show y105.length ≤ co9 from by omega)
                clear hr10 hC10 hroom10 hi010 hsz10
                have KY10 := Aside0.mk hy10
                clear hy10
                replace q10 := eq_true q10
                go_wp2
                go_roundg k1
                case measure => have := HK1.out; omega
                case rel => exact ⟨(y105), (by first | exact H' | (subst_vars; exact H')), ⟨by have := HK1.out; omega⟩, ⟨by (with_reducible repeat (first | apply Kd.V_alloc | apply Kd.V_drewN | apply Kd.V_drew)); exact HO109.out⟩, ⟨by repeat (first | (with_reducible first | exact HB.out | apply below_alloc | apply pw_below_drewN | apply below_drew1) | exact HB.out)⟩⟩
              · rw [if_neg c8] at H
                exact absurd H (by simp)
            · rw [if_neg c6] at H
              have c6b0 : ((rd x0_1 (ji3)) == 0) = false := beq_eq_false_iff_ne.mpr c6
              have c6b1 : ((rd x0_1 (ji3)) != 0) = true := bne_iff_ne.mpr c6
              obtain rfl := Option.some.inj H
              obtain ⟨Ao11, co11, eo11⟩ := Kd.V_slice HO_0.out
              subst eo11
              have p104 : 0 ≤ ((ji3) : Int) := of_decide_eq_true (by first | (with_reducible assumption) | assumption)
              have q104 : (ji3) < (x0_1.length : Int) := of_decide_eq_true (by first | (with_reducible assumption) | assumption)
              obtain ⟨ad104, e104, hx104_0⟩ := Kd.at_int (Kd.V_reads' HO_0.out).2.2 (ji3) p104 q104
              cases e104
              replace p104 := eq_true p104
              replace q104 := eq_true q104
              go_wp2
              go_ret
              exact ⟨_, by first | rfl | (simp [errW_none, errW_some] <;> rfl) | (simp only [← hji3]; first | rfl | (simp [errW_none, errW_some] <;> rfl)) | (simp [*, errW_none, errW_some] <;> rfl), by (with_reducible repeat (first | apply Kd.V_alloc | apply Kd.V_drewN | apply Kd.V_drew)); exact HO_0.out, by repeat (first | (with_reducible first | exact HB.out | apply below_alloc | apply pw_below_drewN | apply below_drew1) | exact HB.out)⟩
          · rw [if_neg c5] at H
            exact absurd H (by simp)
        · rw [if_neg c4] at H
          exact absurd H (by simp)
      · rw [if_neg c2] at H
        have c2b0 : decide (0 < (x0_1.length : Int)) = false := decide_eq_false c2
        have c2b1 : decide (0 < x0_1.length) = false := decide_eq_false (by omega)
        clear c2
        obtain rfl := Option.some.inj H
        obtain ⟨Ao12, co12, eo12⟩ := Kd.V_slice HO_0.out
        subst eo12
        go_wp2
        go_ret
        exact ⟨_, by first | rfl | (simp [errW_none, errW_some] <;> rfl) | (simp [*, errW_none, errW_some] <;> rfl), by (with_reducible repeat (first | apply Kd.V_alloc | apply Kd.V_drewN | apply Kd.V_drew)); exact HO_0.out, by repeat (first | (with_reducible first | exact HB.out | apply below_alloc | apply pw_below_drewN | apply below_drew1) | exact HB.out)⟩

/-! ### smallbig_natOf: function 61 -/
def smallbig_natOf.f (k : Nat) (a0 : Int) : Option (List Int) := (smallbig_nat_norm.f k (([(a0) % 4294967296, (a0 / 4294967296) % 4294967296] : List Int))).bind fun t113 => (some t113)
theorem smallbig_natOf.mono : ∀ a0 k, LeO (smallbig_natOf.f k a0) (smallbig_natOf.f (k + 1) a0) := by
  intro a0 k
  unfold smallbig_natOf.f
  repeat' first
      | (with_reducible exact smallbig_nat_norm.mono _ _)
      | (with_reducible exact LeO.refl _)
      | (with_reducible exact LeO.none _)
      | (with_reducible refine LeO.ite ?_ ?_)
      | (with_reducible refine LeO.bind ?_ (fun _ => ?_))
      | exact smallbig_nat_norm.mono _ _
      | exact LeO.none _
      | refine LeO.ite ?_ ?_
      | refine LeO.bind ?_ (fun _ => ?_)
set_option maxHeartbeats 8000000 in
set_option maxRecDepth 100000 in
theorem smallbig_natOf.calls (k : Nat) (a0 : Int) (r : List Int) (w : World) (h : smallbig_natOf.f k a0 = some r) :
    Calls Try.prog 61 #[.int .u64 a0] w fun e w' => ∃ v0_ : Value, e = .returned (v0_) ∧ Kd.V (Kd.int .u32) 23 w' w.heap.size (fun k_ => (w.heap.size ≤ k_)) v0_ r ∧ Below w.heap.size w w' := by
  have HB := Aside0.mk (Below.refl w.heap.size w)
  have H : ((smallbig_nat_norm.f k (([(a0) % 4294967296, (a0 / 4294967296) % 4294967296] : List Int))).bind fun t113 => (some t113)) = some r := h
  clear h
  obtain ⟨y110, hy110⟩ : ∃ y_ : List Int, y_ = (([(a0) % 4294967296, (a0 / 4294967296) % 4294967296] : List Int)) := ⟨_, rfl⟩
  replace H : ((smallbig_nat_norm.f k y110).bind fun t113 => (some t113)) = some r := by first | (rw [hy110]; with_reducible exact H) | (have H2_ := (Option.bind_some _ _).symm.trans H; rw [hy110]; with_reducible exact H2_) | (have H2_ := (Option.bind_some _ _).symm.trans H; with_reducible exact H2_) | with_reducible exact H | (rw [hy110]; exact H) | exact H
  have Ny110 := Aside0.mk hy110
  clear hy110
  replace H := Option.bind_eq_some_iff.mp H
  obtain ⟨t113, A20, H⟩ := H
  replace H : (some t113) = some r := H
  have A2 := Aside0.mk A20
  clear A20
  obtain rfl := Option.some.inj H
  go_enter Try.func61, Try.ntmps61
  go_wp2_with (first | ((with_reducible refine gate_dst (N := 8) rfl ?_); refine Kd.R_lit (Kd.int .u32) _ 23 ?hg (N := 8) ?hd (xs := ([(a0) % 4294967296, (a0 / 4294967296) % 4294967296] : List Int)) (inner := [.int .u32 ((a0) % 4294967296), .int .u32 ((a0 / 4294967296) % 4294967296)]) (ok := fun _ => True) (okp := fun _ => True) ?hr ?hp (fun _ hk => hk) trivial (Below.refl _ _) (Nat.le_refl _) (by simp) ?_; (case hd => rfl); (case hg => rfl); (case hr => first | (go_simp; done) | (go_simp; rfl)); (case hp => exact (Reps.one (show Kd.M (Kd.int .u32) _ _ _ ((a0) % 4294967296) [.int .u32 ((a0) % 4294967296)] from rfl) (Reps.one (show Kd.M (Kd.int .u32) _ _ _ ((a0 / 4294967296) % 4294967296) [.int .u32 ((a0 / 4294967296) % 4294967296)] from rfl) (Reps.none _ _)))); intro v111 w3 ho4 hb hg_ hnew_; clear hg_ hnew_; (first | rw [← Ny110.out] at ho4 | (simp only [Int.reduceToNat] at ho4; rw [← Ny110.out] at ho4)); have n0_ := Aside0.mk (Kd.R_lower (Kd.R_newM (M := fun k_ => (w.heap.size ≤ k_)) ho4 (below_size (by repeat (first | (with_reducible first | exact HB.out | apply below_alloc | apply pw_below_drewN | apply below_drew1) | exact HB.out))) (fun k_ h_ => h_)) (below_size (by repeat (first | (with_reducible first | exact HB.out | apply below_alloc | apply pw_below_drewN | apply below_drew1) | exact HB.out)))); have n1_ := Aside0.mk (below_step (by repeat (first | (with_reducible first | exact HB.out | apply below_alloc | apply pw_below_drewN | apply below_drew1) | exact HB.out)) hb); clear HB; have HO112 := n0_; have HB := n1_; clear n0_ n1_; clear hb ho4; obtain ⟨Ao5, co5, eo5⟩ := Kd.R_slice HO112.out; subst eo5) | ((with_reducible refine gate_callee (f := 34) rfl ?_); refine goesL_ (some 9) rfl rfl Try.func34 (by kernel_rfl) rfl #[.slice Ao5 y110.length co5] rfl (by (try simp only [List.map_toArray, List.map_cons, List.map_nil]); first | done | rfl | (simp only [List.length_drop, List.length_take]; rfl)) ?_; (with_reducible refine (smallbig_nat_norm.calls k (fun k_ => some k_ = (.slice Ao5 y110.length co5 : Value).ownBlock) _ _ y110 t113 _ ?side1 A2.out).mono ?_); (case side1 => exact Kd.R_V (Kd.R_tight rfl (HO112.out))); rintro e w6 ⟨v114, rfl, ho0, hb⟩; refine ⟨_, rfl, ?_⟩; have n0_ := Aside0.mk (Kd.R_below (by (with_reducible repeat (first | apply Kd.R_alloc | apply Kd.R_drewN | apply Kd.R_drew)); exact HO112.out) hb); have n1_ := Aside0.mk (Kd.V_lower (Kd.V_mono (ok' := fun k_ => (w.heap.size ≤ k_)) ho0 (fun k_ hk_ => Or.elim hk_ (fun hs_ => ((HO112.out).1 k_ hs_.symm).1) (fun hn_ => (Nat.le_trans (below_size (by repeat (first | (with_reducible first | exact HB.out | apply below_alloc | apply pw_below_drewN | apply below_drew1) | exact HB.out))) hn_)))) (below_size (by repeat (first | (with_reducible first | exact HB.out | apply below_alloc | apply pw_below_drewN | apply below_drew1) | exact HB.out)))); have n2_ := Aside0.mk (below_step (by repeat (first | (with_reducible first | exact HB.out | apply below_alloc | apply pw_below_drewN | apply below_drew1) | exact HB.out)) hb); clear HO112; clear HB; have HO112 := n0_; have HO115 := n1_; have HB := n2_; clear n0_ n1_ n2_; (try clear hb); (try clear hb2); (try clear hk); (try clear hi); (try clear ho0)))
  go_ret
  exact ⟨_, by first | rfl | (simp [errW_none, errW_some] <;> rfl) | (simp [*, errW_none, errW_some] <;> rfl), by (with_reducible repeat (first | apply Kd.V_alloc | apply Kd.V_drewN | apply Kd.V_drew)); exact HO115.out, by repeat (first | (with_reducible first | exact HB.out | apply below_alloc | apply pw_below_drewN | apply below_drew1) | exact HB.out)⟩

-- NOT PRINTED: function 57 (smallbig_Int_SetInt64)

-- NOT PRINTED: function 49 (smallbig_NewInt)

/-! ### smallbig_nat_lsh: function 58 -/
def smallbig_nat_lsh.l0 : Nat → Int → Int → List Int → List Int → Int → Int → Option (List Int)
  | 0, _, _, _, _, _, _ => none
  | k + 1, x5, x6, x7, x25, x26, x27 => if x27 < x26 then (if 0 ≤ x27 then (if x27 < (x25.length : Int) then (if 0 ≤ x6 then (if 0 ≤ (wrap64 (x27 + x5)) then (if (wrap64 (x27 + x5)) < (x7.length : Int) then (if 0 ≤ (wrap64 ((wrap64 (x27 + x5)) + 1)) then (if (wrap64 ((wrap64 (x27 + x5)) + 1)) < (x7.length : Int) then (smallbig_nat_lsh.l0 k x5 x6 ((x7.set ((wrap64 (x27 + x5)) : Int).toNat (Go.bits .or .u32 (rd x7 (wrap64 (x27 + x5))) ((shl .u64 (IntKind.u64.wrap (rd x25 x27)) x6) % 4294967296))).set ((wrap64 ((wrap64 (x27 + x5)) + 1)) : Int).toNat (((shl .u64 (IntKind.u64.wrap (rd x25 x27)) x6) / 4294967296) % 4294967296)) x25 x26 (wrap64 (x27 + 1))) else (none)) else (none)) else (none)) else (none)) else (none)) else (none)) else (none)) else ((smallbig_nat_norm.f k x7).bind fun t124 => (some t124))
def smallbig_nat_lsh.f (k : Nat) (l0 : List Int) (a1 : Int) : Option (List Int) := if (l0.length : Int) = 0 then (some ([] : List Int)) else (if 0 ≤ (wrap64 ((wrap64 ((l0.length : Int) + (wrap64 (IntKind.u64.wrap (Int.tdiv a1 32))))) + 1)) then (if (wrap64 ((wrap64 ((l0.length : Int) + (wrap64 (IntKind.u64.wrap (Int.tdiv a1 32))))) + 1) : Int).toNat ≤ 70368744177664 then (smallbig_nat_lsh.l0 k (wrap64 (IntKind.u64.wrap (Int.tdiv a1 32))) (Int.tmod a1 32) (List.replicate (wrap64 ((wrap64 ((l0.length : Int) + (wrap64 (IntKind.u64.wrap (Int.tdiv a1 32))))) + 1) : Int).toNat 0) l0 (l0.length : Int) 0) else (none)) else (none))
theorem smallbig_nat_lsh.mono_l : ∀ k, (∀ y0 y1 y2 y3 y4 y5, LeO (smallbig_nat_lsh.l0 k y0 y1 y2 y3 y4 y5) (smallbig_nat_lsh.l0 (k + 1) y0 y1 y2 y3 y4 y5))
  | 0 => fun _ _ _ _ _ _ r h => by simp [smallbig_nat_lsh.l0] at h
  | k + 1 => by
    have ih0 := smallbig_nat_lsh.mono_l k
    · intro y0 y1 y2 y3 y4 y5
      unfold smallbig_nat_lsh.l0
      repeat' first
      | (with_reducible exact ih0 _ _ _ _ _ _)
      | (with_reducible exact smallbig_nat_norm.mono _ _)
      | (with_reducible exact LeO.refl _)
      | (with_reducible exact LeO.none _)
      | (with_reducible refine LeO.ite ?_ ?_)
      | (with_reducible refine LeO.bind ?_ (fun _ => ?_))
      | exact ih0 _ _ _ _ _ _
      | exact smallbig_nat_norm.mono _ _
      | exact LeO.none _
      | refine LeO.ite ?_ ?_
      | refine LeO.bind ?_ (fun _ => ?_)
theorem smallbig_nat_lsh.mono : ∀ a0 a1 k, LeO (smallbig_nat_lsh.f k a0 a1) (smallbig_nat_lsh.f (k + 1) a0 a1) := by
  intro a0 a1 k
  have ih0 := smallbig_nat_lsh.mono_l k
  unfold smallbig_nat_lsh.f
  repeat' first
      | (with_reducible exact ih0 _ _ _ _ _ _)
      | (with_reducible exact smallbig_nat_norm.mono _ _)
      | (with_reducible exact LeO.refl _)
      | (with_reducible exact LeO.none _)
      | (with_reducible refine LeO.ite ?_ ?_)
      | (with_reducible refine LeO.bind ?_ (fun _ => ?_))
      | exact ih0 _ _ _ _ _ _
      | exact smallbig_nat_norm.mono _ _
      | exact LeO.none _
      | refine LeO.ite ?_ ?_
      | refine LeO.bind ?_ (fun _ => ?_)
set_option maxHeartbeats 8000000 in
set_option maxRecDepth 100000 in
theorem smallbig_nat_lsh.calls (k : Nat) (A0 : Option Addr) (c0 : Nat) (l0 : List Int) (a1 : Int) (r : List Int) (w : World) (hr0 : Kd.C (Kd.int .u32) w A0 l0.length l0) (hc0 : l0.length ≤ c0) (h : smallbig_nat_lsh.f k l0 a1 = some r) :
    Calls Try.prog 58 #[.slice A0 l0.length c0, .int .u64 a1] w fun e w' => ∃ v0_ : Value, e = .returned (v0_) ∧ Kd.V (Kd.int .u32) 23 w' w.heap.size (fun k_ => (w.heap.size ≤ k_)) v0_ r ∧ Below w.heap.size w w' := by
  have HR0 := Aside0.mk hr0
  have HC0 := Aside0.mk hc0
  clear hr0 hc0
  have HB := Aside0.mk (Below.refl w.heap.size w)
  have H : (if (l0.length : Int) = 0 then (some ([] : List Int)) else (if 0 ≤ (wrap64 ((wrap64 ((l0.length : Int) + (wrap64 (IntKind.u64.wrap (Int.tdiv a1 32))))) + 1)) then (if (wrap64 ((wrap64 ((l0.length : Int) + (wrap64 (IntKind.u64.wrap (Int.tdiv a1 32))))) + 1) : Int).toNat ≤ 70368744177664 then (smallbig_nat_lsh.l0 k (wrap64 (IntKind.u64.wrap (Int.tdiv a1 32))) (Int.tmod a1 32) (List.replicate (wrap64 ((wrap64 ((l0.length : Int) + (wrap64 (IntKind.u64.wrap (Int.tdiv a1 32))))) + 1) : Int).toNat 0) l0 (l0.length : Int) 0) else (none)) else (none))) = some r := h
  clear h
  by_cases c3 : (l0.length : Int) = 0
  · rw [if_pos c3] at H
    have c3b0 : ((l0.length : Int) == 0) = true := beq_iff_eq.mpr c3
    have c3b1 : ((l0.length : Int) != 0) = false := bne_eq_false_iff_eq.mpr c3
    clear c3
    obtain rfl := Option.some.inj H
    go_enter Try.func58, Try.ntmps58
    go_wp2
    go_ret
    exact ⟨_, by first | rfl | (simp [errW_none, errW_some] <;> rfl) | (simp [*, errW_none, errW_some] <;> rfl), (by first | exact Kd.V_nil _ _ _ _ _ | exact Kd.R_V (by first | exact Kd.R_nil _ _ _ _ _ | exact Kd.N_nil _ _ _ _ _ | exact Kd.V_nil _ _ _ _ _ | exact Kd.Q_nil _ _ _ _ _ | exact Kd.S_nil _ _ _ _ _)), by repeat (first | (with_reducible first | exact HB.out | apply below_alloc | apply pw_below_drewN | apply below_drew1) | exact HB.out)⟩
  · rw [if_neg c3] at H
    have c3b0 : ((l0.length : Int) == 0) = false := beq_eq_false_iff_ne.mpr c3
    have c3b1 : ((l0.length : Int) != 0) = true := bne_iff_ne.mpr c3
    have c3b2 : ¬ (l0 = []) := fun h_ => c3 (by rw [h_]; rfl)
    obtain ⟨ji4, hji4⟩ : ∃ j_ : Int, (wrap64 ((wrap64 ((l0.length : Int) + (wrap64 (IntKind.u64.wrap (Int.tdiv a1 32))))) + 1)) = j_ := ⟨_, rfl⟩
    replace H : (if 0 ≤ (ji4) then (if (ji4 : Int).toNat ≤ 70368744177664 then (smallbig_nat_lsh.l0 k (wrap64 (IntKind.u64.wrap (Int.tdiv a1 32))) (Int.tmod a1 32) (List.replicate (ji4 : Int).toNat 0) l0 (l0.length : Int) 0) else (none)) else (none)) = some r := by first | (rw [hji4] at H; exact H) | (simp only [hji4] at H ⊢; exact H)
    have hji4w : (IntKind.i64.wrap ((wrap64 ((l0.length : Int) + (wrap64 (IntKind.u64.wrap (Int.tdiv a1 32))))) + 1)) = ji4 := (i64_w _).trans hji4
    by_cases c5 : 0 ≤ (ji4)
    · rw [if_pos c5] at H
      have c5b0 := eq_true c5
      have c5b1 : decide (0 ≤ (ji4)) = true := decide_eq_true c5
      clear c5
      by_cases c6 : (ji4 : Int).toNat ≤ 70368744177664
      · rw [if_pos c6] at H
        have c6b0 := eq_true c6
        have c6b1 : decide ((ji4 : Int).toNat ≤ 70368744177664) = true := decide_eq_true c6
        clear c6
        obtain ⟨y117, hy117⟩ : ∃ y_ : List Int, y_ = (List.replicate (ji4 : Int).toNat 0) := ⟨_, rfl⟩
        replace H : (smallbig_nat_lsh.l0 k (wrap64 (IntKind.u64.wrap (Int.tdiv a1 32))) (Int.tmod a1 32) y117 l0 (l0.length : Int) 0) = some r := by first | (rw [hy117]; with_reducible exact H) | (have H2_ := (Option.bind_some _ _).symm.trans H; rw [hy117]; with_reducible exact H2_) | (have H2_ := (Option.bind_some _ _).symm.trans H; with_reducible exact H2_) | with_reducible exact H | (rw [hy117]; exact H) | exact H
        have Ny117 := Aside0.mk hy117
        clear hy117
        have H' := Aside0.mk H
        clear H
        go_enter Try.func58, Try.ntmps58
        go_wp2_with (first | ((with_reducible refine gate_dst (N := 24) rfl ?_); refine Kd.R_make (Kd.int .u32) _ 23 rfl (N := 24) rfl 71 _ _ rfl ji4 rfl rfl Try.underlying71 (.int .u32 0) 4 info23 rfl (by decide) (by omega) 0 (ok := fun _ => True) (okp := fun _ => True) rfl (fun _ hk => hk) trivial (of_decide_eq_true (by first | (with_reducible assumption) | assumption)) (Nat.le_trans (Nat.mul_le_mul_right _ (of_decide_eq_true (by first | (with_reducible assumption) | assumption) : ji4.toNat ≤ 70368744177664)) (by omega)) (Below.refl _ _) (Nat.le_refl _) ?_; intro v118 w7 ho8 hb hg_ hnew_; clear hg_ hnew_; (first | rw [← Ny117.out] at ho8 | (simp only [Int.reduceToNat] at ho8; rw [← Ny117.out] at ho8)); have n0_ := Aside0.mk (Kd.R_lower (Kd.R_newM (M := fun k_ => (w.heap.size ≤ k_)) ho8 (below_size (by repeat (first | (with_reducible first | exact HB.out | apply below_alloc | apply pw_below_drewN | apply below_drew1) | exact HB.out))) (fun k_ h_ => h_)) (below_size (by repeat (first | (with_reducible first | exact HB.out | apply below_alloc | apply pw_below_drewN | apply below_drew1) | exact HB.out)))); have n1_ := Aside0.mk (below_step (by repeat (first | (with_reducible first | exact HB.out | apply below_alloc | apply pw_below_drewN | apply below_drew1) | exact HB.out)) hb); clear HB; have HO119 := n0_; have HB := n1_; clear n0_ n1_; clear hb ho8))
        go_loopg [27] k (fun kq v27 w' => ∃ (x7_1 : List Int) (x27_1 : Int), v27 = .int .i64 x27_1 ∧ Aside0 (smallbig_nat_lsh.l0 kq (wrap64 (IntKind.u64.wrap (Int.tdiv a1 32))) (Int.tmod a1 32) x7_1 l0 (l0.length : Int) x27_1 = some r) ∧ Aside0 (kq ≤ k) ∧ Aside0 (Kd.R (Kd.int .u32) 23 w' w.heap.size (fun k_ => (w.heap.size ≤ k_)) v118 x7_1) ∧ Aside0 (Below w.heap.size w w'))
        case atStart => exact ⟨(y117), (0), (by first | rfl | (simp; done) | (simp [*]; done)), H', ⟨Nat.le_refl _⟩, ⟨by (with_reducible repeat (first | apply Kd.R_alloc | apply Kd.R_drewN | apply Kd.R_drew)); exact Kd.R_mono HO119.out (fun _ hk => hk.1)⟩, ⟨by repeat (first | (with_reducible first | exact HB.out | apply below_alloc | apply pw_below_drewN | apply below_drew1) | exact HB.out)⟩⟩
        case round =>
          clear H'
          try clear p2
          try clear c3
          try clear c3b0
          try clear c3b1
          try clear c3b2
          try clear c5
          try clear c5b0
          try clear c5b1
          try clear c6
          try clear c6b0
          try clear c6b1
          try clear p6
          obtain ⟨x7_1, x27_1, rfl, HA, HK1, HO_7, HB⟩ := hrel
          cases gk with
          | zero => exact absurd HA.out (by simp [smallbig_nat_lsh.l0])
          | succ k1 =>
            have H := HA.out
            clear HA
            simp only [smallbig_nat_lsh.l0] at H
            by_cases c9 : x27_1 < (l0.length : Int)
            · rw [if_pos c9] at H
              have c9b0 : decide (x27_1 < (l0.length : Int)) = true := decide_eq_true c9
              clear c9
              by_cases c10 : 0 ≤ x27_1
              · rw [if_pos c10] at H
                have c10b0 : decide (0 ≤ x27_1) = true := decide_eq_true c10
                clear c10
                by_cases c11 : x27_1 < (l0.length : Int)
                · rw [if_pos c11] at H
                  have c11b0 : decide (x27_1 < (l0.length : Int)) = true := decide_eq_true c11
                  clear c11
                  obtain ⟨ji12, hji12⟩ : ∃ j_ : Int, (Int.tmod a1 32) = j_ := ⟨_, rfl⟩
                  replace H : (if 0 ≤ (ji12) then (if 0 ≤ (wrap64 (x27_1 + (wrap64 (IntKind.u64.wrap (Int.tdiv a1 32))))) then (if (wrap64 (x27_1 + (wrap64 (IntKind.u64.wrap (Int.tdiv a1 32))))) < (x7_1.length : Int) then (if 0 ≤ (wrap64 ((wrap64 (x27_1 + (wrap64 (IntKind.u64.wrap (Int.tdiv a1 32))))) + 1)) then (if (wrap64 ((wrap64 (x27_1 + (wrap64 (IntKind.u64.wrap (Int.tdiv a1 32))))) + 1)) < (x7_1.length : Int) then (smallbig_nat_lsh.l0 k1 (wrap64 (IntKind.u64.wrap (Int.tdiv a1 32))) (ji12) ((x7_1.set ((wrap64 (x27_1 + (wrap64 (IntKind.u64.wrap (Int.tdiv a1 32))))) : Int).toNat (Go.bits .or .u32 (rd x7_1 (wrap64 (x27_1 + (wrap64 (IntKind.u64.wrap (Int.tdiv a1 32)))))) ((shl .u64 (IntKind.u64.wrap (rd l0 x27_1)) (ji12)) % 4294967296))).set ((wrap64 ((wrap64 (x27_1 + (wrap64 (IntKind.u64.wrap (Int.tdiv a1 32))))) + 1)) : Int).toNat (((shl .u64 (IntKind.u64.wrap (rd l0 x27_1)) (ji12)) / 4294967296) % 4294967296)) l0 (l0.length : Int) (wrap64 (x27_1 + 1))) else (none)) else (none)) else (none)) else (none)) else (none)) = some r := by first | (rw [hji12] at H; exact H) | (simp only [hji12] at H ⊢; exact H)
                  by_cases c13 : 0 ≤ (ji12)
                  · rw [if_pos c13] at H
                    have c13b0 := eq_true c13
                    have c13b1 : decide (0 ≤ (ji12)) = true := decide_eq_true c13
                    clear c13
                    obtain ⟨ji14, hji14⟩ : ∃ j_ : Int, (shl .u64 (IntKind.u64.wrap (rd l0 x27_1)) (ji12)) = j_ := ⟨_, rfl⟩
                    replace H : (if 0 ≤ (wrap64 (x27_1 + (wrap64 (IntKind.u64.wrap (Int.tdiv a1 32))))) then (if (wrap64 (x27_1 + (wrap64 (IntKind.u64.wrap (Int.tdiv a1 32))))) < (x7_1.length : Int) then (if 0 ≤ (wrap64 ((wrap64 (x27_1 + (wrap64 (IntKind.u64.wrap (Int.tdiv a1 32))))) + 1)) then (if (wrap64 ((wrap64 (x27_1 + (wrap64 (IntKind.u64.wrap (Int.tdiv a1 32))))) + 1)) < (x7_1.length : Int) then (smallbig_nat_lsh.l0 k1 (wrap64 (IntKind.u64.wrap (Int.tdiv a1 32))) (ji12) ((x7_1.set ((wrap64 (x27_1 + (wrap64 (IntKind.u64.wrap (Int.tdiv a1 32))))) : Int).toNat (Go.bits .or .u32 (rd x7_1 (wrap64 (x27_1 + (wrap64 (IntKind.u64.wrap (Int.tdiv a1 32)))))) ((ji14) % 4294967296))).set ((wrap64 ((wrap64 (x27_1 + (wrap64 (IntKind.u64.wrap (Int.tdiv a1 32))))) + 1)) : Int).toNat (((ji14) / 4294967296) % 4294967296)) l0 (l0.length : Int) (wrap64 (x27_1 + 1))) else (none)) else (none)) else (none)) else (none)) = some r := by first | (rw [hji14] at H; exact H) | (simp only [hji14] at H ⊢; exact H)
                    have hji14_ : (IntKind.u64.wrap ((IntKind.u64.wrap (rd l0 x27_1)) * 2 ^ min (ji12).toNat 64)) = ji14 := hji14
                    have hji14z : (ji12) ≤ 64 → (IntKind.u64.wrap ((IntKind.u64.wrap (rd l0 x27_1)) * 2 ^ (ji12).toNat)) = ji14 := shl_small hji14
                    obtain ⟨ji15, hji15⟩ : ∃ j_ : Int, (wrap64 (x27_1 + (wrap64 (IntKind.u64.wrap (Int.tdiv a1 32))))) = j_ := ⟨_, rfl⟩
                    replace H : (if 0 ≤ (ji15) then (if (ji15) < (x7_1.length : Int) then (if 0 ≤ (wrap64 ((ji15) + 1)) then (if (wrap64 ((ji15) + 1)) < (x7_1.length : Int) then (smallbig_nat_lsh.l0 k1 (wrap64 (IntKind.u64.wrap (Int.tdiv a1 32))) (ji12) ((x7_1.set ((ji15) : Int).toNat (Go.bits .or .u32 (rd x7_1 (ji15)) ((ji14) % 4294967296))).set ((wrap64 ((ji15) + 1)) : Int).toNat (((ji14) / 4294967296) % 4294967296)) l0 (l0.length : Int) (wrap64 (x27_1 + 1))) else (none)) else (none)) else (none)) else (none)) = some r := by first | (rw [hji15] at H; exact H) | (simp only [hji15] at H ⊢; exact H)
                    have hji15w : (IntKind.i64.wrap (x27_1 + (wrap64 (IntKind.u64.wrap (Int.tdiv a1 32))))) = ji15 := (i64_w _).trans hji15
                    by_cases c16 : 0 ≤ (ji15)
                    · rw [if_pos c16] at H
                      have c16b0 : decide (0 ≤ (ji15)) = true := decide_eq_true c16
                      clear c16
                      by_cases c17 : (ji15) < (x7_1.length : Int)
                      · rw [if_pos c17] at H
                        have c17b0 : decide ((ji15) < (x7_1.length : Int)) = true := decide_eq_true c17
                        clear c17
                        obtain ⟨y122, hy122⟩ : ∃ y_ : List Int, y_ = (x7_1.set ((ji15) : Int).toNat (Go.bits .or .u32 (rd x7_1 (ji15)) ((ji14) % 4294967296))) := ⟨_, rfl⟩
                        replace H : (if 0 ≤ (wrap64 ((ji15) + 1)) then (if (wrap64 ((ji15) + 1)) < (x7_1.length : Int) then (smallbig_nat_lsh.l0 k1 (wrap64 (IntKind.u64.wrap (Int.tdiv a1 32))) (ji12) (y122.set ((wrap64 ((ji15) + 1)) : Int).toNat (((ji14) / 4294967296) % 4294967296)) l0 (l0.length : Int) (wrap64 (x27_1 + 1))) else (none)) else (none)) = some r := by first | (rw [hy122]; with_reducible exact H) | (have H2_ := (Option.bind_some _ _).symm.trans H; rw [hy122]; with_reducible exact H2_) | (have H2_ := (Option.bind_some _ _).symm.trans H; with_reducible exact H2_) | with_reducible exact H | (rw [hy122]; exact H) | exact H
                        have Ny122 := Aside0.mk hy122
                        clear hy122
                        obtain ⟨ji19, hji19⟩ : ∃ j_ : Int, (wrap64 ((ji15) + 1)) = j_ := ⟨_, rfl⟩
                        replace H : (if 0 ≤ (ji19) then (if (ji19) < (x7_1.length : Int) then (smallbig_nat_lsh.l0 k1 (wrap64 (IntKind.u64.wrap (Int.tdiv a1 32))) (ji12) (y122.set ((ji19) : Int).toNat (((ji14) / 4294967296) % 4294967296)) l0 (l0.length : Int) (wrap64 (x27_1 + 1))) else (none)) else (none)) = some r := by first | (rw [hji19] at H; exact H) | (simp only [hji19] at H ⊢; exact H)
                        have hji19w : (IntKind.i64.wrap ((ji15) + 1)) = ji19 := (i64_w _).trans hji19
                        by_cases c20 : 0 ≤ (ji19)
                        · rw [if_pos c20] at H
                          have c20b0 : decide (0 ≤ (ji19)) = true := decide_eq_true c20
                          clear c20
                          by_cases c21 : (ji19) < (x7_1.length : Int)
                          · rw [if_pos c21] at H
                            have c21b0 : decide ((ji19) < (x7_1.length : Int)) = true := decide_eq_true c21
                            clear c21
                            obtain ⟨y123, hy123⟩ : ∃ y_ : List Int, y_ = (y122.set ((ji19) : Int).toNat (((ji14) / 4294967296) % 4294967296)) := ⟨_, rfl⟩
                            replace H : (smallbig_nat_lsh.l0 k1 (wrap64 (IntKind.u64.wrap (Int.tdiv a1 32))) (ji12) y123 l0 (l0.length : Int) (wrap64 (x27_1 + 1))) = some r := by first | (rw [hy123]; with_reducible exact H) | (have H2_ := (Option.bind_some _ _).symm.trans H; rw [hy123]; with_reducible exact H2_) | (have H2_ := (Option.bind_some _ _).symm.trans H; with_reducible exact H2_) | with_reducible exact H | (rw [hy123]; exact H) | exact H
                            have Ny123 := Aside0.mk hy123
                            clear hy123
                            have H' := Aside0.mk H
                            clear H
                            have p120 : 0 ≤ (x27_1 : Int) := of_decide_eq_true (by first | (with_reducible assumption) | assumption)
                            have q120 : x27_1 < (l0.length : Int) := of_decide_eq_true (by first | (with_reducible assumption) | assumption)
                            obtain ⟨ad120, e120, hx120_0⟩ := Kd.at_int HR0.out x27_1 p120 q120
                            cases e120
                            replace hx120_0 := (HB.out.cell (World.block_lt_of_cell? w _ hx120_0)).trans hx120_0
                            replace p120 := eq_true p120
                            replace q120 := eq_true q120
                            obtain ⟨Ao23, co23, eo23⟩ := Kd.R_slice HO_7.out
                            subst eo23
                            have p121 : 0 ≤ ((ji15) : Int) := of_decide_eq_true (by first | (with_reducible assumption) | assumption)
                            have q121 : (ji15) < (x7_1.length : Int) := of_decide_eq_true (by first | (with_reducible assumption) | assumption)
                            obtain ⟨ad121, e121, hx121_0⟩ := Kd.at_int (Kd.R_reads' HO_7.out).2.2 (ji15) p121 q121
                            cases e121
                            replace p121 := eq_true p121
                            replace q121 := eq_true q121
                            have p18 : 0 ≤ ((ji15) : Int) := of_decide_eq_true (by first | (with_reducible assumption) | assumption)
                            have q18 : ((ji15) : Int) < ((x7_1.length : Int) : Int) := of_decide_eq_true (by first | (with_reducible assumption) | assumption)
                            obtain ⟨go18, co18, eo18, gb18, gl18, cl18, HG18⟩ := Kd.R_form HO_7.out (by omega)
                            (first | cases eo18 | (injection eo18 with ea_ en_ ec_; (first | subst ea_ | (injection ea_ with ea_; subst ea_)); subst ec_; clear en_))
                            have GB18 := Aside0.mk gb18
                            have GG18 := Aside0.mk HG18
                            clear gb18 gl18 HG18
                            (first | simp only [add_plain] at hx121_0 | skip)
                            obtain ⟨hx18_0, hf18_0⟩ := Kd.R_celln 0 HO_7.out ((ji15) : Int) p18 q18
                            replace p18 := eq_true p18
                            replace q18 := eq_true q18
                            have HP24 := Kd.R_putg HO_7.out ((ji15) : Int) (Go.bits .or .u32 (rd x7_1 (ji15)) ((ji14) % 4294967296))
                            go_wp2_with (first | ((with_reducible refine gate_store (t := 23) (p := 45) rfl ?_); refine store_event (t := 23) (p := 45) (v := ?vo_w25) (w1 := (wr.setCell ⟨go18, ((ji15) : Int).toNat, none⟩ (.int .u32 (Go.bits .or .u32 (rd x7_1 (ji15)) ((ji14) % 4294967296))))) ?hg ?ho ?hn ?hr ?_; (case ho => rfl); (case hg => rfl); (case hn => rfl); (case hr => first | (go_simp; done) | (go_simp; rfl)); intro w25 hw; have hg : wr.grownBy w25 (some go18) := (by rw [hw]; exact HP24.2); have hp_ : Kd.R (Kd.int .u32) 23 w25 w.heap.size (fun k_ => (w.heap.size ≤ k_)) (.slice (some ⟨go18, 0, none⟩) x7_1.length co23) y122 := (by rw [hw, Ny122.out]; exact HP24.1); clear HP24; have n0_ := Aside0.mk (hp_); have n1_ := Aside0.mk ((by rw [hw]; exact below_set (HB.out) GB18.out : Below w.heap.size w w25)); clear HO_7; clear HB; have HO_7 := n0_; have HB := n1_; clear n0_ n1_; clear hg hw hp_; have p22 : 0 ≤ ((ji19) : Int) := of_decide_eq_true (by first | (with_reducible assumption) | assumption); have q22 : ((ji19) : Int) < ((x7_1.length : Int) : Int) := of_decide_eq_true (by first | (with_reducible assumption) | assumption); obtain ⟨hx22_0, hf22_0⟩ := Kd.R_celln 0 HO_7.out ((ji19) : Int) p22 q22; replace p22 := eq_true p22; replace q22 := eq_true q22; obtain ⟨hy26_, hz26_⟩ := Kd.R_celln 0 HO_7.out ((ji19) : Int) (of_decide_eq_true (by first | (with_reducible assumption) | assumption)) (of_decide_eq_true (by first | (with_reducible assumption) | assumption)); have HP26 := Kd.R_putg HO_7.out ((ji19) : Int) (((ji14) / 4294967296) % 4294967296)) | ((with_reducible refine gate_store (t := 23) (p := 54) rfl ?_); refine store_event (t := 23) (p := 54) (v := ?vo_w27) (w1 := (w25.setCell ⟨go18, ((ji19) : Int).toNat, none⟩ (.int .u32 (((ji14) / 4294967296) % 4294967296)))) ?hg ?ho ?hn ?hr ?_; (case ho => rfl); (case hg => rfl); (case hn => rfl); (case hr => first | (go_simp; done) | (go_simp; rfl)); intro w27 hw; have hg : w25.grownBy w27 (some go18) := (by rw [hw]; exact HP26.2); have hp_ : Kd.R (Kd.int .u32) 23 w27 w.heap.size (fun k_ => (w.heap.size ≤ k_)) (.slice (some ⟨go18, 0, none⟩) x7_1.length co23) y123 := (by rw [hw, Ny123.out]; exact HP26.1); clear HP26; have n0_ := Aside0.mk (hp_); have n1_ := Aside0.mk ((by rw [hw]; exact below_set (HB.out) GB18.out : Below w.heap.size w w27)); clear HO_7; clear HB; have HO_7 := n0_; have HB := n1_; clear n0_ n1_; clear hg hw hp_))
                            go_roundg k1
                            case measure => have := HK1.out; omega
                            case rel => exact ⟨(y123), (wrap64 (x27_1 + 1)), (by first | rfl | (simp; done) | (simp [*]; done)), (by first | exact H' | (subst_vars; exact H')), ⟨by have := HK1.out; omega⟩, ⟨by (with_reducible repeat (first | apply Kd.R_alloc | apply Kd.R_drewN | apply Kd.R_drew)); exact HO_7.out⟩, ⟨by repeat (first | (with_reducible first | exact HB.out | apply below_alloc | apply pw_below_drewN | apply below_drew1) | exact HB.out)⟩⟩
                          · rw [if_neg c21] at H
                            exact absurd H (by simp)
                        · rw [if_neg c20] at H
                          exact absurd H (by simp)
                      · rw [if_neg c17] at H
                        exact absurd H (by simp)
                    · rw [if_neg c16] at H
                      exact absurd H (by simp)
                  · rw [if_neg c13] at H
                    exact absurd H (by simp)
                · rw [if_neg c11] at H
                  exact absurd H (by simp)
              · rw [if_neg c10] at H
                exact absurd H (by simp)
            · rw [if_neg c9] at H
              have c9b0 : decide (x27_1 < (l0.length : Int)) = false := decide_eq_false c9
              clear c9
              replace H := Option.bind_eq_some_iff.mp H
              obtain ⟨t124, A280, H⟩ := H
              replace H : (some t124) = some r := H
              have A28 := Aside0.mk A280
              clear A280
              obtain rfl := Option.some.inj H
              obtain ⟨Ao29, co29, eo29⟩ := Kd.R_slice HO_7.out
              subst eo29
              go_wp2_with (first | ((with_reducible refine gate_callee (f := 34) rfl ?_); refine goesL_ (some 57) rfl rfl Try.func34 (by kernel_rfl) rfl #[.slice Ao29 x7_1.length co29] rfl (by (try simp only [List.map_toArray, List.map_cons, List.map_nil]); first | done | rfl | (simp only [List.length_drop, List.length_take]; rfl)) ?_; (with_reducible refine (smallbig_nat_norm.calls k1 (fun k_ => some k_ = (.slice Ao29 x7_1.length co29 : Value).ownBlock) _ _ x7_1 t124 _ ?side1 A28.out).mono ?_); (case side1 => exact Kd.R_V (Kd.R_tight rfl (HO_7.out))); rintro e w30 ⟨v125, rfl, ho0, hb⟩; refine ⟨_, rfl, ?_⟩; have n0_ := Aside0.mk (Kd.R_below (by (with_reducible repeat (first | apply Kd.R_alloc | apply Kd.R_drewN | apply Kd.R_drew)); exact HO_7.out) hb); have n1_ := Aside0.mk (Kd.V_lower (Kd.V_mono (ok' := fun k_ => (w.heap.size ≤ k_)) ho0 (fun k_ hk_ => Or.elim hk_ (fun hs_ => ((HO_7.out).1 k_ hs_.symm)) (fun hn_ => (Nat.le_trans (below_size (by repeat (first | (with_reducible first | exact HB.out | apply below_alloc | apply pw_below_drewN | apply below_drew1) | exact HB.out))) hn_)))) (below_size (by repeat (first | (with_reducible first | exact HB.out | apply below_alloc | apply pw_below_drewN | apply below_drew1) | exact HB.out)))); have n2_ := Aside0.mk (below_step (by repeat (first | (with_reducible first | exact HB.out | apply below_alloc | apply pw_below_drewN | apply below_drew1) | exact HB.out)) hb); clear HO_7; clear HB; have HO_7 := n0_; have HO126 := n1_; have HB := n2_; clear n0_ n1_ n2_; (try clear hb); (try clear hb2); (try clear hk); (try clear hi); (try clear ho0)))
              go_ret
              exact ⟨_, by first | rfl | (simp [errW_none, errW_some] <;> rfl) | (simp only [← hji4]; first | rfl | (simp [errW_none, errW_some] <;> rfl)) | (simp [*, errW_none, errW_some] <;> rfl), by (with_reducible repeat (first | apply Kd.V_alloc | apply Kd.V_drewN | apply Kd.V_drew)); exact HO126.out, by repeat (first | (with_reducible first | exact HB.out | apply below_alloc | apply pw_below_drewN | apply below_drew1) | exact HB.out)⟩
      · rw [if_neg c6] at H
        exact absurd H (by simp)
    · rw [if_neg c5] at H
      exact absurd H (by simp)

-- NOT PRINTED: function 50 (smallbig_Int_Lsh)

-- NOT PRINTED: function 51 (smallbig_Int_Neg)

-- NOT PRINTED: function 37 (workmath_CompactToBig)

-- NOT PRINTED: function 26 (blockchain_CompactToBig)

/-- A state of type 73 at block g of W; what its slices lead to came in by w0. -/
def IsS73 (w0 W : World) (g : Nat) (f0 : Bool) (f1 : List Int) : Prop := ∃ A1 c1, W.heap[g]? = some (.cells #[.bool f0, .slice A1 f1.length c1] 73 (0, 0)) ∧ w0.heap.size ≤ g ∧ Kd.C (Kd.int .u32) w0 A1 f1.length f1
theorem IsS73.grown {w0 W : World} {g : Nat} {f0 : Bool} {f1 : List Int} {W1 : World} {row : Option Nat} (h : IsS73 w0 W g f0 f1) (hw : W.grownBy W1 row) (hne : some g ≠ row) : IsS73 w0 W1 g f0 f1 := by
  obtain ⟨A1, c1, hb, hg, hr1⟩ := h
  exact ⟨A1, c1, blk_grown hb hw hne, hg, hr1⟩
theorem IsS73.own_neN {w0 W : World} {g : Nat} {f0 : Bool} {f1 : List Int} {α : Type} {d : Kd α} {e : Nat} {base : Nat} {ok : Nat → Prop} {v : Value} {xs : List α} (h : IsS73 w0 W g f0 f1) (ho : Kd.N d e W base ok v xs) (ht : e ≠ 73) : some g ≠ v.ownBlock := by
  obtain ⟨A1, c1, hb, hg, hr1⟩ := h
  exact Kd.N_ne ho hb ht
theorem IsS73.fresh {w0 W : World} {g : Nat} {f0 : Bool} {f1 : List Int} (h : IsS73 w0 W g f0 f1) : ∀ k, W.heap.size ≤ k → k ≠ g := by
  obtain ⟨A1, c1, hb, hg, hr1⟩ := h
  exact Kd.freshB hb
theorem IsS73.kept {w0 W : World} {g : Nat} {f0 : Bool} {f1 : List Int} {W1 : World} {S : Nat → Prop} (h : IsS73 w0 W g f0 f1) (hk : Kept W W1 S) (hne : ¬ S g) : IsS73 w0 W1 g f0 f1 := by
  obtain ⟨A1, c1, hb, hg, hr1⟩ := h
  exact ⟨A1, c1, blk_kept hb hk hne, hg, hr1⟩
theorem IsS73.below {w0 W : World} {g : Nat} {f0 : Bool} {f1 : List Int} {W1 : World} (h : IsS73 w0 W g f0 f1) (hw : Below W.heap.size W W1) : IsS73 w0 W1 g f0 f1 := h.grown (grown_of_below hw none) (by simp)
theorem IsS73.alloc {w0 W : World} {g : Nat} {f0 : Bool} {f1 : List Int} (h : IsS73 w0 W g f0 f1) (o : Obj) : IsS73 w0 (W.alloc o) g f0 f1 := h.below (below_alloc (Below.refl _ _) o)
theorem IsS73.drewN {w0 W : World} {g : Nat} {f0 : Bool} {f1 : List Int} (h : IsS73 w0 W g f0 f1) (m : Nat) : IsS73 w0 (W.drewN m) g f0 f1 := h
theorem IsS73.drew {w0 W : World} {g : Nat} {f0 : Bool} {f1 : List Int} (h : IsS73 w0 W g f0 f1) : IsS73 w0 W.drew g f0 f1 := h
theorem IsS73.at_ {w0 W : World} {g : Nat} {f0 : Bool} {f1 : List Int} {w' : World} {m : Nat} (hq : W.drewN m = w') (h : IsS73 w0 W g f0 f1) : IsS73 w0 w' g f0 f1 := by subst hq; exact IsS73.drewN h m
theorem IsS73.apart {w0 W : World} {g : Nat} {f0 : Bool} {f1 : List Int} {α : Type} {d : Kd α} {e : Nat} {base : Nat} {ok : Nat → Prop} {v : Value} {xs : List α} (h : IsS73 w0 W g f0 f1) (ho : d.R e W base ok v xs) (ht : ∀ q, q ∈ e :: d.E → q ≠ 73) : d.R e W base (fun k => ok k ∧ k ≠ g) v xs := by
  obtain ⟨A1, c1, hb, hg, hr1⟩ := h
  exact Kd.R_types ho hb ht
theorem IsS73.own_ne {w0 W : World} {g : Nat} {f0 : Bool} {f1 : List Int} {α : Type} {d : Kd α} {e : Nat} {base : Nat} {ok : Nat → Prop} {v : Value} {xs : List α} (h : IsS73 w0 W g f0 f1) (ho : d.R e W base ok v xs) (ht : e ≠ 73) : some g ≠ v.ownBlock := by
  obtain ⟨A1, c1, hb, hg, hr1⟩ := h
  exact Kd.R_ne ho hb ht
theorem IsS73.apartQ {w0 W : World} {g : Nat} {f0 : Bool} {f1 : List Int} {α : Type} {d : Kd α} {e : Nat} {base : Nat} {ok : Nat → Prop} {v : Value} {xs : List α} (h : IsS73 w0 W g f0 f1) (ho : d.Q e W base ok v xs) (ht : ∀ q, q ∈ e :: d.E → q ≠ 73) : d.Q e W base (fun k => ok k ∧ k ≠ g) v xs := by
  obtain ⟨A1, c1, hb, hg, hr1⟩ := h
  exact Kd.Q_types ho hb ht
theorem IsS73.own_neQ {w0 W : World} {g : Nat} {f0 : Bool} {f1 : List Int} {α : Type} {d : Kd α} {e : Nat} {base : Nat} {ok : Nat → Prop} {v : Value} {xs : List α} (h : IsS73 w0 W g f0 f1) (ho : d.Q e W base ok v xs) (ht : e ≠ 73) : some g ≠ v.ownBlock := by
  obtain ⟨A1, c1, hb, hg, hr1⟩ := h
  exact Kd.Q_ne ho hb ht
theorem IsS73.apartS {w0 W : World} {g : Nat} {f0 : Bool} {f1 : List Int} {α : Type} {d : Kd α} {e : Nat} {base : Nat} {ok : Nat → Prop} {v : Value} {xs : List α} (h : IsS73 w0 W g f0 f1) (ho : d.S e W base ok v xs) (ht : ∀ q, q ∈ e :: d.E → q ≠ 73) : d.S e W base (fun k => ok k ∧ k ≠ g) v xs := by
  obtain ⟨A1, c1, hb, hg, hr1⟩ := h
  exact Kd.S_types ho hb ht
theorem IsS73.own_neS {w0 W : World} {g : Nat} {f0 : Bool} {f1 : List Int} {α : Type} {d : Kd α} {e : Nat} {base : Nat} {ok : Nat → Prop} {v : Value} {xs : List α} (h : IsS73 w0 W g f0 f1) (ho : d.S e W base ok v xs) (ht : e ≠ 73) : some g ≠ v.ownBlock := by
  obtain ⟨A1, c1, hb, hg, hr1⟩ := h
  exact Kd.S_ne ho hb ht
theorem IsS73.lt {w0 W : World} {g : Nat} {f0 : Bool} {f1 : List Int} (h : IsS73 w0 W g f0 f1) : g < W.heap.size := by
  obtain ⟨A1, c1, hb, hg, hr1⟩ := h
  exact blk_lt hb
theorem IsS73.ge {w0 W : World} {g : Nat} {f0 : Bool} {f1 : List Int} (h : IsS73 w0 W g f0 f1) : w0.heap.size ≤ g := by
  obtain ⟨A1, c1, hb, hg, hr1⟩ := h
  exact hg
theorem IsS73.ne_blk {w0 W : World} {g : Nat} {f0 : Bool} {f1 : List Int} {a : Nat} {cs : Array Value} {t : TypeId} {fr : Nat × Nat} (h : IsS73 w0 W g f0 f1) (hb2 : W.heap[a]? = some (.cells cs t fr)) (ht : t ≠ 73) : g ≠ a := by
  obtain ⟨A1, c1, hb, hg, hr1⟩ := h
  rintro rfl
  rw [hb] at hb2
  injection hb2 with hb2
  injection hb2 with _ ht2
  exact ht ht2.symm
theorem IsS73.far {w0 W : World} {g : Nat} {f0 : Bool} {f1 : List Int} {p : Addr} (h : IsS73 w0 W g f0 f1) (hne : g ≠ p.block) (u : Value) : IsS73 w0 (W.setCell p u) g f0 f1 := by
  obtain ⟨A1, c1, hb, hg, hr1⟩ := h
  exact ⟨A1, c1, blk_far hb hne u, hg, hr1⟩
theorem cellS73_0 {W : World} {g : Nat} {A1 : Option Addr} {c1 : Nat} {f0 : Bool} {f1 : List Int} (h : W.heap[g]? = some (.cells #[.bool f0, .slice A1 f1.length c1] 73 (0, 0))) : W.cell? ⟨g, 0, none⟩ = some (.bool f0) := (blk_cell h 0).trans rfl
theorem IsS73.set_0 {w0 W : World} {g : Nat} {f0 : Bool} {f1 : List Int} (h : IsS73 w0 W g f0 f1) (x : Bool) : IsS73 w0 (W.setCell ⟨g, 0, none⟩ (.bool x)) g x f1 := by
  obtain ⟨A1, c1, hb, hg, hr1⟩ := h
  exact ⟨A1, c1, by simpa using blk_set hb 0 (.bool x), hg, hr1⟩
theorem cellS73_1 {W : World} {g : Nat} {A1 : Option Addr} {c1 : Nat} {f0 : Bool} {f1 : List Int} (h : W.heap[g]? = some (.cells #[.bool f0, .slice A1 f1.length c1] 73 (0, 0))) : W.cell? ⟨g, 1, none⟩ = some (.slice A1 f1.length c1) := (blk_cell h 1).trans rfl
theorem IsS73.new (w0 W : World) (A1 : Option Addr) (c1 : Nat) (f0 : Bool) (f1 : List Int) (hB : Below w0.heap.size w0 W) (hr1 : Kd.C (Kd.int .u32) w0 A1 f1.length f1) : IsS73 w0 (W.alloc (.cells #[.bool f0, .slice A1 f1.length c1] 73)) W.heap.size f0 f1 := ⟨A1, c1, by simpa using heap_alloc_new W _, hB.size, hr1⟩

/-! ### smallbig_Int_Sign: function 27 -/
def smallbig_Int_Sign.f (s0_0 : Bool) (s0_1 : List Int) : Option (Int × Bool) := if (s0_1.length : Int) = 0 then (some (0, s0_0)) else (if s0_0 = true then (some ((-1), s0_0)) else (some (1, s0_0)))
set_option maxHeartbeats 8000000 in
set_option maxRecDepth 100000 in
theorem smallbig_Int_Sign.calls (g : Nat) (s0_0 : Bool) (s0_1 : List Int) (r1 : Int) (r2 : Bool) (w0 w : World) (hI : IsS73 w0 w g s0_0 s0_1) (hB : Below w0.heap.size w0 w) (h : smallbig_Int_Sign.f s0_0 s0_1 = some (r1, r2)) :
    Calls Try.prog 27 #[.pointer (some ⟨g, 0, none⟩)] w fun e w' => e = .returned (.int .i64 r1) ∧ IsS73 w0 w' g r2 s0_1 ∧ Below w0.heap.size w0 w' ∧ KeepBut w w' g none := by
  have HI0 := Aside0.mk hI
  have HK := Aside0.mk (KeepBut.refl w g none)
  have HL := Aside0.mk hB.size
  clear hI
  have HW0 := Aside0.mk hB.size
  have HB := Aside0.mk hB
  clear hB
  have H : (if (s0_1.length : Int) = 0 then (some (0, s0_0)) else (if s0_0 = true then (some ((-1), s0_0)) else (some (1, s0_0)))) = some (r1, r2) := h
  clear h
  by_cases c2 : (s0_1.length : Int) = 0
  · rw [if_pos c2] at H
    have c2b0 : ((s0_1.length : Int) == 0) = true := beq_iff_eq.mpr c2
    have c2b1 : ((s0_1.length : Int) != 0) = false := bne_eq_false_iff_eq.mpr c2
    clear c2
    simp only [Option.some.injEq, Prod.mk.injEq] at H
    obtain ⟨rfl, rfl⟩ := H
    obtain ⟨ASz3_1, cSz3_1, HGz3, hgz3, HSz3_1⟩ := HI0.out
    have hcz3_0 := cellS73_0 HGz3
    have hcz3_1 := cellS73_1 HGz3
    have hfz3_0 := blk_frozen HGz3 0
    clear HGz3 hgz3
    go_enter Try.func27, Try.ntmps27
    go_wp2
    go_ret
    exact ⟨by first | rfl | (simp [errW_none, errW_some] <;> rfl) | (simp [*, errW_none, errW_some] <;> rfl), by repeat (first | (with_reducible first | exact HI0.out | apply IsS73.alloc | apply IsS73.drewN | apply IsS73.drew | apply IsS73.set_0) | exact HI0.out), by repeat (first | (with_reducible first | exact HB.out | apply below_alloc | apply pw_below_drewN | apply below_drew1 | refine below_set ?_ (IsS73.ge HI0.out)) | exact HB.out), by repeat (first | (with_reducible first | exact HK.out | apply KeepBut.set_ | apply keep_drewN | apply keep_drew | apply keep_alloc) | exact HK.out)⟩
  · rw [if_neg c2] at H
    have c2b0 : ((s0_1.length : Int) == 0) = false := beq_eq_false_iff_ne.mpr c2
    have c2b1 : ((s0_1.length : Int) != 0) = true := bne_iff_ne.mpr c2
    have c2b2 : ¬ (s0_1 = []) := fun h_ => c2 (by rw [h_]; rfl)
    by_cases c4 : s0_0 = true
    · subst c4
      have H1 : (some ((-1), true)) = some (r1, r2) := by rw [if_pos rfl] at H; exact H
      clear H
      have H := H1
      clear H1
      simp only [Option.some.injEq, Prod.mk.injEq] at H
      obtain ⟨rfl, rfl⟩ := H
      obtain ⟨ASz5_1, cSz5_1, HGz5, hgz5, HSz5_1⟩ := HI0.out
      have hcz5_0 := cellS73_0 HGz5
      have hcz5_1 := cellS73_1 HGz5
      have hfz5_0 := blk_frozen HGz5 0
      clear HGz5 hgz5
      go_enter Try.func27, Try.ntmps27
      go_wp2
      go_ret
      exact ⟨by first | rfl | (simp [errW_none, errW_some] <;> rfl) | (simp [*, errW_none, errW_some] <;> rfl), by repeat (first | (with_reducible first | exact HI0.out | apply IsS73.alloc | apply IsS73.drewN | apply IsS73.drew | apply IsS73.set_0) | exact HI0.out), by repeat (first | (with_reducible first | exact HB.out | apply below_alloc | apply pw_below_drewN | apply below_drew1 | refine below_set ?_ (IsS73.ge HI0.out)) | exact HB.out), by repeat (first | (with_reducible first | exact HK.out | apply KeepBut.set_ | apply keep_drewN | apply keep_drew | apply keep_alloc) | exact HK.out)⟩
    · replace c4 := Bool.eq_false_iff.mpr c4
      subst c4
      have H1 : (some (1, false)) = some (r1, r2) := by rw [if_neg (show ¬ (false = true) by decide)] at H; exact H
      clear H
      have H := H1
      clear H1
      simp only [Option.some.injEq, Prod.mk.injEq] at H
      obtain ⟨rfl, rfl⟩ := H
      obtain ⟨ASz6_1, cSz6_1, HGz6, hgz6, HSz6_1⟩ := HI0.out
      have hcz6_0 := cellS73_0 HGz6
      have hcz6_1 := cellS73_1 HGz6
      have hfz6_0 := blk_frozen HGz6 0
      clear HGz6 hgz6
      go_enter Try.func27, Try.ntmps27
      go_wp2
      go_ret
      exact ⟨by first | rfl | (simp [errW_none, errW_some] <;> rfl) | (simp [*, errW_none, errW_some] <;> rfl), by repeat (first | (with_reducible first | exact HI0.out | apply IsS73.alloc | apply IsS73.drewN | apply IsS73.drew | apply IsS73.set_0) | exact HI0.out), by repeat (first | (with_reducible first | exact HB.out | apply below_alloc | apply pw_below_drewN | apply below_drew1 | refine below_set ?_ (IsS73.ge HI0.out)) | exact HB.out), by repeat (first | (with_reducible first | exact HK.out | apply KeepBut.set_ | apply keep_drewN | apply keep_drew | apply keep_alloc) | exact HK.out)⟩

/-! ### blockchain_ruleError: function 28 -/
def blockchain_ruleError.f (a0 : Int) (a1 : ByteArray) : Option (Int × ByteArray) := some (a0, a1)
set_option maxHeartbeats 8000000 in
set_option maxRecDepth 100000 in
theorem blockchain_ruleError.calls (a0 : Int) (a1 : ByteArray) (r1 : Int) (r2 : ByteArray) (w : World) (h : blockchain_ruleError.f a0 a1 = some (r1, r2)) :
    Calls Try.prog 28 #[.int .i64 a0, .string a1] w fun e w' => e = .returned (.agg #[.int .i64 r1, .string r2]) ∧ Below w.heap.size w w' := by
  have hu54 := Try.underlying54
  have HB := Aside0.mk (Below.refl w.heap.size w)
  have H : (some (a0, a1)) = some (r1, r2) := h
  clear h
  simp only [Option.some.injEq, Prod.mk.injEq] at H
  obtain ⟨rfl, rfl⟩ := H
  go_enter Try.func28, Try.ntmps28
  go_wp2_with (first | ((with_reducible refine gate_dst (N := 4) rfl ?_); refine box_event ?hg (N := 4) ?hd (cs := #[.int .i64 0, .string (⟨#[]⟩ : ByteArray)]) (t := 54) ?hr ?_; (case hd => rfl); (case hg => rfl); (case hr => first | (go_simp; done) | (go_simp; rfl)); intro gb127 hg w3 hbox hb; have n0_ := Aside0.mk (below_step (by repeat (first | (with_reducible first | exact HB.out | apply below_alloc | apply pw_below_drewN | apply below_drew1) | exact HB.out)) hb); have n1_ := Aside0.mk (hbox); have n2_ := Aside0.mk ((by rw [hg]; exact (below_size (by repeat (first | (with_reducible first | exact HB.out | apply below_alloc | apply pw_below_drewN | apply below_drew1) | exact HB.out))) : w.heap.size ≤ gb127)); have n3_ := Aside0.mk ((by rw [hg]; exact (below_size (by repeat (first | (with_reducible first | exact HB.out | apply below_alloc | apply pw_below_drewN | apply below_drew1) | exact HB.out))) : w.heap.size ≤ gb127)); clear HB; have HB := n0_; have BK127 := n1_; have GW127 := n2_; have GE127 := n3_; clear n0_ n1_ n2_ n3_; clear hb hbox hg; have hcz4_0 : w3.cell? ⟨gb127, 0, none⟩ = some (.int .i64 0) := (blk_cell BK127.out 0).trans rfl; have hcz4_1 : w3.cell? ⟨gb127, 1, none⟩ = some (.string (⟨#[]⟩ : ByteArray)) := (blk_cell BK127.out 1).trans rfl; have hfz4_0 := blk_frozen BK127.out 0; have hfz4_1 := blk_frozen BK127.out 1))
  refine bodyPost_ret (results_cell_row rfl _ _ gb127 54 #[.int .i64 a0, .string a1] (0, 0) _ rfl (by (with_reducible repeat (first | refine blk_drewN ?_ _ | refine blk_drew ?_ | refine blk_alloc ?_ _)); refine blk_put (cs := #[.int .i64 a0, .string (⟨#[]⟩ : ByteArray)]) ?_ 1 _ rfl; (with_reducible repeat (first | refine blk_drewN ?_ _ | refine blk_drew ?_ | refine blk_alloc ?_ _)); refine blk_put (cs := #[.int .i64 0, .string (⟨#[]⟩ : ByteArray)]) ?_ 0 _ rfl; (with_reducible repeat (first | refine blk_drewN ?_ _ | refine blk_drew ?_ | refine blk_alloc ?_ _)); exact BK127.out) Try.underlying54 rfl (by kernel_rfl)) rfl ?_
  exact ⟨by first | rfl | (simp [errW_none, errW_some] <;> rfl) | (simp [*, errW_none, errW_some] <;> rfl), by repeat (first | (with_reducible first | exact HB.out | apply below_alloc | apply pw_below_drewN | apply below_drew1 | refine below_set ?_ GE127.out) | exact HB.out)⟩

/-! ### smallbig_nat_cmp: function 38 -/
def smallbig_nat_cmp.l0 : Nat → List Int → List Int → Int → Option (Int)
  | 0, _, _, _ => none
  | k + 1, x0, x1, x5 => if x5 ≥ 0 then (if 0 ≤ x5 then (if x5 < (x0.length : Int) then (if x5 < (x1.length : Int) then (if (rd x0 x5) = (rd x1 x5) then (smallbig_nat_cmp.l0 k x0 x1 (wrap64 (x5 - 1))) else (if (rd x0 x5) < (rd x1 x5) then (some (-1)) else (some 1))) else (none)) else (none)) else (none)) else (some 0)
def smallbig_nat_cmp.f (k : Nat) (l0 : List Int) (l1 : List Int) : Option (Int) := if (l0.length : Int) = (l1.length : Int) then (smallbig_nat_cmp.l0 k l0 l1 (wrap64 ((l0.length : Int) - 1))) else (if (l0.length : Int) < (l1.length : Int) then (some (-1)) else (some 1))
theorem smallbig_nat_cmp.mono_l : ∀ k, (∀ y0 y1 y2, LeO (smallbig_nat_cmp.l0 k y0 y1 y2) (smallbig_nat_cmp.l0 (k + 1) y0 y1 y2))
  | 0 => fun _ _ _ r h => by simp [smallbig_nat_cmp.l0] at h
  | k + 1 => by
    have ih0 := smallbig_nat_cmp.mono_l k
    · intro y0 y1 y2
      unfold smallbig_nat_cmp.l0
      repeat' first
      | (with_reducible exact ih0 _ _ _)
      | (with_reducible exact LeO.refl _)
      | (with_reducible exact LeO.none _)
      | (with_reducible refine LeO.ite ?_ ?_)
      | (with_reducible refine LeO.bind ?_ (fun _ => ?_))
      | exact ih0 _ _ _
      | exact LeO.none _
      | refine LeO.ite ?_ ?_
      | refine LeO.bind ?_ (fun _ => ?_)
theorem smallbig_nat_cmp.mono : ∀ a0 a1 k, LeO (smallbig_nat_cmp.f k a0 a1) (smallbig_nat_cmp.f (k + 1) a0 a1) := by
  intro a0 a1 k
  have ih0 := smallbig_nat_cmp.mono_l k
  unfold smallbig_nat_cmp.f
  repeat' first
      | (with_reducible exact ih0 _ _ _)
      | (with_reducible exact LeO.refl _)
      | (with_reducible exact LeO.none _)
      | (with_reducible refine LeO.ite ?_ ?_)
      | (with_reducible refine LeO.bind ?_ (fun _ => ?_))
      | exact ih0 _ _ _
      | exact LeO.none _
      | refine LeO.ite ?_ ?_
      | refine LeO.bind ?_ (fun _ => ?_)
set_option maxHeartbeats 8000000 in
set_option maxRecDepth 100000 in
theorem smallbig_nat_cmp.calls (k : Nat) (A0 : Option Addr) (c0 : Nat) (l0 : List Int) (A1 : Option Addr) (c1 : Nat) (l1 : List Int) (r : Int) (w : World) (hr0 : Kd.C (Kd.int .u32) w A0 l0.length l0) (hc0 : l0.length ≤ c0) (hr1 : Kd.C (Kd.int .u32) w A1 l1.length l1) (hc1 : l1.length ≤ c1) (h : smallbig_nat_cmp.f k l0 l1 = some r) :
    Calls Try.prog 38 #[.slice A0 l0.length c0, .slice A1 l1.length c1] w fun e w' => e = .returned (.int .i64 r) ∧ Drawn0 w w' := by
  have HR0 := Aside0.mk hr0
  have HC0 := Aside0.mk hc0
  clear hr0 hc0
  have HR1 := Aside0.mk hr1
  have HC1 := Aside0.mk hc1
  clear hr1 hc1
  have H : (if (l0.length : Int) = (l1.length : Int) then (smallbig_nat_cmp.l0 k l0 l1 (wrap64 ((l0.length : Int) - 1))) else (if (l0.length : Int) < (l1.length : Int) then (some (-1)) else (some 1))) = some r := h
  clear h
  by_cases c3 : (l0.length : Int) = (l1.length : Int)
  · rw [if_pos c3] at H
    have c3b0 : ((l0.length : Int) == (l1.length : Int)) = true := beq_iff_eq.mpr c3
    have c3b1 : ((l0.length : Int) != (l1.length : Int)) = false := bne_eq_false_iff_eq.mpr c3
    have c3b2 : (l0.length == l1.length) = true := by first | simpa using c3 | (simp at c3 ⊢; omega)
    clear c3
    have H' := Aside0.mk H
    clear H
    go_enter Try.func38, Try.ntmps38
    go_wp2
    repeat (go_quiet (fail); try go_wp2)
    go_loopg [5] k (fun kq v5 w' => ∃ (x5_1 : Int), v5 = .int .i64 x5_1 ∧ Aside0 (smallbig_nat_cmp.l0 kq l0 l1 x5_1 = some r) ∧ Aside0 (kq ≤ k) ∧ Drawn0 w w')
    case atStart => exact ⟨(wrap64 ((l0.length : Int) - 1)), (by first | rfl | (simp; done) | (simp [*]; done)), H', ⟨Nat.le_refl _⟩, by repeat (first | exact Drawn0.refl _ | apply Drawn0.step)⟩
    case round =>
      clear H'
      try clear c1
      try clear p2
      try clear c3
      try clear c3b0
      try clear c3b1
      try clear c3b2
      obtain ⟨x5_1, rfl, HA, HK1, ⟨m1, rfl⟩⟩ := hrel
      cases gk with
      | zero => exact absurd HA.out (by simp [smallbig_nat_cmp.l0])
      | succ k1 =>
        have H := HA.out
        clear HA
        simp only [smallbig_nat_cmp.l0] at H
        by_cases c4 : x5_1 ≥ 0
        · rw [if_pos c4] at H
          have c4b0 : decide (0 ≤ x5_1) = true := decide_eq_true c4
          clear c4
          by_cases c5 : 0 ≤ x5_1
          · rw [if_pos c5] at H
            have c5b0 : decide (0 ≤ x5_1) = true := decide_eq_true c5
            clear c5
            by_cases c6 : x5_1 < (l0.length : Int)
            · rw [if_pos c6] at H
              have c6b0 : decide (x5_1 < (l0.length : Int)) = true := decide_eq_true c6
              clear c6
              by_cases c7 : x5_1 < (l1.length : Int)
              · rw [if_pos c7] at H
                have c7b0 : decide (x5_1 < (l1.length : Int)) = true := decide_eq_true c7
                clear c7
                by_cases c8 : (rd l0 x5_1) = (rd l1 x5_1)
                · rw [if_pos c8] at H
                  have c8b0 : ((rd l0 x5_1) == (rd l1 x5_1)) = true := beq_iff_eq.mpr c8
                  have c8b1 : ((rd l0 x5_1) != (rd l1 x5_1)) = false := bne_eq_false_iff_eq.mpr c8
                  clear c8
                  have H' := Aside0.mk H
                  clear H
                  have p128 : 0 ≤ (x5_1 : Int) := of_decide_eq_true (by first | (with_reducible assumption) | assumption)
                  have q128 : x5_1 < (l0.length : Int) := of_decide_eq_true (by first | (with_reducible assumption) | assumption)
                  obtain ⟨ad128, e128, hx128_0⟩ := Kd.at_int HR0.out x5_1 p128 q128
                  cases e128
                  replace p128 := eq_true p128
                  replace q128 := eq_true q128
                  have p129 : 0 ≤ (x5_1 : Int) := of_decide_eq_true (by first | (with_reducible assumption) | assumption)
                  have q129 : x5_1 < (l1.length : Int) := of_decide_eq_true (by first | (with_reducible assumption) | assumption)
                  obtain ⟨ad129, e129, hx129_0⟩ := Kd.at_int HR1.out x5_1 p129 q129
                  cases e129
                  replace p129 := eq_true p129
                  replace q129 := eq_true q129
                  go_wp2
                  repeat (go_quiet (fail); try go_wp2)
                  go_roundg k1
                  case measure => have := HK1.out; omega
                  case rel => exact ⟨(wrap64 (x5_1 - 1)), (by first | rfl | (simp; done) | (simp [*]; done)), (by first | exact H' | (subst_vars; exact H')), ⟨by have := HK1.out; omega⟩, by repeat (first | exact Drawn0.refl _ | apply Drawn0.step)⟩
                · rw [if_neg c8] at H
                  have c8b0 : ((rd l0 x5_1) == (rd l1 x5_1)) = false := beq_eq_false_iff_ne.mpr c8
                  have c8b1 : ((rd l0 x5_1) != (rd l1 x5_1)) = true := bne_iff_ne.mpr c8
                  by_cases c9 : (rd l0 x5_1) < (rd l1 x5_1)
                  · rw [if_pos c9] at H
                    have c9b0 : decide ((rd l0 x5_1) < (rd l1 x5_1)) = true := decide_eq_true c9
                    clear c9
                    obtain rfl := Option.some.inj H
                    have p128 : 0 ≤ (x5_1 : Int) := of_decide_eq_true (by first | (with_reducible assumption) | assumption)
                    have q128 : x5_1 < (l0.length : Int) := of_decide_eq_true (by first | (with_reducible assumption) | assumption)
                    obtain ⟨ad128, e128, hx128_0⟩ := Kd.at_int HR0.out x5_1 p128 q128
                    cases e128
                    replace p128 := eq_true p128
                    replace q128 := eq_true q128
                    have p129 : 0 ≤ (x5_1 : Int) := of_decide_eq_true (by first | (with_reducible assumption) | assumption)
                    have q129 : x5_1 < (l1.length : Int) := of_decide_eq_true (by first | (with_reducible assumption) | assumption)
                    obtain ⟨ad129, e129, hx129_0⟩ := Kd.at_int HR1.out x5_1 p129 q129
                    cases e129
                    replace p129 := eq_true p129
                    replace q129 := eq_true q129
                    have p130 : 0 ≤ (x5_1 : Int) := of_decide_eq_true (by first | (with_reducible assumption) | assumption)
                    have q130 : x5_1 < (l0.length : Int) := of_decide_eq_true (by first | (with_reducible assumption) | assumption)
                    obtain ⟨ad130, e130, hx130_0⟩ := Kd.at_int HR0.out x5_1 p130 q130
                    obtain rfl : ad128 = ad130 := (by injection e130)
                    replace p130 := eq_true p130
                    replace q130 := eq_true q130
                    have p131 : 0 ≤ (x5_1 : Int) := of_decide_eq_true (by first | (with_reducible assumption) | assumption)
                    have q131 : x5_1 < (l1.length : Int) := of_decide_eq_true (by first | (with_reducible assumption) | assumption)
                    obtain ⟨ad131, e131, hx131_0⟩ := Kd.at_int HR1.out x5_1 p131 q131
                    obtain rfl : ad129 = ad131 := (by injection e131)
                    replace p131 := eq_true p131
                    replace q131 := eq_true q131
                    go_wp2
                    repeat (go_quiet (fail); try go_wp2)
                    go_ret
                    exact ⟨by first | rfl | (simp; done) | (simp [*]; done), by repeat (first | exact Drawn0.refl _ | apply Drawn0.step)⟩
                  · rw [if_neg c9] at H
                    have c9b0 : decide ((rd l0 x5_1) < (rd l1 x5_1)) = false := decide_eq_false c9
                    clear c9
                    obtain rfl := Option.some.inj H
                    have p128 : 0 ≤ (x5_1 : Int) := of_decide_eq_true (by first | (with_reducible assumption) | assumption)
                    have q128 : x5_1 < (l0.length : Int) := of_decide_eq_true (by first | (with_reducible assumption) | assumption)
                    obtain ⟨ad128, e128, hx128_0⟩ := Kd.at_int HR0.out x5_1 p128 q128
                    cases e128
                    replace p128 := eq_true p128
                    replace q128 := eq_true q128
                    have p129 : 0 ≤ (x5_1 : Int) := of_decide_eq_true (by first | (with_reducible assumption) | assumption)
                    have q129 : x5_1 < (l1.length : Int) := of_decide_eq_true (by first | (with_reducible assumption) | assumption)
                    obtain ⟨ad129, e129, hx129_0⟩ := Kd.at_int HR1.out x5_1 p129 q129
                    cases e129
                    replace p129 := eq_true p129
                    replace q129 := eq_true q129
                    have p130 : 0 ≤ (x5_1 : Int) := of_decide_eq_true (by first | (with_reducible assumption) | assumption)
                    have q130 : x5_1 < (l0.length : Int) := of_decide_eq_true (by first | (with_reducible assumption) | assumption)
                    obtain ⟨ad130, e130, hx130_0⟩ := Kd.at_int HR0.out x5_1 p130 q130
                    obtain rfl : ad128 = ad130 := (by injection e130)
                    replace p130 := eq_true p130
                    replace q130 := eq_true q130
                    have p131 : 0 ≤ (x5_1 : Int) := of_decide_eq_true (by first | (with_reducible assumption) | assumption)
                    have q131 : x5_1 < (l1.length : Int) := of_decide_eq_true (by first | (with_reducible assumption) | assumption)
                    obtain ⟨ad131, e131, hx131_0⟩ := Kd.at_int HR1.out x5_1 p131 q131
                    obtain rfl : ad129 = ad131 := (by injection e131)
                    replace p131 := eq_true p131
                    replace q131 := eq_true q131
                    go_wp2
                    repeat (go_quiet (fail); try go_wp2)
                    go_ret
                    exact ⟨by first | rfl | (simp; done) | (simp [*]; done), by repeat (first | exact Drawn0.refl _ | apply Drawn0.step)⟩
              · rw [if_neg c7] at H
                exact absurd H (by simp)
            · rw [if_neg c6] at H
              exact absurd H (by simp)
          · rw [if_neg c5] at H
            exact absurd H (by simp)
        · rw [if_neg c4] at H
          have c4b0 : decide (0 ≤ x5_1) = false := decide_eq_false c4
          clear c4
          obtain rfl := Option.some.inj H
          go_wp2
          repeat (go_quiet (fail); try go_wp2)
          go_ret
          exact ⟨by first | rfl | (simp; done) | (simp [*]; done), by repeat (first | exact Drawn0.refl _ | apply Drawn0.step)⟩
  · rw [if_neg c3] at H
    have c3b0 : ((l0.length : Int) == (l1.length : Int)) = false := beq_eq_false_iff_ne.mpr c3
    have c3b1 : ((l0.length : Int) != (l1.length : Int)) = true := bne_iff_ne.mpr c3
    have c3b2 : (l0.length == l1.length) = false := by first | simpa using c3 | (simp at c3 ⊢; omega)
    by_cases c10 : (l0.length : Int) < (l1.length : Int)
    · rw [if_pos c10] at H
      have c10b0 : decide ((l0.length : Int) < (l1.length : Int)) = true := decide_eq_true c10
      have c10b1 : decide (l0.length < l1.length) = true := decide_eq_true (Int.ofNat_lt.mp c10)
      clear c10
      obtain rfl := Option.some.inj H
      go_enter Try.func38, Try.ntmps38
      go_wp2
      repeat (go_quiet (fail); try go_wp2)
      go_ret
      exact ⟨by first | rfl | (simp; done) | (simp [*]; done), by repeat (first | exact Drawn0.refl _ | apply Drawn0.step)⟩
    · rw [if_neg c10] at H
      have c10b0 : decide ((l0.length : Int) < (l1.length : Int)) = false := decide_eq_false c10
      have c10b1 : decide (l0.length < l1.length) = false := decide_eq_false (fun h => c10 (Int.ofNat_lt.mpr h))
      clear c10
      obtain rfl := Option.some.inj H
      go_enter Try.func38, Try.ntmps38
      go_wp2
      repeat (go_quiet (fail); try go_wp2)
      go_ret
      exact ⟨by first | rfl | (simp; done) | (simp [*]; done), by repeat (first | exact Drawn0.refl _ | apply Drawn0.step)⟩

-- NOT PRINTED: function 29 (smallbig_Int_Cmp)

-- NOT PRINTED: function 47 (boring_NewSHA256)

-- NOT PRINTED: function 56 (sha256_Digest_Reset)

-- NOT PRINTED: function 48 (sha256_New_48)

-- NOT PRINTED: function 36 (sha256_New_36)

-- NOT PRINTED: function 39 (btcdchainhash_DoubleHashRaw)

-- NOT PRINTED: function 30 (btcdwire_BlockHeader_BlockHash)

-- NOT PRINTED: function 22 (smallbig_Int_SetBytes)

-- NOT PRINTED: function 42 (workmath_HashToBig)

-- NOT PRINTED: function 31 (blockchain_HashToBig)

-- NOT PRINTED: function 18 (blockchain_checkProofOfWork)

-- NOT PRINTED: function 19 (btcdbtcutil_Block_MsgBlock)

-- NOT PRINTED: function 10 (blockchain_CheckProofOfWork)

-- NOT PRINTED: function 20 (btcdbtcutil_NewBlock)

/-! ### time_Unix: function 43 -/
def time_Unix.f (a0 : Int) (a1 : Int) : Option (Int) := some a0
set_option maxHeartbeats 8000000 in
set_option maxRecDepth 100000 in
theorem time_Unix.calls (a0 : Int) (a1 : Int) (r : Int) (w : World) (h : time_Unix.f a0 a1 = some r) :
    Calls Try.prog 43 #[.int .i64 a0, .int .i64 a1] w fun e w' => e = .returned (.agg #[.int .i64 r]) ∧ Below w.heap.size w w' := by
  have hu59 := Try.underlying59
  have HB := Aside0.mk (Below.refl w.heap.size w)
  have H : (some a0) = some r := h
  clear h
  obtain rfl := Option.some.inj H
  go_enter Try.func43, Try.ntmps43
  go_wp2_with (first | ((with_reducible refine gate_dst (N := 4) rfl ?_); refine box_event ?hg (N := 4) ?hd (cs := #[.int .i64 0]) (t := 59) ?hr ?_; (case hd => rfl); (case hg => rfl); (case hr => first | (go_simp; done) | (go_simp; rfl)); intro gb132 hg w3 hbox hb; have n0_ := Aside0.mk (below_step (by repeat (first | (with_reducible first | exact HB.out | apply below_alloc | apply pw_below_drewN | apply below_drew1) | exact HB.out)) hb); have n1_ := Aside0.mk (hbox); have n2_ := Aside0.mk ((by rw [hg]; exact (below_size (by repeat (first | (with_reducible first | exact HB.out | apply below_alloc | apply pw_below_drewN | apply below_drew1) | exact HB.out))) : w.heap.size ≤ gb132)); have n3_ := Aside0.mk ((by rw [hg]; exact (below_size (by repeat (first | (with_reducible first | exact HB.out | apply below_alloc | apply pw_below_drewN | apply below_drew1) | exact HB.out))) : w.heap.size ≤ gb132)); clear HB; have HB := n0_; have BK132 := n1_; have GW132 := n2_; have GE132 := n3_; clear n0_ n1_ n2_ n3_; clear hb hbox hg; have hcz4_0 : w3.cell? ⟨gb132, 0, none⟩ = some (.int .i64 0) := (blk_cell BK132.out 0).trans rfl; have hfz4_0 := blk_frozen BK132.out 0))
  refine bodyPost_ret (results_cell_row rfl _ _ gb132 59 #[.int .i64 a0] (0, 0) _ rfl (by (with_reducible repeat (first | refine blk_drewN ?_ _ | refine blk_drew ?_ | refine blk_alloc ?_ _)); refine blk_put (cs := #[.int .i64 0]) ?_ 0 _ rfl; (with_reducible repeat (first | refine blk_drewN ?_ _ | refine blk_drew ?_ | refine blk_alloc ?_ _)); exact BK132.out) Try.underlying59 rfl (by kernel_rfl)) rfl ?_
  exact ⟨by first | rfl | (simp [errW_none, errW_some] <;> rfl) | (simp [*, errW_none, errW_some] <;> rfl), by repeat (first | (with_reducible first | exact HB.out | apply below_alloc | apply pw_below_drewN | apply below_drew1 | refine below_set ?_ GE132.out) | exact HB.out)⟩

-- NOT PRINTED: function 32 (impl_headerOf)

-- NOT PRINTED: function 44 (impl_outPoint)

end Go.Proofs.Ytigpdgfhngknhaa.QFnProofFault
