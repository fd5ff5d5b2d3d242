/- Words beside the print's: an empty row made with a capacity of its own. -/
import Derived.Test.YtdheoajaaofmbaaWWords
import Derived.Test.YtdheoajaaofmbaaWMore
namespace Go.Proofs.YtdheoajaaofmbaaW.PrintWords
open Go.RowKit
theorem nn_mod256 (x : Int) : ((0 : Int) ≤ x % 256) = True := eq_true (Int.emod_nonneg _ (by decide))
theorem nn_mod65536 (x : Int) : ((0 : Int) ≤ x % 65536) = True := eq_true (Int.emod_nonneg _ (by decide))
theorem nn_mod32 (x : Int) : ((0 : Int) ≤ x % 4294967296) = True := eq_true (Int.emod_nonneg _ (by decide))
namespace Kd
section
variable {P : Program} {ops : Array Oper} {rest : List Oper} {o : Oper} {a : Act} {Q : Exit → Act → World → Prop} {α : Type}
theorem R_makecap (d : Kd α) {w0 W : World} (base e : Nat) (hgd : o.guard = none) {N : Tmp} (_hd : o.dst = some N) (t : TypeId) (x y : Operand) (ho : o.op = .makeSlice t x y) (n : Int) (hx : a.eval x = .int .i64 0) (hy : a.eval y = .int .i64 n)
    (ht : P.underlying t = some (.slice e)) (z : Value) (bytes : Nat) (hinfo : (P.info? e).map (fun i => (i.zero, i.size, i.bytes)) = some (some z, d.sz, bytes)) (_hz : z.cells.size = d.sz) (_hs0 : 0 < d.sz) (hb0 : 0 < bytes)
    (z0 : α) {ok okp : Nat → Prop} (_hzero : d.M W base okp z0 z.cells.toList) (_hok : ∀ k, okp k → ok k) (hfresh : ok W.heap.size) (h0 : 0 ≤ n) (hl : n.toNat * bytes ≤ 281474976710656) (HB : Below base w0 W) (hbase : base ≤ W.heap.size)
    (h : ∀ v1 w1, d.R e w1 base ok v1 (List.replicate 0 z0) → Below base w0 w1 → W.grownBy w1 none → (∃ b, v1.ownBlock = some b ∧ W.heap.size ≤ b) → wpList P ops Q rest (a.put o.dst v1) w1) : wpList P ops Q (o :: rest) a W := by
  obtain ⟨m, rfl⟩ := Int.eq_ofNat_of_zero_le h0
  simp only [Int.toNat_natCast] at hl
  obtain ⟨i0, hi, hzz⟩ := Option.map_eq_some_iff.1 hinfo
  simp only [Prod.mk.injEq] at hzz
  obtain ⟨hz0, hz1, hz2⟩ := hzz
  have hm : m ≤ 281474976710656 := Nat.le_trans (Nat.le_mul_of_pos_right _ hb0) hl
  refine wpList_make_own W hgd x y t ho base e i0 z d.sz ht hi hz0 hz1 .i64 .i64 (m : Int) m hx hy rfl (by rw [hz2, Nat.mul_comm]; exact hl) (by unfold maxLen; omega) hbase (fun w1 hown hg => ?_)
  exact h _ w1 ⟨fun k hk => by simp [Value.ownBlock] at hk; subst hk; exact hfresh, [], hown, Reps.none _ _⟩ (HB.grown hg hbase (fun k hk => by cases hk)) hg ⟨W.heap.size, rfl, Nat.le_refl _⟩
end
end Kd
end Go.Proofs.YtdheoajaaofmbaaW.PrintWords
