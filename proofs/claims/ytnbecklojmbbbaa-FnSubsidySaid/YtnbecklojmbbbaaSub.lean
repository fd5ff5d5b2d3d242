/- What a block may make anew is halved each so many blocks: the walks of impl.Subsidy and CalcBlockSubsidy. -/
import Derived.Test.YtnbecklojmbbbaaRows
import Derived.WalkKit
import Derived.WalkSpells
import Derived.WalkLawsBesides
import Derived.Deep.QuietTactic
import Derived.BigQuiet
import Derived.ProofKit
import Derived.OpenShut
namespace Go.Proofs.Ytnbecklojmbbbaa.fnSubsidy
open Go.RowKit

theorem calc_any (h e : Int) (b : Nat) (w : World) (h0 : 0 ≤ h) (h1 : h ≤ 2147483647) (e0 : 0 < e) (e1 : e ≤ 2147483647)
   (hc : w.cell? ⟨b, 15, none⟩ = some (.int .i32 e)) :
    Calls Try.prog 27 #[.int .i32 h, .pointer (some ⟨b, 0, none⟩)] w fun o w' => o = .returned (.int .i64 (5000000000 / 2 ^ (min (IntKind.u64.wrap (h / e)).toNat 64))) ∧ w' = w := by
  have g0 : (e == 0) = false := by simp; omega
  go_enter Try.func27, Try.ntmps27
  go_wp2
  go_ret
  exact ⟨rfl, rfl⟩

theorem calc_zero (h : Int) (b : Nat) (w : World) 
   (hc : w.cell? ⟨b, 15, none⟩ = some (.int .i32 0)) :
    Calls Try.prog 27 #[.int .i32 h, .pointer (some ⟨b, 0, none⟩)] w fun o w' => o = .returned (.int .i64 5000000000) ∧ w' = w := by
  go_enter Try.func27, Try.ntmps27
  go_wp2
  go_ret
  exact ⟨rfl, rfl⟩

/-- a value of type t whose cells are all zero -/
noncomputable def zeroOf (t : TypeId) : Array Value := ((Try.prog.info? t).bind (·.zero)).elim #[] Value.cells
noncomputable def params (v : Value) : Array Value := (zeroOf 67).setIfInBounds 15 v
theorem build67 (e : Int) (w : World) : (Instr.build 67 #[(15, .int .i32 e)]).run Try.prog w = .ok (.agg (params (.int .i32 e))) w := by kernel_rfl
theorem box67 (v : Value) (w : World) : (Instr.box 67 (.agg (params v))).run Try.prog w = .ok (.pointer (some ⟨w.heap.size, 0, none⟩)) (w.alloc (.cells (params v) 67 (0, 0))) := by kernel_rfl
theorem size67 : 15 < (zeroOf 67).size := by decide +kernel
theorem params15 (v : Value) : (params v)[15]? = some v := by
  unfold params; rw [Array.getElem?_setIfInBounds]; simp [size67]

theorem wpList_run {P : Program} {ops : Array Oper} {rest : List Oper} {o : Oper} {a : Act} {w w' : World} {Q : Exit → Act → World → Prop} (hg : o.guard = none) (v : Value)
    (hr : (execOp a.eval o).run P w = .ok (.value v) w') (h : wpList P ops Q rest (a.put o.dst v) w') : wpList P ops Q (o :: rest) a w :=
  wpList_plain hg fun K hK => by
    show Oper.upon P o a K Q _
    rw [hr]
    exact hK _ _ h

theorem at_dst {P : Program} {ops : Array Oper} {rest : List Oper} {o : Oper} {a : Act} {w : World} {Q : Exit → Act → World → Prop} {N : Nat} (_ : o.dst = some N) (h : wpList P ops Q (o :: rest) a w) : wpList P ops Q (o :: rest) a w := h

set_option maxHeartbeats 400000 in
theorem impl_pos (h e : Int) (w : World) (h0 : 0 ≤ h) (h1 : h ≤ 2147483647) (e0 : 0 < e) (e1 : e ≤ 2147483647) :
    Calls Try.prog 9 #[.int .i32 h, .int .i32 e] w fun o w' => o = .returned (.int .i64 (5000000000 / 2 ^ (min (IntKind.u64.wrap (h / e)).toNat 64))) ∧ Grown w w' := by
  go_enter Try.func9, Try.ntmps9
  go_wp2_with (first
    | ((with_reducible refine at_dst (N := 7) rfl ?_); refine wpList_run rfl (.agg (params (.int .i32 e))) (w' := w) (by kernel_rfl) ?_)
    | ((with_reducible refine at_dst (N := 8) rfl ?_); refine wpList_run rfl (.pointer (some ⟨w.heap.size, 0, none⟩)) (w' := w.alloc (.cells (params (.int .i32 e)) 67 (0, 0))) (by kernel_rfl) ?_)
    | (go_at_call 27; refine (calc_any h e w.heap.size _ h0 h1 e0 e1 (by simp [params15])).mono ?_; rintro o w' ⟨rfl, rfl⟩))
  go_ret
  exact ⟨rfl, (Grown.refl _).alloc _ _⟩

set_option maxHeartbeats 400000 in
theorem impl_zero (h : Int) (w : World) :
    Calls Try.prog 9 #[.int .i32 h, .int .i32 0] w fun o w' => o = .returned (.int .i64 5000000000) ∧ Grown w w' := by
  go_enter Try.func9, Try.ntmps9
  go_wp2_with (first
    | ((with_reducible refine at_dst (N := 7) rfl ?_); refine wpList_run rfl (.agg (params (.int .i32 0))) (w' := w) (by kernel_rfl) ?_)
    | ((with_reducible refine at_dst (N := 8) rfl ?_); refine wpList_run rfl (.pointer (some ⟨w.heap.size, 0, none⟩)) (w' := w.alloc (.cells (params (.int .i32 0)) 67 (0, 0))) (by kernel_rfl) ?_)
    | (go_at_call 27; refine (calc_zero h w.heap.size _ (by simp [params15])).mono ?_; rintro o w' ⟨rfl, rfl⟩))
  go_ret
  exact ⟨rfl, (Grown.refl _).alloc _ _⟩

end Go.Proofs.Ytnbecklojmbbbaa.fnSubsidy
