/- The closure of spec.TxFaults: add. -/
import Derived.Test.YtdheoajaaofmbaaTf4
namespace Go.Proofs.Ytdheoajaaofmbaa.QFnScriptPlaces
open Go.RowKit Go.Proofs.YtdheoajaaofmbaaW.PrintWords Go.Proofs.YtdheoajaaofmbaaW.PrintLast Go.Proofs.YtdheoajaaofmbaaW.PrintMore
set_option linter.unusedVariables false
set_option linter.unusedSimpArgs false
/-- The row that the closure keeps in its cell. -/
structure Kept1 (w0 W : World) (g : Nat) (l : List Int) : Prop where
  row : ∃ v, W.heap[g]? = some (.cells #[v] 36 (0, 0)) ∧ Kd.R (Kd.int .i64) 3 W w0.heap.size (fun k => k ≠ g) v l
  low : Below w0.heap.size w0 W
  lt : w0.heap.size ≤ g
set_option maxRecDepth 100000 in
set_option maxHeartbeats 4000000 in
theorem addC (is : Bool) (n : Int) (g : Nat) (l : List Int) (w0 W : World) (h : Kept1 w0 W g l) (hl : l.length ≤ 1000) :
    Calls Try.prog 35 #[.bool is, .int .i64 n, .pointer (some ⟨g, 0, none⟩)] W fun e w' => e = .returned (.tuple #[]) ∧ Kept1 w0 w' g (if is = true then l ++ [n] else l) := by
  obtain ⟨v, hg, hr⟩ := h.row
  have HR := Aside0.mk hr
  have HG := Aside0.mk hg
  have HH := Aside0.mk h
  have k0 := cell_of hg (j := 0) (v := v) rfl
  clear hr hg h
  go_enter Try.func35, Try.ntmps35
  cases is
  · go_wp2_with fail
    go_end0
    exact ⟨rfl, HH.out⟩
  · go_wp2_with ((with_reducible refine at_dst (N := 9) rfl ?_); refine Kd.R_append (Kd.int .i64) (w0 := w0) w0.heap.size rfl (.tmp 6) (.tmp 8) 36 3 (.int .i64 0) 8 rfl Try.underlying36 info3 rfl (by decide) (by decide) v l n [.int .i64 n] (fun k => k ≠ g) (fun _ => False) rfl rfl rfl (fun _ hk => hk.elim) ?aF HR.out HH.out.low ?aS ?aL ?_; (case aF => exact fun k hk => by have := blk_lt' HG.out; omega); (case aS => exact HH.out.low.size); (case aL => omega); intro v1 w1 ho hb hg9 hat; (obtain ⟨A7, c7, e7⟩ := Kd.R_slice ho); subst e7; have HO := Aside0.mk ho; have HB1 := Aside0.mk hb; have HG1 := Aside0.mk ((hg9.block g (blk_lt' HG.out) (fun e => HR.out.1 g e.symm rfl)).trans HG.out); have hf1 := frozen_of HG1.out 0; have k1 := cell_of HG1.out (j := 0) (v := v) rfl; clear ho hb hg9 hat)
    go_end0
    have h2 := Kd.R_far HO.out (p := ⟨g, 0, none⟩) (fun k hk => hk) (.slice A7 (l ++ [n]).length c7)
    have h3 := heap_set_same HG1.out (j := 0) (.slice A7 (l ++ [n]).length c7)
    rw [List.length_append] at h2 h3
    exact ⟨rfl, ⟨_, h3, h2⟩, below_setOld HB1.out HH.out.lt _ _, HH.out.lt⟩
end Go.Proofs.Ytdheoajaaofmbaa.QFnScriptPlaces
