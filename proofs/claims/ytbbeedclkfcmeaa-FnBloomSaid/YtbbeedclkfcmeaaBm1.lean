/- A bloom filter of the text's own, in memory. -/
import Derived.Test.YtbbeedclkfcmeaaMur1
import Derived.Test.YtbbeedclkfcmeaaStr
import Derived.Test.YtbbeedclkfcmeaaBj2
import Derived.Test.YtbbeedclkfcmeaaLocks
import Derived.Conc.MuLone
import Derived.Deep.LoopGhost
namespace Go.Proofs.Ytbbeedclkfcmeaa.Snk
open Go.RowKit Go.Proofs.YtbbeedclkfcmeaaW.PrintWords Go.Proofs.YtbbeedclkfcmeaaW.PrintLast Go.Proofs.YtbbeedclkfcmeaaW.PrintMore Go.Proofs.Ytbbeedclkfcmeaa.KFnBloom
set_option linter.unusedVariables false
set_option linter.unusedSimpArgs false
abbrev filC (st : Int) (m : Nat) : Array Value := #[.int .i32 st, .int .u32 0, .pointer (some ⟨m, 0, none⟩)]
abbrev msgC (g len c : Nat) (n tw : Int) : Array Value := #[.slice (some ⟨g, 0, none⟩) len c, .int .u32 n, .int .u32 tw, .int .u8 0]
/-- A filter: its lock, its message, its bytes. -/
structure FilAt (w : World) (f m g c : Nat) (st : Int) (L : List Int) (n tw : Int) : Prop where
  hf : w.heap[f]? = some (.cells (filC st m) 51 (0, 0))
  hm : w.heap[m]? = some (.cells (msgC g L.length c n tw) 43 (0, 0))
  hg : BR w g L
  fm : f ≠ m
  fg : f ≠ g
  mg : m ≠ g
  lc : L.length ≤ c
set_option maxRecDepth 100000 in
set_option maxHeartbeats 4000000 in
theorem normC (f m g c len : Nat) (n tw : Int) (w : World) (hf : w.heap[f]? = some (.cells (filC 0 m) 51 (0, 0))) (hm : w.heap[m]? = some (.cells (msgC g len c n tw) 43 (0, 0))) (hl : 1 ≤ len) :
    Calls Try.prog 25 #[.pointer (some ⟨f, 0, none⟩)] w fun e w' => e = .returned (.tuple #[]) ∧ w' = w := by
  have c2 := cell_of hf (j := 2) rfl
  have d0 := cell_of hm (j := 0) rfl
  have hne : ((len : Int) == 0) = false := by
    rw [beq_eq_false_iff_ne]; omega
  have hne2 : ¬ (len : Int) = 0 := by omega
  clear hl
  go_enter Try.func25, Try.ntmps25
  go_wp2_with fail
  go_end0
  exact ⟨rfl, rfl⟩
set_option maxRecDepth 100000 in
set_option maxHeartbeats 4000000 in
theorem loadC (m g c len : Nat) (n tw : Int) (w : World) (hm : w.heap[m]? = some (.cells (msgC g len c n tw) 43 (0, 0))) (hl : 1 ≤ len) :
    Calls Try.prog 17 #[.pointer (some ⟨m, 0, none⟩)] w fun e w' => e = .returned (.pointer (some ⟨w.heap.size, 0, none⟩)) ∧ w' = w.alloc (.cells (filC 0 m) 51 (0, 0)) := by
  have hb : Try.prog.built 51 [(1, .pointer (some ⟨m, 0, none⟩))] = some (filC 0 m) := by kernel_rfl
  have HN := Aside0.mk (normC w.heap.size m g c len n tw (w.alloc (.cells (filC 0 m) 51 (0, 0))) (heap_alloc_new w _) (heap_alloc_lt hm _) hl)
  clear hl
  go_enter Try.func17, Try.ntmps17
  go_wp2_with (first | ((with_reducible refine at_dst (N := 6) rfl ?_); refine wpList_run rfl _ (run_boxed 51 (.tmp 5) rfl (filC 0 m) rfl) ?_) | (go_at_call 25; (with_reducible refine HN.out.mono ?_); rintro e w' ⟨rfl, rfl⟩))
  go_ret
  exact ⟨rfl, rfl⟩
end Go.Proofs.Ytbbeedclkfcmeaa.Snk
