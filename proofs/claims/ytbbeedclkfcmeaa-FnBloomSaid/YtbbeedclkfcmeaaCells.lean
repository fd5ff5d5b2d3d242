/- Rows of bytes as cells. -/
import Derived.Test.YtbbeedclkfcmeaaBase
namespace Go.Proofs.Ytbbeedclkfcmeaa.Snk
open Go.RowKit Go.Proofs.YtbbeedclkfcmeaaW.PrintWords
def byteC (l : List Int) : List Value := l.map (Value.int .u8)
theorem byteC_len (l : List Int) : (byteC l).length = l.length := List.length_map _
theorem byteC_at {l : List Int} {j : Nat} (h : j < l.length) : (byteC l)[j]? = some (.int .u8 (l.getD j 0)) := by
  unfold byteC
  rw [List.getElem?_map, List.getD_eq_getElem?_getD, List.getElem?_eq_getElem h]; rfl
theorem byteC_set (l : List Int) (j : Nat) (v : Int) : (byteC l).set j (.int .u8 v) = byteC (l.set j v) := by unfold byteC; rw [List.map_set]
theorem row_set {l : List Int} {t : TypeId} {W : World} {g : Nat} (h : W.heap[g]? = some (.cells (byteC l).toArray t (0, 0))) (j : Nat) (v : Int) : (W.setCell ⟨g, j, none⟩ (.int .u8 v)).heap[g]? = some (.cells (byteC (l.set j v)).toArray t (0, 0)) := by
  rw [heap_set_same h (j := j) (.int .u8 v), List.setIfInBounds_toArray, byteC_set]
theorem row_cell {l : List Int} {t : TypeId} {W : World} {g : Nat} (h : W.heap[g]? = some (.cells (byteC l).toArray t (0, 0))) (j : Nat) (hj : j < l.length) : W.cell? ⟨g, j, none⟩ = some (.int .u8 (l.getD j 0)) :=
  cell_of h (by rw [List.getElem?_toArray]; exact byteC_at hj)
end Go.Proofs.Ytbbeedclkfcmeaa.Snk
