/- Places of outputs as keys, and their '=='. -/
import Derived.Test.YtdheoajaaofmbaaTx5
import Derived.DeepKeys4
import Derived.Maps.OwnSet
import Derived.Maps.Views
namespace Go.Proofs.Ytdheoajaaofmbaa.QFnScriptPlaces
open Go.RowKit Go.Proofs.YtdheoajaaofmbaaW.PrintWords Go.Proofs.YtdheoajaaofmbaaW.PrintLast Go.Proofs.YtdheoajaaofmbaaW.PrintMore
set_option linter.unusedVariables false
set_option linter.unusedSimpArgs false
theorem mapM_each {α β : Type} {f : α → Option β} {g : α → β} : ∀ (L : List α), (∀ x ∈ L, f x = some (g x)) → L.mapM f = some (L.map g)
  | [], _ => rfl
  | x :: xs, h => by
    rw [List.mapM_cons, h x List.mem_cons_self, mapM_each xs (fun y hy => h y (List.mem_cons_of_mem _ hy))]
    rfl
theorem flat_one {α β : Type} (g : α → β) (L : List α) : (L.map (fun x => [g x])).flatten = L.map g := by
  induction L with
  | nil => rfl
  | cons x xs ih => rw [List.map_cons, List.flatten_cons, ih]; rfl
theorem range_getD {β : Type} (g : Int → β) (l : List Int) : (List.range l.length).map (fun i => g (l.getD i 0)) = l.map g := by
  apply List.ext_getElem
  · simp
  · intro i h1 h2
    simp only [List.length_map, List.length_range] at h1
    rw [List.getElem_map, List.getElem_map, List.getElem_range, List.getD_eq_getElem?_getD, List.getElem?_eq_getElem h1]
    rfl
theorem keyLits_u8 {P : Program} {t e : TypeId} {n : Nat} (hu : P.underlying t = some (.array n e)) (he : P.underlying e = some (.int .u8)) (hce : P.cellsOf e = 1) (hct : P.cellsOf t = n) (l : List Int) (hl : l.length = n) (hw : ∀ x ∈ l, (Lit.int .u8 x).wf = true) (d : Nat) :
    P.keyLits (d + 2) t (hashC l) = some (l.map (Lit.int .u8)) := by
  unfold Program.keyLits
  rw [hu]
  dsimp only
  rw [if_pos (by rw [hct, ← hl]; unfold hashC; rw [List.length_map]), mapM_each (g := fun i => [Lit.int .u8 (l.getD i 0)]) (List.range n) ?_]
  · rw [Option.map_some, flat_one, ← hl, range_getD]
  · intro i hi
    have hil : i < l.length := by rw [hl]; exact List.mem_range.1 hi
    have e1 : ((hashC l).drop (i * P.cellsOf e)).take (P.cellsOf e) = [Value.int .u8 l[i]] := by
      rw [hce, Nat.mul_one]
      unfold hashC
      rw [← List.map_drop, List.drop_eq_getElem_cons hil]
      rfl
    rw [e1]
    unfold Program.keyLits
    rw [he]
    dsimp only
    rw [if_pos ⟨rfl, hw _ (List.getElem_mem hil)⟩, List.getD_eq_getElem?_getD, List.getElem?_eq_getElem hil]
    rfl
theorem keyLits_op {P : Program} {t e : TypeId} {f0 f1 : Field} (ht : P.underlying t = some (.struct #[f0, f1])) (n0 : (f0.name != "_") = true) (n1 : (f1.name != "_") = true) (o0 : f0.offset = 0) (o1 : f1.offset = 32) (hc : P.cellsOf t = 33)
    (hu : P.underlying f0.type = some (.array 32 e)) (he : P.underlying e = some (.int .u8)) (hce : P.cellsOf e = 1) (hct : P.cellsOf f0.type = 32) (h1 : P.underlying f1.type = some (.int .u32)) (hc1 : P.cellsOf f1.type = 1)
    (l : List Int) (n : Int) (hl : l.length = 32) (hw : ∀ x ∈ l, (Lit.int .u8 x).wf = true) (hn : (Lit.int .u32 n).wf = true) (d : Nat) :
    P.keyLits (d + 3) t (hashC l ++ [.int .u32 n]) = some (l.map (Lit.int .u8) ++ [Lit.int .u32 n]) := by
  have hh := hashC_len hl
  unfold Program.keyLits
  rw [ht]
  dsimp only
  rw [if_pos ⟨by rw [hc, List.length_append, hh]; rfl, by simp [n0, n1]⟩]
  have e0 : ((hashC l ++ [Value.int .u32 n]).drop f0.offset).take (P.cellsOf f0.type) = hashC l := by
    rw [o0, hct, List.drop_zero, List.take_left' hh]
  have e1 : ((hashC l ++ [Value.int .u32 n]).drop f1.offset).take (P.cellsOf f1.type) = [Value.int .u32 n] := by
    rw [o1, hc1, List.drop_left' hh]; rfl
  have k0 := keyLits_u8 hu he hce hct l hl hw d
  have k1 : P.keyLits (d + 2) f1.type [Value.int .u32 n] = some [Lit.int .u32 n] := by
    unfold Program.keyLits
    rw [h1]
    dsimp only
    rw [if_pos ⟨rfl, hn⟩]
  show ([f0, f1].mapM fun f => P.keyLits (d + 2) f.type (((hashC l ++ [Value.int .u32 n]).drop f.offset).take (P.cellsOf f.type))).map List.flatten = _
  rw [List.mapM_cons, e0, k0, List.mapM_cons, e1, k1]
  rfl
end Go.Proofs.Ytdheoajaaofmbaa.QFnScriptPlaces
