/- '==' of places of outputs, of hashes; maps keyed by places. -/
import Derived.Test.YtdheoajaaofmbaaTf1
namespace Go.Proofs.Ytdheoajaaofmbaa.QFnScriptPlaces
open Go.RowKit Go.Proofs.YtdheoajaaofmbaaW.PrintWords Go.Proofs.YtdheoajaaofmbaaW.PrintLast Go.Proofs.YtdheoajaaofmbaaW.PrintMore
set_option linter.unusedVariables false
set_option linter.unusedSimpArgs false
/-- A place of an output that a program may hold. -/
structure OpOk (h : List Int) (n : Int) : Prop where
  l : h.length = 32
  b : ∀ x ∈ h, (Lit.int .u8 x).wf = true
  n : (Lit.int .u32 n).wf = true
def opC (h : List Int) (n : Int) : List Value := hashC h ++ [.int .u32 n]
def opL (h : List Int) (n : Int) : Lit := .string (keyBytes (h.map (Lit.int .u8) ++ [Lit.int .u32 n]))
def haL (h : List Int) : Lit := .string (keyBytes (h.map (Lit.int .u8)))
theorem sz3 : Try.prog.types.size + 1 = (Try.prog.types.size - 2) + 3 := by
  have h : decide (2 ≤ Try.prog.types.size) = true := by kernel_rfl
  have := of_decide_eq_true h
  omega
theorem hashC_inj : ∀ {a b : List Int}, hashC a = hashC b → a = b
  | [], [], _ => rfl
  | [], _ :: _, h => by cases h
  | _ :: _, [], h => by cases h
  | x :: xs, y :: ys, h => by
    unfold hashC at h
    simp only [List.map_cons, List.cons.injEq, Value.int.injEq, true_and] at h
    rw [h.1, hashC_inj (a := xs) (b := ys) h.2]
theorem keyOf_op1 {h : List Int} {n : Int} (k : OpOk h n) : keyOf Try.prog 31 (.agg (opC h n).toArray) = some (opL h n) := by
  have hl : ((opC h n).toArray.size == Try.prog.cellsOf 31) = true := by
    rw [List.size_toArray, show Try.prog.cellsOf 31 = 33 by kernel_rfl]
    unfold opC
    rw [List.length_append, hashC_len k.l]; rfl
  have hk : Try.prog.keyType 31 = true := by kernel_rfl
  have hL := keyLits_op (P := Try.prog) Try.underlying31 (by kernel_rfl) (by kernel_rfl) (by kernel_rfl) (by kernel_rfl) (by kernel_rfl) Try.underlying29 Try.underlying5 (by kernel_rfl) (by kernel_rfl) Try.underlying24 (by kernel_rfl) h n k.l k.b k.n (Try.prog.types.size - 2)
  unfold keyOf
  rw [Try.underlying31]
  dsimp only
  unfold Value.formed
  rw [Try.underlying31]
  dsimp only
  rw [if_pos (by rw [hk, hl]; rfl), sz3]
  show (Try.prog.keyLits (Try.prog.types.size - 2 + 3) 31 (opC h n)).map _ = _
  unfold opC
  rw [hL]; rfl
theorem keyOf_op2 {h : List Int} {n : Int} (k : OpOk h n) : keyOf Try.prog 102 (.agg (opC h n).toArray) = some (opL h n) := by
  have hl : ((opC h n).toArray.size == Try.prog.cellsOf 102) = true := by
    rw [List.size_toArray, show Try.prog.cellsOf 102 = 33 by kernel_rfl]
    unfold opC
    rw [List.length_append, hashC_len k.l]; rfl
  have hk : Try.prog.keyType 102 = true := by kernel_rfl
  have hL := keyLits_op (P := Try.prog) Try.underlying102 (by kernel_rfl) (by kernel_rfl) (by kernel_rfl) (by kernel_rfl) (by kernel_rfl) Try.underlying100 Try.underlying5 (by kernel_rfl) (by kernel_rfl) Try.underlying24 (by kernel_rfl) h n k.l k.b k.n (Try.prog.types.size - 2)
  unfold keyOf
  rw [Try.underlying102]
  dsimp only
  unfold Value.formed
  rw [Try.underlying102]
  dsimp only
  rw [if_pos (by rw [hk, hl]; rfl), sz3]
  show (Try.prog.keyLits (Try.prog.types.size - 2 + 3) 102 (opC h n)).map _ = _
  unfold opC
  rw [hL]; rfl
theorem keyOf_ha1 {h : List Int} (hl : h.length = 32) (hb : ∀ x ∈ h, (Lit.int .u8 x).wf = true) : keyOf Try.prog 29 (.agg (hashC h).toArray) = some (haL h) := by
  have hs : ((hashC h).toArray.size == Try.prog.cellsOf 29) = true := by
    rw [List.size_toArray, show Try.prog.cellsOf 29 = 32 by kernel_rfl, hashC_len hl]; rfl
  have hk : Try.prog.keyType 29 = true := by kernel_rfl
  have hL := keyLits_u8 (P := Try.prog) Try.underlying29 Try.underlying5 (by kernel_rfl) (by kernel_rfl) h hl hb (Try.prog.types.size - 2 + 1)
  unfold keyOf
  rw [Try.underlying29]
  dsimp only
  unfold Value.formed
  rw [Try.underlying29]
  dsimp only
  rw [if_pos (by rw [hk, hs]; rfl), sz3]
  show (Try.prog.keyLits (Try.prog.types.size - 2 + 1 + 2) 29 (hashC h)).map _ = _
  rw [hL]; rfl
theorem keyOf_ha2 {h : List Int} (hl : h.length = 32) (hb : ∀ x ∈ h, (Lit.int .u8 x).wf = true) : keyOf Try.prog 100 (.agg (hashC h).toArray) = some (haL h) := by
  have hs : ((hashC h).toArray.size == Try.prog.cellsOf 100) = true := by
    rw [List.size_toArray, show Try.prog.cellsOf 100 = 32 by kernel_rfl, hashC_len hl]; rfl
  have hk : Try.prog.keyType 100 = true := by kernel_rfl
  have hL := keyLits_u8 (P := Try.prog) Try.underlying100 Try.underlying5 (by kernel_rfl) (by kernel_rfl) h hl hb (Try.prog.types.size - 2 + 1)
  unfold keyOf
  rw [Try.underlying100]
  dsimp only
  unfold Value.formed
  rw [Try.underlying100]
  dsimp only
  rw [if_pos (by rw [hk, hs]; rfl), sz3]
  show (Try.prog.keyLits (Try.prog.types.size - 2 + 1 + 2) 100 (hashC h)).map _ = _
  rw [hL]; rfl
theorem opC_inj {h h' : List Int} {n n' : Int} (k : OpOk h n) (k' : OpOk h' n') (e : opC h n = opC h' n') : h = h' ∧ n = n' := by
  unfold opC at e
  have h1 := List.append_inj e (by rw [hashC_len k.l, hashC_len k'.l])
  have h2 : Value.int .u32 n = Value.int .u32 n' := List.head_eq_of_cons_eq h1.2
  simp only [Value.int.injEq, true_and] at h2
  exact ⟨hashC_inj h1.1, h2⟩
/-- Two places have one key just if they are one. -/
theorem opL_iff {h h' : List Int} {n n' : Int} (k : OpOk h n) (k' : OpOk h' n') : opL h n = opL h' n' ↔ h = h' ∧ n = n' := by
  refine ⟨fun e => ?_, fun e => by rw [e.1, e.2]⟩
  have a := keyOf_op1 k
  have b := keyOf_op1 k'
  rw [← e] at b
  have hv := keyOf_inj_deep (P := Try.prog) (m := 3) (k := 31) (by kernel_rfl) (by rw [Try.underlying31]) a b
  injection hv with hv
  have h9 : opC h n = opC h' n' := congrArg Array.toList hv
  exact opC_inj k k' h9
theorem haL_iff {h h' : List Int} (hl : h.length = 32) (hb : ∀ x ∈ h, (Lit.int .u8 x).wf = true) (hl' : h'.length = 32) (hb' : ∀ x ∈ h', (Lit.int .u8 x).wf = true) : haL h = haL h' ↔ h = h' := by
  refine ⟨fun e => ?_, fun e => by rw [e]⟩
  have a := keyOf_ha1 hl hb
  have b := keyOf_ha1 hl' hb'
  rw [← e] at b
  have hv := keyOf_inj_deep (P := Try.prog) (m := 2) (k := 29) (by kernel_rfl) (by rw [Try.underlying29]) a b
  have hv := Value.agg.inj hv
  have h9 : hashC h = hashC h' := congrArg Array.toList hv
  exact hashC_inj h9
theorem run_eq_of {t : TypeId} {xs ys : Array Value} {lx ly : Lit} {b : Bool} (w : World) {m : Nat} (hm : m ≤ 10000) (hk : Try.prog.keyTypeAt m t = true) {dd : TypeDesc} (hu : Try.prog.underlying t = some dd) (hd : (∃ n e, dd = .array n e) ∨ ∃ fs, dd = .struct fs)
    (hx : keyOf Try.prog t (.agg xs) = some lx) (hy : keyOf Try.prog t (.agg ys) = some ly) (hb : b = true ↔ lx = ly) :
    (binOp .eql t (.agg xs) (.agg ys)).run Try.prog w = .ok (.bool b) w ∧ (binOp .neq t (.agg xs) (.agg ys)).run Try.prog w = .ok (.bool (!b)) w := by
  obtain ⟨r, hr, hi⟩ := run_equal_deep (P := Try.prog) w hm hk (by rw [hu]; rcases hd with ⟨n, e, rfl⟩ | ⟨fs, rfl⟩ <;> rfl) hx hy
  have e : r = b := by
    cases r <;> cases b <;> simp_all
  subst e
  have hr2 : (Op.equalIn 10000 t (.agg xs) (.agg ys)).run Try.prog w = .ok r w := hr
  constructor
  · rw [run_eql_struct, hr2]; rfl
  · rw [run_neq_struct, hr2]; rfl
/-- The keys of a map of places. -/
theorem opKeyed : Maps.Keyed Try.prog 102 := Maps.Keyed.of_law (deep_law (m := 3) (by decide) (by kernel_rfl) (by kernel_rfl) (by rw [Try.underlying102]))
end Go.Proofs.Ytdheoajaaofmbaa.QFnScriptPlaces
