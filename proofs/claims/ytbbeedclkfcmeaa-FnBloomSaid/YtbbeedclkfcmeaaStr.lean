/- Strings as lists of bytes; spec.lower. -/
import Derived.Test.YtbbeedclkfcmeaaCells
import Derived.Test.YtbbeedclkfcmeaaAt
import Derived.Laws.IdiomStrings
import Derived.Laws.BytesArg
namespace Go.Proofs.Ytbbeedclkfcmeaa.Snk
open Go.RowKit Go.Proofs.YtbbeedclkfcmeaaW.PrintWords Go.Proofs.YtbbeedclkfcmeaaW.PrintLast Go.Proofs.YtbbeedclkfcmeaaW.PrintMore
set_option linter.unusedVariables false
set_option linter.unusedSimpArgs false
theorem add_any (g o j : Nat) : (⟨g, o, none⟩ : Addr).add j = ⟨g, o + j, none⟩ := by
  unfold Addr.add
  split
  · rename_i h; rw [h]; rfl
  · rfl
theorem mk_opS {P : Program} {w w' : World} {ρ : Operand → Value} {o : Oper} (t : TypeId) (l c : Operand) (ho : o.op = .makeSlice t l c) (L C v : Value) (hl : ρ l = L) (hc : ρ c = C) (hr : (Instr.makeSlice t L C).run P w = .ok v w') : (execOp ρ o).run P w = .ok (.value v) w' := by
  unfold execOp
  simp [ho, hl, hc, hr, Result.andThen]
theorem below_trV {w w1 w2 : World} (h : Below w.heap.size w w1) (k : Below w1.heap.size w1 w2) : Below w.heap.size w w2 :=
  ⟨k.os.trans h.os, k.tape.trans h.tape, k.output.trans h.output, Nat.le_trans h.size k.size, fun i hi => (k.block i (Nat.lt_of_lt_of_le hi h.size)).trans (h.block i hi)⟩
def ByteL (l : List Int) : Prop := ∀ x ∈ l, 0 ≤ x ∧ x < 256
theorem ByteL.at {l : List Int} (h : ByteL l) (j : Nat) : 0 ≤ l.getD j 0 ∧ l.getD j 0 < 256 := by
  rw [List.getD_eq_getElem?_getD]
  cases hq : l[j]? with
  | none => exact ⟨by decide, by decide⟩
  | some x => exact h x (List.mem_of_getElem? hq)
/-- A block that begins with these bytes. -/
def BR (w : World) (g : Nat) (l : List Int) : Prop := ∃ cs N M, w.heap[g]? = some (.cells cs 5 (N, M)) ∧ (M = 0 ∨ l.length ≤ N) ∧ l.length ≤ cs.size ∧ ∀ j, j < l.length → cs[j]? = some (.int .u8 (l.getD j 0))
theorem BR.cell {w : World} {g : Nat} {l : List Int} (h : BR w g l) (j : Nat) (hj : j < l.length) : w.cell? ⟨g, j, none⟩ = some (.int .u8 (l.getD j 0)) := by
  obtain ⟨cs, N, M, h1, h2, h3, h4⟩ := h
  exact cell_of h1 (h4 j hj)
theorem BR.frozen {w : World} {g : Nat} {l : List Int} (h : BR w g l) (j : Nat) (hj : j < l.length) : w.frozen? ⟨g, j, none⟩ = false := by
  obtain ⟨cs, N, M, h1, h2, h3, h4⟩ := h
  rcases h2 with h2 | h2
  · subst h2; simp [World.frozen?, h1]
  · have : ¬ N ≤ j := by omega
    simp [World.frozen?, h1, this]
theorem BR.lt {w : World} {g : Nat} {l : List Int} (h : BR w g l) : g < w.heap.size := by
  obtain ⟨cs, N, M, h1, _⟩ := h
  exact blk_lt' h1
theorem BR.below {w w1 : World} {g : Nat} {l : List Int} (h : BR w g l) (hb : Below w.heap.size w w1) : BR w1 g l := by
  have hl := h.lt
  obtain ⟨cs, N, M, h1, h2⟩ := h
  exact ⟨cs, N, M, (hb.block _ hl).trans h1, h2⟩
theorem BR.set {w : World} {g : Nat} {l : List Int} (h : BR w g l) (j : Nat) (v : Int) : BR (w.setCell ⟨g, j, none⟩ (.int .u8 v)) g (l.set j v) := by
  obtain ⟨cs, N, M, h1, h2, h3, h4⟩ := h
  refine ⟨_, N, M, heap_set_same h1 (j := j) _, by rw [List.length_set]; exact h2, by rw [Array.size_setIfInBounds, List.length_set]; exact h3, fun t ht => ?_⟩
  rw [List.length_set] at ht
  have hts : t < cs.size := by omega
  rw [Array.getElem?_setIfInBounds, List.getD_eq_getElem?_getD, List.getElem?_set]
  by_cases e : j = t
  · subst e
    rw [if_pos rfl, if_pos rfl, if_pos hts, if_pos ht]; rfl
  · rw [if_neg e, if_neg e, h4 t ht, List.getD_eq_getElem?_getD]
theorem BR.row {w : World} {g : Nat} {l : List Int} (h : w.heap[g]? = some (.cells (byteC l).toArray 5 (0, 0))) : BR w g l :=
  ⟨_, 0, 0, h, .inl rfl, by rw [List.size_toArray, byteC_len]; exact Nat.le_refl _, fun j hj => by rw [List.getElem?_toArray]; exact byteC_at hj⟩
theorem BR.reads {w : World} {g : Nat} {l : List Int} (h : BR w g l) (hn : l.length ≤ 1000000) : ReadsInt w .u8 (some ⟨g, 0, none⟩) l.length l :=
  ⟨rfl, by omega, fun _ => ⟨_, rfl, fun j hj => by rw [add_any, Nat.zero_add]; exact h.cell j hj⟩⟩
theorem conv_op3 {P : Program} {ρ : Operand → Value} {o : Oper} {w w' : World} {v v' : Value} (t u : TypeId) (x : Operand) (ho : o.op = .convert t u x) (hx : ρ x = v) (h : (convert t u v).run P w = .ok v' w') : (execOp ρ o).run P w = .ok (.value v') w' := by
  unfold execOp
  simp [ho, hx, h, Result.andThen]
theorem nums_len (l : List Int) : (strOfNums l).size = l.length := strOfNums_size l
theorem nums_data {l : List Int} (h : ByteL l) : (strOfNums l).data.toList.map (fun b => (b.toNat : Int)) = l := by
  rw [strOfNums_data, List.map_map]
  conv => rhs; rw [← List.map_id l]
  refine List.map_congr_left fun x hx => ?_
  have hb := h x hx
  simp only [Function.comp, id, UInt8.toNat_ofNat']
  omega
/-- '[]byte(s)'. -/
theorem strBR {l : List Int} (hl : ByteL l) (hn : l.length ≤ 1000) (w : World) : ∃ g c W', (convert 9 22 (.string (strOfNums l))).run Try.prog w = .ok (.slice (some ⟨g, 0, none⟩) l.length c) W' ∧ BR W' g l ∧ l.length ≤ c ∧ w.heap.size ≤ g ∧ Below w.heap.size w W' := by
  have hsz : (strOfNums l).data.size = l.length := strOfNums_size l
  have hr := run_bytes_of_string (P := Try.prog) w 9 22 5 (strOfNums l) Try.underlying9 Try.underlying22 Try.underlying5
  rw [show (strOfNums l).size = l.length from hsz] at hr
  have hc : l.length ≤ grownCap w l.length 0 5 := grownCap_ge _ _ _ _
  refine ⟨_, _, _, hr, ⟨_, _, _, heap_alloc_new w.drew _, ?_, ?_, fun j hj => ?_⟩, hc, Nat.le_refl _, below_alloc (below_drew (Below.refl _ _)) _⟩
  · refine .inr ?_; unfold bytesRow; rw [Array.size_append, Array.size_map, hsz]; omega
  · unfold bytesRow; rw [Array.size_append, Array.size_map, hsz]; omega
  · unfold bytesRow
    have hj2 : j < ((strOfNums l).data.map fun b => Value.int .u8 (b.toNat : Int)).size := by rw [Array.size_map, hsz]; exact hj
    rw [Array.getElem?_append_left hj2, Array.getElem?_map, ← Array.getElem?_toList, List.getD_eq_getElem?_getD]
    have e := congrArg (fun q => q[j]?) (nums_data hl)
    simp only [List.getElem?_map] at e
    rw [← e]
    cases hq : (strOfNums l).data.toList[j]? with
    | none => exact absurd (List.getElem?_eq_none_iff.1 hq) (by rw [Array.length_toList, hsz]; omega)
    | some b => rfl
/-- A string's byte, as an operation. -/
theorem index_op {ρ : Operand → Value} {o : Oper} (s x : Operand) (ho : o.op = .index 9 s x) {l : List Int} (hl : ByteL l) (j : Nat) (y : Int) (hs : ρ s = .string (strOfNums l)) (hx : ρ x = .int .i64 y) (hy : y = (j : Int)) (hj : j < l.length) (z : Int) (hz : l.getD j 0 = z) (w : World) : (execOp ρ o).run Try.prog w = .ok (.value (.int .u8 z)) w := by
  have hsz : (strOfNums l).size = l.length := strOfNums_size l
  subst hy hz
  have h1 : 0 ≤ (j : Int) ∧ (j : Int) < (strOfNums l).size := by rw [hsz]; omega
  have hr := run_index_string (P := Try.prog) w 9 (strOfNums l) .i64 (j : Int) Try.underlying9
  rw [dif_pos h1] at hr
  have e : ((strOfNums l)[(j : Int).toNat]'(by rw [hsz]; omega)).toNat = l.getD j 0 := by
    have e := congrArg (fun q => q[j]?) (nums_data hl)
    simp only [List.getElem?_map] at e
    rw [List.getD_eq_getElem?_getD, ← e, Array.getElem?_toList, Array.getElem?_eq_getElem (show j < (strOfNums l).data.size by rw [show (strOfNums l).data.size = l.length from hsz]; exact hj)]
    rfl
  rw [e] at hr
  unfold execOp
  simp [ho, hs, hx, hr, Result.andThen]
/-- A digit ahead. -/
theorem cat_op {P : Program} {ρ : Operand → Value} {o : Oper} {w : World} (t u : TypeId) (x y : Operand) (ho : o.op = .binOp .add t x y u) (a b : ByteArray) (hx : ρ x = .string a) (hy : ρ y = .string b) (hs : a.size + b.size ≤ 1000000) : (execOp ρ o).run P w = .ok (.value (.string (a ++ b))) w := by
  unfold execOp
  simp [ho, hx, hy, eqGuard, binOp_string_add, run_string_add_sum w a b (by omega), Result.andThen]
theorem cat48 (l : List Int) : ({ data := #[48] } : ByteArray) ++ strOfNums l = strOfNums (48 :: l) := by
  apply ByteArray.ext
  rw [ByteArray.data_append]
  unfold strOfNums
  simp
def lowB (c : Int) : Int := if 65 ≤ c ∧ c ≤ 90 then c + 32 else c
def low (i : Nat) (l : List Int) : List Int := (l.take i).map lowB ++ l.drop i
theorem low_len (i : Nat) (l : List Int) : (low i l).length = l.length := by
  unfold low; rw [List.length_append, List.length_map, List.length_take, List.length_drop]; omega
theorem low_at (i : Nat) (l : List Int) (hi : i < l.length) : (low i l).getD i 0 = l.getD i 0 := by
  unfold low
  rw [List.getD_eq_getElem?_getD, List.getElem?_append_right (by rw [List.length_map, List.length_take]; omega), List.length_map, List.length_take, Nat.min_eq_left (by omega), Nat.sub_self, List.getElem?_drop, Nat.add_zero, List.getD_eq_getElem?_getD]
theorem low_succ (i : Nat) (l : List Int) (hi : i < l.length) : (low i l).set i (lowB (l.getD i 0)) = low (i + 1) l := by
  unfold low
  have hL : ((l.take i).map lowB).length = i := by rw [List.length_map, List.length_take]; omega
  rw [List.set_append_right _ _ (by omega), hL, Nat.sub_self, List.take_add_one, List.map_append, List.append_assoc, List.drop_eq_getElem_cons hi, List.getD_eq_getElem?_getD, List.getElem?_eq_getElem hi]
  rfl
theorem low_all (l : List Int) : low l.length l = l.map lowB := by
  unfold low; rw [List.take_length, List.drop_length, List.append_nil]
theorem lowB_byte {c : Int} (h : 0 ≤ c ∧ c < 256) : 0 ≤ lowB c ∧ lowB c < 256 := by
  unfold lowB; split <;> omega
theorem low_bytes {l : List Int} (h : ByteL l) : ByteL (l.map lowB) := fun x hx => by
  obtain ⟨y, hy, rfl⟩ := List.mem_map.1 hx
  exact lowB_byte (h y hy)
theorem u8wr {x : Int} (h0 : 0 ≤ x) (h1 : x < 256) : IntKind.u8.wrap x = x := by
  unfold IntKind.wrap; simp [IntKind.signed, IntKind.bits]; omega
theorem wrn (x : Int) (h0 : 0 ≤ x) (h1 : x ≤ 9223372036854775807) : wrap64 x = x := by unfold wrap64; omega
end Go.Proofs.Ytbbeedclkfcmeaa.Snk
