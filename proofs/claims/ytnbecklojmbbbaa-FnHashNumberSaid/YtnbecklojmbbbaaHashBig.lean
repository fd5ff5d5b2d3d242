/- HashToBig: a hash's bytes turned about, as a whole number. -/
import Derived.Test.YtnbecklojmbbbaaHash
import Derived.Laws.Tables
import Derived.Laws.Rows
import Derived.Laws.CopyOwn
namespace Go.Proofs.Ytnbecklojmbbbaa.Big
open Go.RowKit Go.Proofs.YtnbecklojmbbbaaW.PrintWords Go.Proofs.YtnbecklojmbbbaaW.PrintLast Go.Proofs.YtnbecklojmbbbaaW.PrintMore Go.Proofs.Ytnbecklojmbbbaa.QFnTarget
set_option linter.unusedVariables false
set_option linter.unusedSimpArgs false
/-- 32 bytes of which the first i and the last i have changed places. -/
def sw (xs : List Int) (i : Nat) : List Int := (List.range 32).map fun j => if j < i ∨ 32 - i ≤ j then xs.getD (31 - j) 0 else xs.getD j 0
theorem sw_length (xs : List Int) (i : Nat) : (sw xs i).length = 32 := by simp [sw]
theorem sw_zero (xs : List Int) (hl : xs.length = 32) : sw xs 0 = xs := by
  apply List.ext_getElem
  · simp [sw, hl]
  · intro j h1 h2
    rw [sw_length] at h1
    simp only [sw, List.getElem_map, List.getElem_range]
    rw [if_neg (by omega), List.getD_eq_getElem?_getD, List.getElem?_eq_getElem h2]; rfl
theorem sw_all (xs : List Int) (hl : xs.length = 32) : sw xs 16 = xs.reverse := by
  apply List.ext_getElem
  · simp [sw, hl]
  · intro j h1 h2
    rw [sw_length] at h1
    simp only [sw, List.getElem_map, List.getElem_range]
    rw [if_pos (by omega), List.getElem_reverse, List.getD_eq_getElem?_getD, List.getElem?_eq_getElem (by omega)]
    simp only [Option.getD_some]
    congr 1; omega
theorem sw_get (xs : List Int) (i j : Nat) (hj : j < 32) (h : ¬ (j < i ∨ 32 - i ≤ j)) : (sw xs i)[j]? = some (xs.getD j 0) := by
  simp only [sw, List.getElem?_map, List.getElem?_range hj, Option.map_some, if_neg h]
theorem sw_step (xs : List Int) (i : Nat) (hi : i < 16) : ((sw xs i).set i (xs.getD (31 - i) 0)).set (31 - i) (xs.getD i 0) = sw xs (i + 1) := by
  apply List.ext_getElem
  · simp [sw]
  · intro j h1 h2
    rw [sw_length] at h2
    rw [List.getElem_set, List.getElem_set]
    simp only [sw, List.getElem_map, List.getElem_range]
    by_cases e1 : 31 - i = j
    · rw [if_pos e1, if_pos (by omega)]; congr 1; omega
    · rw [if_neg e1]
      by_cases e2 : i = j
      · subst e2; rw [if_pos rfl, if_pos (by omega)]
      · rw [if_neg e2]
        by_cases h : j < i ∨ 32 - i ≤ j
        · rw [if_pos h, if_pos (by omega)]
        · rw [if_neg h, if_neg (by omega)]

/-- A block of bytes as a row that is read. -/
theorem V_block {w : World} {b e base : Nat} {T : TypeId} {fr : Nat × Nat} {xs : List Int} (hb : w.heap[b]? = some (.cells (xs.map (Value.int .u8)).toArray T fr)) (hl : xs.length ≤ 1000000) :
    Kd.V (Kd.int .u8) e w base (fun k => k = b) (.slice (some ⟨b, 0, none⟩) xs.length xs.length) xs := by
  refine Kd.V_mk (Nat.le_refl _) (fun W' hW => ?_)
  refine Kd.C_of_reads (enc := Value.int .u8) (d := 0) ⟨rfl, by omega, fun hn => ⟨_, rfl, fun j hj => ?_⟩⟩
  have h := (hW b rfl (blk_lt' hb)).trans hb
  have := cell_of h (j := j) (v := .int .u8 (xs.getD j 0)) (by simp [hj])
  have e : (⟨b, 0, none⟩ : Addr).add j = ⟨b, j, none⟩ := by
    unfold Addr.add
    split <;> simp_all
  rw [e]; exact this
section
variable {P : Program}
/-- A whole row stored into the block that was just laid. -/
theorem wpList_store_new {ops : Array Oper} {rest : List Oper} {o : Oper} {a : Act} {w : World} {Q : Exit → Act → World → Prop} (hgd : o.guard = none) (ty : TypeId) (x y : Operand) (ho : o.op = .store ty x y)
    (cells : Array Value) (hx : a.eval x = .pointer (some ⟨w.heap.size, 0, none⟩)) (hy : a.eval y = .agg cells) (hd : o.dst = none)
    (t : TypeId) (old : Array Value) (hi : (P.info? ty).map (·.size) = some cells.size)
    (hold : old.size = cells.size) (h1 : cells.all (·.oneCell') = true)
    (h : ∀ W1, W1.heap[w.heap.size]? = some (.cells cells t (0, 0)) → Below w.heap.size w W1 → W1.heap.size = w.heap.size + 1 → wpList P ops Q rest a W1) : wpList P ops Q (o :: rest) a (w.alloc (.cells old t)) := by
  refine wpList_store_row hgd ty x y ho w.heap.size cells hx hy t old (heap_alloc_new w _) hi hold h1 ?_
  rw [hd]
  exact h _ (setRow_heap _ _ _ _ _ _ (heap_alloc_new w _)) (below_setRow ((Below.refl _ _).alloc (Nat.le_refl _) _) (Nat.le_refl _) _) (by simp)
end

set_option maxRecDepth 100000 in
set_option maxHeartbeats 4000000 in
theorem hashToBig (g : Nat) (xs : List Int) (hl : xs.length = 32) (hx : Bytes xs) (k : Nat) (r : List Int) (hr : smallbig_nat_norm.f k (dg (vB xs.reverse) 8) = some r) (w : World) (T : TypeId)
    (hg : w.heap[g]? = some (.cells (xs.map (Value.int .u8)).toArray T (0, 0))) :
    Calls Try.prog 50 #[.pointer (some ⟨g, 0, none⟩)] w fun e w' => e = .returned (.pointer (some ⟨w.heap.size + 1, 0, none⟩)) ∧ Is w' (w.heap.size + 1) (· ≠ w.heap.size + 1) false r ∧ Below w.heap.size w w' := by
  have HR := Aside0.mk hr
  have HL := Aside0.mk hl
  have HX := Aside0.mk hx
  have HG0 := Aside0.mk hg
  obtain ⟨arr, ha⟩ : ∃ arr, (xs.map (Value.int .u8)).toArray = arr := ⟨_, rfl⟩
  have HA := Aside0.mk ha
  have HAS := Aside0.mk (show arr.size = 32 by rw [← ha]; simp [hl])
  have HA1 := Aside0.mk (show arr.all (·.oneCell') = true by rw [← ha]; simp [Value.oneCell'])
  rw [ha] at HG0
  clear hr hl hx hg ha
  go_enter Try.func50, Try.ntmps50
  go_wp2_with (first
    | ((with_reducible refine at_dst (N := 8) rfl ?_); refine wpList_load_row rfl 75 (.tmp 7) rfl g rfl T arr (0, 0) _ HG0.out Try.underlying75 rfl (by rw [HAS.out]; kernel_rfl) ?_)
    | (refine wpList_store_new rfl 75 (.tmp 3) (.tmp 8) rfl arr rfl rfl rfl 75 _ (by rw [HAS.out]; kernel_rfl) (by rw [HAS.out]; rfl) HA1.out ?_; intro W1 hg1 hb1 hz1; have HG1 := Aside0.mk hg1; have HB1 := Aside0.mk hb1; have HZ1 := Aside0.mk hz1; clear hg1 hb1 hz1))
  go_loopw [5] (fun v5 wr => ∃ i : Nat, i ≤ 16 ∧ v5 = .int .i64 i ∧ Aside0 (wr.heap[w.heap.size]? = some (.cells ((sw xs i).map (Value.int .u8)).toArray 75 (0, 0))) ∧ Aside0 (Below w.heap.size w wr) ∧ Aside0 (wr.heap.size = w.heap.size + 1)) (fun v5 _ => 16 - (intOf v5).toNat)
  case atStart => exact ⟨0, Nat.zero_le _, rfl, ⟨by rw [sw_zero xs HL.out, HA.out]; exact HG1.out⟩, HB1, HZ1⟩
  case round =>
    clear HG1 HB1 HZ1
    obtain ⟨i, hi, rfl, HGi, HBi, HZi⟩ := hrel
    by_cases hlt : i < 16
    · have b0 : decide ((i : Int) < 16) = true := decide_eq_true (by omega)
      have b1 : decide (i < 16) = true := decide_eq_true hlt
      obtain ⟨m, hK⟩ : ∃ m, 31 - i = m := ⟨_, rfl⟩
      have hKi : (31 : Int) - i = (m : Int) := by omega
      have b2 : (0 : Int) ≤ (i : Int) := by omega
      have b3 : (i : Int) < 32 := by omega
      have b4 : (0 : Int) ≤ (m : Int) := by omega
      have b5 : (m : Int) < 32 := by omega
      obtain ⟨x, hx⟩ : ∃ x, xs.getD i 0 = x := ⟨_, rfl⟩
      obtain ⟨y, hy⟩ : ∃ y, xs.getD m 0 = y := ⟨_, rfl⟩
      have hne : i ≠ m := by omega
      have HX1 := Aside0.mk (show (sw xs i)[i]? = some x by rw [sw_get xs i i (by omega) (by omega), hx])
      have HY1 := Aside0.mk (show (sw xs i)[m]? = some y by rw [sw_get xs i m (by omega) (by omega), hy])
      have HSW := Aside0.mk (sw_step xs i hlt)
      rw [hK, hx, hy] at HSW
      have HG1 := Aside0.mk (show wr.drew.heap[w.heap.size]? = _ from HGi.out)
      have HS := Aside0.mk (And.intro (cell_of (w := wr.drew) HGi.out (j := i) (v := .int .u8 x) (by simp [HX1.out])) (cell_of (w := wr.drew) HGi.out (j := m) (v := .int .u8 y) (by simp [HY1.out])))
      have HQ1 := Aside0.mk (show wrap64 (31 - (i : Int)) = (m : Int) by rw [hKi]; exact w64 (by omega) (by omega))
      have HKK := Aside0.mk hKi
      have HI := Aside0.mk hi
      have HNE := Aside0.mk hne
      clear hK hx hy hi hne hKi
      go_wp2
      have q0 : wrap64 31 = 31 := w64 (by omega) (by omega)
      have q1 := HQ1.out
      refine start_ (n := 18) (S := fun w' => w'.cell? ⟨w.heap.size, i, none⟩ = some (.int .u8 x) ∧ w'.cell? ⟨w.heap.size, m, none⟩ = some (.int .u8 y)) (ds := [15, 17]) #[false, false, false, false, false, false, false, false, false, false, false, false, false, false, false, false, false, false] (by kernel_rfl) rfl rfl HS.out (fun hHeld => ?_)
      refine pure_ (i := 0) (N := some 15) (v := ?_) (a' := ?_) #[true, false, false, false, false, false, false, false, false, false, false, false, false, false, false, false, false, false] rfl rfl (by kernel_rfl) (fun _ _ _ h => h) (Or.inl ⟨by rfl, ?_⟩) ?_ ?_
      rotate_left
      · intro w'
        go_simp
        with_reducible rfl
      rotate_left
      · simp only [Act.put, List.setIfInBounds_toArray, List.set_cons_zero, List.set_cons_succ, i64_w, i32_w]
        rfl
      refine pure_ (i := 1) (N := some 16) (v := ?_) (a' := ?_) #[true, true, false, false, false, false, false, false, false, false, false, false, false, false, false, false, false, false] rfl rfl (by kernel_rfl) (fun _ _ _ h => h) (Or.inl ⟨by rfl, ?_⟩) ?_ ?_
      rotate_left
      · intro w'
        go_simp
        with_reducible rfl
      rotate_left
      · simp only [Act.put, List.setIfInBounds_toArray, List.set_cons_zero, List.set_cons_succ, i64_w, i32_w]
        rfl
      refine pure_ (i := 2) (N := some 17) (v := ?_) (a' := ?_) #[true, true, true, false, false, false, false, false, false, false, false, false, false, false, false, false, false, false] rfl rfl (by kernel_rfl) (fun _ _ _ h => h) (Or.inl ⟨by rfl, ?_⟩) ?_ ?_
      rotate_left
      · intro w'
        go_simp
        with_reducible rfl
      rotate_left
      · simp only [Act.put, List.setIfInBounds_toArray, List.set_cons_zero, List.set_cons_succ, i64_w, i32_w]
        rfl
      refine pure_ (i := 3) (N := some 18) (v := ?_) (a' := ?_) #[true, true, true, true, false, false, false, false, false, false, false, false, false, false, false, false, false, false] rfl rfl (by kernel_rfl) (fun _ _ _ h => h) (Or.inl ⟨by rfl, ?_⟩) ?_ ?_
      rotate_left
      · intro w'
        go_simp
        with_reducible rfl
      rotate_left
      · simp only [Act.put, List.setIfInBounds_toArray, List.set_cons_zero, List.set_cons_succ, i64_w, i32_w]
        rfl
      refine pure_ (i := 4) (N := some 19) (v := ?_) (a' := ?_) #[true, true, true, true, true, false, false, false, false, false, false, false, false, false, false, false, false, false] rfl rfl (by kernel_rfl) (fun _ _ _ h => h) (Or.inl ⟨by rfl, ?_⟩) ?_ ?_
      rotate_left
      · intro w'
        go_simp
        with_reducible rfl
      rotate_left
      · simp only [Act.put, List.setIfInBounds_toArray, List.set_cons_zero, List.set_cons_succ, i64_w, i32_w]
        rfl
      refine pure_ (i := 5) (N := some 20) (v := ?_) (a' := ?_) #[true, true, true, true, true, true, false, false, false, false, false, false, false, false, false, false, false, false] rfl rfl (by kernel_rfl) (fun _ _ _ h => h) (Or.inl ⟨by rfl, ?_⟩) ?_ ?_
      rotate_left
      · intro w'
        go_simp
        with_reducible rfl
      rotate_left
      · simp only [Act.put, List.setIfInBounds_toArray, List.set_cons_zero, List.set_cons_succ, i64_w, i32_w]
        rfl
      refine pure_ (i := 6) (N := some 21) (v := ?_) (a' := ?_) #[true, true, true, true, true, true, true, false, false, false, false, false, false, false, false, false, false, false] rfl rfl (by kernel_rfl) (fun _ _ _ h => h) (Or.inl ⟨by rfl, ?_⟩) ?_ ?_
      rotate_left
      · intro w'
        go_simp
        with_reducible rfl
      rotate_left
      · simp only [Act.put, List.setIfInBounds_toArray, List.set_cons_zero, List.set_cons_succ, i64_w, i32_w]
        rfl
      refine pure_ (i := 7) (N := some 22) (v := ?_) (a' := ?_) #[true, true, true, true, true, true, true, true, false, false, false, false, false, false, false, false, false, false] rfl rfl (by kernel_rfl) (fun _ _ _ h => h) (Or.inl ⟨by rfl, ?_⟩) ?_ ?_
      rotate_left
      · intro w'
        go_simp
        with_reducible rfl
      rotate_left
      · simp only [Act.put, List.setIfInBounds_toArray, List.set_cons_zero, List.set_cons_succ, i64_w, i32_w]
        rfl
      refine pure_ (i := 8) (N := some 23) (v := ?_) (a' := ?_) #[true, true, true, true, true, true, true, true, true, false, false, false, false, false, false, false, false, false] rfl rfl (by kernel_rfl) (fun _ _ _ h => h) (Or.inl ⟨by rfl, ?_⟩) ?_ ?_
      rotate_left
      · intro w'
        go_simp
        with_reducible rfl
      rotate_left
      · simp only [Act.put, List.setIfInBounds_toArray, List.set_cons_zero, List.set_cons_succ, i64_w, i32_w]
        rfl
      refine pure_ (i := 9) (N := some 24) (v := ?_) (a' := ?_) #[true, true, true, true, true, true, true, true, true, true, false, false, false, false, false, false, false, false] rfl rfl (by kernel_rfl) (fun _ _ _ h => h) (Or.inl ⟨by rfl, ?_⟩) ?_ ?_
      rotate_left
      · intro w'
        go_simp
        with_reducible rfl
      rotate_left
      · simp only [Act.put, List.setIfInBounds_toArray, List.set_cons_zero, List.set_cons_succ, i64_w, i32_w]
        rfl
      refine take_ (i := 10) (N := some 25) (v := ?_) (a' := ?_) #[true, true, true, true, true, true, true, true, true, true, true, false, false, false, false, false, false, false] rfl rfl (by kernel_rfl) (fun _ _ _ h => h) (Or.inl ⟨by rfl, ?_⟩) hHeld ?_ ?_
      rotate_left
      · rintro w' ⟨s0, s1⟩
        go_simp
        with_reducible rfl
      rotate_left
      · simp only [Act.put, List.setIfInBounds_toArray, List.set_cons_zero, List.set_cons_succ, i64_w, i32_w]
        rfl
      refine pure_ (i := 11) (N := some 26) (v := ?_) (a' := ?_) #[true, true, true, true, true, true, true, true, true, true, true, true, false, false, false, false, false, false] rfl rfl (by kernel_rfl) (fun _ _ _ h => h) (Or.inl ⟨by rfl, ?_⟩) ?_ ?_
      rotate_left
      · intro w'
        go_simp
        with_reducible rfl
      rotate_left
      · simp only [Act.put, List.setIfInBounds_toArray, List.set_cons_zero, List.set_cons_succ, i64_w, i32_w]
        rfl
      refine pure_ (i := 12) (N := some 27) (v := ?_) (a' := ?_) #[true, true, true, true, true, true, true, true, true, true, true, true, true, false, false, false, false, false] rfl rfl (by kernel_rfl) (fun _ _ _ h => h) (Or.inl ⟨by rfl, ?_⟩) ?_ ?_
      rotate_left
      · intro w'
        go_simp
        with_reducible rfl
      rotate_left
      · simp only [Act.put, List.setIfInBounds_toArray, List.set_cons_zero, List.set_cons_succ, i64_w, i32_w]
        rfl
      refine take_ (i := 13) (N := some 28) (v := ?_) (a' := ?_) #[true, true, true, true, true, true, true, true, true, true, true, true, true, true, false, false, false, false] rfl rfl (by kernel_rfl) (fun _ _ _ h => h) (Or.inl ⟨by rfl, ?_⟩) hHeld ?_ ?_
      rotate_left
      · rintro w' ⟨s0, s1⟩
        go_simp
        with_reducible rfl
      rotate_left
      · simp only [Act.put, List.setIfInBounds_toArray, List.set_cons_zero, List.set_cons_succ, i64_w, i32_w]
        rfl
      refine pure_ (i := 14) (N := some 29) (v := ?_) (a' := ?_) #[true, true, true, true, true, true, true, true, true, true, true, true, true, true, true, false, false, false] rfl rfl (by kernel_rfl) (fun _ _ _ h => h) (Or.inl ⟨by rfl, ?_⟩) ?_ ?_
      rotate_left
      · intro w'
        go_simp
        with_reducible rfl
      rotate_left
      · simp only [Act.put, List.setIfInBounds_toArray, List.set_cons_zero, List.set_cons_succ, i64_w, i32_w]
        rfl
      refine last_ (i := 15) (N := none) #[true, true, true, true, true, true, true, true, true, true, true, true, true, true, true, true, false, false] rfl rfl (by kernel_rfl) (by decide) (fun K hK => ?_)
      have hy2 := cell_of HGi.out (j := i) (v := .int .u8 x) (by simp [HX1.out])
      have hf2 := frozen_of HGi.out i
      refine skip_ (w1 := ?_) (by rfl) rfl ?_ ?_
      rotate_left
      · go_simp
        rfl
      refine hK.out _ _ ?_
      clear hK K
      refine norm_ (a' := ?_) ?_ ?_
      rotate_left
      · rfl
      refine pure_ (i := 16) (N := some 30) (v := ?_) (a' := ?_) #[true, true, true, true, true, true, true, true, true, true, true, true, true, true, true, true, true, false] rfl rfl (by kernel_rfl) (fun _ _ _ h => h) (Or.inl ⟨by rfl, ?_⟩) ?_ ?_
      rotate_left
      · intro w'
        go_simp
        with_reducible rfl
      rotate_left
      · simp only [Act.put, List.setIfInBounds_toArray, List.set_cons_zero, List.set_cons_succ, i64_w, i32_w]
        rfl
      refine last_ (i := 17) (N := none) #[true, true, true, true, true, true, true, true, true, true, true, true, true, true, true, true, true, true] rfl rfl (by kernel_rfl) (by decide) (fun K hK => ?_)
      have hy2 := cell_of (heap_set_same HGi.out (j := i) (.int .u8 y)) (j := m) (v := .int .u8 y) (by have := HNE.out; rw [Array.getElem?_setIfInBounds_ne (by omega)]; simp [HY1.out])
      have hf2 := frozen_of HGi.out m
      refine skip_ (w1 := ?_) (by rfl) rfl ?_ ?_
      rotate_left
      · go_simp
        rfl
      refine hK.out _ _ ?_
      clear hK K
      refine norm_ (a' := ?_) ?_ ?_
      rotate_left
      · rfl
      refine done_ (by kernel_rfl) ?_
      clear hHeld q0 q1 HS
      go_wp2
      go_roundw
      case rel =>
        refine ⟨i + 1, by omega, by go_num, ⟨?_⟩, ?_, ?_⟩
        · have e := heap_set_same (heap_set_same HGi.out (j := i) (.int .u8 y)) (j := m) (.int .u8 x)
          rw [List.setIfInBounds_toArray, List.setIfInBounds_toArray, ← List.map_set, ← List.map_set, HSW.out] at e
          exact e
        · exact ⟨below_drew ((HBi.out.setCell (p := ⟨w.heap.size, i, none⟩) (Nat.le_refl _) _).setCell (p := ⟨w.heap.size, m, none⟩) (Nat.le_refl _) _)⟩
        · exact ⟨by have := HZi.out; simpa [World.setCell] using this⟩
      case measure => simp [intOf]; omega
    · have b0 : decide ((i : Int) < 16) = false := decide_eq_false (by omega)
      have b1 : decide (i < 16) = false := decide_eq_false hlt
      obtain rfl : i = 16 := by omega
      rw [sw_all xs HL.out] at HGi
      have hz := HZi.out
      have hrl : xs.reverse.length = 32 := by rw [List.length_reverse, HL.out]
      have HSZ := Aside0.mk (show w.heap.size ≤ (wr.alloc (.cells #[.bool false, .slice none 0 0] 104)).heap.size by simp; omega)
      have HW := Aside0.mk (show Below w.heap.size w (wr.alloc (.cells #[.bool false, .slice none 0 0] 104)) from HBi.out.alloc (by omega) _)
      have hI2 : Is (wr.alloc (.cells #[.bool false, .slice none 0 0] 104)) (w.heap.size + 1) (fun _ => True) false [] := ⟨_, by rw [← hz]; exact heap_alloc_new wr _, Kd.V_nil _ _ _ _ _⟩
      have hV2 : Kd.V (Kd.int .u8) 5 (wr.alloc (.cells #[.bool false, .slice none 0 0] 104)) 0 (fun k => k = w.heap.size) (.slice (some ⟨w.heap.size, 0, none⟩) 32 32) xs.reverse := by
        have := V_block (e := 5) (base := 0) (heap_alloc_lt HGi.out (.cells #[.bool false, .slice none 0 0] 104)) (by rw [hrl]; decide)
        rw [hrl] at this
        exact this
      have HSB := Aside0.mk (setBytes (w.heap.size + 1) (fun _ => True) false [] k (fun k => k = w.heap.size) _ xs.reverse r _ 0 hI2 (fun k hk => by simp; omega) hV2 (fun d hd => HX.out d (List.mem_reverse.1 hd)) (by rw [hrl]; decide) (by rw [hrl]; exact HR.out))
      clear hI2 hV2 hrl
      go_wp2_with (go_at_call 61; refine HSB.out.mono ?_; rintro e w3 ⟨rfl, h2, h3⟩; have H2 := Aside0.mk h2; have H3 := Aside0.mk h3; clear h2 h3)
      go_ret
      exact ⟨rfl, H2.out, H3.out.below HW.out (Nat.le_succ _) HSZ.out⟩
end Go.Proofs.Ytnbecklojmbbbaa.Big
