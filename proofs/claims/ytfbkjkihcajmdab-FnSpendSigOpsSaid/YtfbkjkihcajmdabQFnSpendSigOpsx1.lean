-- Made by a turned print (own tool turnprint.py over the kit print).
import Derived.Test.YtfbkjkihcajmdabQFnSpendSigOpsx0
namespace Go.Proofs.Ytfbkjkihcajmdab.QFnSpendSigOps
open Go.RowKit Go.Proofs.YtfbkjkihcajmdabW.PrintWords Go.Proofs.YtfbkjkihcajmdabW.PrintLast Go.Proofs.YtfbkjkihcajmdabW.PrintMore
attribute [local go_sem] nn_mod256 nn_mod65536 nn_mod32 max2_int min2_int max_two min_two max_three min_three max_four min_four   -- for this text's walks alone
set_option linter.unusedVariables false
set_option linter.unusedSimpArgs false

-- NOT PRINTED: function 39 (btcdtxscript_extractScriptHash)

-- NOT PRINTED: function 25 (btcdtxscript_isScriptHashScript)

/-! ### btcdtxscript_scriptError: function 41 -/
def btcdtxscript_scriptError.f (a0 : Int) (a1 : ByteArray) : Option (Int × ByteArray) := some (a0, a1)
set_option maxHeartbeats 8000000 in
set_option maxRecDepth 100000 in
theorem btcdtxscript_scriptError.calls (a0 : Int) (a1 : ByteArray) (r1 : Int) (r2 : ByteArray) (w : World) (h : btcdtxscript_scriptError.f a0 a1 = some (r1, r2)) :
    Calls Try.prog 41 #[.int .i64 a0, .string a1] w fun e w' => e = .returned (.agg #[.int .i64 r1, .string r2]) ∧ Below w.heap.size w w' := by
  have hu51 := Try.underlying51
  have HB := Aside0.mk (Below.refl w.heap.size w)
  have H : (some (a0, a1)) = some (r1, r2) := h
  clear h
  simp only [Option.some.injEq, Prod.mk.injEq] at H
  obtain ⟨rfl, rfl⟩ := H
  go_enter Try.func41, Try.ntmps41
  go_wp2_with (first | ((with_reducible refine gate_dst (N := 4) rfl ?_); refine box_event ?hg (N := 4) ?hd (cs := #[.int .i64 0, .string (⟨#[]⟩ : ByteArray)]) (t := 51) ?hr ?_; (case hd => rfl); (case hg => rfl); (case hr => first | (go_simp; done) | (go_simp; rfl)); intro gb108 hg w3 hbox hb; have n0_ := Aside0.mk (below_step (by repeat (first | (with_reducible first | exact HB.out | apply below_alloc | apply pw_below_drewN | apply below_drew1) | exact HB.out)) hb); have n1_ := Aside0.mk (hbox); have n2_ := Aside0.mk ((by rw [hg]; exact (below_size (by repeat (first | (with_reducible first | exact HB.out | apply below_alloc | apply pw_below_drewN | apply below_drew1) | exact HB.out))) : w.heap.size ≤ gb108)); have n3_ := Aside0.mk ((by rw [hg]; exact (below_size (by repeat (first | (with_reducible first | exact HB.out | apply below_alloc | apply pw_below_drewN | apply below_drew1) | exact HB.out))) : w.heap.size ≤ gb108)); clear HB; have HB := n0_; have BK108 := n1_; have GW108 := n2_; have GE108 := n3_; clear n0_ n1_ n2_ n3_; clear hb hbox hg; have hcz4_0 : w3.cell? ⟨gb108, 0, none⟩ = some (.int .i64 0) := (blk_cell BK108.out 0).trans rfl; have hcz4_1 : w3.cell? ⟨gb108, 1, none⟩ = some (.string (⟨#[]⟩ : ByteArray)) := (blk_cell BK108.out 1).trans rfl; have hfz4_0 := blk_frozen BK108.out 0; have hfz4_1 := blk_frozen BK108.out 1))
  refine bodyPost_ret (results_cell_row rfl _ _ gb108 51 #[.int .i64 a0, .string a1] (0, 0) _ rfl (by (with_reducible repeat (first | refine blk_drewN ?_ _ | refine blk_drew ?_ | refine blk_alloc ?_ _)); refine blk_put (cs := #[.int .i64 a0, .string (⟨#[]⟩ : ByteArray)]) ?_ 1 _ rfl; (with_reducible repeat (first | refine blk_drewN ?_ _ | refine blk_drew ?_ | refine blk_alloc ?_ _)); refine blk_put (cs := #[.int .i64 0, .string (⟨#[]⟩ : ByteArray)]) ?_ 0 _ rfl; (with_reducible repeat (first | refine blk_drewN ?_ _ | refine blk_drew ?_ | refine blk_alloc ?_ _)); exact BK108.out) Try.underlying51 rfl (by kernel_rfl)) rfl ?_
  exact ⟨by first | rfl | (simp [errW_none, errW_some] <;> rfl) | (simp [*, errW_none, errW_some] <;> rfl), by repeat (first | (with_reducible first | exact HB.out | apply below_alloc | apply pw_below_drewN | apply below_drew1 | refine below_set ?_ GE108.out) | exact HB.out)⟩

-- NOT PRINTED: function 30 (btcdtxscript_MakeScriptTokenizer)

-- NOT PRINTED: function 37 (btcdtxscript_ScriptTokenizer_Done)

-- NOT PRINTED: function 42 (btcdtxscript_opcodeOf)

-- NOT PRINTED: function 43 (binary_littleEndian_Uint16)

-- NOT PRINTED: function 44 (binary_littleEndian_Uint32)

-- NOT PRINTED: function 31 (btcdtxscript_ScriptTokenizer_Next)

-- NOT PRINTED: function 33 (btcdtxscript_ScriptTokenizer_Opcode)

/-! ### btcdtxscript_AsSmallInt: function 34 -/
def btcdtxscript_AsSmallInt.f (a0 : Int) : Option (Int) := if a0 = 0 then (some 0) else (some ((a0 - 80) % 256))
set_option maxHeartbeats 8000000 in
set_option maxRecDepth 100000 in
theorem btcdtxscript_AsSmallInt.calls (a0 : Int) (r : Int) (w : World) (h : btcdtxscript_AsSmallInt.f a0 = some r) :
    Calls Try.prog 34 #[.int .u8 a0] w fun e w' => e = .returned (.int .i64 r) ∧ Drawn0 w w' := by
  have H : (if a0 = 0 then (some 0) else (some ((a0 - 80) % 256))) = some r := h
  clear h
  by_cases c2 : a0 = 0
  · rw [if_pos c2] at H
    have c2b0 : (a0 == 0) = true := beq_iff_eq.mpr c2
    have c2b1 : (a0 != 0) = false := bne_eq_false_iff_eq.mpr c2
    clear c2
    obtain rfl := Option.some.inj H
    go_enter Try.func34, Try.ntmps34
    go_wp2
    go_ret
    exact ⟨by first | rfl | (simp; done) | (simp [*]; done), by repeat (first | exact Drawn0.refl _ | apply Drawn0.step)⟩
  · rw [if_neg c2] at H
    have c2b0 : (a0 == 0) = false := beq_eq_false_iff_ne.mpr c2
    have c2b1 : (a0 != 0) = true := bne_iff_ne.mpr c2
    obtain rfl := Option.some.inj H
    go_enter Try.func34, Try.ntmps34
    go_wp2
    go_ret
    exact ⟨by first | rfl | (simp; done) | (simp [*]; done), by repeat (first | exact Drawn0.refl _ | apply Drawn0.step)⟩

-- NOT PRINTED: function 26 (btcdtxscript_countSigOpsV0)

-- NOT PRINTED: function 38 (btcdtxscript_ScriptTokenizer_Err)

-- NOT PRINTED: function 27 (btcdtxscript_IsPushOnlyScript)

-- NOT PRINTED: function 36 (btcdtxscript_ScriptTokenizer_Data)

-- NOT PRINTED: function 28 (btcdtxscript_finalOpcodeData)

-- NOT PRINTED: function 17 (btcdtxscript_GetPreciseSigOpCount)

-- NOT PRINTED: function 9 (impl_SpendSigOps)

/-! ### spec_PaysScript: function 18 -/
def spec_PaysScript.f (l0 : List Int) : Option (Bool) := if (l0.length : Int) = 23 then (if 0 < (l0.length : Int) then (if (rd l0 0) = 169 then (if 1 < (l0.length : Int) then (if (rd l0 1) = 20 then (if 22 < (l0.length : Int) then (some ((rd l0 22) == 135)) else (none)) else (some false)) else (none)) else (some false)) else (none)) else (some false)
set_option maxHeartbeats 8000000 in
set_option maxRecDepth 100000 in
theorem spec_PaysScript.calls (A0 : Option Addr) (c0 : Nat) (l0 : List Int) (r : Bool) (w : World) (hr0 : Kd.C (Kd.int .u8) w A0 l0.length l0) (hc0 : l0.length ≤ c0) (h : spec_PaysScript.f l0 = some r) :
    Calls Try.prog 18 #[.slice A0 l0.length c0] w fun e w' => e = .returned (.bool r) ∧ Drawn0 w w' := by
  have HR0 := Aside0.mk hr0
  have HC0 := Aside0.mk hc0
  clear hr0 hc0
  have H : (if (l0.length : Int) = 23 then (if 0 < (l0.length : Int) then (if (rd l0 0) = 169 then (if 1 < (l0.length : Int) then (if (rd l0 1) = 20 then (if 22 < (l0.length : Int) then (some ((rd l0 22) == 135)) else (none)) else (some false)) else (none)) else (some false)) else (none)) else (some false)) = some r := h
  clear h
  by_cases c2 : (l0.length : Int) = 23
  · rw [if_pos c2] at H
    have c2b0 : ((l0.length : Int) == 23) = true := beq_iff_eq.mpr c2
    have c2b1 : ((l0.length : Int) != 23) = false := bne_eq_false_iff_eq.mpr c2
    clear c2
    by_cases c3 : 0 < (l0.length : Int)
    · rw [if_pos c3] at H
      have c3b0 : decide (0 < (l0.length : Int)) = true := decide_eq_true c3
      have c3b1 : decide (0 < l0.length) = true := decide_eq_true (by omega)
      clear c3
      by_cases c4 : (rd l0 0) = 169
      · rw [if_pos c4] at H
        have c4b0 : ((rd l0 0) == 169) = true := beq_iff_eq.mpr c4
        have c4b1 : ((rd l0 0) != 169) = false := bne_eq_false_iff_eq.mpr c4
        clear c4
        by_cases c5 : 1 < (l0.length : Int)
        · rw [if_pos c5] at H
          have c5b0 : decide (1 < (l0.length : Int)) = true := decide_eq_true c5
          have c5b1 : decide (1 < l0.length) = true := decide_eq_true (by omega)
          clear c5
          by_cases c6 : (rd l0 1) = 20
          · rw [if_pos c6] at H
            have c6b0 : ((rd l0 1) == 20) = true := beq_iff_eq.mpr c6
            have c6b1 : ((rd l0 1) != 20) = false := bne_eq_false_iff_eq.mpr c6
            clear c6
            by_cases c7 : 22 < (l0.length : Int)
            · rw [if_pos c7] at H
              have c7b0 : decide (22 < (l0.length : Int)) = true := decide_eq_true c7
              have c7b1 : decide (22 < l0.length) = true := decide_eq_true (by omega)
              clear c7
              obtain rfl := Option.some.inj H
              have p109 : 0 ≤ (0 : Int) := (by omega)
              have q109 : 0 < (l0.length : Int) := of_decide_eq_true (by first | (with_reducible assumption) | assumption)
              obtain ⟨ad109, e109, hx109_0⟩ := Kd.at_int HR0.out 0 p109 q109
              cases e109
              have qi109 : (0 < l0.length) = True := eq_true (by omega)
              (try rw [show ((0 : Int)).toNat = 0 from rfl] at hx109_0)
              (try rw [Addr.add_zero'] at hx109_0)
              replace p109 := eq_true p109
              replace q109 := eq_true q109
              have p110 : 0 ≤ (1 : Int) := (by omega)
              have q110 : 1 < (l0.length : Int) := of_decide_eq_true (by first | (with_reducible assumption) | assumption)
              obtain ⟨ad110, e110, hx110_0⟩ := Kd.at_int HR0.out 1 p110 q110
              obtain rfl : ad109 = ad110 := (by injection e110)
              (try simp only [show (1 : Int).toNat = 1 from rfl, Nat.reduceMul, Nat.reduceEqDiff, Go.Addr.add, ↓reduceIte] at hx110_0)
              have qi110 : (1 < l0.length) = True := eq_true (by omega)
              (try rw [show ((1 : Int)).toNat = 1 from rfl] at hx110_0)
              replace p110 := eq_true p110
              replace q110 := eq_true q110
              have p111 : 0 ≤ (22 : Int) := (by omega)
              have q111 : 22 < (l0.length : Int) := of_decide_eq_true (by first | (with_reducible assumption) | assumption)
              obtain ⟨ad111, e111, hx111_0⟩ := Kd.at_int HR0.out 22 p111 q111
              obtain rfl : ad109 = ad111 := (by injection e111)
              (try simp only [show (22 : Int).toNat = 22 from rfl, Nat.reduceMul, Nat.reduceEqDiff, Go.Addr.add, ↓reduceIte] at hx111_0)
              have qi111 : (22 < l0.length) = True := eq_true (by omega)
              (try rw [show ((22 : Int)).toNat = 22 from rfl] at hx111_0)
              replace p111 := eq_true p111
              replace q111 := eq_true q111
              go_enter Try.func18, Try.ntmps18
              go_wp2
              go_ret
              exact ⟨by first | rfl | (simp; done) | (simp [*]; done), by repeat (first | exact Drawn0.refl _ | apply Drawn0.step)⟩
            · rw [if_neg c7] at H
              exact absurd H (by simp)
          · rw [if_neg c6] at H
            have c6b0 : ((rd l0 1) == 20) = false := beq_eq_false_iff_ne.mpr c6
            have c6b1 : ((rd l0 1) != 20) = true := bne_iff_ne.mpr c6
            obtain rfl := Option.some.inj H
            have p109 : 0 ≤ (0 : Int) := (by omega)
            have q109 : 0 < (l0.length : Int) := of_decide_eq_true (by first | (with_reducible assumption) | assumption)
            obtain ⟨ad109, e109, hx109_0⟩ := Kd.at_int HR0.out 0 p109 q109
            cases e109
            have qi109 : (0 < l0.length) = True := eq_true (by omega)
            (try rw [show ((0 : Int)).toNat = 0 from rfl] at hx109_0)
            (try rw [Addr.add_zero'] at hx109_0)
            replace p109 := eq_true p109
            replace q109 := eq_true q109
            have p110 : 0 ≤ (1 : Int) := (by omega)
            have q110 : 1 < (l0.length : Int) := of_decide_eq_true (by first | (with_reducible assumption) | assumption)
            obtain ⟨ad110, e110, hx110_0⟩ := Kd.at_int HR0.out 1 p110 q110
            obtain rfl : ad109 = ad110 := (by injection e110)
            (try simp only [show (1 : Int).toNat = 1 from rfl, Nat.reduceMul, Nat.reduceEqDiff, Go.Addr.add, ↓reduceIte] at hx110_0)
            have qi110 : (1 < l0.length) = True := eq_true (by omega)
            (try rw [show ((1 : Int)).toNat = 1 from rfl] at hx110_0)
            replace p110 := eq_true p110
            replace q110 := eq_true q110
            go_enter Try.func18, Try.ntmps18
            go_wp2
            go_ret
            exact ⟨by first | rfl | (simp; done) | (simp [*]; done), by repeat (first | exact Drawn0.refl _ | apply Drawn0.step)⟩
        · rw [if_neg c5] at H
          exact absurd H (by simp)
      · rw [if_neg c4] at H
        have c4b0 : ((rd l0 0) == 169) = false := beq_eq_false_iff_ne.mpr c4
        have c4b1 : ((rd l0 0) != 169) = true := bne_iff_ne.mpr c4
        obtain rfl := Option.some.inj H
        have p109 : 0 ≤ (0 : Int) := (by omega)
        have q109 : 0 < (l0.length : Int) := of_decide_eq_true (by first | (with_reducible assumption) | assumption)
        obtain ⟨ad109, e109, hx109_0⟩ := Kd.at_int HR0.out 0 p109 q109
        cases e109
        have qi109 : (0 < l0.length) = True := eq_true (by omega)
        (try rw [show ((0 : Int)).toNat = 0 from rfl] at hx109_0)
        (try rw [Addr.add_zero'] at hx109_0)
        replace p109 := eq_true p109
        replace q109 := eq_true q109
        go_enter Try.func18, Try.ntmps18
        go_wp2
        go_ret
        exact ⟨by first | rfl | (simp; done) | (simp [*]; done), by repeat (first | exact Drawn0.refl _ | apply Drawn0.step)⟩
    · rw [if_neg c3] at H
      exact absurd H (by simp)
  · rw [if_neg c2] at H
    have c2b0 : ((l0.length : Int) == 23) = false := beq_eq_false_iff_ne.mpr c2
    have c2b1 : ((l0.length : Int) != 23) = true := bne_iff_ne.mpr c2
    obtain rfl := Option.some.inj H
    go_enter Try.func18, Try.ntmps18
    go_wp2
    go_ret
    exact ⟨by first | rfl | (simp; done) | (simp [*]; done), by repeat (first | exact Drawn0.refl _ | apply Drawn0.step)⟩

/-! ### spec_word: function 21 -/
def spec_word.l0 : Nat → List Int → Int → Int → Option (Int × Bool)
  | 0, _, _, _ => none
  | k + 1, x0, x6, x7 => if x7 ≥ 0 then (if 0 ≤ x7 then (if x7 < (x0.length : Int) then (spec_word.l0 k x0 (wrap64 ((wrap64 (x6 * 256)) + (wrap64 (rd x0 x7)))) (wrap64 (x7 - 1))) else (none)) else (none)) else (some (x6, true))
def spec_word.f (k : Nat) (l0 : List Int) (a1 : Int) : Option (Int × Bool) := if (l0.length : Int) < a1 then (some (0, false)) else (spec_word.l0 k l0 0 (wrap64 (a1 - 1)))
theorem spec_word.mono_l : ∀ k, (∀ y0 y1 y2, LeO (spec_word.l0 k y0 y1 y2) (spec_word.l0 (k + 1) y0 y1 y2))
  | 0 => fun _ _ _ r h => by simp [spec_word.l0] at h
  | k + 1 => by
    have ih0 := spec_word.mono_l k
    · intro y0 y1 y2
      unfold spec_word.l0
      repeat' first
      | (with_reducible exact ih0 _ _ _)
      | (with_reducible exact LeO.refl _)
      | (with_reducible exact LeO.none _)
      | (with_reducible refine LeO.ite ?_ ?_)
      | (with_reducible refine LeO.bind ?_ (fun _ => ?_))
      | exact ih0 _ _ _
      | exact LeO.none _
      | refine LeO.ite ?_ ?_
      | refine LeO.bind ?_ (fun _ => ?_)
theorem spec_word.mono : ∀ a0 a1 k, LeO (spec_word.f k a0 a1) (spec_word.f (k + 1) a0 a1) := by
  intro a0 a1 k
  have ih0 := spec_word.mono_l k
  unfold spec_word.f
  repeat' first
      | (with_reducible exact ih0 _ _ _)
      | (with_reducible exact LeO.refl _)
      | (with_reducible exact LeO.none _)
      | (with_reducible refine LeO.ite ?_ ?_)
      | (with_reducible refine LeO.bind ?_ (fun _ => ?_))
      | exact ih0 _ _ _
      | exact LeO.none _
      | refine LeO.ite ?_ ?_
      | refine LeO.bind ?_ (fun _ => ?_)
set_option maxHeartbeats 8000000 in
set_option maxRecDepth 100000 in
theorem spec_word.calls (k : Nat) (A0 : Option Addr) (c0 : Nat) (l0 : List Int) (a1 : Int) (r1 : Int) (r2 : Bool) (w : World) (hr0 : Kd.C (Kd.int .u8) w A0 l0.length l0) (hc0 : l0.length ≤ c0) (h : spec_word.f k l0 a1 = some (r1, r2)) :
    Calls Try.prog 21 #[.slice A0 l0.length c0, .int .i64 a1] w fun e w' => e = .returned (.tuple #[.int .i64 r1, .bool r2]) ∧ Drawn0 w w' := by
  have HR0 := Aside0.mk hr0
  have HC0 := Aside0.mk hc0
  clear hr0 hc0
  have H : (if (l0.length : Int) < a1 then (some (0, false)) else (spec_word.l0 k l0 0 (wrap64 (a1 - 1)))) = some (r1, r2) := h
  clear h
  by_cases c3 : (l0.length : Int) < a1
  · rw [if_pos c3] at H
    have c3b0 : decide ((l0.length : Int) < a1) = true := decide_eq_true c3
    clear c3
    simp only [Option.some.injEq, Prod.mk.injEq] at H
    obtain ⟨rfl, rfl⟩ := H
    go_enter Try.func21, Try.ntmps21
    go_wp2
    go_ret2
    exact ⟨by first | rfl | (simp; done) | (simp [*]; done), by repeat (first | exact Drawn0.refl _ | apply Drawn0.step)⟩
  · rw [if_neg c3] at H
    have c3b0 : decide ((l0.length : Int) < a1) = false := decide_eq_false c3
    clear c3
    have H' := Aside0.mk H
    clear H
    go_enter Try.func21, Try.ntmps21
    go_wp2
    go_loopg [6, 7] k (fun kq v6 v7 w' => ∃ (x6_1 : Int) (x7_1 : Int), v6 = .int .i64 x6_1 ∧ v7 = .int .i64 x7_1 ∧ Aside0 (spec_word.l0 kq l0 x6_1 x7_1 = some (r1, r2)) ∧ Aside0 (kq ≤ k) ∧ Drawn0 w w')
    case atStart => exact ⟨(0), (wrap64 (a1 - 1)), (by first | rfl | (simp; done) | (simp [*]; done) | (simp [show wrap64 1 = 1 by unfold wrap64; decide, *]; done)), (by first | rfl | (simp; done) | (simp [*]; done) | (simp [show wrap64 1 = 1 by unfold wrap64; decide, *]; done)), H', ⟨Nat.le_refl _⟩, by repeat (first | exact Drawn0.refl _ | apply Drawn0.step)⟩
    case round =>
      clear H'
      try clear c2
      try clear p2
      try clear c3
      try clear c3b0
      obtain ⟨x6_1, x7_1, rfl, rfl, HA, HK1, ⟨m1, rfl⟩⟩ := hrel
      cases gk with
      | zero => exact absurd HA.out (by simp [spec_word.l0])
      | succ k1 =>
        have H := HA.out
        clear HA
        simp only [spec_word.l0] at H
        by_cases c4 : x7_1 ≥ 0
        · rw [if_pos c4] at H
          have c4b0 : decide (0 ≤ x7_1) = true := decide_eq_true c4
          clear c4
          by_cases c5 : 0 ≤ x7_1
          · rw [if_pos c5] at H
            have c5b0 : decide (0 ≤ x7_1) = true := decide_eq_true c5
            clear c5
            by_cases c6 : x7_1 < (l0.length : Int)
            · rw [if_pos c6] at H
              have c6b0 : decide (x7_1 < (l0.length : Int)) = true := decide_eq_true c6
              clear c6
              have H' := Aside0.mk H
              clear H
              have p112 : 0 ≤ (x7_1 : Int) := of_decide_eq_true (by first | (with_reducible assumption) | assumption)
              have q112 : x7_1 < (l0.length : Int) := of_decide_eq_true (by first | (with_reducible assumption) | assumption)
              obtain ⟨ad112, e112, hx112_0⟩ := Kd.at_int HR0.out x7_1 p112 q112
              cases e112
              replace p112 := eq_true p112
              replace q112 := eq_true q112
              go_wp2
              go_roundg k1
              case measure => have := HK1.out; omega
              case rel => exact ⟨(wrap64 ((wrap64 (x6_1 * 256)) + (wrap64 (rd l0 x7_1)))), (wrap64 (x7_1 - 1)), (by first | rfl | (simp; done) | (simp [*]; done) | (simp [show wrap64 1 = 1 by unfold wrap64; decide, *]; done)), (by first | rfl | (simp; done) | (simp [*]; done) | (simp [show wrap64 1 = 1 by unfold wrap64; decide, *]; done)), (by first | exact H' | (subst_vars; exact H')), ⟨by have := HK1.out; omega⟩, by repeat (first | exact Drawn0.refl _ | apply Drawn0.step)⟩
            · rw [if_neg c6] at H
              exact absurd H (by simp)
          · rw [if_neg c5] at H
            exact absurd H (by simp)
        · rw [if_neg c4] at H
          have c4b0 : decide (0 ≤ x7_1) = false := decide_eq_false c4
          clear c4
          simp only [Option.some.injEq, Prod.mk.injEq] at H
          obtain ⟨rfl, rfl⟩ := H
          go_wp2
          go_ret2
          exact ⟨by first | rfl | (simp; done) | (simp [*]; done), by repeat (first | exact Drawn0.refl _ | apply Drawn0.step)⟩

end Go.Proofs.Ytfbkjkihcajmdab.QFnSpendSigOps
