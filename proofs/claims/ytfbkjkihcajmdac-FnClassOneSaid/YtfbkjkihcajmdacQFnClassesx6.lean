-- Made by a turned print (own tool turnprint.py over the kit print).
import Derived.Test.YtfbkjkihcajmdacQFnClassesx0
namespace Go.Proofs.Ytfbkjkihcajmdac.QFnClasses
open Go.RowKit Go.Proofs.YtfbkjkihcajmdacW.PrintWords Go.Proofs.YtfbkjkihcajmdacW.PrintLast Go.Proofs.YtfbkjkihcajmdacW.PrintMore
attribute [local go_sem] nn_mod256 nn_mod65536 nn_mod32 max2_int min2_int max_two min_two max_three min_three max_four min_four   -- for this text's walks alone
set_option linter.unusedVariables false
set_option linter.unusedSimpArgs false

/-! ### btcdtxscript_scriptError: function 66 -/
def btcdtxscript_scriptError.f (a0 : Int) (a1 : ByteArray) : Option (Int × ByteArray) := some (a0, a1)
set_option maxHeartbeats 8000000 in
set_option maxRecDepth 100000 in
theorem btcdtxscript_scriptError.calls (a0 : Int) (a1 : ByteArray) (r1 : Int) (r2 : ByteArray) (w : World) (h : btcdtxscript_scriptError.f a0 a1 = some (r1, r2)) :
    Calls Try.prog 66 #[.int .i64 a0, .string a1] w fun e w' => e = .returned (.agg #[.int .i64 r1, .string r2]) ∧ Below w.heap.size w w' := by
  have hu67 := Try.underlying67
  have HB := Aside0.mk (Below.refl w.heap.size w)
  have H : (some (a0, a1)) = some (r1, r2) := h
  clear h
  simp only [Option.some.injEq, Prod.mk.injEq] at H
  obtain ⟨rfl, rfl⟩ := H
  go_enter Try.func66, Try.ntmps66
  go_wp2_with (first | ((with_reducible refine gate_dst (N := 4) rfl ?_); refine box_event ?hg (N := 4) ?hd (cs := #[.int .i64 0, .string (⟨#[]⟩ : ByteArray)]) (t := 67) ?hr ?_; (case hd => rfl); (case hg => rfl); (case hr => first | (go_simp; done) | (go_simp; rfl)); intro gb207 hg w3 hbox hb; have n0_ := Aside0.mk (below_step (by repeat (first | (with_reducible first | exact HB.out | apply below_alloc | apply pw_below_drewN | apply below_drew1) | exact HB.out)) hb); have n1_ := Aside0.mk (hbox); have n2_ := Aside0.mk ((by rw [hg]; exact (below_size (by repeat (first | (with_reducible first | exact HB.out | apply below_alloc | apply pw_below_drewN | apply below_drew1) | exact HB.out))) : w.heap.size ≤ gb207)); have n3_ := Aside0.mk ((by rw [hg]; exact (below_size (by repeat (first | (with_reducible first | exact HB.out | apply below_alloc | apply pw_below_drewN | apply below_drew1) | exact HB.out))) : w.heap.size ≤ gb207)); clear HB; have HB := n0_; have BK207 := n1_; have GW207 := n2_; have GE207 := n3_; clear n0_ n1_ n2_ n3_; clear hb hbox hg; have hcz4_0 : w3.cell? ⟨gb207, 0, none⟩ = some (.int .i64 0) := (blk_cell BK207.out 0).trans rfl; have hcz4_1 : w3.cell? ⟨gb207, 1, none⟩ = some (.string (⟨#[]⟩ : ByteArray)) := (blk_cell BK207.out 1).trans rfl; have hfz4_0 := blk_frozen BK207.out 0; have hfz4_1 := blk_frozen BK207.out 1))
  refine bodyPost_ret (results_cell_row rfl _ _ gb207 67 #[.int .i64 a0, .string a1] (0, 0) _ rfl (by (with_reducible repeat (first | refine blk_drewN ?_ _ | refine blk_drew ?_ | refine blk_alloc ?_ _)); refine blk_put (cs := #[.int .i64 a0, .string (⟨#[]⟩ : ByteArray)]) ?_ 1 _ rfl; (with_reducible repeat (first | refine blk_drewN ?_ _ | refine blk_drew ?_ | refine blk_alloc ?_ _)); refine blk_put (cs := #[.int .i64 0, .string (⟨#[]⟩ : ByteArray)]) ?_ 0 _ rfl; (with_reducible repeat (first | refine blk_drewN ?_ _ | refine blk_drew ?_ | refine blk_alloc ?_ _)); exact BK207.out) Try.underlying67 rfl (by kernel_rfl)) rfl ?_
  exact ⟨by first | rfl | (simp [errW_none, errW_some] <;> rfl) | (simp [*, errW_none, errW_some] <;> rfl), by repeat (first | (with_reducible first | exact HB.out | apply below_alloc | apply pw_below_drewN | apply below_drew1 | refine below_set ?_ GE207.out) | exact HB.out)⟩

-- NOT PRINTED: function 48 (btcdtxscript_MakeScriptTokenizer)

-- NOT PRINTED: function 50 (btcdtxscript_ScriptTokenizer_Done)

-- NOT PRINTED: function 67 (btcdtxscript_opcodeOf)

-- NOT PRINTED: function 68 (binary_littleEndian_Uint16)

-- NOT PRINTED: function 69 (binary_littleEndian_Uint32)

-- NOT PRINTED: function 49 (btcdtxscript_ScriptTokenizer_Next)

/-! ### btcdtxscript_IsSmallInt: function 51 -/
def btcdtxscript_IsSmallInt.f (a0 : Int) : Option (Bool) := if a0 = 0 then (some true) else (if a0 ≥ 81 then (some (decide (a0 ≤ 96))) else (some false))
set_option maxHeartbeats 8000000 in
set_option maxRecDepth 100000 in
theorem btcdtxscript_IsSmallInt.calls (a0 : Int) (r : Bool) (w : World) (h : btcdtxscript_IsSmallInt.f a0 = some r) :
    Calls Try.prog 51 #[.int .u8 a0] w fun e w' => e = .returned (.bool r) ∧ Drawn0 w w' := by
  have H : (if a0 = 0 then (some true) else (if a0 ≥ 81 then (some (decide (a0 ≤ 96))) else (some false))) = some r := h
  clear h
  by_cases c2 : a0 = 0
  · rw [if_pos c2] at H
    have c2b0 : (a0 == 0) = true := beq_iff_eq.mpr c2
    have c2b1 : (a0 != 0) = false := bne_eq_false_iff_eq.mpr c2
    clear c2
    obtain rfl := Option.some.inj H
    go_enter Try.func51, Try.ntmps51
    go_wp2
    go_ret
    exact ⟨by first | rfl | (simp; done) | (simp [*]; done), by repeat (first | exact Drawn0.refl _ | apply Drawn0.step)⟩
  · rw [if_neg c2] at H
    have c2b0 : (a0 == 0) = false := beq_eq_false_iff_ne.mpr c2
    have c2b1 : (a0 != 0) = true := bne_iff_ne.mpr c2
    by_cases c3 : a0 ≥ 81
    · rw [if_pos c3] at H
      have c3b0 : decide (81 ≤ a0) = true := decide_eq_true c3
      clear c3
      obtain rfl := Option.some.inj H
      go_enter Try.func51, Try.ntmps51
      go_wp2
      go_ret
      exact ⟨by first | rfl | (simp; done) | (simp [*]; done), by repeat (first | exact Drawn0.refl _ | apply Drawn0.step)⟩
    · rw [if_neg c3] at H
      have c3b0 : decide (81 ≤ a0) = false := decide_eq_false c3
      clear c3
      obtain rfl := Option.some.inj H
      go_enter Try.func51, Try.ntmps51
      go_wp2
      go_ret
      exact ⟨by first | rfl | (simp; done) | (simp [*]; done), by repeat (first | exact Drawn0.refl _ | apply Drawn0.step)⟩

-- NOT PRINTED: function 52 (btcdtxscript_ScriptTokenizer_Opcode)

-- NOT PRINTED: function 53 (btcdtxscript_ScriptTokenizer_Data)

/-! ### btcdtxscript_AsSmallInt: function 62 -/
def btcdtxscript_AsSmallInt.f (a0 : Int) : Option (Int) := if a0 = 0 then (some 0) else (some ((a0 - 80) % 256))
set_option maxHeartbeats 8000000 in
set_option maxRecDepth 100000 in
theorem btcdtxscript_AsSmallInt.calls (a0 : Int) (r : Int) (w : World) (h : btcdtxscript_AsSmallInt.f a0 = some r) :
    Calls Try.prog 62 #[.int .u8 a0] w fun e w' => e = .returned (.int .i64 r) ∧ Drawn0 w w' := by
  have H : (if a0 = 0 then (some 0) else (some ((a0 - 80) % 256))) = some r := h
  clear h
  by_cases c2 : a0 = 0
  · rw [if_pos c2] at H
    have c2b0 : (a0 == 0) = true := beq_iff_eq.mpr c2
    have c2b1 : (a0 != 0) = false := bne_eq_false_iff_eq.mpr c2
    clear c2
    obtain rfl := Option.some.inj H
    go_enter Try.func62, Try.ntmps62
    go_wp2
    go_ret
    exact ⟨by first | rfl | (simp; done) | (simp [*]; done), by repeat (first | exact Drawn0.refl _ | apply Drawn0.step)⟩
  · rw [if_neg c2] at H
    have c2b0 : (a0 == 0) = false := beq_eq_false_iff_ne.mpr c2
    have c2b1 : (a0 != 0) = true := bne_iff_ne.mpr c2
    obtain rfl := Option.some.inj H
    go_enter Try.func62, Try.ntmps62
    go_wp2
    go_ret
    exact ⟨by first | rfl | (simp; done) | (simp [*]; done), by repeat (first | exact Drawn0.refl _ | apply Drawn0.step)⟩

/-! ### btcdtxscript_isStrictPubKeyEncoding: function 63 -/
def btcdtxscript_isStrictPubKeyEncoding.j0 : Nat → List Int → Bool → Option (Bool)
  | 0, _, _ => none
  | k + 1, x0, x17 => if x17 = true then (some true) else (if (x0.length : Int) = 65 then (if 0 < (x0.length : Int) then (if (rd x0 0) = 4 then (some true) else (if (rd x0 0) = 6 then (some true) else (if (rd x0 0) = 7 then (some true) else (some false)))) else (none)) else (some false))
def btcdtxscript_isStrictPubKeyEncoding.f (k : Nat) (l0 : List Int) : Option (Bool) := if (l0.length : Int) = 33 then (if 0 < (l0.length : Int) then (if (rd l0 0) = 2 then (btcdtxscript_isStrictPubKeyEncoding.j0 k l0 true) else (btcdtxscript_isStrictPubKeyEncoding.j0 k l0 ((rd l0 0) == 3))) else (none)) else (btcdtxscript_isStrictPubKeyEncoding.j0 k l0 false)
theorem btcdtxscript_isStrictPubKeyEncoding.mono_l : ∀ k, (∀ y0 y1, LeO (btcdtxscript_isStrictPubKeyEncoding.j0 k y0 y1) (btcdtxscript_isStrictPubKeyEncoding.j0 (k + 1) y0 y1))
  | 0 => fun _ _ r h => by simp [btcdtxscript_isStrictPubKeyEncoding.j0] at h
  | k + 1 => by
    have ih0 := btcdtxscript_isStrictPubKeyEncoding.mono_l k
    · intro y0 y1
      unfold btcdtxscript_isStrictPubKeyEncoding.j0
      repeat' first
      | (with_reducible exact ih0 _ _)
      | (with_reducible exact LeO.refl _)
      | (with_reducible exact LeO.none _)
      | (with_reducible refine LeO.ite ?_ ?_)
      | (with_reducible refine LeO.bind ?_ (fun _ => ?_))
      | exact ih0 _ _
      | exact LeO.none _
      | refine LeO.ite ?_ ?_
      | refine LeO.bind ?_ (fun _ => ?_)
theorem btcdtxscript_isStrictPubKeyEncoding.mono : ∀ a0 k, LeO (btcdtxscript_isStrictPubKeyEncoding.f k a0) (btcdtxscript_isStrictPubKeyEncoding.f (k + 1) a0) := by
  intro a0 k
  have ih0 := btcdtxscript_isStrictPubKeyEncoding.mono_l k
  unfold btcdtxscript_isStrictPubKeyEncoding.f
  repeat' first
      | (with_reducible exact ih0 _ _)
      | (with_reducible exact LeO.refl _)
      | (with_reducible exact LeO.none _)
      | (with_reducible refine LeO.ite ?_ ?_)
      | (with_reducible refine LeO.bind ?_ (fun _ => ?_))
      | exact ih0 _ _
      | exact LeO.none _
      | refine LeO.ite ?_ ?_
      | refine LeO.bind ?_ (fun _ => ?_)
set_option maxHeartbeats 8000000 in
set_option maxRecDepth 100000 in
theorem btcdtxscript_isStrictPubKeyEncoding.calls (k : Nat) (A0 : Option Addr) (c0 : Nat) (l0 : List Int) (r : Bool) (w : World) (hr0 : Kd.C (Kd.int .u8) w A0 l0.length l0) (hc0 : l0.length ≤ c0) (h : btcdtxscript_isStrictPubKeyEncoding.f k l0 = some r) :
    Calls Try.prog 63 #[.slice A0 l0.length c0] w fun e w' => e = .returned (.bool r) ∧ Drawn0 w w' := by
  have HR0 := Aside0.mk hr0
  have HC0 := Aside0.mk hc0
  clear hr0 hc0
  have H : (if (l0.length : Int) = 33 then (if 0 < (l0.length : Int) then (if (rd l0 0) = 2 then (btcdtxscript_isStrictPubKeyEncoding.j0 k l0 true) else (btcdtxscript_isStrictPubKeyEncoding.j0 k l0 ((rd l0 0) == 3))) else (none)) else (btcdtxscript_isStrictPubKeyEncoding.j0 k l0 false)) = some r := h
  clear h
  have HC2 := Aside0.mk H
  clear H
  go_enter Try.func63, Try.ntmps63
  go_upto_region 1 with (fail)
  go_cut [17] (fun v17 wc => ∃ (kq : Nat) (x17_1 : Bool), v17 = .bool x17_1 ∧ Aside0 (btcdtxscript_isStrictPubKeyEncoding.j0 kq l0 x17_1 = some r) ∧ Aside0 (kq ≤ k) ∧ Drawn0 w wc)
  case first =>
    have H := HC2.out
    clear HC2
    by_cases c3 : (l0.length : Int) = 33
    · rw [if_pos c3] at H
      have c3b0 : ((l0.length : Int) == 33) = true := beq_iff_eq.mpr c3
      have c3b1 : ((l0.length : Int) != 33) = false := bne_eq_false_iff_eq.mpr c3
      clear c3
      (first | rw [c3b0] | (simp only [i64_w, i32_w]; rw [c3b0]) | skip)
      by_cases c4 : 0 < (l0.length : Int)
      · rw [if_pos c4] at H
        have c4b0 : decide (0 < (l0.length : Int)) = true := decide_eq_true c4
        have c4b1 : decide (0 < l0.length) = true := decide_eq_true (by omega)
        clear c4
        by_cases c5 : (rd l0 0) = 2
        · rw [if_pos c5] at H
          have c5b0 : ((rd l0 0) == 2) = true := beq_iff_eq.mpr c5
          have c5b1 : ((rd l0 0) != 2) = false := bne_eq_false_iff_eq.mpr c5
          clear c5
          have H' := Aside0.mk H
          clear H
          have p208 : 0 ≤ (0 : Int) := (by omega)
          have q208 : 0 < (l0.length : Int) := of_decide_eq_true (by first | (with_reducible assumption) | assumption)
          obtain ⟨ad208, e208, hx208_0⟩ := Kd.at_int HR0.out 0 p208 q208
          cases e208
          have qi208 : (0 < l0.length) = True := eq_true (by omega)
          (try rw [show ((0 : Int)).toNat = 0 from rfl] at hx208_0)
          (try rw [Addr.add_zero'] at hx208_0)
          replace p208 := eq_true p208
          replace q208 := eq_true q208
          go_wp2
          go_meet
          case rel => exact ⟨_, (true), (by first | rfl | (simp; done) | (simp [*]; done) | (simp [show wrap64 1 = 1 by unfold wrap64; decide, *]; done)), (by first | exact H' | (subst_vars; exact H')), ⟨by first | omega | exact Nat.le_refl _⟩, by repeat (first | exact Drawn0.refl _ | apply Drawn0.step)⟩
        · rw [if_neg c5] at H
          have c5b0 : ((rd l0 0) == 2) = false := beq_eq_false_iff_ne.mpr c5
          have c5b1 : ((rd l0 0) != 2) = true := bne_iff_ne.mpr c5
          have H' := Aside0.mk H
          clear H
          have p208 : 0 ≤ (0 : Int) := (by omega)
          have q208 : 0 < (l0.length : Int) := of_decide_eq_true (by first | (with_reducible assumption) | assumption)
          obtain ⟨ad208, e208, hx208_0⟩ := Kd.at_int HR0.out 0 p208 q208
          cases e208
          have qi208 : (0 < l0.length) = True := eq_true (by omega)
          (try rw [show ((0 : Int)).toNat = 0 from rfl] at hx208_0)
          (try rw [Addr.add_zero'] at hx208_0)
          replace p208 := eq_true p208
          replace q208 := eq_true q208
          have p209 : 0 ≤ (0 : Int) := (by omega)
          have q209 : 0 < (l0.length : Int) := of_decide_eq_true (by first | (with_reducible assumption) | assumption)
          obtain ⟨ad209, e209, hx209_0⟩ := Kd.at_int HR0.out 0 p209 q209
          obtain rfl : ad208 = ad209 := (by injection e209)
          have qi209 : (0 < l0.length) = True := eq_true (by omega)
          (try rw [show ((0 : Int)).toNat = 0 from rfl] at hx209_0)
          (try rw [Addr.add_zero'] at hx209_0)
          replace p209 := eq_true p209
          replace q209 := eq_true q209
          go_wp2
          go_meet
          case rel => exact ⟨_, (((rd l0 0) == 3)), (by first | rfl | (simp; done) | (simp [*]; done) | (simp [show wrap64 1 = 1 by unfold wrap64; decide, *]; done)), (by first | exact H' | (subst_vars; exact H')), ⟨by first | omega | exact Nat.le_refl _⟩, by repeat (first | exact Drawn0.refl _ | apply Drawn0.step)⟩
      · rw [if_neg c4] at H
        exact absurd H (by simp)
    · rw [if_neg c3] at H
      have c3b0 : ((l0.length : Int) == 33) = false := beq_eq_false_iff_ne.mpr c3
      have c3b1 : ((l0.length : Int) != 33) = true := bne_iff_ne.mpr c3
      (first | rw [c3b0] | (simp only [i64_w, i32_w]; rw [c3b0]) | skip)
      have H' := Aside0.mk H
      clear H
      go_wp2
      go_meet
      case rel => exact ⟨_, (false), (by first | rfl | (simp; done) | (simp [*]; done) | (simp [show wrap64 1 = 1 by unfold wrap64; decide, *]; done)), (by first | exact H' | (subst_vars; exact H')), ⟨by first | omega | exact Nat.le_refl _⟩, by repeat (first | exact Drawn0.refl _ | apply Drawn0.step)⟩
  case rest =>
    clear HC2
    try clear p2
    try clear q2
    try clear hx2
    try clear qi2
    try clear c3
    try clear c3b0
    try clear c3b1
    try clear c4
    try clear c4b0
    try clear c4b1
    try clear c5
    try clear c5b0
    try clear c5b1
    try clear hx208_0
    try clear hx209_0
    try clear p208
    try clear p209
    try clear q208
    try clear q209
    obtain ⟨kq, x17_1, rfl, HA, HJ1, ⟨mc1, rfl⟩⟩ := hcut
    cases kq with
    | zero => exact absurd HA.out (by simp [btcdtxscript_isStrictPubKeyEncoding.j0])
    | succ kj1 =>
      have H := HA.out
      clear HA
      simp only [btcdtxscript_isStrictPubKeyEncoding.j0] at H
      by_cases c6 : x17_1 = true
      · subst c6
        have H1 : (some true) = some r := by rw [if_pos rfl] at H; exact H
        clear H
        have H := H1
        clear H1
        obtain rfl := Option.some.inj H
        go_wp2
        go_ret
        exact ⟨by first | rfl | (simp; done) | (simp [*]; done), by repeat (first | exact Drawn0.refl _ | apply Drawn0.step)⟩
      · replace c6 := Bool.eq_false_iff.mpr c6
        subst c6
        have H1 : (if (l0.length : Int) = 65 then (if 0 < (l0.length : Int) then (if (rd l0 0) = 4 then (some true) else (if (rd l0 0) = 6 then (some true) else (if (rd l0 0) = 7 then (some true) else (some false)))) else (none)) else (some false)) = some r := by rw [if_neg (show ¬ (false = true) by decide)] at H; exact H
        clear H
        have H := H1
        clear H1
        by_cases c7 : (l0.length : Int) = 65
        · rw [if_pos c7] at H
          have c7b0 : ((l0.length : Int) == 65) = true := beq_iff_eq.mpr c7
          have c7b1 : ((l0.length : Int) != 65) = false := bne_eq_false_iff_eq.mpr c7
          clear c7
          by_cases c8 : 0 < (l0.length : Int)
          · rw [if_pos c8] at H
            have c8b0 : decide (0 < (l0.length : Int)) = true := decide_eq_true c8
            have c8b1 : decide (0 < l0.length) = true := decide_eq_true (by omega)
            clear c8
            by_cases c9 : (rd l0 0) = 4
            · rw [if_pos c9] at H
              have c9b0 : ((rd l0 0) == 4) = true := beq_iff_eq.mpr c9
              have c9b1 : ((rd l0 0) != 4) = false := bne_eq_false_iff_eq.mpr c9
              clear c9
              obtain rfl := Option.some.inj H
              have p210 : 0 ≤ (0 : Int) := (by omega)
              have q210 : 0 < (l0.length : Int) := of_decide_eq_true (by first | (with_reducible assumption) | assumption)
              obtain ⟨ad210, e210, hx210_0⟩ := Kd.at_int HR0.out 0 p210 q210
              cases e210
              have qi210 : (0 < l0.length) = True := eq_true (by omega)
              (try rw [show ((0 : Int)).toNat = 0 from rfl] at hx210_0)
              (try rw [Addr.add_zero'] at hx210_0)
              replace p210 := eq_true p210
              replace q210 := eq_true q210
              go_wp2
              go_ret
              exact ⟨by first | rfl | (simp; done) | (simp [*]; done), by repeat (first | exact Drawn0.refl _ | apply Drawn0.step)⟩
            · rw [if_neg c9] at H
              have c9b0 : ((rd l0 0) == 4) = false := beq_eq_false_iff_ne.mpr c9
              have c9b1 : ((rd l0 0) != 4) = true := bne_iff_ne.mpr c9
              by_cases c10 : (rd l0 0) = 6
              · rw [if_pos c10] at H
                have c10b0 : ((rd l0 0) == 6) = true := beq_iff_eq.mpr c10
                have c10b1 : ((rd l0 0) != 6) = false := bne_eq_false_iff_eq.mpr c10
                clear c10
                obtain rfl := Option.some.inj H
                have p210 : 0 ≤ (0 : Int) := (by omega)
                have q210 : 0 < (l0.length : Int) := of_decide_eq_true (by first | (with_reducible assumption) | assumption)
                obtain ⟨ad210, e210, hx210_0⟩ := Kd.at_int HR0.out 0 p210 q210
                cases e210
                have qi210 : (0 < l0.length) = True := eq_true (by omega)
                (try rw [show ((0 : Int)).toNat = 0 from rfl] at hx210_0)
                (try rw [Addr.add_zero'] at hx210_0)
                replace p210 := eq_true p210
                replace q210 := eq_true q210
                go_wp2
                go_ret
                exact ⟨by first | rfl | (simp; done) | (simp [*]; done), by repeat (first | exact Drawn0.refl _ | apply Drawn0.step)⟩
              · rw [if_neg c10] at H
                have c10b0 : ((rd l0 0) == 6) = false := beq_eq_false_iff_ne.mpr c10
                have c10b1 : ((rd l0 0) != 6) = true := bne_iff_ne.mpr c10
                by_cases c11 : (rd l0 0) = 7
                · rw [if_pos c11] at H
                  have c11b0 : ((rd l0 0) == 7) = true := beq_iff_eq.mpr c11
                  have c11b1 : ((rd l0 0) != 7) = false := bne_eq_false_iff_eq.mpr c11
                  clear c11
                  obtain rfl := Option.some.inj H
                  have p210 : 0 ≤ (0 : Int) := (by omega)
                  have q210 : 0 < (l0.length : Int) := of_decide_eq_true (by first | (with_reducible assumption) | assumption)
                  obtain ⟨ad210, e210, hx210_0⟩ := Kd.at_int HR0.out 0 p210 q210
                  cases e210
                  have qi210 : (0 < l0.length) = True := eq_true (by omega)
                  (try rw [show ((0 : Int)).toNat = 0 from rfl] at hx210_0)
                  (try rw [Addr.add_zero'] at hx210_0)
                  replace p210 := eq_true p210
                  replace q210 := eq_true q210
                  go_wp2
                  go_ret
                  exact ⟨by first | rfl | (simp; done) | (simp [*]; done), by repeat (first | exact Drawn0.refl _ | apply Drawn0.step)⟩
                · rw [if_neg c11] at H
                  have c11b0 : ((rd l0 0) == 7) = false := beq_eq_false_iff_ne.mpr c11
                  have c11b1 : ((rd l0 0) != 7) = true := bne_iff_ne.mpr c11
                  obtain rfl := Option.some.inj H
                  have p210 : 0 ≤ (0 : Int) := (by omega)
                  have q210 : 0 < (l0.length : Int) := of_decide_eq_true (by first | (with_reducible assumption) | assumption)
                  obtain ⟨ad210, e210, hx210_0⟩ := Kd.at_int HR0.out 0 p210 q210
                  cases e210
                  have qi210 : (0 < l0.length) = True := eq_true (by omega)
                  (try rw [show ((0 : Int)).toNat = 0 from rfl] at hx210_0)
                  (try rw [Addr.add_zero'] at hx210_0)
                  replace p210 := eq_true p210
                  replace q210 := eq_true q210
                  go_wp2
                  go_ret
                  exact ⟨by first | rfl | (simp; done) | (simp [*]; done), by repeat (first | exact Drawn0.refl _ | apply Drawn0.step)⟩
          · rw [if_neg c8] at H
            exact absurd H (by simp)
        · rw [if_neg c7] at H
          have c7b0 : ((l0.length : Int) == 65) = false := beq_eq_false_iff_ne.mpr c7
          have c7b1 : ((l0.length : Int) != 65) = true := bne_iff_ne.mpr c7
          obtain rfl := Option.some.inj H
          go_wp2
          go_ret
          exact ⟨by first | rfl | (simp; done) | (simp [*]; done), by repeat (first | exact Drawn0.refl _ | apply Drawn0.step)⟩

-- NOT PRINTED: function 64 (btcdtxscript_ScriptTokenizer_Script)

-- NOT PRINTED: function 65 (btcdtxscript_ScriptTokenizer_ByteIndex)

-- NOT PRINTED: function 47 (btcdtxscript_extractMultisigScriptDetails)

-- NOT PRINTED: function 37 (btcdtxscript_isMultisigScript)

-- NOT PRINTED: function 25 (btcdtxscript_IsMultisigScript)

-- NOT PRINTED: function 10 (impl_IsMultiSig)

-- NOT PRINTED: function 38 (btcdtxscript_isNullDataScript)

-- NOT PRINTED: function 26 (btcdtxscript_IsNullData)

-- NOT PRINTED: function 11 (impl_IsNullData)

/-! ### bytes_Equal: function 54 -/
def bytes_Equal.f (l0 : List Int) (l1 : List Int) : Option (Bool) := some ((strOfNums l0).toList == (strOfNums l1).toList)
set_option maxHeartbeats 8000000 in
set_option maxRecDepth 100000 in
theorem bytes_Equal.calls (A0 : Option Addr) (c0 : Nat) (l0 : List Int) (A1 : Option Addr) (c1 : Nat) (l1 : List Int) (r : Bool) (w : World) (hr0 : Kd.C (Kd.int .u8) w A0 l0.length l0) (hc0 : l0.length ≤ c0) (hr1 : Kd.C (Kd.int .u8) w A1 l1.length l1) (hc1 : l1.length ≤ c1) (h : bytes_Equal.f l0 l1 = some r) :
    Calls Try.prog 54 #[.slice A0 l0.length c0, .slice A1 l1.length c1] w fun e w' => e = .returned (.bool r) ∧ Drawn0 w w' := by
  have HR0 := Aside0.mk hr0
  have HC0 := Aside0.mk hc0
  clear hr0 hc0
  have HR1 := Aside0.mk hr1
  have HC1 := Aside0.mk hc1
  clear hr1 hc1
  have H : (some ((strOfNums l0).toList == (strOfNums l1).toList)) = some r := h
  clear h
  obtain rfl := Option.some.inj H
  have hcv3 := Kd.C_string (P := Try.prog) (A := A0) (c := c0) Try.underlying22 Try.underlying5 Try.underlying9 HR0.out
  have hcv4 := Kd.C_string (P := Try.prog) (A := A1) (c := c1) Try.underlying22 Try.underlying5 Try.underlying9 HR1.out
  go_enter Try.func54, Try.ntmps54
  go_wp2
  go_ret
  exact ⟨by first | rfl | (simp; done) | (simp [*]; done), by repeat (first | exact Drawn0.refl _ | apply Drawn0.step)⟩

-- NOT PRINTED: function 39 (btcdtxscript_extractPayToAnchor)

-- NOT PRINTED: function 27 (btcdtxscript_IsPayToAnchorScript)

-- NOT PRINTED: function 12 (impl_IsAnchor)

/-! ### spec_like: function 28 -/
def spec_like.l0 : Nat → List Int → List Int → Int → Option (Bool)
  | 0, _, _, _ => none
  | k + 1, x0, x1, x5 => if x5 < (x1.length : Int) then (if 0 ≤ x5 then (if (rd x1 x5) ≥ 0 then (if x5 < (x0.length : Int) then (if (rd x1 x5) = (wrap64 (rd x0 x5)) then (spec_like.l0 k x0 x1 (wrap64 (x5 + 1))) else (some false)) else (none)) else (spec_like.l0 k x0 x1 (wrap64 (x5 + 1)))) else (none)) else (some true)
def spec_like.f (k : Nat) (l0 : List Int) (l1 : List Int) : Option (Bool) := if (l0.length : Int) = (l1.length : Int) then (spec_like.l0 k l0 l1 0) else (some false)
theorem spec_like.mono_l : ∀ k, (∀ y0 y1 y2, LeO (spec_like.l0 k y0 y1 y2) (spec_like.l0 (k + 1) y0 y1 y2))
  | 0 => fun _ _ _ r h => by simp [spec_like.l0] at h
  | k + 1 => by
    have ih0 := spec_like.mono_l k
    · intro y0 y1 y2
      unfold spec_like.l0
      repeat' first
      | (with_reducible exact ih0 _ _ _)
      | (with_reducible exact LeO.refl _)
      | (with_reducible exact LeO.none _)
      | (with_reducible refine LeO.ite ?_ ?_)
      | (with_reducible refine LeO.bind ?_ (fun _ => ?_))
      | exact ih0 _ _ _
      | exact LeO.none _
      | refine LeO.ite ?_ ?_
      | refine LeO.bind ?_ (fun _ => ?_)
theorem spec_like.mono : ∀ a0 a1 k, LeO (spec_like.f k a0 a1) (spec_like.f (k + 1) a0 a1) := by
  intro a0 a1 k
  have ih0 := spec_like.mono_l k
  unfold spec_like.f
  repeat' first
      | (with_reducible exact ih0 _ _ _)
      | (with_reducible exact LeO.refl _)
      | (with_reducible exact LeO.none _)
      | (with_reducible refine LeO.ite ?_ ?_)
      | (with_reducible refine LeO.bind ?_ (fun _ => ?_))
      | exact ih0 _ _ _
      | exact LeO.none _
      | refine LeO.ite ?_ ?_
      | refine LeO.bind ?_ (fun _ => ?_)
set_option maxHeartbeats 8000000 in
set_option maxRecDepth 100000 in
theorem spec_like.calls (k : Nat) (A0 : Option Addr) (c0 : Nat) (l0 : List Int) (A1 : Option Addr) (c1 : Nat) (l1 : List Int) (r : Bool) (w : World) (hr0 : Kd.C (Kd.int .u8) w A0 l0.length l0) (hc0 : l0.length ≤ c0) (hr1 : Kd.C (Kd.int .i64) w A1 l1.length l1) (hc1 : l1.length ≤ c1) (h : spec_like.f k l0 l1 = some r) :
    Calls Try.prog 28 #[.slice A0 l0.length c0, .slice A1 l1.length c1] w fun e w' => e = .returned (.bool r) ∧ Drawn0 w w' := by
  have HR0 := Aside0.mk hr0
  have HC0 := Aside0.mk hc0
  clear hr0 hc0
  have HR1 := Aside0.mk hr1
  have HC1 := Aside0.mk hc1
  clear hr1 hc1
  have H : (if (l0.length : Int) = (l1.length : Int) then (spec_like.l0 k l0 l1 0) else (some false)) = some r := h
  clear h
  by_cases c3 : (l0.length : Int) = (l1.length : Int)
  · rw [if_pos c3] at H
    have c3b0 : ((l0.length : Int) == (l1.length : Int)) = true := beq_iff_eq.mpr c3
    have c3b1 : ((l0.length : Int) != (l1.length : Int)) = false := bne_eq_false_iff_eq.mpr c3
    have c3b2 : (l0.length == l1.length) = true := by first | simpa using c3 | (simp at c3 ⊢; omega)
    clear c3
    have H' := Aside0.mk H
    clear H
    go_enter Try.func28, Try.ntmps28
    go_wp2
    repeat (go_quiet (fail); try go_wp2)
    go_loopg [5] k (fun kq v5 w' => ∃ (x5_1 : Int), v5 = .int .i64 x5_1 ∧ Aside0 (spec_like.l0 kq l0 l1 x5_1 = some r) ∧ Aside0 (kq ≤ k) ∧ Drawn0 w w')
    case atStart => exact ⟨(0), (by first | rfl | (simp; done) | (simp [*]; done) | (simp [show wrap64 1 = 1 by unfold wrap64; decide, *]; done)), H', ⟨Nat.le_refl _⟩, by repeat (first | exact Drawn0.refl _ | apply Drawn0.step)⟩
    case round =>
      clear H'
      try clear c1
      try clear c2
      try clear p2
      try clear c3
      try clear c3b0
      try clear c3b1
      try clear c3b2
      obtain ⟨x5_1, rfl, HA, HK1, ⟨m1, rfl⟩⟩ := hrel
      cases gk with
      | zero => exact absurd HA.out (by simp [spec_like.l0])
      | succ k1 =>
        have H := HA.out
        clear HA
        simp only [spec_like.l0] at H
        by_cases c4 : x5_1 < (l1.length : Int)
        · rw [if_pos c4] at H
          have c4b0 : decide (x5_1 < (l1.length : Int)) = true := decide_eq_true c4
          clear c4
          by_cases c5 : 0 ≤ x5_1
          · rw [if_pos c5] at H
            have c5b0 : decide (0 ≤ x5_1) = true := decide_eq_true c5
            clear c5
            by_cases c6 : (rd l1 x5_1) ≥ 0
            · rw [if_pos c6] at H
              have c6b0 : decide (0 ≤ (rd l1 x5_1)) = true := decide_eq_true c6
              clear c6
              by_cases c7 : x5_1 < (l0.length : Int)
              · rw [if_pos c7] at H
                have c7b0 : decide (x5_1 < (l0.length : Int)) = true := decide_eq_true c7
                clear c7
                by_cases c8 : (rd l1 x5_1) = (wrap64 (rd l0 x5_1))
                · rw [if_pos c8] at H
                  have c8b0 : ((rd l1 x5_1) == (wrap64 (rd l0 x5_1))) = true := beq_iff_eq.mpr c8
                  have c8b1 : ((rd l1 x5_1) != (wrap64 (rd l0 x5_1))) = false := bne_eq_false_iff_eq.mpr c8
                  clear c8
                  have H' := Aside0.mk H
                  clear H
                  have p223 : 0 ≤ (x5_1 : Int) := of_decide_eq_true (by first | (with_reducible assumption) | assumption)
                  have q223 : x5_1 < (l1.length : Int) := of_decide_eq_true (by first | (with_reducible assumption) | assumption)
                  obtain ⟨ad223, e223, hx223_0⟩ := Kd.at_int HR1.out x5_1 p223 q223
                  cases e223
                  replace p223 := eq_true p223
                  replace q223 := eq_true q223
                  have p224 : 0 ≤ (x5_1 : Int) := of_decide_eq_true (by first | (with_reducible assumption) | assumption)
                  have q224 : x5_1 < (l1.length : Int) := of_decide_eq_true (by first | (with_reducible assumption) | assumption)
                  obtain ⟨ad224, e224, hx224_0⟩ := Kd.at_int HR1.out x5_1 p224 q224
                  obtain rfl : ad223 = ad224 := (by injection e224)
                  replace p224 := eq_true p224
                  replace q224 := eq_true q224
                  have p225 : 0 ≤ (x5_1 : Int) := of_decide_eq_true (by first | (with_reducible assumption) | assumption)
                  have q225 : x5_1 < (l0.length : Int) := of_decide_eq_true (by first | (with_reducible assumption) | assumption)
                  obtain ⟨ad225, e225, hx225_0⟩ := Kd.at_int HR0.out x5_1 p225 q225
                  cases e225
                  replace p225 := eq_true p225
                  replace q225 := eq_true q225
                  go_wp2
                  repeat (go_quiet (fail); try go_wp2)
                  go_roundg k1
                  case measure => have := HK1.out; omega
                  case rel => exact ⟨(wrap64 (x5_1 + 1)), (by first | rfl | (simp; done) | (simp [*]; done) | (simp [show wrap64 1 = 1 by unfold wrap64; decide, *]; done)), (by first | exact H' | (subst_vars; exact H')), ⟨by have := HK1.out; omega⟩, by repeat (first | exact Drawn0.refl _ | apply Drawn0.step)⟩
                · rw [if_neg c8] at H
                  have c8b0 : ((rd l1 x5_1) == (wrap64 (rd l0 x5_1))) = false := beq_eq_false_iff_ne.mpr c8
                  have c8b1 : ((rd l1 x5_1) != (wrap64 (rd l0 x5_1))) = true := bne_iff_ne.mpr c8
                  obtain rfl := Option.some.inj H
                  have p223 : 0 ≤ (x5_1 : Int) := of_decide_eq_true (by first | (with_reducible assumption) | assumption)
                  have q223 : x5_1 < (l1.length : Int) := of_decide_eq_true (by first | (with_reducible assumption) | assumption)
                  obtain ⟨ad223, e223, hx223_0⟩ := Kd.at_int HR1.out x5_1 p223 q223
                  cases e223
                  replace p223 := eq_true p223
                  replace q223 := eq_true q223
                  have p224 : 0 ≤ (x5_1 : Int) := of_decide_eq_true (by first | (with_reducible assumption) | assumption)
                  have q224 : x5_1 < (l1.length : Int) := of_decide_eq_true (by first | (with_reducible assumption) | assumption)
                  obtain ⟨ad224, e224, hx224_0⟩ := Kd.at_int HR1.out x5_1 p224 q224
                  obtain rfl : ad223 = ad224 := (by injection e224)
                  replace p224 := eq_true p224
                  replace q224 := eq_true q224
                  have p225 : 0 ≤ (x5_1 : Int) := of_decide_eq_true (by first | (with_reducible assumption) | assumption)
                  have q225 : x5_1 < (l0.length : Int) := of_decide_eq_true (by first | (with_reducible assumption) | assumption)
                  obtain ⟨ad225, e225, hx225_0⟩ := Kd.at_int HR0.out x5_1 p225 q225
                  cases e225
                  replace p225 := eq_true p225
                  replace q225 := eq_true q225
                  go_wp2
                  repeat (go_quiet (fail); try go_wp2)
                  go_ret
                  exact ⟨by first | rfl | (simp; done) | (simp [*]; done), by repeat (first | exact Drawn0.refl _ | apply Drawn0.step)⟩
              · rw [if_neg c7] at H
                exact absurd H (by simp)
            · rw [if_neg c6] at H
              have c6b0 : decide (0 ≤ (rd l1 x5_1)) = false := decide_eq_false c6
              clear c6
              have H' := Aside0.mk H
              clear H
              have p223 : 0 ≤ (x5_1 : Int) := of_decide_eq_true (by first | (with_reducible assumption) | assumption)
              have q223 : x5_1 < (l1.length : Int) := of_decide_eq_true (by first | (with_reducible assumption) | assumption)
              obtain ⟨ad223, e223, hx223_0⟩ := Kd.at_int HR1.out x5_1 p223 q223
              cases e223
              replace p223 := eq_true p223
              replace q223 := eq_true q223
              go_wp2
              repeat (go_quiet (fail); try go_wp2)
              go_roundg k1
              case measure => have := HK1.out; omega
              case rel => exact ⟨(wrap64 (x5_1 + 1)), (by first | rfl | (simp; done) | (simp [*]; done) | (simp [show wrap64 1 = 1 by unfold wrap64; decide, *]; done)), (by first | exact H' | (subst_vars; exact H')), ⟨by have := HK1.out; omega⟩, by repeat (first | exact Drawn0.refl _ | apply Drawn0.step)⟩
          · rw [if_neg c5] at H
            exact absurd H (by simp)
        · rw [if_neg c4] at H
          have c4b0 : decide (x5_1 < (l1.length : Int)) = false := decide_eq_false c4
          clear c4
          obtain rfl := Option.some.inj H
          go_wp2
          repeat (go_quiet (fail); try go_wp2)
          go_ret
          exact ⟨by first | rfl | (simp; done) | (simp [*]; done), by repeat (first | exact Drawn0.refl _ | apply Drawn0.step)⟩
  · rw [if_neg c3] at H
    have c3b0 : ((l0.length : Int) == (l1.length : Int)) = false := beq_eq_false_iff_ne.mpr c3
    have c3b1 : ((l0.length : Int) != (l1.length : Int)) = true := bne_iff_ne.mpr c3
    have c3b2 : (l0.length == l1.length) = false := by first | simpa using c3 | (simp at c3 ⊢; omega)
    obtain rfl := Option.some.inj H
    go_enter Try.func28, Try.ntmps28
    go_wp2
    repeat (go_quiet (fail); try go_wp2)
    go_ret
    exact ⟨by first | rfl | (simp; done) | (simp [*]; done), by repeat (first | exact Drawn0.refl _ | apply Drawn0.step)⟩

/-! ### spec_IsAnchor: function 13 -/
def spec_IsAnchor.f (k : Nat) (l0 : List Int) : Option (Bool) := (spec_like.f k l0 (([81, 2, 78, 115] : List Int))).bind fun t229 => (some t229)
theorem spec_IsAnchor.mono : ∀ a0 k, LeO (spec_IsAnchor.f k a0) (spec_IsAnchor.f (k + 1) a0) := by
  intro a0 k
  unfold spec_IsAnchor.f
  repeat' first
      | (with_reducible exact spec_like.mono _ _ _)
      | (with_reducible exact LeO.refl _)
      | (with_reducible exact LeO.none _)
      | (with_reducible refine LeO.ite ?_ ?_)
      | (with_reducible refine LeO.bind ?_ (fun _ => ?_))
      | exact spec_like.mono _ _ _
      | exact LeO.none _
      | refine LeO.ite ?_ ?_
      | refine LeO.bind ?_ (fun _ => ?_)
set_option maxHeartbeats 8000000 in
set_option maxRecDepth 100000 in
theorem spec_IsAnchor.calls (k : Nat) (A0 : Option Addr) (c0 : Nat) (l0 : List Int) (r : Bool) (w : World) (hr0 : Kd.C (Kd.int .u8) w A0 l0.length l0) (hc0 : l0.length ≤ c0) (h : spec_IsAnchor.f k l0 = some r) :
    Calls Try.prog 13 #[.slice A0 l0.length c0] w fun e w' => e = .returned (.bool r) ∧ Below w.heap.size w w' := by
  have HR0 := Aside0.mk hr0
  have HC0 := Aside0.mk hc0
  clear hr0 hc0
  have HB := Aside0.mk (Below.refl w.heap.size w)
  have H : ((spec_like.f k l0 (([81, 2, 78, 115] : List Int))).bind fun t229 => (some t229)) = some r := h
  clear h
  obtain ⟨y226, hy226⟩ : ∃ y_ : List Int, y_ = (([81, 2, 78, 115] : List Int)) := ⟨_, rfl⟩
  replace H : ((spec_like.f k l0 y226).bind fun t229 => (some t229)) = some r := by first | (rw [hy226]; with_reducible exact H) | (have H2_ := (Option.bind_some _ _).symm.trans H; rw [hy226]; with_reducible exact H2_) | (have H2_ := (Option.bind_some _ _).symm.trans H; with_reducible exact H2_) | with_reducible exact H | (rw [hy226]; exact H) | exact H
  have Ny226 := Aside0.mk hy226
  clear hy226
  replace H := Option.bind_eq_some_iff.mp H
  obtain ⟨t229, A20, H⟩ := H
  replace H : (some t229) = some r := H
  have A2 := Aside0.mk A20
  clear A20
  obtain rfl := Option.some.inj H
  go_enter Try.func13, Try.ntmps13
  go_wp2_with (first | ((with_reducible refine gate_dst (N := 4) rfl ?_); refine Kd.R_lit (Kd.int .i64) _ 3 ?hg (N := 4) ?hd (xs := ([81, 2, 78, 115] : List Int)) (inner := [.int .i64 81, .int .i64 2, .int .i64 78, .int .i64 115]) (ok := fun _ => True) (okp := fun _ => True) ?hr ?hp (fun _ hk => hk) trivial (Below.refl _ _) (Nat.le_refl _) (by simp) ?_; (case hd => rfl); (case hg => rfl); (case hr => first | (go_simp; done) | (go_simp; rfl)); (case hp => exact (Reps.one (show Kd.M (Kd.int .i64) _ _ _ 81 [.int .i64 81] from rfl) (Reps.one (show Kd.M (Kd.int .i64) _ _ _ 2 [.int .i64 2] from rfl) (Reps.one (show Kd.M (Kd.int .i64) _ _ _ 78 [.int .i64 78] from rfl) (Reps.one (show Kd.M (Kd.int .i64) _ _ _ 115 [.int .i64 115] from rfl) (Reps.none _ _)))))); intro v227 w3 ho4 hb hg_ hnew_; clear hg_ hnew_; (first | rw [← Ny226.out] at ho4 | (simp only [Int.reduceToNat] at ho4; rw [← Ny226.out] at ho4)); have n0_ := Aside0.mk (Kd.R_lower ho4 (below_size (by repeat (first | (with_reducible first | exact HB.out | apply below_alloc | apply pw_below_drewN | apply below_drew1) | exact HB.out)))); have n1_ := Aside0.mk (below_step (by repeat (first | (with_reducible first | exact HB.out | apply below_alloc | apply pw_below_drewN | apply below_drew1) | exact HB.out)) hb); clear HB; have HO228 := n0_; have HB := n1_; clear n0_ n1_; clear hb ho4; obtain ⟨Ao5, co5, eo5⟩ := Kd.R_slice HO228.out; subst eo5) | ((with_reducible refine gate_callee (f := 28) rfl ?_); refine goesL_ (some 5) rfl rfl Try.func28 (by kernel_rfl) rfl #[.slice A0 l0.length c0, .slice Ao5 y226.length co5] rfl (by (try simp only [List.map_toArray, List.map_cons, List.map_nil]); first | done | rfl | (simp only [List.length_drop, List.length_take]; rfl)) ?_; (with_reducible refine (spec_like.calls k _ _ l0 _ _ y226 t229 _ ?side1 ?side2 ?side3 ?side4 A2.out).mono ?_); (case side1 => repeat (first | exact (Kd.C_below HR0.out HB.out) | (with_reducible refine Kd.C_alloc ?_ _) | (with_reducible refine Kd.C_drewN ?_ _) | (with_reducible refine Kd.C_drew ?_))); (case side2 => exact HC0.out); (case side3 => repeat (first | exact (Kd.R_reads' HO228.out).2.2 | (with_reducible refine Kd.C_alloc ?_ _) | (with_reducible refine Kd.C_drewN ?_ _) | (with_reducible refine Kd.C_drew ?_))); (case side4 => exact (Kd.R_reads' HO228.out).2.1); rintro e w' ⟨rfl, ⟨nd, rfl⟩⟩; refine ⟨_, rfl, ?_⟩))
  go_ret
  exact ⟨by first | rfl | (simp [errW_none, errW_some] <;> rfl) | (simp [*, errW_none, errW_some] <;> rfl), by repeat (first | (with_reducible first | exact HB.out | apply below_alloc | apply pw_below_drewN | apply below_drew1) | exact HB.out)⟩

-- NOT PRINTED: function 3 (laws_FnClasses)

end Go.Proofs.Ytfbkjkihcajmdac.QFnClasses
