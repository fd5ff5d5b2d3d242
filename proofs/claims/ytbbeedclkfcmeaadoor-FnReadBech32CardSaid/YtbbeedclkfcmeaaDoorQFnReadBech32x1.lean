-- Made by a turned print (own tool turnprint.py over the kit print).
import Derived.Test.YtbbeedclkfcmeaaDoorQFnReadBech32x0
namespace Go.Proofs.YtbbeedclkfcmeaaDoor.QFnReadBech32
open Go.RowKit Go.Proofs.YtbbeedclkfcmeaaDoorW.PrintWords Go.Proofs.YtbbeedclkfcmeaaDoorW.PrintLast Go.Proofs.YtbbeedclkfcmeaaDoorW.PrintMore
attribute [local go_sem] nn_mod256 nn_mod65536 nn_mod32 max2_int min2_int max_two min_two max_three min_three max_four min_four   -- for this text's walks alone
set_option linter.unusedVariables false
set_option linter.unusedSimpArgs false

/-! ### spec_mixed: function 7 -/
def spec_mixed.l0 : Nat → ByteArray → Bool → Bool → Int → Option (Bool)
  | 0, _, _, _, _ => none
  | k + 1, x0, x3, x4, x5 => if x5 < (x0.size : Int) then (if x3 = true then (if x4 = true then (spec_mixed.l0 k x0 true true (wrap64 (x5 + 1))) else (if 0 ≤ x5 then (if (bt x0 x5) ≥ 65 then (spec_mixed.l0 k x0 true (decide ((bt x0 x5) ≤ 90)) (wrap64 (x5 + 1))) else (spec_mixed.l0 k x0 true false (wrap64 (x5 + 1)))) else (none))) else (if 0 ≤ x5 then (if (bt x0 x5) ≥ 97 then (if x4 = true then (spec_mixed.l0 k x0 (decide ((bt x0 x5) ≤ 122)) true (wrap64 (x5 + 1))) else (if (bt x0 x5) ≥ 65 then (spec_mixed.l0 k x0 (decide ((bt x0 x5) ≤ 122)) (decide ((bt x0 x5) ≤ 90)) (wrap64 (x5 + 1))) else (spec_mixed.l0 k x0 (decide ((bt x0 x5) ≤ 122)) false (wrap64 (x5 + 1))))) else (if x4 = true then (spec_mixed.l0 k x0 false true (wrap64 (x5 + 1))) else (if (bt x0 x5) ≥ 65 then (spec_mixed.l0 k x0 false (decide ((bt x0 x5) ≤ 90)) (wrap64 (x5 + 1))) else (spec_mixed.l0 k x0 false false (wrap64 (x5 + 1)))))) else (none))) else (if x3 = true then (some x4) else (some false))
def spec_mixed.f (k : Nat) (a0 : ByteArray) : Option (Bool) := spec_mixed.l0 k a0 false false 0
theorem spec_mixed.mono_l : ∀ k, (∀ y0 y1 y2 y3, LeO (spec_mixed.l0 k y0 y1 y2 y3) (spec_mixed.l0 (k + 1) y0 y1 y2 y3))
  | 0 => fun _ _ _ _ r h => by simp [spec_mixed.l0] at h
  | k + 1 => by
    have ih0 := spec_mixed.mono_l k
    · intro y0 y1 y2 y3
      unfold spec_mixed.l0
      repeat' first
      | (with_reducible exact ih0 _ _ _ _)
      | (with_reducible exact LeO.refl _)
      | (with_reducible exact LeO.none _)
      | (with_reducible refine LeO.ite ?_ ?_)
      | (with_reducible refine LeO.bind ?_ (fun _ => ?_))
      | exact ih0 _ _ _ _
      | exact LeO.none _
      | refine LeO.ite ?_ ?_
      | refine LeO.bind ?_ (fun _ => ?_)
theorem spec_mixed.mono : ∀ a0 k, LeO (spec_mixed.f k a0) (spec_mixed.f (k + 1) a0) := by
  intro a0 k
  have ih0 := spec_mixed.mono_l k
  unfold spec_mixed.f
  repeat' first
      | (with_reducible exact ih0 _ _ _ _)
      | (with_reducible exact LeO.refl _)
      | (with_reducible exact LeO.none _)
      | (with_reducible refine LeO.ite ?_ ?_)
      | (with_reducible refine LeO.bind ?_ (fun _ => ?_))
      | exact ih0 _ _ _ _
      | exact LeO.none _
      | refine LeO.ite ?_ ?_
      | refine LeO.bind ?_ (fun _ => ?_)
set_option maxHeartbeats 8000000 in
set_option maxRecDepth 100000 in
theorem spec_mixed.calls (k : Nat) (a0 : ByteArray) (r : Bool) (w : World) (h : spec_mixed.f k a0 = some r) :
    Calls Tryd.prog 7 #[.string a0] w fun e w' => e = .returned (.bool r) ∧ Drawn0 w w' := by
  have H : (spec_mixed.l0 k a0 false false 0) = some r := h
  clear h
  have H' := Aside0.mk H
  clear H
  go_enter Tryd.func7, Tryd.ntmps7
  go_wp2
  go_loopg [3, 4, 5] k (fun kq v3 v4 v5 w' => ∃ (x3_1 : Bool) (x4_1 : Bool) (x5_1 : Int), v3 = .bool x3_1 ∧ v4 = .bool x4_1 ∧ v5 = .int .i64 x5_1 ∧ Aside0 (spec_mixed.l0 kq a0 x3_1 x4_1 x5_1 = some r) ∧ Aside0 (kq ≤ k) ∧ Drawn0 w w')
  case atStart => exact ⟨(false), (false), (0), (by first | rfl | (simp; done) | (simp [*]; done)), (by first | rfl | (simp; done) | (simp [*]; done)), (by first | rfl | (simp; done) | (simp [*]; done)), H', ⟨Nat.le_refl _⟩, by repeat (first | exact Drawn0.refl _ | apply Drawn0.step)⟩
  case round =>
    clear H'
    obtain ⟨x3_1, x4_1, x5_1, rfl, rfl, rfl, HA, HK1, ⟨m1, rfl⟩⟩ := hrel
    cases gk with
    | zero => exact absurd HA.out (by simp [spec_mixed.l0])
    | succ k1 =>
      have H := HA.out
      clear HA
      simp only [spec_mixed.l0] at H
      by_cases c2 : x5_1 < (a0.size : Int)
      · rw [if_pos c2] at H
        have c2b0 : decide (x5_1 < (a0.size : Int)) = true := decide_eq_true c2
        clear c2
        by_cases c3 : x3_1 = true
        · subst c3
          have H1 : (if x4_1 = true then (spec_mixed.l0 k1 a0 true true (wrap64 (x5_1 + 1))) else (if 0 ≤ x5_1 then (if (bt a0 x5_1) ≥ 65 then (spec_mixed.l0 k1 a0 true (decide ((bt a0 x5_1) ≤ 90)) (wrap64 (x5_1 + 1))) else (spec_mixed.l0 k1 a0 true false (wrap64 (x5_1 + 1)))) else (none))) = some r := by rw [if_pos rfl] at H; exact H
          clear H
          have H := H1
          clear H1
          by_cases c4 : x4_1 = true
          · subst c4
            have H1 : (spec_mixed.l0 k1 a0 true true (wrap64 (x5_1 + 1))) = some r := by rw [if_pos rfl] at H; exact H
            clear H
            have H := H1
            clear H1
            have H' := Aside0.mk H
            clear H
            go_wp2
            go_roundg k1
            case measure => have := HK1.out; omega
            case rel => exact ⟨(true), (true), (wrap64 (x5_1 + 1)), (by first | rfl | (simp; done) | (simp [*]; done)), (by first | rfl | (simp; done) | (simp [*]; done)), (by first | rfl | (simp; done) | (simp [*]; done)), (by first | exact H' | (subst_vars; exact H')), ⟨by have := HK1.out; omega⟩, by repeat (first | exact Drawn0.refl _ | apply Drawn0.step)⟩
          · replace c4 := Bool.eq_false_iff.mpr c4
            subst c4
            have H1 : (if 0 ≤ x5_1 then (if (bt a0 x5_1) ≥ 65 then (spec_mixed.l0 k1 a0 true (decide ((bt a0 x5_1) ≤ 90)) (wrap64 (x5_1 + 1))) else (spec_mixed.l0 k1 a0 true false (wrap64 (x5_1 + 1)))) else (none)) = some r := by rw [if_neg (show ¬ (false = true) by decide)] at H; exact H
            clear H
            have H := H1
            clear H1
            by_cases c5 : 0 ≤ x5_1
            · rw [if_pos c5] at H
              have c5b0 : decide (0 ≤ x5_1) = true := decide_eq_true c5
              clear c5
              by_cases c7 : (bt a0 x5_1) ≥ 65
              · rw [if_pos c7] at H
                have c7b0 : decide (65 ≤ (bt a0 x5_1)) = true := decide_eq_true c7
                clear c7
                have H' := Aside0.mk H
                clear H
                have p6 : 0 ≤ (x5_1 : Int) := of_decide_eq_true (by first | (with_reducible assumption) | assumption)
                have q6 : x5_1 < (a0.size : Int) := of_decide_eq_true (by first | (with_reducible assumption) | assumption)
                have hx6 := bt_at a0 x5_1
                replace p6 := eq_true p6
                replace q6 := eq_true q6
                have p8 : 0 ≤ (x5_1 : Int) := of_decide_eq_true (by first | (with_reducible assumption) | assumption)
                have q8 : x5_1 < (a0.size : Int) := of_decide_eq_true (by first | (with_reducible assumption) | assumption)
                have hx8 := bt_at a0 x5_1
                replace p8 := eq_true p8
                replace q8 := eq_true q8
                go_wp2
                go_roundg k1
                case measure => have := HK1.out; omega
                case rel => exact ⟨(true), (decide ((bt a0 x5_1) ≤ 90)), (wrap64 (x5_1 + 1)), (by first | rfl | (simp; done) | (simp [*]; done)), (by first | rfl | (simp; done) | (simp [*]; done)), (by first | rfl | (simp; done) | (simp [*]; done)), (by first | exact H' | (subst_vars; exact H')), ⟨by have := HK1.out; omega⟩, by repeat (first | exact Drawn0.refl _ | apply Drawn0.step)⟩
              · rw [if_neg c7] at H
                have c7b0 : decide (65 ≤ (bt a0 x5_1)) = false := decide_eq_false c7
                clear c7
                have H' := Aside0.mk H
                clear H
                have p6 : 0 ≤ (x5_1 : Int) := of_decide_eq_true (by first | (with_reducible assumption) | assumption)
                have q6 : x5_1 < (a0.size : Int) := of_decide_eq_true (by first | (with_reducible assumption) | assumption)
                have hx6 := bt_at a0 x5_1
                replace p6 := eq_true p6
                replace q6 := eq_true q6
                go_wp2
                go_roundg k1
                case measure => have := HK1.out; omega
                case rel => exact ⟨(true), (false), (wrap64 (x5_1 + 1)), (by first | rfl | (simp; done) | (simp [*]; done)), (by first | rfl | (simp; done) | (simp [*]; done)), (by first | rfl | (simp; done) | (simp [*]; done)), (by first | exact H' | (subst_vars; exact H')), ⟨by have := HK1.out; omega⟩, by repeat (first | exact Drawn0.refl _ | apply Drawn0.step)⟩
            · rw [if_neg c5] at H
              exact absurd H (by simp)
        · replace c3 := Bool.eq_false_iff.mpr c3
          subst c3
          have H1 : (if 0 ≤ x5_1 then (if (bt a0 x5_1) ≥ 97 then (if x4_1 = true then (spec_mixed.l0 k1 a0 (decide ((bt a0 x5_1) ≤ 122)) true (wrap64 (x5_1 + 1))) else (if (bt a0 x5_1) ≥ 65 then (spec_mixed.l0 k1 a0 (decide ((bt a0 x5_1) ≤ 122)) (decide ((bt a0 x5_1) ≤ 90)) (wrap64 (x5_1 + 1))) else (spec_mixed.l0 k1 a0 (decide ((bt a0 x5_1) ≤ 122)) false (wrap64 (x5_1 + 1))))) else (if x4_1 = true then (spec_mixed.l0 k1 a0 false true (wrap64 (x5_1 + 1))) else (if (bt a0 x5_1) ≥ 65 then (spec_mixed.l0 k1 a0 false (decide ((bt a0 x5_1) ≤ 90)) (wrap64 (x5_1 + 1))) else (spec_mixed.l0 k1 a0 false false (wrap64 (x5_1 + 1)))))) else (none)) = some r := by rw [if_neg (show ¬ (false = true) by decide)] at H; exact H
          clear H
          have H := H1
          clear H1
          by_cases c9 : 0 ≤ x5_1
          · rw [if_pos c9] at H
            have c9b0 : decide (0 ≤ x5_1) = true := decide_eq_true c9
            clear c9
            by_cases c11 : (bt a0 x5_1) ≥ 97
            · rw [if_pos c11] at H
              have c11b0 : decide (97 ≤ (bt a0 x5_1)) = true := decide_eq_true c11
              clear c11
              by_cases c13 : x4_1 = true
              · subst c13
                have H1 : (spec_mixed.l0 k1 a0 (decide ((bt a0 x5_1) ≤ 122)) true (wrap64 (x5_1 + 1))) = some r := by rw [if_pos rfl] at H; exact H
                clear H
                have H := H1
                clear H1
                have H' := Aside0.mk H
                clear H
                have p10 : 0 ≤ (x5_1 : Int) := of_decide_eq_true (by first | (with_reducible assumption) | assumption)
                have q10 : x5_1 < (a0.size : Int) := of_decide_eq_true (by first | (with_reducible assumption) | assumption)
                have hx10 := bt_at a0 x5_1
                replace p10 := eq_true p10
                replace q10 := eq_true q10
                have p12 : 0 ≤ (x5_1 : Int) := of_decide_eq_true (by first | (with_reducible assumption) | assumption)
                have q12 : x5_1 < (a0.size : Int) := of_decide_eq_true (by first | (with_reducible assumption) | assumption)
                have hx12 := bt_at a0 x5_1
                replace p12 := eq_true p12
                replace q12 := eq_true q12
                go_wp2
                go_roundg k1
                case measure => have := HK1.out; omega
                case rel => exact ⟨(decide ((bt a0 x5_1) ≤ 122)), (true), (wrap64 (x5_1 + 1)), (by first | rfl | (simp; done) | (simp [*]; done)), (by first | rfl | (simp; done) | (simp [*]; done)), (by first | rfl | (simp; done) | (simp [*]; done)), (by first | exact H' | (subst_vars; exact H')), ⟨by have := HK1.out; omega⟩, by repeat (first | exact Drawn0.refl _ | apply Drawn0.step)⟩
              · replace c13 := Bool.eq_false_iff.mpr c13
                subst c13
                have H1 : (if (bt a0 x5_1) ≥ 65 then (spec_mixed.l0 k1 a0 (decide ((bt a0 x5_1) ≤ 122)) (decide ((bt a0 x5_1) ≤ 90)) (wrap64 (x5_1 + 1))) else (spec_mixed.l0 k1 a0 (decide ((bt a0 x5_1) ≤ 122)) false (wrap64 (x5_1 + 1)))) = some r := by rw [if_neg (show ¬ (false = true) by decide)] at H; exact H
                clear H
                have H := H1
                clear H1
                by_cases c15 : (bt a0 x5_1) ≥ 65
                · rw [if_pos c15] at H
                  have c15b0 : decide (65 ≤ (bt a0 x5_1)) = true := decide_eq_true c15
                  clear c15
                  have H' := Aside0.mk H
                  clear H
                  have p10 : 0 ≤ (x5_1 : Int) := of_decide_eq_true (by first | (with_reducible assumption) | assumption)
                  have q10 : x5_1 < (a0.size : Int) := of_decide_eq_true (by first | (with_reducible assumption) | assumption)
                  have hx10 := bt_at a0 x5_1
                  replace p10 := eq_true p10
                  replace q10 := eq_true q10
                  have p12 : 0 ≤ (x5_1 : Int) := of_decide_eq_true (by first | (with_reducible assumption) | assumption)
                  have q12 : x5_1 < (a0.size : Int) := of_decide_eq_true (by first | (with_reducible assumption) | assumption)
                  have hx12 := bt_at a0 x5_1
                  replace p12 := eq_true p12
                  replace q12 := eq_true q12
                  have p14 : 0 ≤ (x5_1 : Int) := of_decide_eq_true (by first | (with_reducible assumption) | assumption)
                  have q14 : x5_1 < (a0.size : Int) := of_decide_eq_true (by first | (with_reducible assumption) | assumption)
                  have hx14 := bt_at a0 x5_1
                  replace p14 := eq_true p14
                  replace q14 := eq_true q14
                  have p16 : 0 ≤ (x5_1 : Int) := of_decide_eq_true (by first | (with_reducible assumption) | assumption)
                  have q16 : x5_1 < (a0.size : Int) := of_decide_eq_true (by first | (with_reducible assumption) | assumption)
                  have hx16 := bt_at a0 x5_1
                  replace p16 := eq_true p16
                  replace q16 := eq_true q16
                  go_wp2
                  go_roundg k1
                  case measure => have := HK1.out; omega
                  case rel => exact ⟨(decide ((bt a0 x5_1) ≤ 122)), (decide ((bt a0 x5_1) ≤ 90)), (wrap64 (x5_1 + 1)), (by first | rfl | (simp; done) | (simp [*]; done)), (by first | rfl | (simp; done) | (simp [*]; done)), (by first | rfl | (simp; done) | (simp [*]; done)), (by first | exact H' | (subst_vars; exact H')), ⟨by have := HK1.out; omega⟩, by repeat (first | exact Drawn0.refl _ | apply Drawn0.step)⟩
                · rw [if_neg c15] at H
                  have c15b0 : decide (65 ≤ (bt a0 x5_1)) = false := decide_eq_false c15
                  clear c15
                  have H' := Aside0.mk H
                  clear H
                  have p10 : 0 ≤ (x5_1 : Int) := of_decide_eq_true (by first | (with_reducible assumption) | assumption)
                  have q10 : x5_1 < (a0.size : Int) := of_decide_eq_true (by first | (with_reducible assumption) | assumption)
                  have hx10 := bt_at a0 x5_1
                  replace p10 := eq_true p10
                  replace q10 := eq_true q10
                  have p12 : 0 ≤ (x5_1 : Int) := of_decide_eq_true (by first | (with_reducible assumption) | assumption)
                  have q12 : x5_1 < (a0.size : Int) := of_decide_eq_true (by first | (with_reducible assumption) | assumption)
                  have hx12 := bt_at a0 x5_1
                  replace p12 := eq_true p12
                  replace q12 := eq_true q12
                  have p14 : 0 ≤ (x5_1 : Int) := of_decide_eq_true (by first | (with_reducible assumption) | assumption)
                  have q14 : x5_1 < (a0.size : Int) := of_decide_eq_true (by first | (with_reducible assumption) | assumption)
                  have hx14 := bt_at a0 x5_1
                  replace p14 := eq_true p14
                  replace q14 := eq_true q14
                  go_wp2
                  go_roundg k1
                  case measure => have := HK1.out; omega
                  case rel => exact ⟨(decide ((bt a0 x5_1) ≤ 122)), (false), (wrap64 (x5_1 + 1)), (by first | rfl | (simp; done) | (simp [*]; done)), (by first | rfl | (simp; done) | (simp [*]; done)), (by first | rfl | (simp; done) | (simp [*]; done)), (by first | exact H' | (subst_vars; exact H')), ⟨by have := HK1.out; omega⟩, by repeat (first | exact Drawn0.refl _ | apply Drawn0.step)⟩
            · rw [if_neg c11] at H
              have c11b0 : decide (97 ≤ (bt a0 x5_1)) = false := decide_eq_false c11
              clear c11
              by_cases c17 : x4_1 = true
              · subst c17
                have H1 : (spec_mixed.l0 k1 a0 false true (wrap64 (x5_1 + 1))) = some r := by rw [if_pos rfl] at H; exact H
                clear H
                have H := H1
                clear H1
                have H' := Aside0.mk H
                clear H
                have p10 : 0 ≤ (x5_1 : Int) := of_decide_eq_true (by first | (with_reducible assumption) | assumption)
                have q10 : x5_1 < (a0.size : Int) := of_decide_eq_true (by first | (with_reducible assumption) | assumption)
                have hx10 := bt_at a0 x5_1
                replace p10 := eq_true p10
                replace q10 := eq_true q10
                go_wp2
                go_roundg k1
                case measure => have := HK1.out; omega
                case rel => exact ⟨(false), (true), (wrap64 (x5_1 + 1)), (by first | rfl | (simp; done) | (simp [*]; done)), (by first | rfl | (simp; done) | (simp [*]; done)), (by first | rfl | (simp; done) | (simp [*]; done)), (by first | exact H' | (subst_vars; exact H')), ⟨by have := HK1.out; omega⟩, by repeat (first | exact Drawn0.refl _ | apply Drawn0.step)⟩
              · replace c17 := Bool.eq_false_iff.mpr c17
                subst c17
                have H1 : (if (bt a0 x5_1) ≥ 65 then (spec_mixed.l0 k1 a0 false (decide ((bt a0 x5_1) ≤ 90)) (wrap64 (x5_1 + 1))) else (spec_mixed.l0 k1 a0 false false (wrap64 (x5_1 + 1)))) = some r := by rw [if_neg (show ¬ (false = true) by decide)] at H; exact H
                clear H
                have H := H1
                clear H1
                by_cases c19 : (bt a0 x5_1) ≥ 65
                · rw [if_pos c19] at H
                  have c19b0 : decide (65 ≤ (bt a0 x5_1)) = true := decide_eq_true c19
                  clear c19
                  have H' := Aside0.mk H
                  clear H
                  have p10 : 0 ≤ (x5_1 : Int) := of_decide_eq_true (by first | (with_reducible assumption) | assumption)
                  have q10 : x5_1 < (a0.size : Int) := of_decide_eq_true (by first | (with_reducible assumption) | assumption)
                  have hx10 := bt_at a0 x5_1
                  replace p10 := eq_true p10
                  replace q10 := eq_true q10
                  have p18 : 0 ≤ (x5_1 : Int) := of_decide_eq_true (by first | (with_reducible assumption) | assumption)
                  have q18 : x5_1 < (a0.size : Int) := of_decide_eq_true (by first | (with_reducible assumption) | assumption)
                  have hx18 := bt_at a0 x5_1
                  replace p18 := eq_true p18
                  replace q18 := eq_true q18
                  have p20 : 0 ≤ (x5_1 : Int) := of_decide_eq_true (by first | (with_reducible assumption) | assumption)
                  have q20 : x5_1 < (a0.size : Int) := of_decide_eq_true (by first | (with_reducible assumption) | assumption)
                  have hx20 := bt_at a0 x5_1
                  replace p20 := eq_true p20
                  replace q20 := eq_true q20
                  go_wp2
                  go_roundg k1
                  case measure => have := HK1.out; omega
                  case rel => exact ⟨(false), (decide ((bt a0 x5_1) ≤ 90)), (wrap64 (x5_1 + 1)), (by first | rfl | (simp; done) | (simp [*]; done)), (by first | rfl | (simp; done) | (simp [*]; done)), (by first | rfl | (simp; done) | (simp [*]; done)), (by first | exact H' | (subst_vars; exact H')), ⟨by have := HK1.out; omega⟩, by repeat (first | exact Drawn0.refl _ | apply Drawn0.step)⟩
                · rw [if_neg c19] at H
                  have c19b0 : decide (65 ≤ (bt a0 x5_1)) = false := decide_eq_false c19
                  clear c19
                  have H' := Aside0.mk H
                  clear H
                  have p10 : 0 ≤ (x5_1 : Int) := of_decide_eq_true (by first | (with_reducible assumption) | assumption)
                  have q10 : x5_1 < (a0.size : Int) := of_decide_eq_true (by first | (with_reducible assumption) | assumption)
                  have hx10 := bt_at a0 x5_1
                  replace p10 := eq_true p10
                  replace q10 := eq_true q10
                  have p18 : 0 ≤ (x5_1 : Int) := of_decide_eq_true (by first | (with_reducible assumption) | assumption)
                  have q18 : x5_1 < (a0.size : Int) := of_decide_eq_true (by first | (with_reducible assumption) | assumption)
                  have hx18 := bt_at a0 x5_1
                  replace p18 := eq_true p18
                  replace q18 := eq_true q18
                  go_wp2
                  go_roundg k1
                  case measure => have := HK1.out; omega
                  case rel => exact ⟨(false), (false), (wrap64 (x5_1 + 1)), (by first | rfl | (simp; done) | (simp [*]; done)), (by first | rfl | (simp; done) | (simp [*]; done)), (by first | rfl | (simp; done) | (simp [*]; done)), (by first | exact H' | (subst_vars; exact H')), ⟨by have := HK1.out; omega⟩, by repeat (first | exact Drawn0.refl _ | apply Drawn0.step)⟩
          · rw [if_neg c9] at H
            exact absurd H (by simp)
      · rw [if_neg c2] at H
        have c2b0 : decide (x5_1 < (a0.size : Int)) = false := decide_eq_false c2
        clear c2
        by_cases c21 : x3_1 = true
        · subst c21
          have H1 : (some x4_1) = some r := by rw [if_pos rfl] at H; exact H
          clear H
          have H := H1
          clear H1
          obtain rfl := Option.some.inj H
          go_wp2
          go_ret
          exact ⟨by first | rfl | (simp; done) | (simp [*]; done), by repeat (first | exact Drawn0.refl _ | apply Drawn0.step)⟩
        · replace c21 := Bool.eq_false_iff.mpr c21
          subst c21
          have H1 : (some false) = some r := by rw [if_neg (show ¬ (false = true) by decide)] at H; exact H
          clear H
          have H := H1
          clear H1
          obtain rfl := Option.some.inj H
          go_wp2
          go_ret
          exact ⟨by first | rfl | (simp; done) | (simp [*]; done), by repeat (first | exact Drawn0.refl _ | apply Drawn0.step)⟩

-- NOT PRINTED: function 8 (spec_lower)

/-! ### spec_place: function 9 -/
def spec_place.l0 : Nat → ByteArray → Int → Int → Option (Int)
  | 0, _, _, _ => none
  | k + 1, x0, x1, x5 => if x5 < (x0.size : Int) then (if 0 ≤ x5 then (if (bt x0 x5) = x1 then (some x5) else (spec_place.l0 k x0 x1 (wrap64 (x5 + 1)))) else (none)) else (some (-1))
def spec_place.f (k : Nat) (a0 : ByteArray) (a1 : Int) : Option (Int) := spec_place.l0 k a0 a1 0
theorem spec_place.mono_l : ∀ k, (∀ y0 y1 y2, LeO (spec_place.l0 k y0 y1 y2) (spec_place.l0 (k + 1) y0 y1 y2))
  | 0 => fun _ _ _ r h => by simp [spec_place.l0] at h
  | k + 1 => by
    have ih0 := spec_place.mono_l k
    · intro y0 y1 y2
      unfold spec_place.l0
      repeat' first
      | (with_reducible exact ih0 _ _ _)
      | (with_reducible exact LeO.refl _)
      | (with_reducible exact LeO.none _)
      | (with_reducible refine LeO.ite ?_ ?_)
      | (with_reducible refine LeO.bind ?_ (fun _ => ?_))
      | exact ih0 _ _ _
      | exact LeO.none _
      | refine LeO.ite ?_ ?_
      | refine LeO.bind ?_ (fun _ => ?_)
theorem spec_place.mono : ∀ a0 a1 k, LeO (spec_place.f k a0 a1) (spec_place.f (k + 1) a0 a1) := by
  intro a0 a1 k
  have ih0 := spec_place.mono_l k
  unfold spec_place.f
  repeat' first
      | (with_reducible exact ih0 _ _ _)
      | (with_reducible exact LeO.refl _)
      | (with_reducible exact LeO.none _)
      | (with_reducible refine LeO.ite ?_ ?_)
      | (with_reducible refine LeO.bind ?_ (fun _ => ?_))
      | exact ih0 _ _ _
      | exact LeO.none _
      | refine LeO.ite ?_ ?_
      | refine LeO.bind ?_ (fun _ => ?_)
set_option maxHeartbeats 8000000 in
set_option maxRecDepth 100000 in
theorem spec_place.calls (k : Nat) (a0 : ByteArray) (a1 : Int) (r : Int) (w : World) (h : spec_place.f k a0 a1 = some r) :
    Calls Tryd.prog 9 #[.string a0, .int .u8 a1] w fun e w' => e = .returned (.int .i64 r) ∧ Drawn0 w w' := by
  have H : (spec_place.l0 k a0 a1 0) = some r := h
  clear h
  have H' := Aside0.mk H
  clear H
  go_enter Tryd.func9, Tryd.ntmps9
  go_wp2
  go_loopg [5] k (fun kq v5 w' => ∃ (x5_1 : Int), v5 = .int .i64 x5_1 ∧ Aside0 (spec_place.l0 kq a0 a1 x5_1 = some r) ∧ Aside0 (kq ≤ k) ∧ Drawn0 w w')
  case atStart => exact ⟨(0), (by first | rfl | (simp; done) | (simp [*]; done)), H', ⟨Nat.le_refl _⟩, by repeat (first | exact Drawn0.refl _ | apply Drawn0.step)⟩
  case round =>
    clear H'
    try clear p2
    obtain ⟨x5_1, rfl, HA, HK1, ⟨m1, rfl⟩⟩ := hrel
    cases gk with
    | zero => exact absurd HA.out (by simp [spec_place.l0])
    | succ k1 =>
      have H := HA.out
      clear HA
      simp only [spec_place.l0] at H
      by_cases c3 : x5_1 < (a0.size : Int)
      · rw [if_pos c3] at H
        have c3b0 : decide (x5_1 < (a0.size : Int)) = true := decide_eq_true c3
        clear c3
        by_cases c4 : 0 ≤ x5_1
        · rw [if_pos c4] at H
          have c4b0 : decide (0 ≤ x5_1) = true := decide_eq_true c4
          clear c4
          by_cases c6 : (bt a0 x5_1) = a1
          · rw [if_pos c6] at H
            have c6b0 : ((bt a0 x5_1) == a1) = true := beq_iff_eq.mpr c6
            have c6b1 : ((bt a0 x5_1) != a1) = false := bne_eq_false_iff_eq.mpr c6
            clear c6
            obtain rfl := Option.some.inj H
            have p5 : 0 ≤ (x5_1 : Int) := of_decide_eq_true (by first | (with_reducible assumption) | assumption)
            have q5 : x5_1 < (a0.size : Int) := of_decide_eq_true (by first | (with_reducible assumption) | assumption)
            have hx5 := bt_at a0 x5_1
            replace p5 := eq_true p5
            replace q5 := eq_true q5
            go_wp2
            go_ret
            exact ⟨by first | rfl | (simp; done) | (simp [*]; done), by repeat (first | exact Drawn0.refl _ | apply Drawn0.step)⟩
          · rw [if_neg c6] at H
            have c6b0 : ((bt a0 x5_1) == a1) = false := beq_eq_false_iff_ne.mpr c6
            have c6b1 : ((bt a0 x5_1) != a1) = true := bne_iff_ne.mpr c6
            have H' := Aside0.mk H
            clear H
            have p5 : 0 ≤ (x5_1 : Int) := of_decide_eq_true (by first | (with_reducible assumption) | assumption)
            have q5 : x5_1 < (a0.size : Int) := of_decide_eq_true (by first | (with_reducible assumption) | assumption)
            have hx5 := bt_at a0 x5_1
            replace p5 := eq_true p5
            replace q5 := eq_true q5
            go_wp2
            go_roundg k1
            case measure => have := HK1.out; omega
            case rel => exact ⟨(wrap64 (x5_1 + 1)), (by first | rfl | (simp; done) | (simp [*]; done)), (by first | exact H' | (subst_vars; exact H')), ⟨by have := HK1.out; omega⟩, by repeat (first | exact Drawn0.refl _ | apply Drawn0.step)⟩
        · rw [if_neg c4] at H
          exact absurd H (by simp)
      · rw [if_neg c3] at H
        have c3b0 : decide (x5_1 < (a0.size : Int)) = false := decide_eq_false c3
        clear c3
        obtain rfl := Option.some.inj H
        go_wp2
        go_ret
        exact ⟨by first | rfl | (simp; done) | (simp [*]; done), by repeat (first | exact Drawn0.refl _ | apply Drawn0.step)⟩

/-! ### spec_polymod: function 10 -/
mutual
def spec_polymod.l0 : Nat → List Int → List Int → Int → Int → Option (Int)
  | 0, _, _, _, _ => none
  | k + 1, x0, x3, x4, x5 => if x5 < (x0.length : Int) then (if 0 ≤ x5 then (spec_polymod.l1 k x0 x3 (Go.bits .xor .u32 (((Go.bits .and .u32 x4 33554431) * 32) % 4294967296) ((rd x0 x5) % 4294967296)) x5 (x4 / 33554432) 0) else (none)) else (some x4)
def spec_polymod.l1 : Nat → List Int → List Int → Int → Int → Int → Int → Option (Int)
  | 0, _, _, _, _, _, _ => none
  | k + 1, x0, x3, x4, x5, x6, x26 => if x26 < 5 then (if 0 ≤ x26 then (if (Go.bits .and .u32 (shr .u32 x6 x26) 1) = 1 then (if x26 < (x3.length : Int) then (spec_polymod.l1 k x0 x3 (Go.bits .xor .u32 x4 (rd x3 x26)) x5 x6 (wrap64 (x26 + 1))) else (none)) else (spec_polymod.l1 k x0 x3 x4 x5 x6 (wrap64 (x26 + 1)))) else (none)) else (spec_polymod.l0 k x0 x3 x4 (wrap64 (x5 + 1)))
end
def spec_polymod.f (k : Nat) (l0 : List Int) : Option (Int) := spec_polymod.l0 k l0 (([996825010, 642813549, 513874426, 1027748829, 705979059] : List Int)) 1 0
theorem spec_polymod.mono_l : ∀ k, (∀ y0 y1 y2 y3, LeO (spec_polymod.l0 k y0 y1 y2 y3) (spec_polymod.l0 (k + 1) y0 y1 y2 y3)) ∧ (∀ y0 y1 y2 y3 y4 y5, LeO (spec_polymod.l1 k y0 y1 y2 y3 y4 y5) (spec_polymod.l1 (k + 1) y0 y1 y2 y3 y4 y5))
  | 0 => ⟨fun _ _ _ _ r h => by simp [spec_polymod.l0] at h, fun _ _ _ _ _ _ r h => by simp [spec_polymod.l1] at h⟩
  | k + 1 => by
    obtain ⟨ih0, ih1⟩ := spec_polymod.mono_l k
    refine ⟨?_, ?_⟩
    · intro y0 y1 y2 y3
      unfold spec_polymod.l0
      repeat' first
      | (with_reducible exact ih0 _ _ _ _)
      | (with_reducible exact ih1 _ _ _ _ _ _)
      | (with_reducible exact LeO.refl _)
      | (with_reducible exact LeO.none _)
      | (with_reducible refine LeO.ite ?_ ?_)
      | (with_reducible refine LeO.bind ?_ (fun _ => ?_))
      | exact ih0 _ _ _ _
      | exact ih1 _ _ _ _ _ _
      | exact LeO.none _
      | refine LeO.ite ?_ ?_
      | refine LeO.bind ?_ (fun _ => ?_)
    · intro y0 y1 y2 y3 y4 y5
      unfold spec_polymod.l1
      repeat' first
      | (with_reducible exact ih0 _ _ _ _)
      | (with_reducible exact ih1 _ _ _ _ _ _)
      | (with_reducible exact LeO.refl _)
      | (with_reducible exact LeO.none _)
      | (with_reducible refine LeO.ite ?_ ?_)
      | (with_reducible refine LeO.bind ?_ (fun _ => ?_))
      | exact ih0 _ _ _ _
      | exact ih1 _ _ _ _ _ _
      | exact LeO.none _
      | refine LeO.ite ?_ ?_
      | refine LeO.bind ?_ (fun _ => ?_)
theorem spec_polymod.mono : ∀ a0 k, LeO (spec_polymod.f k a0) (spec_polymod.f (k + 1) a0) := by
  intro a0 k
  obtain ⟨ih0, ih1⟩ := spec_polymod.mono_l k
  unfold spec_polymod.f
  repeat' first
      | (with_reducible exact ih0 _ _ _ _)
      | (with_reducible exact ih1 _ _ _ _ _ _)
      | (with_reducible exact LeO.refl _)
      | (with_reducible exact LeO.none _)
      | (with_reducible refine LeO.ite ?_ ?_)
      | (with_reducible refine LeO.bind ?_ (fun _ => ?_))
      | exact ih0 _ _ _ _
      | exact ih1 _ _ _ _ _ _
      | exact LeO.none _
      | refine LeO.ite ?_ ?_
      | refine LeO.bind ?_ (fun _ => ?_)
set_option maxHeartbeats 8000000 in
set_option maxRecDepth 100000 in
theorem spec_polymod.calls (k : Nat) (A0 : Option Addr) (c0 : Nat) (l0 : List Int) (r : Int) (w : World) (hr0 : Kd.C (Kd.int .u8) w A0 l0.length l0) (hc0 : l0.length ≤ c0) (h : spec_polymod.f k l0 = some r) :
    Calls Tryd.prog 10 #[.slice A0 l0.length c0] w fun e w' => e = .returned (.int .u32 r) ∧ Below w.heap.size w w' := by
  have HR0 := Aside0.mk hr0
  have HC0 := Aside0.mk hc0
  clear hr0 hc0
  have HB := Aside0.mk (Below.refl w.heap.size w)
  have H : (spec_polymod.l0 k l0 (([996825010, 642813549, 513874426, 1027748829, 705979059] : List Int)) 1 0) = some r := h
  clear h
  obtain ⟨y101, hy101⟩ : ∃ y_ : List Int, y_ = (([996825010, 642813549, 513874426, 1027748829, 705979059] : List Int)) := ⟨_, rfl⟩
  replace H : (spec_polymod.l0 k l0 y101 1 0) = some r := by first | (rw [hy101]; with_reducible exact H) | (have H2_ := (Option.bind_some _ _).symm.trans H; rw [hy101]; with_reducible exact H2_) | (have H2_ := (Option.bind_some _ _).symm.trans H; with_reducible exact H2_) | with_reducible exact H | (rw [hy101]; exact H) | exact H
  have Ny101 := Aside0.mk hy101
  clear hy101
  have H' := Aside0.mk H
  clear H
  go_enter Tryd.func10, Tryd.ntmps10
  go_wp2_with (first | ((with_reducible refine gate_dst (N := 8) rfl ?_); refine Kd.R_lit (Kd.int .u32) _ 23 ?hg (N := 8) ?hd (xs := ([996825010, 642813549, 513874426, 1027748829, 705979059] : List Int)) (inner := [.int .u32 996825010, .int .u32 642813549, .int .u32 513874426, .int .u32 1027748829, .int .u32 705979059]) (ok := fun _ => True) (okp := fun _ => True) ?hr ?hp (fun _ hk => hk) trivial (Below.refl _ _) (Nat.le_refl _) (by simp) ?_; (case hd => rfl); (case hg => rfl); (case hr => first | (go_simp; done) | (go_simp; rfl)); (case hp => exact (Reps.one (show Kd.M (Kd.int .u32) _ _ _ 996825010 [.int .u32 996825010] from rfl) (Reps.one (show Kd.M (Kd.int .u32) _ _ _ 642813549 [.int .u32 642813549] from rfl) (Reps.one (show Kd.M (Kd.int .u32) _ _ _ 513874426 [.int .u32 513874426] from rfl) (Reps.one (show Kd.M (Kd.int .u32) _ _ _ 1027748829 [.int .u32 1027748829] from rfl) (Reps.one (show Kd.M (Kd.int .u32) _ _ _ 705979059 [.int .u32 705979059] from rfl) (Reps.none _ _))))))); intro v102 w2 ho3 hb hg_ hnew_; clear hg_ hnew_; (first | rw [← Ny101.out] at ho3 | (simp only [Int.reduceToNat] at ho3; rw [← Ny101.out] at ho3)); have n0_ := Aside0.mk (Kd.R_lower ho3 (below_size (by repeat (first | (with_reducible first | exact HB.out | apply below_alloc | apply pw_below_drewN | apply below_drew1) | exact HB.out)))); have n1_ := Aside0.mk (below_step (by repeat (first | (with_reducible first | exact HB.out | apply below_alloc | apply pw_below_drewN | apply below_drew1) | exact HB.out)) hb); clear HB; have HO103 := n0_; have HB := n1_; clear n0_ n1_; clear hb ho3))
  go_loopg [4, 5] k (fun kq v4 v5 w' => ∃ (x4_1 : Int) (x5_1 : Int), v4 = .int .u32 x4_1 ∧ v5 = .int .i64 x5_1 ∧ Aside0 (spec_polymod.l0 kq l0 y101 x4_1 x5_1 = some r) ∧ Aside0 (kq ≤ k) ∧ Aside0 (Kd.R (Kd.int .u32) 23 w' w.heap.size (fun _ => True) v102 y101) ∧ Aside0 (Below w.heap.size w w'))
  case atStart => exact ⟨(1), (0), (by first | rfl | (simp; done) | (simp [*]; done)), (by first | rfl | (simp; done) | (simp [*]; done)), H', ⟨Nat.le_refl _⟩, ⟨by (with_reducible repeat (first | apply Kd.R_alloc | apply Kd.R_drewN | apply Kd.R_drew)); exact HO103.out⟩, ⟨by repeat (first | (with_reducible first | exact HB.out | apply below_alloc | apply pw_below_drewN | apply below_drew1) | exact HB.out)⟩⟩
  case round =>
    clear H'
    try clear c1
    try clear p2
    obtain ⟨x4_1, x5_1, rfl, rfl, HA, HK1, HO_3, HB⟩ := hrel
    cases gk with
    | zero => exact absurd HA.out (by simp [spec_polymod.l0])
    | succ k1 =>
      have H := HA.out
      clear HA
      simp only [spec_polymod.l0] at H
      by_cases c4 : x5_1 < (l0.length : Int)
      · rw [if_pos c4] at H
        have c4b0 : decide (x5_1 < (l0.length : Int)) = true := decide_eq_true c4
        clear c4
        by_cases c5 : 0 ≤ x5_1
        · rw [if_pos c5] at H
          have c5b0 : decide (0 ≤ x5_1) = true := decide_eq_true c5
          clear c5
          have H' := Aside0.mk H
          clear H
          have p104 : 0 ≤ (x5_1 : Int) := of_decide_eq_true (by first | (with_reducible assumption) | assumption)
          have q104 : x5_1 < (l0.length : Int) := of_decide_eq_true (by first | (with_reducible assumption) | assumption)
          obtain ⟨ad104, e104, hx104_0⟩ := Kd.at_int HR0.out x5_1 p104 q104
          cases e104
          replace hx104_0 := (HB.out.cell (World.block_lt_of_cell? w _ hx104_0)).trans hx104_0
          replace p104 := eq_true p104
          replace q104 := eq_true q104
          go_wp2
          go_loopg [4, 26] k1 (fun kq v4 v26 w' => ∃ (x4_2 : Int) (x26_2 : Int), v4 = .int .u32 x4_2 ∧ v26 = .int .i64 x26_2 ∧ Aside0 (spec_polymod.l1 kq l0 y101 x4_2 x5_1 (x4_1 / 33554432) x26_2 = some r) ∧ Aside0 (kq ≤ k1) ∧ Aside0 (Kd.R (Kd.int .u32) 23 w' w.heap.size (fun _ => True) v102 y101) ∧ Aside0 (Below w.heap.size w w'))
          case atStart => exact ⟨(Go.bits .xor .u32 (((Go.bits .and .u32 x4_1 33554431) * 32) % 4294967296) ((rd l0 x5_1) % 4294967296)), (0), (by first | rfl | (simp; done) | (simp [*]; done)), (by first | rfl | (simp; done) | (simp [*]; done)), H', ⟨Nat.le_refl _⟩, ⟨by (with_reducible repeat (first | apply Kd.R_alloc | apply Kd.R_drewN | apply Kd.R_drew)); exact HO_3.out⟩, ⟨by repeat (first | (with_reducible first | exact HB.out | apply below_alloc | apply pw_below_drewN | apply below_drew1) | exact HB.out)⟩⟩
          case round =>
            clear H'
            try clear c1
            try clear p1
            try clear q1
            try clear hx1
            try clear p2
            try clear c4
            try clear c4b0
            try clear c5
            try clear c5b0
            try clear hx104_0
            try clear p104
            try clear p2
            try clear q104
            obtain ⟨x4_2, x26_2, rfl, rfl, HA, HK2, HO_3, HB⟩ := hrel
            cases gk with
            | zero => exact absurd HA.out (by simp [spec_polymod.l1])
            | succ k2 =>
              have H := HA.out
              clear HA
              simp only [spec_polymod.l1] at H
              by_cases c6 : x26_2 < 5
              · rw [if_pos c6] at H
                have c6b0 : decide (x26_2 < 5) = true := decide_eq_true c6
                clear c6
                by_cases c7 : 0 ≤ x26_2
                · rw [if_pos c7] at H
                  have c7b0 := eq_true c7
                  have c7b1 : decide (0 ≤ x26_2) = true := decide_eq_true c7
                  clear c7
                  obtain ⟨ji8, hji8⟩ : ∃ j_ : Int, (shr .u32 (x4_1 / 33554432) x26_2) = j_ := ⟨_, rfl⟩
                  replace H : (if (Go.bits .and .u32 (ji8) 1) = 1 then (if x26_2 < (y101.length : Int) then (spec_polymod.l1 k2 l0 y101 (Go.bits .xor .u32 x4_2 (rd y101 x26_2)) x5_1 (x4_1 / 33554432) (wrap64 (x26_2 + 1))) else (none)) else (spec_polymod.l1 k2 l0 y101 x4_2 x5_1 (x4_1 / 33554432) (wrap64 (x26_2 + 1)))) = some r := by first | (rw [hji8] at H; exact H) | (simp only [hji8] at H ⊢; exact H)
                  have hji8_ : ((x4_1 / 33554432) / 2 ^ min x26_2.toNat 32) = ji8 := hji8
                  have hji8z : x26_2 ≤ 32 → ((x4_1 / 33554432) / 2 ^ x26_2.toNat) = ji8 := shr_small hji8
                  by_cases c9 : (Go.bits .and .u32 (ji8) 1) = 1
                  · rw [if_pos c9] at H
                    have c9b0 : ((Go.bits .and .u32 (ji8) 1) == 1) = true := beq_iff_eq.mpr c9
                    have c9b1 : ((Go.bits .and .u32 (ji8) 1) != 1) = false := bne_eq_false_iff_eq.mpr c9
                    clear c9
                    by_cases c10 : x26_2 < (y101.length : Int)
                    · rw [if_pos c10] at H
                      have c10b0 : decide (x26_2 < (y101.length : Int)) = true := decide_eq_true c10
                      clear c10
                      have H' := Aside0.mk H
                      clear H
                      obtain ⟨Ao11, co11, eo11⟩ := Kd.R_slice HO_3.out
                      subst eo11
                      have p105 : 0 ≤ (x26_2 : Int) := of_decide_eq_true (by first | (with_reducible assumption) | assumption)
                      have q105 : x26_2 < (y101.length : Int) := of_decide_eq_true (by first | (with_reducible assumption) | assumption)
                      obtain ⟨ad105, e105, hx105_0⟩ := Kd.at_int (Kd.R_reads' HO_3.out).2.2 x26_2 p105 q105
                      cases e105
                      replace p105 := eq_true p105
                      replace q105 := eq_true q105
                      go_wp2
                      go_roundg k2
                      case measure => have := HK1.out; have := HK2.out; omega
                      case rel => exact ⟨(Go.bits .xor .u32 x4_2 (rd y101 x26_2)), (wrap64 (x26_2 + 1)), (by first | rfl | (simp; done) | (simp [*]; done)), (by first | rfl | (simp; done) | (simp [*]; done)), (by first | exact H' | (subst_vars; exact H')), ⟨by have := HK1.out; have := HK2.out; omega⟩, ⟨by (with_reducible repeat (first | apply Kd.R_alloc | apply Kd.R_drewN | apply Kd.R_drew)); exact HO_3.out⟩, ⟨by repeat (first | (with_reducible first | exact HB.out | apply below_alloc | apply pw_below_drewN | apply below_drew1) | exact HB.out)⟩⟩
                    · rw [if_neg c10] at H
                      exact absurd H (by simp)
                  · rw [if_neg c9] at H
                    have c9b0 : ((Go.bits .and .u32 (ji8) 1) == 1) = false := beq_eq_false_iff_ne.mpr c9
                    have c9b1 : ((Go.bits .and .u32 (ji8) 1) != 1) = true := bne_iff_ne.mpr c9
                    have H' := Aside0.mk H
                    clear H
                    go_wp2
                    go_roundg k2
                    case measure => have := HK1.out; have := HK2.out; omega
                    case rel => exact ⟨(x4_2), (wrap64 (x26_2 + 1)), (by first | rfl | (simp; done) | (simp [*]; done)), (by first | rfl | (simp; done) | (simp [*]; done)), (by first | exact H' | (subst_vars; exact H')), ⟨by have := HK1.out; have := HK2.out; omega⟩, ⟨by (with_reducible repeat (first | apply Kd.R_alloc | apply Kd.R_drewN | apply Kd.R_drew)); exact HO_3.out⟩, ⟨by repeat (first | (with_reducible first | exact HB.out | apply below_alloc | apply pw_below_drewN | apply below_drew1) | exact HB.out)⟩⟩
                · rw [if_neg c7] at H
                  exact absurd H (by simp)
              · rw [if_neg c6] at H
                have c6b0 : decide (x26_2 < 5) = false := decide_eq_false c6
                clear c6
                have H' := Aside0.mk H
                clear H
                go_wp2
                go_roundg k2
                case measure => have := HK1.out; have := HK2.out; omega
                case rel => exact ⟨(x4_2), (wrap64 (x5_1 + 1)), (by first | rfl | (simp; done) | (simp [*]; done)), (by first | rfl | (simp; done) | (simp [*]; done)), (by first | exact H' | (subst_vars; exact H')), ⟨by have := HK1.out; have := HK2.out; omega⟩, ⟨by (with_reducible repeat (first | apply Kd.R_alloc | apply Kd.R_drewN | apply Kd.R_drew)); exact HO_3.out⟩, ⟨by repeat (first | (with_reducible first | exact HB.out | apply below_alloc | apply pw_below_drewN | apply below_drew1) | exact HB.out)⟩⟩
        · rw [if_neg c5] at H
          exact absurd H (by simp)
      · rw [if_neg c4] at H
        have c4b0 : decide (x5_1 < (l0.length : Int)) = false := decide_eq_false c4
        clear c4
        obtain rfl := Option.some.inj H
        go_wp2
        go_ret
        exact ⟨by first | rfl | (simp [errW_none, errW_some] <;> rfl) | (simp [*, errW_none, errW_some] <;> rfl), by repeat (first | (with_reducible first | exact HB.out | apply below_alloc | apply pw_below_drewN | apply below_drew1) | exact HB.out)⟩

/-! ### spec_expand: function 11 -/
mutual
def spec_expand.l0 : Nat → ByteArray → List Int → Int → Option (List Int)
  | 0, _, _, _ => none
  | k + 1, x0, x3, x4 => if x4 < (x0.size : Int) then (if 0 ≤ x4 then (if x3.length < 140737488355328 then (spec_expand.l0 k x0 (x3 ++ [(Int.tdiv (bt x0 x4) 32) % 256]) (wrap64 (x4 + 1))) else (none)) else (none)) else (if x3.length < 140737488355328 then (spec_expand.l1 k x0 (x3 ++ [0]) 0) else (none))
def spec_expand.l1 : Nat → ByteArray → List Int → Int → Option (List Int)
  | 0, _, _, _ => none
  | k + 1, x0, x3, x5 => if x5 < (x0.size : Int) then (if 0 ≤ x5 then (if x3.length < 140737488355328 then (spec_expand.l1 k x0 (x3 ++ [Int.tmod (bt x0 x5) 32]) (wrap64 (x5 + 1))) else (none)) else (none)) else (some x3)
end
def spec_expand.f (k : Nat) (a0 : ByteArray) : Option (List Int) := spec_expand.l0 k a0 ([] : List Int) 0
theorem spec_expand.mono_l : ∀ k, (∀ y0 y1 y2, LeO (spec_expand.l0 k y0 y1 y2) (spec_expand.l0 (k + 1) y0 y1 y2)) ∧ (∀ y0 y1 y2, LeO (spec_expand.l1 k y0 y1 y2) (spec_expand.l1 (k + 1) y0 y1 y2))
  | 0 => ⟨fun _ _ _ r h => by simp [spec_expand.l0] at h, fun _ _ _ r h => by simp [spec_expand.l1] at h⟩
  | k + 1 => by
    obtain ⟨ih0, ih1⟩ := spec_expand.mono_l k
    refine ⟨?_, ?_⟩
    · intro y0 y1 y2
      unfold spec_expand.l0
      repeat' first
      | (with_reducible exact ih0 _ _ _)
      | (with_reducible exact ih1 _ _ _)
      | (with_reducible exact LeO.refl _)
      | (with_reducible exact LeO.none _)
      | (with_reducible refine LeO.ite ?_ ?_)
      | (with_reducible refine LeO.bind ?_ (fun _ => ?_))
      | exact ih0 _ _ _
      | exact ih1 _ _ _
      | exact LeO.none _
      | refine LeO.ite ?_ ?_
      | refine LeO.bind ?_ (fun _ => ?_)
    · intro y0 y1 y2
      unfold spec_expand.l1
      repeat' first
      | (with_reducible exact ih0 _ _ _)
      | (with_reducible exact ih1 _ _ _)
      | (with_reducible exact LeO.refl _)
      | (with_reducible exact LeO.none _)
      | (with_reducible refine LeO.ite ?_ ?_)
      | (with_reducible refine LeO.bind ?_ (fun _ => ?_))
      | exact ih0 _ _ _
      | exact ih1 _ _ _
      | exact LeO.none _
      | refine LeO.ite ?_ ?_
      | refine LeO.bind ?_ (fun _ => ?_)
theorem spec_expand.mono : ∀ a0 k, LeO (spec_expand.f k a0) (spec_expand.f (k + 1) a0) := by
  intro a0 k
  obtain ⟨ih0, ih1⟩ := spec_expand.mono_l k
  unfold spec_expand.f
  repeat' first
      | (with_reducible exact ih0 _ _ _)
      | (with_reducible exact ih1 _ _ _)
      | (with_reducible exact LeO.refl _)
      | (with_reducible exact LeO.none _)
      | (with_reducible refine LeO.ite ?_ ?_)
      | (with_reducible refine LeO.bind ?_ (fun _ => ?_))
      | exact ih0 _ _ _
      | exact ih1 _ _ _
      | exact LeO.none _
      | refine LeO.ite ?_ ?_
      | refine LeO.bind ?_ (fun _ => ?_)
set_option maxHeartbeats 8000000 in
set_option maxRecDepth 100000 in
theorem spec_expand.calls (k : Nat) (a0 : ByteArray) (r : List Int) (w : World) (h : spec_expand.f k a0 = some r) :
    Calls Tryd.prog 11 #[.string a0] w fun e w' => ∃ v0_ : Value, e = .returned (v0_) ∧ Kd.R (Kd.int .u8) 5 w' w.heap.size (fun _ => True) v0_ r ∧ Below w.heap.size w w' := by
  have HB := Aside0.mk (Below.refl w.heap.size w)
  have H : (spec_expand.l0 k a0 ([] : List Int) 0) = some r := h
  clear h
  have H' := Aside0.mk H
  clear H
  go_enter Tryd.func11, Tryd.ntmps11
  go_wp2
  go_loopg [3, 4] k (fun kq v3 v4 w' => ∃ (x3_1 : List Int) (x4_1 : Int), v4 = .int .i64 x4_1 ∧ Aside0 (spec_expand.l0 kq a0 x3_1 x4_1 = some r) ∧ Aside0 (kq ≤ k) ∧ Aside0 (Kd.R (Kd.int .u8) 5 w' w.heap.size (fun _ => True) v3 x3_1) ∧ Aside0 (Below w.heap.size w w'))
  case atStart => exact ⟨(([] : List Int)), (0), (by first | rfl | (simp; done) | (simp [*]; done)), H', ⟨Nat.le_refl _⟩, ⟨by first | exact Kd.R_nil _ _ _ _ _ | exact Kd.N_nil _ _ _ _ _ | exact Kd.V_nil _ _ _ _ _ | exact Kd.Q_nil _ _ _ _ _ | exact Kd.S_nil _ _ _ _ _⟩, ⟨by repeat (first | (with_reducible first | exact HB.out | apply below_alloc | apply pw_below_drewN | apply below_drew1) | exact HB.out)⟩⟩
  case round =>
    clear H'
    try clear c1
    obtain ⟨x3_1, x4_1, rfl, HA, HK1, HO_3, HB⟩ := hrel
    cases gk with
    | zero => exact absurd HA.out (by simp [spec_expand.l0])
    | succ k1 =>
      have H := HA.out
      clear HA
      simp only [spec_expand.l0] at H
      by_cases c2 : x4_1 < (a0.size : Int)
      · rw [if_pos c2] at H
        have c2b0 : decide (x4_1 < (a0.size : Int)) = true := decide_eq_true c2
        clear c2
        by_cases c3 : 0 ≤ x4_1
        · rw [if_pos c3] at H
          have c3b0 : decide (0 ≤ x4_1) = true := decide_eq_true c3
          clear c3
          by_cases c5 : x3_1.length < 140737488355328
          · rw [if_pos c5] at H
            have LMc5 := Aside0.mk c5
            clear c5
            obtain ⟨y106, hy106⟩ : ∃ y_ : List Int, y_ = (x3_1 ++ [(Int.tdiv (bt a0 x4_1) 32) % 256]) := ⟨_, rfl⟩
            replace H : (spec_expand.l0 k1 a0 y106 (wrap64 (x4_1 + 1))) = some r := by first | (rw [hy106]; with_reducible exact H) | (have H2_ := (Option.bind_some _ _).symm.trans H; rw [hy106]; with_reducible exact H2_) | (have H2_ := (Option.bind_some _ _).symm.trans H; with_reducible exact H2_) | with_reducible exact H | (rw [hy106]; exact H) | exact H
            have Ny106 := Aside0.mk hy106
            clear hy106
            have H' := Aside0.mk H
            clear H
            have p4 : 0 ≤ (x4_1 : Int) := of_decide_eq_true (by first | (with_reducible assumption) | assumption)
            have q4 : x4_1 < (a0.size : Int) := of_decide_eq_true (by first | (with_reducible assumption) | assumption)
            have hx4 := bt_at a0 x4_1
            replace p4 := eq_true p4
            replace q4 := eq_true q4
            go_wp2_with (first | ((with_reducible refine gate_builtin (b := .append) (xs := #[.tmp 12, .tmp 17]) rfl ?_); at_builtin; refine Kd.R_append (Kd.int .u8) (w0 := w) w.heap.size rfl (.tmp 12) (.tmp 17) 22 5 (.int .u8 0) 1 rfl Tryd.underlying22 info5 rfl (by decide) (by omega) u3 x3_1 ((Int.tdiv (bt a0 x4_1) 32) % 256) [.int .u8 ((Int.tdiv (bt a0 x4_1) 32) % 256)] (fun _ => True) (fun _ => False) rfl rfl ?aP (fun _ hk => hk.elim) ?aF ?aO ?aB ?aS ?aL ?_; (case aP => exact rfl); (case aB => exact (by repeat (first | (with_reducible first | exact HB.out | apply below_alloc | apply pw_below_drewN | apply below_drew1) | exact HB.out))); (case aF => exact (fun _ _ => trivial)); (case aO => exact (by (with_reducible repeat (first | apply Kd.R_alloc | apply Kd.R_drewN | apply Kd.R_drew)); exact HO_3.out)); (case aS => exact (below_size (by repeat (first | (with_reducible first | exact HB.out | apply below_alloc | apply pw_below_drewN | apply below_drew1) | exact HB.out)))); (case aL => have := LMc5.out; omega); intro v107 w6 ho hb hg hat; rw [← Ny106.out] at ho; have n0_ := Aside0.mk (hb); have n1_ := Aside0.mk (ho); clear HB; clear HO_3; have HB := n0_; have HO108 := n1_; clear n0_ n1_; clear ho hb hg hat))
            go_roundg k1
            case measure => have := HK1.out; omega
            case rel => exact ⟨(y106), (wrap64 (x4_1 + 1)), (by first | rfl | (simp; done) | (simp [*]; done)), (by first | exact H' | (subst_vars; exact H')), ⟨by have := HK1.out; omega⟩, ⟨by (with_reducible repeat (first | apply Kd.R_alloc | apply Kd.R_drewN | apply Kd.R_drew)); exact HO108.out⟩, ⟨by repeat (first | (with_reducible first | exact HB.out | apply below_alloc | apply pw_below_drewN | apply below_drew1) | exact HB.out)⟩⟩
          · rw [if_neg c5] at H
            exact absurd H (by simp)
        · rw [if_neg c3] at H
          exact absurd H (by simp)
      · rw [if_neg c2] at H
        have c2b0 : decide (x4_1 < (a0.size : Int)) = false := decide_eq_false c2
        clear c2
        by_cases c7 : x3_1.length < 140737488355328
        · rw [if_pos c7] at H
          have LMc7 := Aside0.mk c7
          clear c7
          obtain ⟨y109, hy109⟩ : ∃ y_ : List Int, y_ = (x3_1 ++ [0]) := ⟨_, rfl⟩
          replace H : (spec_expand.l1 k1 a0 y109 0) = some r := by first | (rw [hy109]; with_reducible exact H) | (have H2_ := (Option.bind_some _ _).symm.trans H; rw [hy109]; with_reducible exact H2_) | (have H2_ := (Option.bind_some _ _).symm.trans H; with_reducible exact H2_) | with_reducible exact H | (rw [hy109]; exact H) | exact H
          have Ny109 := Aside0.mk hy109
          clear hy109
          have H' := Aside0.mk H
          clear H
          go_wp2_with (first | ((with_reducible refine gate_builtin (b := .append) (xs := #[.tmp 19, .tmp 20]) rfl ?_); at_builtin; refine Kd.R_append (Kd.int .u8) (w0 := w) w.heap.size rfl (.tmp 19) (.tmp 20) 22 5 (.int .u8 0) 1 rfl Tryd.underlying22 info5 rfl (by decide) (by omega) u3 x3_1 0 [.int .u8 0] (fun _ => True) (fun _ => False) rfl rfl ?aP (fun _ hk => hk.elim) ?aF ?aO ?aB ?aS ?aL ?_; (case aP => exact rfl); (case aB => exact (by repeat (first | (with_reducible first | exact HB.out | apply below_alloc | apply pw_below_drewN | apply below_drew1) | exact HB.out))); (case aF => exact (fun _ _ => trivial)); (case aO => exact (by (with_reducible repeat (first | apply Kd.R_alloc | apply Kd.R_drewN | apply Kd.R_drew)); exact HO_3.out)); (case aS => exact (below_size (by repeat (first | (with_reducible first | exact HB.out | apply below_alloc | apply pw_below_drewN | apply below_drew1) | exact HB.out)))); (case aL => have := LMc7.out; omega); intro v110 w8 ho hb hg hat; rw [← Ny109.out] at ho; have n0_ := Aside0.mk (hb); have n1_ := Aside0.mk (ho); clear HB; clear HO_3; have HB := n0_; have HO111 := n1_; clear n0_ n1_; clear ho hb hg hat))
          go_loopg [3, 5] k1 (fun kq v3 v5 w' => ∃ (x3_2 : List Int) (x5_2 : Int), v5 = .int .i64 x5_2 ∧ Aside0 (spec_expand.l1 kq a0 x3_2 x5_2 = some r) ∧ Aside0 (kq ≤ k1) ∧ Aside0 (Kd.R (Kd.int .u8) 5 w' w.heap.size (fun _ => True) v3 x3_2) ∧ Aside0 (Below w.heap.size w w'))
          case atStart => exact ⟨(y109), (0), (by first | rfl | (simp; done) | (simp [*]; done)), H', ⟨Nat.le_refl _⟩, ⟨by (with_reducible repeat (first | apply Kd.R_alloc | apply Kd.R_drewN | apply Kd.R_drew)); exact HO111.out⟩, ⟨by repeat (first | (with_reducible first | exact HB.out | apply below_alloc | apply pw_below_drewN | apply below_drew1) | exact HB.out)⟩⟩
          case round =>
            clear H'
            try clear c1
            try clear c2
            try clear c2b0
            try clear p2
            try clear c3
            try clear c3b0
            try clear p4
            try clear q4
            try clear hx4
            try clear c5
            try clear p6
            try clear c7
            try clear p4
            try clear q4
            obtain ⟨x3_2, x5_2, rfl, HA, HK2, HO_3, HB⟩ := hrel
            cases gk with
            | zero => exact absurd HA.out (by simp [spec_expand.l1])
            | succ k2 =>
              have H := HA.out
              clear HA
              simp only [spec_expand.l1] at H
              by_cases c9 : x5_2 < (a0.size : Int)
              · rw [if_pos c9] at H
                have c9b0 : decide (x5_2 < (a0.size : Int)) = true := decide_eq_true c9
                clear c9
                by_cases c10 : 0 ≤ x5_2
                · rw [if_pos c10] at H
                  have c10b0 : decide (0 ≤ x5_2) = true := decide_eq_true c10
                  clear c10
                  by_cases c12 : x3_2.length < 140737488355328
                  · rw [if_pos c12] at H
                    have LMc12 := Aside0.mk c12
                    clear c12
                    obtain ⟨y112, hy112⟩ : ∃ y_ : List Int, y_ = (x3_2 ++ [Int.tmod (bt a0 x5_2) 32]) := ⟨_, rfl⟩
                    replace H : (spec_expand.l1 k2 a0 y112 (wrap64 (x5_2 + 1))) = some r := by first | (rw [hy112]; with_reducible exact H) | (have H2_ := (Option.bind_some _ _).symm.trans H; rw [hy112]; with_reducible exact H2_) | (have H2_ := (Option.bind_some _ _).symm.trans H; with_reducible exact H2_) | with_reducible exact H | (rw [hy112]; exact H) | exact H
                    have Ny112 := Aside0.mk hy112
                    clear hy112
                    have H' := Aside0.mk H
                    clear H
                    have p11 : 0 ≤ (x5_2 : Int) := of_decide_eq_true (by first | (with_reducible assumption) | assumption)
                    have q11 : x5_2 < (a0.size : Int) := of_decide_eq_true (by first | (with_reducible assumption) | assumption)
                    have hx11 := bt_at a0 x5_2
                    replace p11 := eq_true p11
                    replace q11 := eq_true q11
                    go_wp2_with (first | ((with_reducible refine gate_builtin (b := .append) (xs := #[.tmp 28, .tmp 33]) rfl ?_); at_builtin; refine Kd.R_append (Kd.int .u8) (w0 := w) w.heap.size rfl (.tmp 28) (.tmp 33) 22 5 (.int .u8 0) 1 rfl Tryd.underlying22 info5 rfl (by decide) (by omega) u3 x3_2 (Int.tmod (bt a0 x5_2) 32) [.int .u8 (Int.tmod (bt a0 x5_2) 32)] (fun _ => True) (fun _ => False) rfl rfl ?aP (fun _ hk => hk.elim) ?aF ?aO ?aB ?aS ?aL ?_; (case aP => exact rfl); (case aB => exact (by repeat (first | (with_reducible first | exact HB.out | apply below_alloc | apply pw_below_drewN | apply below_drew1) | exact HB.out))); (case aF => exact (fun _ _ => trivial)); (case aO => exact (by (with_reducible repeat (first | apply Kd.R_alloc | apply Kd.R_drewN | apply Kd.R_drew)); exact HO_3.out)); (case aS => exact (below_size (by repeat (first | (with_reducible first | exact HB.out | apply below_alloc | apply pw_below_drewN | apply below_drew1) | exact HB.out)))); (case aL => have := LMc12.out; omega); intro v113 w13 ho hb hg hat; rw [← Ny112.out] at ho; have n0_ := Aside0.mk (hb); have n1_ := Aside0.mk (ho); clear HB; clear HO_3; have HB := n0_; have HO114 := n1_; clear n0_ n1_; clear ho hb hg hat))
                    go_roundg k2
                    case measure => have := HK1.out; have := HK2.out; omega
                    case rel => exact ⟨(y112), (wrap64 (x5_2 + 1)), (by first | rfl | (simp; done) | (simp [*]; done)), (by first | exact H' | (subst_vars; exact H')), ⟨by have := HK1.out; have := HK2.out; omega⟩, ⟨by (with_reducible repeat (first | apply Kd.R_alloc | apply Kd.R_drewN | apply Kd.R_drew)); exact HO114.out⟩, ⟨by repeat (first | (with_reducible first | exact HB.out | apply below_alloc | apply pw_below_drewN | apply below_drew1) | exact HB.out)⟩⟩
                  · rw [if_neg c12] at H
                    exact absurd H (by simp)
                · rw [if_neg c10] at H
                  exact absurd H (by simp)
              · rw [if_neg c9] at H
                have c9b0 : decide (x5_2 < (a0.size : Int)) = false := decide_eq_false c9
                clear c9
                obtain rfl := Option.some.inj H
                go_wp2
                go_ret
                exact ⟨_, by first | rfl | (simp [errW_none, errW_some] <;> rfl) | (simp [*, errW_none, errW_some] <;> rfl), by (with_reducible repeat (first | apply Kd.R_alloc | apply Kd.R_drewN | apply Kd.R_drew)); exact HO_3.out, by repeat (first | (with_reducible first | exact HB.out | apply below_alloc | apply pw_below_drewN | apply below_drew1) | exact HB.out)⟩
        · rw [if_neg c7] at H
          exact absurd H (by simp)

-- NOT PRINTED: function 4 (spec_ReadBech32)

-- NOT PRINTED: function 15 (bech32_lower)

end Go.Proofs.YtbbeedclkfcmeaaDoor.QFnReadBech32
