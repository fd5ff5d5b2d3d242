-- Made by a turned print (own tool turnprint.py over the kit print).
import Derived.Test.YtnbecklojmbbbaaQFnRegroupx0
namespace Go.Proofs.Ytnbecklojmbbbaa.QFnRegroup
open Go.RowKit Go.Proofs.YtnbecklojmbbbaaW.PrintWords Go.Proofs.YtnbecklojmbbbaaW.PrintLast Go.Proofs.YtnbecklojmbbbaaW.PrintMore
attribute [local go_sem] nn_mod256 nn_mod65536 nn_mod32 max2_int min2_int max_two min_two max_three min_three max_four min_four   -- for this text's walks alone
set_option linter.unusedVariables false
set_option linter.unusedSimpArgs false

/-! ### laws_same: function 13 -/
def laws_same.l0 : Nat → List Int → List Int → Int → Option (Bool)
  | 0, _, _, _ => none
  | k + 1, x0, x1, x5 => if x5 < (x0.length : Int) then (if 0 ≤ x5 then (if x5 < (x1.length : Int) then (if (rd x0 x5) = (rd x1 x5) then (laws_same.l0 k x0 x1 (wrap64 (x5 + 1))) else (some false)) else (none)) else (none)) else (some true)
def laws_same.f (k : Nat) (l0 : List Int) (l1 : List Int) : Option (Bool) := if (l0.length : Int) = (l1.length : Int) then (laws_same.l0 k l0 l1 0) else (some false)
theorem laws_same.mono_l : ∀ k, (∀ y0 y1 y2, LeO (laws_same.l0 k y0 y1 y2) (laws_same.l0 (k + 1) y0 y1 y2))
  | 0 => fun _ _ _ r h => by simp [laws_same.l0] at h
  | k + 1 => by
    have ih0 := laws_same.mono_l k
    · intro y0 y1 y2
      unfold laws_same.l0
      repeat' first
      | (with_reducible exact ih0 _ _ _)
      | (with_reducible exact LeO.refl _)
      | (with_reducible exact LeO.none _)
      | (with_reducible refine LeO.ite ?_ ?_)
      | (with_reducible refine LeO.bind ?_ (fun _ => ?_))
      | exact ih0 _ _ _
      | exact LeO.none _
      | refine LeO.ite ?_ ?_
      | refine LeO.bind ?_ (fun _ => ?_)
theorem laws_same.mono : ∀ a0 a1 k, LeO (laws_same.f k a0 a1) (laws_same.f (k + 1) a0 a1) := by
  intro a0 a1 k
  have ih0 := laws_same.mono_l k
  unfold laws_same.f
  repeat' first
      | (with_reducible exact ih0 _ _ _)
      | (with_reducible exact LeO.refl _)
      | (with_reducible exact LeO.none _)
      | (with_reducible refine LeO.ite ?_ ?_)
      | (with_reducible refine LeO.bind ?_ (fun _ => ?_))
      | exact ih0 _ _ _
      | exact LeO.none _
      | refine LeO.ite ?_ ?_
      | refine LeO.bind ?_ (fun _ => ?_)
set_option maxHeartbeats 8000000 in
set_option maxRecDepth 100000 in
theorem laws_same.calls (k : Nat) (A0 : Option Addr) (c0 : Nat) (l0 : List Int) (A1 : Option Addr) (c1 : Nat) (l1 : List Int) (r : Bool) (w : World) (hr0 : Kd.C (Kd.int .u8) w A0 l0.length l0) (hc0 : l0.length ≤ c0) (hr1 : Kd.C (Kd.int .u8) w A1 l1.length l1) (hc1 : l1.length ≤ c1) (h : laws_same.f k l0 l1 = some r) :
    Calls Try.prog 13 #[.slice A0 l0.length c0, .slice A1 l1.length c1] w fun e w' => e = .returned (.bool r) ∧ Drawn0 w w' := by
  have HR0 := Aside0.mk hr0
  have HC0 := Aside0.mk hc0
  clear hr0 hc0
  have HR1 := Aside0.mk hr1
  have HC1 := Aside0.mk hc1
  clear hr1 hc1
  have H : (if (l0.length : Int) = (l1.length : Int) then (laws_same.l0 k l0 l1 0) else (some false)) = some r := h
  clear h
  by_cases c3 : (l0.length : Int) = (l1.length : Int)
  · rw [if_pos c3] at H
    have c3b0 : ((l0.length : Int) == (l1.length : Int)) = true := beq_iff_eq.mpr c3
    have c3b1 : ((l0.length : Int) != (l1.length : Int)) = false := bne_eq_false_iff_eq.mpr c3
    have c3b2 : (l0.length == l1.length) = true := by first | simpa using c3 | (simp at c3 ⊢; omega)
    clear c3
    have H' := Aside0.mk H
    clear H
    go_enter Try.func13, Try.ntmps13
    go_wp2
    repeat (go_quiet (fail); try go_wp2)
    go_loopg [5] k (fun kq v5 w' => ∃ (x5_1 : Int), v5 = .int .i64 x5_1 ∧ Aside0 (laws_same.l0 kq l0 l1 x5_1 = some r) ∧ Aside0 (kq ≤ k) ∧ Drawn0 w w')
    case atStart => exact ⟨(0), (by first | rfl | (simp; done) | (simp [*]; done)), H', ⟨Nat.le_refl _⟩, by repeat (first | exact Drawn0.refl _ | apply Drawn0.step)⟩
    case round =>
      clear H'
      try clear c1
      try clear p2
      try clear c3
      try clear c3b0
      try clear c3b1
      try clear c3b2
      obtain ⟨x5_1, rfl, HA, HK1, ⟨m1, rfl⟩⟩ := hrel
      cases gk with
      | zero => exact absurd HA.out (by simp [laws_same.l0])
      | succ k1 =>
        have H := HA.out
        clear HA
        simp only [laws_same.l0] at H
        by_cases c4 : x5_1 < (l0.length : Int)
        · rw [if_pos c4] at H
          have c4b0 : decide (x5_1 < (l0.length : Int)) = true := decide_eq_true c4
          clear c4
          by_cases c5 : 0 ≤ x5_1
          · rw [if_pos c5] at H
            have c5b0 : decide (0 ≤ x5_1) = true := decide_eq_true c5
            clear c5
            by_cases c6 : x5_1 < (l1.length : Int)
            · rw [if_pos c6] at H
              have c6b0 : decide (x5_1 < (l1.length : Int)) = true := decide_eq_true c6
              clear c6
              by_cases c7 : (rd l0 x5_1) = (rd l1 x5_1)
              · rw [if_pos c7] at H
                have c7b0 : ((rd l0 x5_1) == (rd l1 x5_1)) = true := beq_iff_eq.mpr c7
                have c7b1 : ((rd l0 x5_1) != (rd l1 x5_1)) = false := bne_eq_false_iff_eq.mpr c7
                clear c7
                have H' := Aside0.mk H
                clear H
                have p101 : 0 ≤ (x5_1 : Int) := of_decide_eq_true (by first | (with_reducible assumption) | assumption)
                have q101 : x5_1 < (l0.length : Int) := of_decide_eq_true (by first | (with_reducible assumption) | assumption)
                obtain ⟨ad101, e101, hx101_0⟩ := Kd.at_int HR0.out x5_1 p101 q101
                cases e101
                replace p101 := eq_true p101
                replace q101 := eq_true q101
                have p102 : 0 ≤ (x5_1 : Int) := of_decide_eq_true (by first | (with_reducible assumption) | assumption)
                have q102 : x5_1 < (l1.length : Int) := of_decide_eq_true (by first | (with_reducible assumption) | assumption)
                obtain ⟨ad102, e102, hx102_0⟩ := Kd.at_int HR1.out x5_1 p102 q102
                cases e102
                replace p102 := eq_true p102
                replace q102 := eq_true q102
                go_wp2
                repeat (go_quiet (fail); try go_wp2)
                go_roundg k1
                case measure => have := HK1.out; omega
                case rel => exact ⟨(wrap64 (x5_1 + 1)), (by first | rfl | (simp; done) | (simp [*]; done)), H', ⟨by have := HK1.out; omega⟩, by repeat (first | exact Drawn0.refl _ | apply Drawn0.step)⟩
              · rw [if_neg c7] at H
                have c7b0 : ((rd l0 x5_1) == (rd l1 x5_1)) = false := beq_eq_false_iff_ne.mpr c7
                have c7b1 : ((rd l0 x5_1) != (rd l1 x5_1)) = true := bne_iff_ne.mpr c7
                obtain rfl := Option.some.inj H
                have p101 : 0 ≤ (x5_1 : Int) := of_decide_eq_true (by first | (with_reducible assumption) | assumption)
                have q101 : x5_1 < (l0.length : Int) := of_decide_eq_true (by first | (with_reducible assumption) | assumption)
                obtain ⟨ad101, e101, hx101_0⟩ := Kd.at_int HR0.out x5_1 p101 q101
                cases e101
                replace p101 := eq_true p101
                replace q101 := eq_true q101
                have p102 : 0 ≤ (x5_1 : Int) := of_decide_eq_true (by first | (with_reducible assumption) | assumption)
                have q102 : x5_1 < (l1.length : Int) := of_decide_eq_true (by first | (with_reducible assumption) | assumption)
                obtain ⟨ad102, e102, hx102_0⟩ := Kd.at_int HR1.out x5_1 p102 q102
                cases e102
                replace p102 := eq_true p102
                replace q102 := eq_true q102
                go_wp2
                repeat (go_quiet (fail); try go_wp2)
                go_ret
                exact ⟨by first | rfl | (simp; done) | (simp [*]; done), by repeat (first | exact Drawn0.refl _ | apply Drawn0.step)⟩
            · rw [if_neg c6] at H
              exact absurd H (by simp)
          · rw [if_neg c5] at H
            exact absurd H (by simp)
        · rw [if_neg c4] at H
          have c4b0 : decide (x5_1 < (l0.length : Int)) = false := decide_eq_false c4
          clear c4
          obtain rfl := Option.some.inj H
          go_wp2
          repeat (go_quiet (fail); try go_wp2)
          go_ret
          exact ⟨by first | rfl | (simp; done) | (simp [*]; done), by repeat (first | exact Drawn0.refl _ | apply Drawn0.step)⟩
  · rw [if_neg c3] at H
    have c3b0 : ((l0.length : Int) == (l1.length : Int)) = false := beq_eq_false_iff_ne.mpr c3
    have c3b1 : ((l0.length : Int) != (l1.length : Int)) = true := bne_iff_ne.mpr c3
    have c3b2 : (l0.length == l1.length) = false := by first | simpa using c3 | (simp at c3 ⊢; omega)
    obtain rfl := Option.some.inj H
    go_enter Try.func13, Try.ntmps13
    go_wp2
    repeat (go_quiet (fail); try go_wp2)
    go_ret
    exact ⟨by first | rfl | (simp; done) | (simp [*]; done), by repeat (first | exact Drawn0.refl _ | apply Drawn0.step)⟩

/-! ### spec_group: function 34 -/
def spec_group.l0 : Nat → List Int → Int → Int → Option (Int)
  | 0, _, _, _ => none
  | k + 1, x0, x3, x4 => if x4 < (x0.length : Int) then (if 0 ≤ x4 then (spec_group.l0 k x0 (((2 * x3) + (rd x0 x4)) % 256) (wrap64 (x4 + 1))) else (none)) else (some x3)
def spec_group.f (k : Nat) (l0 : List Int) : Option (Int) := spec_group.l0 k l0 0 0
theorem spec_group.mono_l : ∀ k, (∀ y0 y1 y2, LeO (spec_group.l0 k y0 y1 y2) (spec_group.l0 (k + 1) y0 y1 y2))
  | 0 => fun _ _ _ r h => by simp [spec_group.l0] at h
  | k + 1 => by
    have ih0 := spec_group.mono_l k
    · intro y0 y1 y2
      unfold spec_group.l0
      repeat' first
      | (with_reducible exact ih0 _ _ _)
      | (with_reducible exact LeO.refl _)
      | (with_reducible exact LeO.none _)
      | (with_reducible refine LeO.ite ?_ ?_)
      | (with_reducible refine LeO.bind ?_ (fun _ => ?_))
      | exact ih0 _ _ _
      | exact LeO.none _
      | refine LeO.ite ?_ ?_
      | refine LeO.bind ?_ (fun _ => ?_)
theorem spec_group.mono : ∀ a0 k, LeO (spec_group.f k a0) (spec_group.f (k + 1) a0) := by
  intro a0 k
  have ih0 := spec_group.mono_l k
  unfold spec_group.f
  repeat' first
      | (with_reducible exact ih0 _ _ _)
      | (with_reducible exact LeO.refl _)
      | (with_reducible exact LeO.none _)
      | (with_reducible refine LeO.ite ?_ ?_)
      | (with_reducible refine LeO.bind ?_ (fun _ => ?_))
      | exact ih0 _ _ _
      | exact LeO.none _
      | refine LeO.ite ?_ ?_
      | refine LeO.bind ?_ (fun _ => ?_)
set_option maxHeartbeats 8000000 in
set_option maxRecDepth 100000 in
theorem spec_group.calls (k : Nat) (A0 : Option Addr) (c0 : Nat) (l0 : List Int) (r : Int) (w : World) (hr0 : Kd.C (Kd.int .u8) w A0 l0.length l0) (hc0 : l0.length ≤ c0) (h : spec_group.f k l0 = some r) :
    Calls Try.prog 34 #[.slice A0 l0.length c0] w fun e w' => e = .returned (.int .u8 r) ∧ Drawn0 w w' := by
  have HR0 := Aside0.mk hr0
  have HC0 := Aside0.mk hc0
  clear hr0 hc0
  have H : (spec_group.l0 k l0 0 0) = some r := h
  clear h
  have H' := Aside0.mk H
  clear H
  go_enter Try.func34, Try.ntmps34
  go_wp2
  go_loopg [3, 4] k (fun kq v3 v4 w' => ∃ (x3_1 : Int) (x4_1 : Int), v3 = .int .u8 x3_1 ∧ v4 = .int .i64 x4_1 ∧ Aside0 (spec_group.l0 kq l0 x3_1 x4_1 = some r) ∧ Aside0 (kq ≤ k) ∧ Drawn0 w w')
  case atStart => exact ⟨(0), (0), (by first | rfl | (simp; done) | (simp [*]; done)), (by first | rfl | (simp; done) | (simp [*]; done)), H', ⟨Nat.le_refl _⟩, by repeat (first | exact Drawn0.refl _ | apply Drawn0.step)⟩
  case round =>
    clear H'
    obtain ⟨x3_1, x4_1, rfl, rfl, HA, HK1, ⟨m1, rfl⟩⟩ := hrel
    cases gk with
    | zero => exact absurd HA.out (by simp [spec_group.l0])
    | succ k1 =>
      have H := HA.out
      clear HA
      simp only [spec_group.l0] at H
      by_cases c2 : x4_1 < (l0.length : Int)
      · rw [if_pos c2] at H
        have c2b0 : decide (x4_1 < (l0.length : Int)) = true := decide_eq_true c2
        clear c2
        by_cases c3 : 0 ≤ x4_1
        · rw [if_pos c3] at H
          have c3b0 : decide (0 ≤ x4_1) = true := decide_eq_true c3
          clear c3
          have H' := Aside0.mk H
          clear H
          have p103 : 0 ≤ (x4_1 : Int) := of_decide_eq_true (by first | (with_reducible assumption) | assumption)
          have q103 : x4_1 < (l0.length : Int) := of_decide_eq_true (by first | (with_reducible assumption) | assumption)
          obtain ⟨ad103, e103, hx103_0⟩ := Kd.at_int HR0.out x4_1 p103 q103
          cases e103
          replace p103 := eq_true p103
          replace q103 := eq_true q103
          go_wp2
          go_roundg k1
          case measure => have := HK1.out; omega
          case rel => exact ⟨(((2 * x3_1) + (rd l0 x4_1)) % 256), (wrap64 (x4_1 + 1)), (by first | rfl | (simp; done) | (simp [*]; done)), (by first | rfl | (simp; done) | (simp [*]; done)), H', ⟨by have := HK1.out; omega⟩, by repeat (first | exact Drawn0.refl _ | apply Drawn0.step)⟩
        · rw [if_neg c3] at H
          exact absurd H (by simp)
      · rw [if_neg c2] at H
        have c2b0 : decide (x4_1 < (l0.length : Int)) = false := decide_eq_false c2
        clear c2
        obtain rfl := Option.some.inj H
        go_wp2
        go_ret
        exact ⟨by first | rfl | (simp; done) | (simp [*]; done), by repeat (first | exact Drawn0.refl _ | apply Drawn0.step)⟩

/-! ### spec_Regroup: function 16 -/
mutual
def spec_Regroup.l0 : Nat → List Int → Int → Int → Bool → List Int → Int → Option (List Int × Bool)
  | 0, _, _, _, _, _, _ => none
  | k + 1, x0, x1, x2, x3, x10, x11 => if x11 < (x0.length : Int) then (spec_Regroup.l1 k x0 x1 x2 x3 x10 x11 (wrap64 (x1 - 1))) else (spec_Regroup.l2 k x1 x2 x3 x10 ([] : List Int))
def spec_Regroup.l1 : Nat → List Int → Int → Int → Bool → List Int → Int → Int → Option (List Int × Bool)
  | 0, _, _, _, _, _, _, _ => none
  | k + 1, x0, x1, x2, x3, x10, x11, x12 => if x12 ≥ 0 then (if 0 ≤ x11 then (if x11 < (x0.length : Int) then (if 0 ≤ x12 then (if x10.length < 140737488355328 then (spec_Regroup.l1 k x0 x1 x2 x3 (x10 ++ [Go.bits .and .u8 (shr .u8 (rd x0 x11) x12) 1]) x11 (wrap64 (x12 - 1))) else (none)) else (none)) else (none)) else (none)) else (spec_Regroup.l0 k x0 x1 x2 x3 x10 (wrap64 (x11 + 1)))
def spec_Regroup.l2 : Nat → Int → Int → Bool → List Int → List Int → Option (List Int × Bool)
  | 0, _, _, _, _, _ => none
  | k + 1, x1, x2, x3, x10, x13 => if (x10.length : Int) ≥ x2 then (if 0 ≤ x2 then (if x2 ≤ (x10.length : Int) then ((spec_group.f k (x10.take (x2 : Int).toNat)).bind fun t112 => (if x13.length < 140737488355328 then (spec_Regroup.l2 k x1 x2 x3 (x10.drop (x2 : Int).toNat) (x13 ++ [t112])) else (none))) else (none)) else (none)) else (if (x10.length : Int) = 0 then (some (x13, true)) else ((spec_group.f k x10).bind fun t119 => (if 0 ≤ (wrap64 (x2 - (x10.length : Int))) then (if x3 = true then (if x13.length < 140737488355328 then (some ((x13 ++ [shl .u8 t119 (wrap64 (x2 - (x10.length : Int)))]), true)) else (none)) else (if (x10.length : Int) < x1 then (some (x13, ((shl .u8 t119 (wrap64 (x2 - (x10.length : Int)))) == 0))) else (some (x13, false)))) else (none))))
end
def spec_Regroup.f (k : Nat) (l0 : List Int) (a1 : Int) (a2 : Int) (a3 : Bool) : Option (List Int × Bool) := spec_Regroup.l0 k l0 a1 a2 a3 ([] : List Int) 0
theorem spec_Regroup.mono_l : ∀ k, (∀ y0 y1 y2 y3 y4 y5, LeO (spec_Regroup.l0 k y0 y1 y2 y3 y4 y5) (spec_Regroup.l0 (k + 1) y0 y1 y2 y3 y4 y5)) ∧ (∀ y0 y1 y2 y3 y4 y5 y6, LeO (spec_Regroup.l1 k y0 y1 y2 y3 y4 y5 y6) (spec_Regroup.l1 (k + 1) y0 y1 y2 y3 y4 y5 y6)) ∧ (∀ y0 y1 y2 y3 y4, LeO (spec_Regroup.l2 k y0 y1 y2 y3 y4) (spec_Regroup.l2 (k + 1) y0 y1 y2 y3 y4))
  | 0 => ⟨fun _ _ _ _ _ _ r h => by simp [spec_Regroup.l0] at h, fun _ _ _ _ _ _ _ r h => by simp [spec_Regroup.l1] at h, fun _ _ _ _ _ r h => by simp [spec_Regroup.l2] at h⟩
  | k + 1 => by
    obtain ⟨ih0, ih1, ih2⟩ := spec_Regroup.mono_l k
    refine ⟨?_, ?_, ?_⟩
    · intro y0 y1 y2 y3 y4 y5
      unfold spec_Regroup.l0
      repeat' first
      | (with_reducible exact ih0 _ _ _ _ _ _)
      | (with_reducible exact ih1 _ _ _ _ _ _ _)
      | (with_reducible exact ih2 _ _ _ _ _)
      | (with_reducible exact spec_group.mono _ _)
      | (with_reducible exact LeO.refl _)
      | (with_reducible exact LeO.none _)
      | (with_reducible refine LeO.ite ?_ ?_)
      | (with_reducible refine LeO.bind ?_ (fun _ => ?_))
      | exact ih0 _ _ _ _ _ _
      | exact ih1 _ _ _ _ _ _ _
      | exact ih2 _ _ _ _ _
      | exact spec_group.mono _ _
      | exact LeO.none _
      | refine LeO.ite ?_ ?_
      | refine LeO.bind ?_ (fun _ => ?_)
    · intro y0 y1 y2 y3 y4 y5 y6
      unfold spec_Regroup.l1
      repeat' first
      | (with_reducible exact ih0 _ _ _ _ _ _)
      | (with_reducible exact ih1 _ _ _ _ _ _ _)
      | (with_reducible exact ih2 _ _ _ _ _)
      | (with_reducible exact spec_group.mono _ _)
      | (with_reducible exact LeO.refl _)
      | (with_reducible exact LeO.none _)
      | (with_reducible refine LeO.ite ?_ ?_)
      | (with_reducible refine LeO.bind ?_ (fun _ => ?_))
      | exact ih0 _ _ _ _ _ _
      | exact ih1 _ _ _ _ _ _ _
      | exact ih2 _ _ _ _ _
      | exact spec_group.mono _ _
      | exact LeO.none _
      | refine LeO.ite ?_ ?_
      | refine LeO.bind ?_ (fun _ => ?_)
    · intro y0 y1 y2 y3 y4
      unfold spec_Regroup.l2
      repeat' first
      | (with_reducible exact ih0 _ _ _ _ _ _)
      | (with_reducible exact ih1 _ _ _ _ _ _ _)
      | (with_reducible exact ih2 _ _ _ _ _)
      | (with_reducible exact spec_group.mono _ _)
      | (with_reducible exact LeO.refl _)
      | (with_reducible exact LeO.none _)
      | (with_reducible refine LeO.ite ?_ ?_)
      | (with_reducible refine LeO.bind ?_ (fun _ => ?_))
      | exact ih0 _ _ _ _ _ _
      | exact ih1 _ _ _ _ _ _ _
      | exact ih2 _ _ _ _ _
      | exact spec_group.mono _ _
      | exact LeO.none _
      | refine LeO.ite ?_ ?_
      | refine LeO.bind ?_ (fun _ => ?_)
theorem spec_Regroup.mono : ∀ a0 a1 a2 a3 k, LeO (spec_Regroup.f k a0 a1 a2 a3) (spec_Regroup.f (k + 1) a0 a1 a2 a3) := by
  intro a0 a1 a2 a3 k
  obtain ⟨ih0, ih1, ih2⟩ := spec_Regroup.mono_l k
  unfold spec_Regroup.f
  repeat' first
      | (with_reducible exact ih0 _ _ _ _ _ _)
      | (with_reducible exact ih1 _ _ _ _ _ _ _)
      | (with_reducible exact ih2 _ _ _ _ _)
      | (with_reducible exact spec_group.mono _ _)
      | (with_reducible exact LeO.refl _)
      | (with_reducible exact LeO.none _)
      | (with_reducible refine LeO.ite ?_ ?_)
      | (with_reducible refine LeO.bind ?_ (fun _ => ?_))
      | exact ih0 _ _ _ _ _ _
      | exact ih1 _ _ _ _ _ _ _
      | exact ih2 _ _ _ _ _
      | exact spec_group.mono _ _
      | exact LeO.none _
      | refine LeO.ite ?_ ?_
      | refine LeO.bind ?_ (fun _ => ?_)
set_option maxHeartbeats 8000000 in
set_option maxRecDepth 100000 in
theorem spec_Regroup.calls (k : Nat) (A0 : Option Addr) (c0 : Nat) (l0 : List Int) (a1 : Int) (a2 : Int) (a3 : Bool) (r1 : List Int) (r2 : Bool) (w : World) (hr0 : Kd.C (Kd.int .u8) w A0 l0.length l0) (hc0 : l0.length ≤ c0) (h : spec_Regroup.f k l0 a1 a2 a3 = some (r1, r2)) :
    Calls Try.prog 16 #[.slice A0 l0.length c0, .int .i64 a1, .int .i64 a2, .bool a3] w fun e w' => ∃ v0_ : Value, e = .returned (.tuple #[v0_, .bool r2]) ∧ Kd.R (Kd.int .u8) 5 w' w.heap.size (fun _ => True) v0_ r1 ∧ Below w.heap.size w w' := by
  have HR0 := Aside0.mk hr0
  have HC0 := Aside0.mk hc0
  clear hr0 hc0
  have HB := Aside0.mk (Below.refl w.heap.size w)
  have H : (spec_Regroup.l0 k l0 a1 a2 a3 ([] : List Int) 0) = some (r1, r2) := h
  clear h
  have H' := Aside0.mk H
  clear H
  go_enter Try.func16, Try.ntmps16
  go_wp2
  go_loopg [10, 11] k (fun kq v10 v11 w' => ∃ (x10_1 : List Int) (x11_1 : Int), v11 = .int .i64 x11_1 ∧ Aside0 (spec_Regroup.l0 kq l0 a1 a2 a3 x10_1 x11_1 = some (r1, r2)) ∧ Aside0 (kq ≤ k) ∧ Aside0 (Kd.Q (Kd.int .u8) 5 w' w.heap.size (fun _ => True) v10 x10_1) ∧ Aside0 (Below w.heap.size w w'))
  case atStart => exact ⟨(([] : List Int)), (0), (by first | rfl | (simp; done) | (simp [*]; done)), H', ⟨Nat.le_refl _⟩, ⟨Kd.Q_of_R (by first | exact Kd.R_nil _ _ _ _ _ | exact Kd.N_nil _ _ _ _ _ | exact Kd.V_nil _ _ _ _ _ | exact Kd.Q_nil _ _ _ _ _ | exact Kd.S_nil _ _ _ _ _)⟩, ⟨by repeat (first | (with_reducible first | exact HB.out | apply below_alloc | apply pw_below_drewN | apply below_drew1) | exact HB.out)⟩⟩
  case round =>
    clear H'
    try clear c1
    try clear p2
    obtain ⟨x10_1, x11_1, rfl, HA, HK1, HO_10, HB⟩ := hrel
    cases gk with
    | zero => exact absurd HA.out (by simp [spec_Regroup.l0])
    | succ k1 =>
      have H := HA.out
      clear HA
      simp only [spec_Regroup.l0] at H
      by_cases c5 : x11_1 < (l0.length : Int)
      · rw [if_pos c5] at H
        have c5b0 : decide (x11_1 < (l0.length : Int)) = true := decide_eq_true c5
        clear c5
        have H' := Aside0.mk H
        clear H
        go_wp2
        go_loopg [10, 12] k1 (fun kq v10 v12 w' => ∃ (x10_2 : List Int) (x12_2 : Int), v12 = .int .i64 x12_2 ∧ Aside0 (spec_Regroup.l1 kq l0 a1 a2 a3 x10_2 x11_1 x12_2 = some (r1, r2)) ∧ Aside0 (kq ≤ k1) ∧ Aside0 (Kd.Q (Kd.int .u8) 5 w' w.heap.size (fun _ => True) v10 x10_2) ∧ Aside0 (Below w.heap.size w w'))
        case atStart => exact ⟨(x10_1), (wrap64 (a1 - 1)), (by first | rfl | (simp; done) | (simp [*]; done)), H', ⟨Nat.le_refl _⟩, ⟨by (with_reducible repeat (first | apply Kd.Q_alloc | apply Kd.Q_drewN | apply Kd.Q_drew)); exact HO_10.out⟩, ⟨by repeat (first | (with_reducible first | exact HB.out | apply below_alloc | apply pw_below_drewN | apply below_drew1) | exact HB.out)⟩⟩
        case round =>
          clear H'
          try clear c1
          try clear p2
          try clear c5
          try clear c5b0
          try clear p2
          obtain ⟨x10_2, x12_2, rfl, HA, HK2, HO_10, HB⟩ := hrel
          cases gk with
          | zero => exact absurd HA.out (by simp [spec_Regroup.l1])
          | succ k2 =>
            have H := HA.out
            clear HA
            simp only [spec_Regroup.l1] at H
            by_cases c6 : x12_2 ≥ 0
            · rw [if_pos c6] at H
              have c6b0 : decide (0 ≤ x12_2) = true := decide_eq_true c6
              clear c6
              by_cases c7 : 0 ≤ x11_1
              · rw [if_pos c7] at H
                have c7b0 : decide (0 ≤ x11_1) = true := decide_eq_true c7
                clear c7
                by_cases c8 : x11_1 < (l0.length : Int)
                · rw [if_pos c8] at H
                  have c8b0 : decide (x11_1 < (l0.length : Int)) = true := decide_eq_true c8
                  clear c8
                  by_cases c9 : 0 ≤ x12_2
                  · rw [if_pos c9] at H
                    have c9b0 := eq_true c9
                    have c9b1 : decide (0 ≤ x12_2) = true := decide_eq_true c9
                    clear c9
                    obtain ⟨ji10, hji10⟩ : ∃ j_ : Int, (shr .u8 (rd l0 x11_1) x12_2) = j_ := ⟨_, rfl⟩
                    replace H : (if x10_2.length < 140737488355328 then (spec_Regroup.l1 k2 l0 a1 a2 a3 (x10_2 ++ [Go.bits .and .u8 (ji10) 1]) x11_1 (wrap64 (x12_2 - 1))) else (none)) = some (r1, r2) := by first | (rw [hji10] at H; exact H) | (simp only [hji10] at H ⊢; exact H)
                    have hji10_ : ((rd l0 x11_1) / 2 ^ min x12_2.toNat 8) = ji10 := hji10
                    have hji10z : x12_2 ≤ 8 → ((rd l0 x11_1) / 2 ^ x12_2.toNat) = ji10 := shr_small hji10
                    by_cases c11 : x10_2.length < 140737488355328
                    · rw [if_pos c11] at H
                      have LMc11 := Aside0.mk c11
                      clear c11
                      obtain ⟨y105, hy105⟩ : ∃ y_ : List Int, y_ = (x10_2 ++ [Go.bits .and .u8 (ji10) 1]) := ⟨_, rfl⟩
                      replace H : (spec_Regroup.l1 k2 l0 a1 a2 a3 y105 x11_1 (wrap64 (x12_2 - 1))) = some (r1, r2) := by first | (rw [hy105]; with_reducible exact H) | (have H2_ := (Option.bind_some _ _).symm.trans H; rw [hy105]; with_reducible exact H2_) | (have H2_ := (Option.bind_some _ _).symm.trans H; with_reducible exact H2_) | with_reducible exact H | (rw [hy105]; exact H) | exact H
                      have Ny105 := Aside0.mk hy105
                      clear hy105
                      have H' := Aside0.mk H
                      clear H
                      have p104 : 0 ≤ (x11_1 : Int) := of_decide_eq_true (by first | (with_reducible assumption) | assumption)
                      have q104 : x11_1 < (l0.length : Int) := of_decide_eq_true (by first | (with_reducible assumption) | assumption)
                      obtain ⟨ad104, e104, hx104_0⟩ := Kd.at_int HR0.out x11_1 p104 q104
                      cases e104
                      replace hx104_0 := (HB.out.cell (World.block_lt_of_cell? w _ hx104_0)).trans hx104_0
                      replace p104 := eq_true p104
                      replace q104 := eq_true q104
                      go_wp2_with (first | ((with_reducible refine gate_builtin (b := .append) (xs := #[.tmp 27, .tmp 35]) rfl ?_); at_builtin; refine Kd.Q_append (Kd.int .u8) (w0 := w) w.heap.size rfl (.tmp 27) (.tmp 35) 27 5 (.int .u8 0) 1 rfl Try.underlying27 info5 rfl (by decide) (by omega) u10 x10_2 (Go.bits .and .u8 (ji10) 1) [.int .u8 (Go.bits .and .u8 (ji10) 1)] (fun _ => True) (fun _ => False) rfl rfl ?aP (fun _ hk => hk.elim) ?aF ?aO ?aB ?aS ?aL ?_; (case aP => exact rfl); (case aB => exact (by repeat (first | (with_reducible first | exact HB.out | apply below_alloc | apply pw_below_drewN | apply below_drew1) | exact HB.out))); (case aF => exact (fun _ _ => trivial)); (case aO => exact (by (with_reducible repeat (first | apply Kd.Q_alloc | apply Kd.Q_drewN | apply Kd.Q_drew)); exact HO_10.out)); (case aS => exact (below_size (by repeat (first | (with_reducible first | exact HB.out | apply below_alloc | apply pw_below_drewN | apply below_drew1) | exact HB.out)))); (case aL => have := LMc11.out; omega); intro v106 w12 ho hb hg hat; rw [← Ny105.out] at ho; have n0_ := Aside0.mk (hb); have n1_ := Aside0.mk (ho); clear HB; clear HO_10; have HB := n0_; have HO107 := n1_; clear n0_ n1_; clear ho hb hg hat))
                      go_roundg k2
                      case measure => have := HK1.out; have := HK2.out; omega
                      case rel => exact ⟨(y105), (wrap64 (x12_2 - 1)), (by first | rfl | (simp; done) | (simp [*]; done)), H', ⟨by have := HK1.out; have := HK2.out; omega⟩, ⟨by (with_reducible repeat (first | apply Kd.Q_alloc | apply Kd.Q_drewN | apply Kd.Q_drew)); exact HO107.out⟩, ⟨by repeat (first | (with_reducible first | exact HB.out | apply below_alloc | apply pw_below_drewN | apply below_drew1) | exact HB.out)⟩⟩
                    · rw [if_neg c11] at H
                      exact absurd H (by simp)
                  · rw [if_neg c9] at H
                    exact absurd H (by simp)
                · rw [if_neg c8] at H
                  exact absurd H (by simp)
              · rw [if_neg c7] at H
                exact absurd H (by simp)
            · rw [if_neg c6] at H
              have c6b0 : decide (0 ≤ x12_2) = false := decide_eq_false c6
              clear c6
              have H' := Aside0.mk H
              clear H
              go_wp2
              go_roundg k2
              case measure => have := HK1.out; have := HK2.out; omega
              case rel => exact ⟨(x10_2), (wrap64 (x11_1 + 1)), (by first | rfl | (simp; done) | (simp [*]; done)), H', ⟨by have := HK1.out; have := HK2.out; omega⟩, ⟨by (with_reducible repeat (first | apply Kd.Q_alloc | apply Kd.Q_drewN | apply Kd.Q_drew)); exact HO_10.out⟩, ⟨by repeat (first | (with_reducible first | exact HB.out | apply below_alloc | apply pw_below_drewN | apply below_drew1) | exact HB.out)⟩⟩
      · rw [if_neg c5] at H
        have c5b0 : decide (x11_1 < (l0.length : Int)) = false := decide_eq_false c5
        clear c5
        have H' := Aside0.mk H
        clear H
        go_wp2
        go_loopg [10, 13] k1 (fun kq v10 v13 w' => ∃ (x10_2 : List Int) (x13_2 : List Int), Aside0 (spec_Regroup.l2 kq a1 a2 a3 x10_2 x13_2 = some (r1, r2)) ∧ Aside0 (kq ≤ k1) ∧ Aside0 (Kd.Q (Kd.int .u8) 5 w' w.heap.size (fun k_ => some k_ ≠ (v13 : Value).ownBlock) v10 x10_2) ∧ Aside0 (Kd.R (Kd.int .u8) 5 w' w.heap.size (fun k_ => some k_ ≠ (v10 : Value).ownBlock) v13 x13_2) ∧ Aside0 (Below w.heap.size w w'))
        case atStart => exact ⟨(x10_1), (([] : List Int)), H', ⟨Nat.le_refl _⟩, ⟨by (with_reducible repeat (first | apply Kd.Q_alloc | apply Kd.Q_drewN | apply Kd.Q_drew)); exact Kd.Q_mono HO_10.out (fun _ hk => (by simp [Value.ownBlock]))⟩, ⟨by first | exact Kd.R_nil _ _ _ _ _ | exact Kd.N_nil _ _ _ _ _ | exact Kd.V_nil _ _ _ _ _ | exact Kd.Q_nil _ _ _ _ _ | exact Kd.S_nil _ _ _ _ _⟩, ⟨by repeat (first | (with_reducible first | exact HB.out | apply below_alloc | apply pw_below_drewN | apply below_drew1) | exact HB.out)⟩⟩
        case round =>
          clear H'
          try clear c1
          try clear p1
          try clear q1
          try clear hx1
          try clear p2
          try clear c5
          try clear c5b0
          try clear c6
          try clear c6b0
          try clear p6
          try clear c7
          try clear c7b0
          try clear c8
          try clear c8b0
          try clear c9
          try clear c9b0
          try clear c9b1
          try clear p10
          try clear q10
          try clear hx10
          try clear c11
          try clear hx104_0
          try clear p104
          try clear p2
          try clear q104
          obtain ⟨x10_2, x13_2, HA, HK2, HO_10, HO_13, HB⟩ := hrel
          cases gk with
          | zero => exact absurd HA.out (by simp [spec_Regroup.l2])
          | succ k2 =>
            have H := HA.out
            clear HA
            simp only [spec_Regroup.l2] at H
            by_cases c13 : (x10_2.length : Int) ≥ a2
            · rw [if_pos c13] at H
              have c13b0 : decide (a2 ≤ (x10_2.length : Int)) = true := decide_eq_true c13
              clear c13
              by_cases c14 : 0 ≤ a2
              · rw [if_pos c14] at H
                have c14b0 := eq_true c14
                have c14b1 : decide (0 ≤ a2) = true := decide_eq_true c14
                clear c14
                by_cases c15 : a2 ≤ (x10_2.length : Int)
                · rw [if_pos c15] at H
                  have c15b0 := eq_true c15
                  have c15b1 : decide (a2 ≤ (x10_2.length : Int)) = true := decide_eq_true c15
                  clear c15
                  obtain ⟨y108, hy108⟩ : ∃ y_ : List Int, y_ = (x10_2.take (a2 : Int).toNat) := ⟨_, rfl⟩
                  replace H : ((spec_group.f k2 y108).bind fun t112 => (if x13_2.length < 140737488355328 then (spec_Regroup.l2 k2 a1 a2 a3 (x10_2.drop (a2 : Int).toNat) (x13_2 ++ [t112])) else (none))) = some (r1, r2) := by first | (rw [hy108]; with_reducible exact H) | (have H2_ := (Option.bind_some _ _).symm.trans H; rw [hy108]; with_reducible exact H2_) | (have H2_ := (Option.bind_some _ _).symm.trans H; with_reducible exact H2_) | with_reducible exact H | (rw [hy108]; exact H) | exact H
                  have Ny108 := Aside0.mk hy108
                  clear hy108
                  replace H := Option.bind_eq_some_iff.mp H
                  obtain ⟨t112, A160, H⟩ := H
                  replace H : (if x13_2.length < 140737488355328 then (spec_Regroup.l2 k2 a1 a2 a3 (x10_2.drop (a2 : Int).toNat) (x13_2 ++ [t112])) else (none)) = some (r1, r2) := H
                  have A16 := Aside0.mk A160
                  clear A160
                  by_cases c17 : x13_2.length < 140737488355328
                  · rw [if_pos c17] at H
                    have LMc17 := Aside0.mk c17
                    clear c17
                    obtain ⟨y113, hy113⟩ : ∃ y_ : List Int, y_ = (x13_2 ++ [t112]) := ⟨_, rfl⟩
                    replace H : (spec_Regroup.l2 k2 a1 a2 a3 (x10_2.drop (a2 : Int).toNat) y113) = some (r1, r2) := by first | (rw [hy113]; with_reducible exact H) | (have H2_ := (Option.bind_some _ _).symm.trans H; rw [hy113]; with_reducible exact H2_) | (have H2_ := (Option.bind_some _ _).symm.trans H; with_reducible exact H2_) | with_reducible exact H | (rw [hy113]; exact H) | exact H
                    have Ny113 := Aside0.mk hy113
                    clear hy113
                    have c18b0 := eq_true (of_decide_eq_true (by first | (with_reducible assumption) | assumption) : a2 ≤ (x10_2.length : Int))
                    obtain ⟨y116, hy116⟩ : ∃ y_ : List Int, y_ = (x10_2.drop (a2 : Int).toNat) := ⟨_, rfl⟩
                    replace H : (spec_Regroup.l2 k2 a1 a2 a3 y116 y113) = some (r1, r2) := by first | (rw [hy116]; with_reducible exact H) | (have H2_ := (Option.bind_some _ _).symm.trans H; rw [hy116]; with_reducible exact H2_) | (have H2_ := (Option.bind_some _ _).symm.trans H; with_reducible exact H2_) | with_reducible exact H | (rw [hy116]; exact H) | exact H
                    have Ny116 := Aside0.mk hy116
                    clear hy116
                    have H' := Aside0.mk H
                    clear H
                    obtain ⟨Ao19, co19, eo19, _⟩ := Kd.Q_slice HO_10.out
                    subst eo19
                    have q20 : (a2 : Int) ≤ ((x10_2.length : Int) : Int) := of_decide_eq_true (by first | (with_reducible assumption) | assumption)
                    obtain ⟨i020, hi020, _, hsz20, _⟩ := info_parts info5
                    have hroom20 : x10_2.length ≤ co19 := (Kd.Q_reads' HO_10.out).2.1
                    have hC20 : Kd.C (Kd.int .u8) _ Ao19 x10_2.length x10_2 := (Kd.Q_reads' HO_10.out).2.2
                    have hcut20 := cut_to (P := Try.prog) 27 5 .i64 Try.underlying27 hi020 Ao19 x10_2.length co19 a2 (of_decide_eq_true (by first | (with_reducible assumption) | assumption)) q20 hroom20
                    have hr20 := Kd.C_take (m := (a2 : Int).toNat) hC20 (by omega)
                    have hy20 : y108.length = (a2 : Int).toNat := (by rw [Ny108.out, List.length_take]; omega)
                    rw [← Ny108.out] at hr20
                    rw [← hy20] at hcut20
                    have HR111 := Aside0.mk hr20
                    have HC111 := Aside0.mk (show y108.length ≤ co19 from by omega)
                    clear hr20 hC20 hroom20 hi020 hsz20
                    have KY20 := Aside0.mk hy20
                    clear hy20
                    have KL20 := Aside0.mk (show (a2 : Int).toNat ≤ x10_2.length from by omega)
                    replace q20 := eq_true q20
                    go_wp2_with (first | ((with_reducible refine gate_callee (f := 34) rfl ?_); refine goesL_ (some 45) rfl rfl Try.func34 (by kernel_rfl) rfl #[.slice Ao19 y108.length co19] rfl (by (try simp only [List.map_toArray, List.map_cons, List.map_nil]); first | done | rfl | (simp only [List.length_drop, List.length_take]; rfl)) ?_; (with_reducible refine (spec_group.calls k2 _ _ y108 t112 _ ?side1 ?side2 A16.out).mono ?_); (case side1 => repeat (first | exact (by repeat (first | (with_reducible exact HR111.out) | (with_reducible refine Kd.C_alloc ?_ _) | (with_reducible refine Kd.C_drewN ?_ _) | (with_reducible refine Kd.C_drew ?_) | exact HR111.out)) | (with_reducible refine Kd.C_alloc ?_ _) | (with_reducible refine Kd.C_drewN ?_ _) | (with_reducible refine Kd.C_drew ?_))); (case side2 => exact HC111.out); rintro e w' ⟨rfl, ⟨nd, rfl⟩⟩; refine ⟨_, rfl, ?_⟩) | ((with_reducible refine gate_builtin (b := .append) (xs := #[.tmp 41, .tmp 46]) rfl ?_); at_builtin; refine Kd.R_append (Kd.int .u8) (w0 := w) w.heap.size rfl (.tmp 41) (.tmp 46) 27 5 (.int .u8 0) 1 rfl Try.underlying27 info5 rfl (by decide) (by omega) u13 x13_2 t112 [.int .u8 t112] (fun k_ => some k_ ≠ (.slice Ao19 x10_2.length co19 : Value).ownBlock) (fun _ => False) rfl rfl ?aP (fun _ hk => hk.elim) ?aF ?aO ?aB ?aS ?aL ?_; (case aP => exact rfl); (case aB => exact (by repeat (first | (with_reducible first | exact HB.out | apply below_alloc | apply pw_below_drewN | apply below_drew1) | exact HB.out))); (case aF => exact (fun k_ hk => Kd.fresh' (Kd.Q_lt (by (with_reducible repeat (first | apply Kd.Q_alloc | apply Kd.Q_drewN | apply Kd.Q_drew)); exact HO_10.out)) k_ hk)); (case aO => exact (by (with_reducible repeat (first | apply Kd.R_alloc | apply Kd.R_drewN | apply Kd.R_drew)); exact HO_13.out)); (case aS => exact (below_size (by repeat (first | (with_reducible first | exact HB.out | apply below_alloc | apply pw_below_drewN | apply below_drew1) | exact HB.out)))); (case aL => have := LMc17.out; omega); intro v114 w21 ho hb hg hat; rw [← Ny113.out] at ho; have n0_ := Aside0.mk (Kd.Q_after (ok := (fun _ => True)) (by (with_reducible repeat (first | apply Kd.Q_alloc | apply Kd.Q_drewN | apply Kd.Q_drew)); exact Kd.Q_mono HO_10.out (fun _ hk => ⟨trivial, hk⟩)) hg hat); have n1_ := Aside0.mk (hb); have n2_ := Aside0.mk ((show Kd.C (Kd.int .u8) w21 Ao19 y108.length y108 from by rw [Ny108.out]; exact Kd.C_take (m := (a2 : Int).toNat) ((Kd.Q_reads' (Kd.Q_after (ok := (fun _ => True)) (by (with_reducible repeat (first | apply Kd.Q_alloc | apply Kd.Q_drewN | apply Kd.Q_drew)); exact Kd.Q_mono HO_10.out (fun _ hk => ⟨trivial, hk⟩)) hg hat)).2.2) KL20.out)); have n3_ := Aside0.mk (ho); clear HO_10; clear HB; clear HR111; clear HO_13; have HO_10 := n0_; have HB := n1_; have HR111 := n2_; have HO115 := n3_; clear n0_ n1_ n2_ n3_; clear ho hb hg hat; have n_ := Aside0.mk (Kd.Q_mono (ok' := (fun k_ => some k_ ≠ (v114 : Value).ownBlock)) HO_10.out (fun k_ hk => hk.2)); clear HO_10; have HO_10 := n_; clear n_; have q22 : (a2 : Int) ≤ ((x10_2.length : Int) : Int) := of_decide_eq_true (by first | (with_reducible assumption) | assumption); obtain ⟨i022, hi022, _, hsz22, _⟩ := info_parts info5; have hcut22 := cut_from (P := Try.prog) 27 5 .i64 Try.underlying27 hi022 1 hsz22 Ao19 x10_2.length co19 a2 (of_decide_eq_true (by first | (with_reducible assumption) | assumption)) q22; have hr22 := Kd.Q_drop (k := (a2 : Int).toNat) HO_10.out (by omega); obtain ⟨A22, hA22⟩ : ∃ A1, A1 = (if co19 = (a2 : Int).toNat then Ao19 else (Ao19 : Option Addr).map (·.add ((a2 : Int).toNat * 1))) := ⟨_, rfl⟩; obtain ⟨c22, hc22⟩ : ∃ c1, c1 = co19 - (a2 : Int).toNat := ⟨_, rfl⟩; have hy22 : y116.length = x10_2.length - (a2 : Int).toNat := (by rw [Ny116.out, List.length_drop]); rw [← Ny116.out] at hr22; rw [← hy22, ← hA22, ← hc22] at hcut22; replace hr22 : Kd.Q (Kd.int .u8) 5 w21 w.heap.size (fun k_ => some k_ ≠ (v114 : Value).ownBlock) (.slice A22 y116.length c22) y116 := (by rw [hA22, hc22, hy22]; exact hr22); have HE22 : Aside0 ((Value.slice A22 y116.length c22).ownBlock = (.slice Ao19 x10_2.length co19 : Value).ownBlock) := ⟨by rw [hA22]; split <;> (cases (Ao19 : Option Addr) <;> first | rfl | (simp only [Option.map, Value.ownBlock, Addr.add]; split <;> rfl))⟩; clear hy22 hi022 hsz22 HO_10 hA22 hc22; have HO118 := Aside0.mk hr22; clear hr22; replace q22 := eq_true q22; have n_ := Aside0.mk (Kd.R_mono (ok' := fun k_ => some k_ ≠ (.slice A22 y116.length c22 : Value).ownBlock) HO115.out (fun k_ hk => (by rw [HE22.out]; exact hk))); clear HO115; have HO115 := n_; clear n_))
                    go_roundg k2
                    case measure => have := HK1.out; have := HK2.out; omega
                    case rel => exact ⟨(y116), (y113), H', ⟨by have := HK1.out; have := HK2.out; omega⟩, ⟨by (with_reducible repeat (first | apply Kd.Q_alloc | apply Kd.Q_drewN | apply Kd.Q_drew)); exact HO118.out⟩, ⟨by (with_reducible repeat (first | apply Kd.R_alloc | apply Kd.R_drewN | apply Kd.R_drew)); exact HO115.out⟩, ⟨by repeat (first | (with_reducible first | exact HB.out | apply below_alloc | apply pw_below_drewN | apply below_drew1) | exact HB.out)⟩⟩
                  · rw [if_neg c17] at H
                    exact absurd H (by simp)
                · rw [if_neg c15] at H
                  exact absurd H (by simp)
              · rw [if_neg c14] at H
                exact absurd H (by simp)
            · rw [if_neg c13] at H
              have c13b0 : decide (a2 ≤ (x10_2.length : Int)) = false := decide_eq_false c13
              clear c13
              by_cases c23 : (x10_2.length : Int) = 0
              · rw [if_pos c23] at H
                have c23b0 : ((x10_2.length : Int) == 0) = true := beq_iff_eq.mpr c23
                have c23b1 : ((x10_2.length : Int) != 0) = false := bne_eq_false_iff_eq.mpr c23
                clear c23
                simp only [Option.some.injEq, Prod.mk.injEq] at H
                obtain ⟨rfl, rfl⟩ := H
                obtain ⟨Ao24, co24, eo24, _⟩ := Kd.Q_slice HO_10.out
                subst eo24
                go_wp2
                go_ret2
                exact ⟨_, by first | rfl | (simp [errW_none, errW_some] <;> rfl) | (simp [*, errW_none, errW_some] <;> rfl), by (with_reducible repeat (first | apply Kd.R_alloc | apply Kd.R_drewN | apply Kd.R_drew)); exact Kd.R_mono HO_13.out (fun _ hk => trivial), by repeat (first | (with_reducible first | exact HB.out | apply below_alloc | apply pw_below_drewN | apply below_drew1) | exact HB.out)⟩
              · rw [if_neg c23] at H
                have c23b0 : ((x10_2.length : Int) == 0) = false := beq_eq_false_iff_ne.mpr c23
                have c23b1 : ((x10_2.length : Int) != 0) = true := bne_iff_ne.mpr c23
                have c23b2 : ¬ (x10_2 = []) := fun h_ => c23 (by rw [h_]; rfl)
                replace H := Option.bind_eq_some_iff.mp H
                obtain ⟨t119, A250, H⟩ := H
                replace H : (if 0 ≤ (wrap64 (a2 - (x10_2.length : Int))) then (if a3 = true then (if x13_2.length < 140737488355328 then (some ((x13_2 ++ [shl .u8 t119 (wrap64 (a2 - (x10_2.length : Int)))]), true)) else (none)) else (if (x10_2.length : Int) < a1 then (some (x13_2, ((shl .u8 t119 (wrap64 (a2 - (x10_2.length : Int)))) == 0))) else (some (x13_2, false)))) else (none)) = some (r1, r2) := H
                have A25 := Aside0.mk A250
                clear A250
                obtain ⟨ji26, hji26⟩ : ∃ j_ : Int, (wrap64 (a2 - (x10_2.length : Int))) = j_ := ⟨_, rfl⟩
                replace H : (if 0 ≤ (ji26) then (if a3 = true then (if x13_2.length < 140737488355328 then (some ((x13_2 ++ [shl .u8 t119 (ji26)]), true)) else (none)) else (if (x10_2.length : Int) < a1 then (some (x13_2, ((shl .u8 t119 (ji26)) == 0))) else (some (x13_2, false)))) else (none)) = some (r1, r2) := by first | (rw [hji26] at H; exact H) | (simp only [hji26] at H ⊢; exact H)
                (try rw [hji26] at A25)
                have hji26w : (IntKind.i64.wrap (a2 - (x10_2.length : Int))) = ji26 := (i64_w _).trans hji26
                by_cases c27 : 0 ≤ (ji26)
                · rw [if_pos c27] at H
                  have c27b0 := eq_true c27
                  have c27b1 : decide (0 ≤ (ji26)) = true := decide_eq_true c27
                  clear c27
                  obtain ⟨ji28, hji28⟩ : ∃ j_ : Int, (shl .u8 t119 (ji26)) = j_ := ⟨_, rfl⟩
                  replace H : (if a3 = true then (if x13_2.length < 140737488355328 then (some ((x13_2 ++ [ji28]), true)) else (none)) else (if (x10_2.length : Int) < a1 then (some (x13_2, ((ji28) == 0))) else (some (x13_2, false)))) = some (r1, r2) := by first | (rw [hji28] at H; exact H) | (simp only [hji28] at H ⊢; exact H)
                  (try rw [hji28] at A25)
                  have hji28_ : (IntKind.u8.wrap (t119 * 2 ^ min (ji26).toNat 8)) = ji28 := hji28
                  have hji28z : (ji26) ≤ 8 → (IntKind.u8.wrap (t119 * 2 ^ (ji26).toNat)) = ji28 := shl_small hji28
                  by_cases c29 : a3 = true
                  · subst c29
                    have H1 : (if x13_2.length < 140737488355328 then (some ((x13_2 ++ [ji28]), true)) else (none)) = some (r1, r2) := by rw [if_pos rfl] at H; exact H
                    clear H
                    have H := H1
                    clear H1
                    by_cases c30 : x13_2.length < 140737488355328
                    · rw [if_pos c30] at H
                      have LMc30 := Aside0.mk c30
                      clear c30
                      obtain ⟨y120, hy120⟩ : ∃ y_ : List Int, y_ = (x13_2 ++ [ji28]) := ⟨_, rfl⟩
                      replace H : (some (y120, true)) = some (r1, r2) := by first | (rw [hy120]; with_reducible exact H) | (have H2_ := (Option.bind_some _ _).symm.trans H; rw [hy120]; with_reducible exact H2_) | (have H2_ := (Option.bind_some _ _).symm.trans H; with_reducible exact H2_) | with_reducible exact H | (rw [hy120]; exact H) | exact H
                      have Ny120 := Aside0.mk hy120
                      clear hy120
                      simp only [Option.some.injEq, Prod.mk.injEq] at H
                      obtain ⟨rfl, rfl⟩ := H
                      obtain ⟨Ao31, co31, eo31, _⟩ := Kd.Q_slice HO_10.out
                      subst eo31
                      go_wp2_with (first | ((with_reducible refine gate_callee (f := 34) rfl ?_); refine goesL_ (some 56) rfl rfl Try.func34 (by kernel_rfl) rfl #[.slice Ao31 x10_2.length co31] rfl (by (try simp only [List.map_toArray, List.map_cons, List.map_nil]); first | done | rfl | (simp only [List.length_drop, List.length_take]; rfl)) ?_; (with_reducible refine (spec_group.calls k2 _ _ x10_2 t119 _ ?side1 ?side2 A25.out).mono ?_); (case side1 => repeat (first | exact (Kd.Q_reads' HO_10.out).2.2 | (with_reducible refine Kd.C_alloc ?_ _) | (with_reducible refine Kd.C_drewN ?_ _) | (with_reducible refine Kd.C_drew ?_))); (case side2 => exact (Kd.Q_reads' HO_10.out).2.1); rintro e w' ⟨rfl, ⟨nd, rfl⟩⟩; refine ⟨_, rfl, ?_⟩) | ((with_reducible refine gate_builtin (b := .append) (xs := #[.tmp 63, .tmp 65]) rfl ?_); at_builtin; refine Kd.R_append (Kd.int .u8) (w0 := w) w.heap.size rfl (.tmp 63) (.tmp 65) 27 5 (.int .u8 0) 1 rfl Try.underlying27 info5 rfl (by decide) (by omega) u13 x13_2 ji28 [.int .u8 ji28] (fun k_ => some k_ ≠ (.slice Ao31 x10_2.length co31 : Value).ownBlock) (fun _ => False) rfl rfl ?aP (fun _ hk => hk.elim) ?aF ?aO ?aB ?aS ?aL ?_; (case aP => exact rfl); (case aB => exact (by repeat (first | (with_reducible first | exact HB.out | apply below_alloc | apply pw_below_drewN | apply below_drew1) | exact HB.out))); (case aF => exact (fun k_ hk => Kd.fresh' (Kd.Q_lt (by (with_reducible repeat (first | apply Kd.Q_alloc | apply Kd.Q_drewN | apply Kd.Q_drew)); exact HO_10.out)) k_ hk)); (case aO => exact (by (with_reducible repeat (first | apply Kd.R_alloc | apply Kd.R_drewN | apply Kd.R_drew)); exact HO_13.out)); (case aS => exact (below_size (by repeat (first | (with_reducible first | exact HB.out | apply below_alloc | apply pw_below_drewN | apply below_drew1) | exact HB.out)))); (case aL => have := LMc30.out; omega); intro v121 w32 ho hb hg hat; rw [← Ny120.out] at ho; have n0_ := Aside0.mk (Kd.Q_after (ok := (fun _ => True)) (by (with_reducible repeat (first | apply Kd.Q_alloc | apply Kd.Q_drewN | apply Kd.Q_drew)); exact Kd.Q_mono HO_10.out (fun _ hk => ⟨trivial, hk⟩)) hg hat); have n1_ := Aside0.mk (hb); have n2_ := Aside0.mk (ho); clear HO_10; clear HB; clear HO_13; have HO_10 := n0_; have HB := n1_; have HO122 := n2_; clear n0_ n1_ n2_; clear ho hb hg hat))
                      go_ret2
                      exact ⟨_, by first | rfl | (simp [errW_none, errW_some] <;> rfl) | (simp only [← hji26, ← hji28]; first | rfl | (simp [errW_none, errW_some] <;> rfl)) | (simp [*, errW_none, errW_some] <;> rfl), by (with_reducible repeat (first | apply Kd.R_alloc | apply Kd.R_drewN | apply Kd.R_drew)); exact Kd.R_mono HO122.out (fun _ hk => trivial), by repeat (first | (with_reducible first | exact HB.out | apply below_alloc | apply pw_below_drewN | apply below_drew1) | exact HB.out)⟩
                    · rw [if_neg c30] at H
                      exact absurd H (by simp)
                  · replace c29 := Bool.eq_false_iff.mpr c29
                    subst c29
                    have H1 : (if (x10_2.length : Int) < a1 then (some (x13_2, ((ji28) == 0))) else (some (x13_2, false))) = some (r1, r2) := by rw [if_neg (show ¬ (false = true) by decide)] at H; exact H
                    clear H
                    have H := H1
                    clear H1
                    by_cases c33 : (x10_2.length : Int) < a1
                    · rw [if_pos c33] at H
                      have c33b0 : decide ((x10_2.length : Int) < a1) = true := decide_eq_true c33
                      clear c33
                      simp only [Option.some.injEq, Prod.mk.injEq] at H
                      obtain ⟨rfl, rfl⟩ := H
                      obtain ⟨Ao34, co34, eo34, _⟩ := Kd.Q_slice HO_10.out
                      subst eo34
                      go_wp2_with (first | ((with_reducible refine gate_callee (f := 34) rfl ?_); refine goesL_ (some 56) rfl rfl Try.func34 (by kernel_rfl) rfl #[.slice Ao34 x10_2.length co34] rfl (by (try simp only [List.map_toArray, List.map_cons, List.map_nil]); first | done | rfl | (simp only [List.length_drop, List.length_take]; rfl)) ?_; (with_reducible refine (spec_group.calls k2 _ _ x10_2 t119 _ ?side1 ?side2 A25.out).mono ?_); (case side1 => repeat (first | exact (Kd.Q_reads' HO_10.out).2.2 | (with_reducible refine Kd.C_alloc ?_ _) | (with_reducible refine Kd.C_drewN ?_ _) | (with_reducible refine Kd.C_drew ?_))); (case side2 => exact (Kd.Q_reads' HO_10.out).2.1); rintro e w' ⟨rfl, ⟨nd, rfl⟩⟩; refine ⟨_, rfl, ?_⟩))
                      go_ret2
                      exact ⟨_, by first | rfl | (simp [errW_none, errW_some] <;> rfl) | (simp only [← hji26, ← hji28]; first | rfl | (simp [errW_none, errW_some] <;> rfl)) | (simp [*, errW_none, errW_some] <;> rfl), by (with_reducible repeat (first | apply Kd.R_alloc | apply Kd.R_drewN | apply Kd.R_drew)); exact Kd.R_mono HO_13.out (fun _ hk => trivial), by repeat (first | (with_reducible first | exact HB.out | apply below_alloc | apply pw_below_drewN | apply below_drew1) | exact HB.out)⟩
                    · rw [if_neg c33] at H
                      have c33b0 : decide ((x10_2.length : Int) < a1) = false := decide_eq_false c33
                      clear c33
                      simp only [Option.some.injEq, Prod.mk.injEq] at H
                      obtain ⟨rfl, rfl⟩ := H
                      obtain ⟨Ao35, co35, eo35, _⟩ := Kd.Q_slice HO_10.out
                      subst eo35
                      go_wp2_with (first | ((with_reducible refine gate_callee (f := 34) rfl ?_); refine goesL_ (some 56) rfl rfl Try.func34 (by kernel_rfl) rfl #[.slice Ao35 x10_2.length co35] rfl (by (try simp only [List.map_toArray, List.map_cons, List.map_nil]); first | done | rfl | (simp only [List.length_drop, List.length_take]; rfl)) ?_; (with_reducible refine (spec_group.calls k2 _ _ x10_2 t119 _ ?side1 ?side2 A25.out).mono ?_); (case side1 => repeat (first | exact (Kd.Q_reads' HO_10.out).2.2 | (with_reducible refine Kd.C_alloc ?_ _) | (with_reducible refine Kd.C_drewN ?_ _) | (with_reducible refine Kd.C_drew ?_))); (case side2 => exact (Kd.Q_reads' HO_10.out).2.1); rintro e w' ⟨rfl, ⟨nd, rfl⟩⟩; refine ⟨_, rfl, ?_⟩))
                      go_ret2
                      exact ⟨_, by first | rfl | (simp [errW_none, errW_some] <;> rfl) | (simp only [← hji26, ← hji28]; first | rfl | (simp [errW_none, errW_some] <;> rfl)) | (simp [*, errW_none, errW_some] <;> rfl), by (with_reducible repeat (first | apply Kd.R_alloc | apply Kd.R_drewN | apply Kd.R_drew)); exact Kd.R_mono HO_13.out (fun _ hk => trivial), by repeat (first | (with_reducible first | exact HB.out | apply below_alloc | apply pw_below_drewN | apply below_drew1) | exact HB.out)⟩
                · rw [if_neg c27] at H
                  exact absurd H (by simp)

/-! ### impl_copied: function 30 -/
def impl_copied.f (l0 : List Int) : Option (List Int) := (some (([] : List Int) : List Int)).bind fun y123 => (if y123.length + l0.length < 140737488355328 then (some (y123 ++ l0)) else (none))
set_option maxHeartbeats 8000000 in
set_option maxRecDepth 100000 in
theorem impl_copied.calls (A0 : Option Addr) (c0 : Nat) (l0 : List Int) (r : List Int) (w : World) (hr0 : Kd.C (Kd.int .u8) w A0 l0.length l0) (hc0 : l0.length ≤ c0) (h : impl_copied.f l0 = some r) :
    Calls Try.prog 30 #[.slice A0 l0.length c0] w fun e w' => ∃ v0_ : Value, e = .returned (v0_) ∧ Kd.R (Kd.int .u8) 5 w' w.heap.size (fun _ => True) v0_ r ∧ Below w.heap.size w w' := by
  have HR0 := Aside0.mk hr0
  have HC0 := Aside0.mk hc0
  clear hr0 hc0
  have HB := Aside0.mk (Below.refl w.heap.size w)
  have H : ((some (([] : List Int) : List Int)).bind fun y123 => (if y123.length + l0.length < 140737488355328 then (some (y123 ++ l0)) else (none))) = some r := h
  clear h
  obtain ⟨y123, hy123⟩ : ∃ y_ : List Int, y_ = (([] : List Int)) := ⟨_, rfl⟩
  replace H : (if y123.length + l0.length < 140737488355328 then (some (y123 ++ l0)) else (none)) = some r := by first | (rw [hy123]; with_reducible exact H) | (have H2_ := (Option.bind_some _ _).symm.trans H; rw [hy123]; with_reducible exact H2_) | (have H2_ := (Option.bind_some _ _).symm.trans H; with_reducible exact H2_) | with_reducible exact H | (rw [hy123]; exact H) | exact H
  have Ny123 := Aside0.mk hy123
  clear hy123
  by_cases c2 : y123.length + l0.length < 140737488355328
  · rw [if_pos c2] at H
    have LMc2 := Aside0.mk c2
    clear c2
    obtain ⟨y126, hy126⟩ : ∃ y_ : List Int, y_ = (y123 ++ l0) := ⟨_, rfl⟩
    replace H : (some y126) = some r := by first | (rw [hy126]; with_reducible exact H) | (have H2_ := (Option.bind_some _ _).symm.trans H; rw [hy126]; with_reducible exact H2_) | (have H2_ := (Option.bind_some _ _).symm.trans H; with_reducible exact H2_) | with_reducible exact H | (rw [hy126]; exact H) | exact H
    have Ny126 := Aside0.mk hy126
    clear hy126
    obtain rfl := Option.some.inj H
    go_enter Try.func30, Try.ntmps30
    go_wp2_with (first | ((with_reducible refine gate_dst (N := 3) rfl ?_); refine Kd.R_lit (Kd.int .u8) _ 5 ?hg (N := 3) ?hd (xs := ([] : List Int)) (inner := []) (ok := fun _ => True) (okp := fun _ => True) ?hr ?hp (fun _ hk => hk) trivial (Below.refl _ _) (Nat.le_refl _) (by simp) ?_; (case hd => rfl); (case hg => rfl); (case hr => first | (go_simp; done) | (go_simp; rfl)); (case hp => exact (Reps.none _ _)); intro v124 w3 ho4 hb hg_ hnew_; clear hg_ hnew_; (first | rw [← Ny123.out] at ho4 | (simp only [Int.reduceToNat] at ho4; rw [← Ny123.out] at ho4)); have n0_ := Aside0.mk (Kd.R_lower ho4 (below_size (by repeat (first | (with_reducible first | exact HB.out | apply below_alloc | apply pw_below_drewN | apply below_drew1) | exact HB.out)))); have n1_ := Aside0.mk (below_step (by repeat (first | (with_reducible first | exact HB.out | apply below_alloc | apply pw_below_drewN | apply below_drew1) | exact HB.out)) hb); clear HB; have HO125 := n0_; have HB := n1_; clear n0_ n1_; clear hb ho4) | ((with_reducible refine gate_builtin (b := .append) (xs := #[.tmp 3, .tmp 4]) rfl ?_); at_builtin; refine Kd.R_append_rows (Kd.int .u8) (w0 := w) w.heap.size rfl (.tmp 3) (.tmp 4) 27 5 (.int .u8 0) 1 rfl Try.underlying27 info5 rfl (by decide) (by omega) v124 y123 l0 _ _ _ (fun _ => True) (fun _ => False) rfl rfl ?aO ?aR (fun _ _ h => h) (fun _ h => h.elim) ?aF ?aB ?aS ?aL ?_; (case aR => repeat (first | exact (Kd.C_below HR0.out HB.out) | (with_reducible refine Kd.C_alloc ?_ _) | (with_reducible refine Kd.C_drewN ?_ _) | (with_reducible refine Kd.C_drew ?_))); (case aB => exact (by repeat (first | (with_reducible first | exact HB.out | apply below_alloc | apply pw_below_drewN | apply below_drew1) | exact HB.out))); (case aF => exact (fun _ _ => trivial)); (case aO => exact (by (with_reducible repeat (first | apply Kd.R_alloc | apply Kd.R_drewN | apply Kd.R_drew)); exact HO125.out)); (case aS => exact (below_size (by repeat (first | (with_reducible first | exact HB.out | apply below_alloc | apply pw_below_drewN | apply below_drew1) | exact HB.out)))); (case aL => have := LMc2.out; omega); intro v127 w5 ho hb hg hat; rw [← Ny126.out] at ho; have n0_ := Aside0.mk (hb); have n1_ := Aside0.mk (ho); clear HB; clear HO125; have HB := n0_; have HO128 := n1_; clear n0_ n1_; clear ho hb hg hat))
    go_ret
    exact ⟨_, by first | rfl | (simp [errW_none, errW_some] <;> rfl) | (simp [*, errW_none, errW_some] <;> rfl), by (with_reducible repeat (first | apply Kd.R_alloc | apply Kd.R_drewN | apply Kd.R_drew)); exact HO128.out, by repeat (first | (with_reducible first | exact HB.out | apply below_alloc | apply pw_below_drewN | apply below_drew1) | exact HB.out)⟩
  · rw [if_neg c2] at H
    exact absurd H (by simp)

end Go.Proofs.Ytnbecklojmbbbaa.QFnRegroup
