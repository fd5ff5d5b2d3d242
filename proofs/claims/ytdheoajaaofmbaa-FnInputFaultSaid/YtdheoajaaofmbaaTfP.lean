/- Printed functions over contracts that were proved by hand. -/
import Derived.Test.YtdheoajaaofmbaaTx3
namespace Go.Proofs.Ytdheoajaaofmbaa.QFnScriptPlaces
open Go.RowKit Go.Proofs.YtdheoajaaofmbaaW.PrintWords Go.Proofs.YtdheoajaaofmbaaW.PrintLast Go.Proofs.YtdheoajaaofmbaaW.PrintMore
attribute [local go_sem] nn_mod256 nn_mod65536 nn_mod32 max2_int min2_int max_two min_two max_three min_three max_four min_four   -- for this text's walks alone
set_option linter.unusedVariables false
set_option linter.unusedSimpArgs false
/-! ### laws_among: function 14 -/
def laws_among.l0 : Nat → Int → List Int → Int → Option (Bool)
  | 0, _, _, _ => none
  | k + 1, x0, x1, x5 => if x5 < (x1.length : Int) then (if 0 ≤ x5 then (if x0 = (rd x1 x5) then (some true) else (laws_among.l0 k x0 x1 (wrap64 (x5 + 1)))) else (none)) else (some false)
def laws_among.f (k : Nat) (a0 : Int) (l1 : List Int) : Option (Bool) := if (l1.length : Int) = 0 then (some (a0 == 0)) else (laws_among.l0 k a0 l1 0)
theorem laws_among.mono_l : ∀ k, (∀ y0 y1 y2, LeO (laws_among.l0 k y0 y1 y2) (laws_among.l0 (k + 1) y0 y1 y2))
  | 0 => fun _ _ _ r h => by simp [laws_among.l0] at h
  | k + 1 => by
    have ih0 := laws_among.mono_l k
    · intro y0 y1 y2
      unfold laws_among.l0
      repeat' first
      | (with_reducible exact ih0 _ _ _)
      | (with_reducible exact LeO.refl _)
      | (with_reducible exact LeO.none _)
      | (with_reducible refine LeO.ite ?_ ?_)
      | (with_reducible refine LeO.bind ?_ (fun _ => ?_))
      | exact ih0 _ _ _
      | exact LeO.none _
      | refine LeO.ite ?_ ?_
      | refine LeO.bind ?_ (fun _ => ?_)
theorem laws_among.mono : ∀ a0 a1 k, LeO (laws_among.f k a0 a1) (laws_among.f (k + 1) a0 a1) := by
  intro a0 a1 k
  have ih0 := laws_among.mono_l k
  unfold laws_among.f
  repeat' first
      | (with_reducible exact ih0 _ _ _)
      | (with_reducible exact LeO.refl _)
      | (with_reducible exact LeO.none _)
      | (with_reducible refine LeO.ite ?_ ?_)
      | (with_reducible refine LeO.bind ?_ (fun _ => ?_))
      | exact ih0 _ _ _
      | exact LeO.none _
      | refine LeO.ite ?_ ?_
      | refine LeO.bind ?_ (fun _ => ?_)
set_option maxHeartbeats 8000000 in
set_option maxRecDepth 100000 in
theorem laws_among.calls (k : Nat) (a0 : Int) (A1 : Option Addr) (c1 : Nat) (l1 : List Int) (r : Bool) (w : World) (hr1 : Kd.C (Kd.int .i64) w A1 l1.length l1) (hc1 : l1.length ≤ c1) (h : laws_among.f k a0 l1 = some r) :
    Calls Try.prog 14 #[.int .i64 a0, .slice A1 l1.length c1] w fun e w' => e = .returned (.bool r) ∧ Drawn0 w w' := by
  have HR1 := Aside0.mk hr1
  have HC1 := Aside0.mk hc1
  clear hr1 hc1
  have H : (if (l1.length : Int) = 0 then (some (a0 == 0)) else (laws_among.l0 k a0 l1 0)) = some r := h
  clear h
  by_cases c3 : (l1.length : Int) = 0
  · rw [if_pos c3] at H
    have c3b0 : ((l1.length : Int) == 0) = true := beq_iff_eq.mpr c3
    have c3b1 : ((l1.length : Int) != 0) = false := bne_eq_false_iff_eq.mpr c3
    clear c3
    obtain rfl := Option.some.inj H
    go_enter Try.func14, Try.ntmps14
    go_wp2
    go_ret
    exact ⟨by first | rfl | (simp; done) | (simp [*]; done), by repeat (first | exact Drawn0.refl _ | apply Drawn0.step)⟩
  · rw [if_neg c3] at H
    have c3b0 : ((l1.length : Int) == 0) = false := beq_eq_false_iff_ne.mpr c3
    have c3b1 : ((l1.length : Int) != 0) = true := bne_iff_ne.mpr c3
    have c3b2 : ¬ (l1 = []) := fun h_ => c3 (by rw [h_]; rfl)
    have H' := Aside0.mk H
    clear H
    go_enter Try.func14, Try.ntmps14
    go_wp2
    go_loopg [5] k (fun kq v5 w' => ∃ (x5_1 : Int), v5 = .int .i64 x5_1 ∧ Aside0 (laws_among.l0 kq a0 l1 x5_1 = some r) ∧ Aside0 (kq ≤ k) ∧ Drawn0 w w')
    case atStart => exact ⟨(0), (by first | rfl | (simp; done) | (simp [*]; done)), H', ⟨Nat.le_refl _⟩, by repeat (first | exact Drawn0.refl _ | apply Drawn0.step)⟩
    case round =>
      clear H'
      try clear c1
      try clear p2
      try clear c3
      try clear c3b0
      try clear c3b1
      try clear c3b2
      obtain ⟨x5_1, rfl, HA, HK1, ⟨m1, rfl⟩⟩ := hrel
      cases gk with
      | zero => exact absurd HA.out (by simp [laws_among.l0])
      | succ k1 =>
        have H := HA.out
        clear HA
        simp only [laws_among.l0] at H
        by_cases c4 : x5_1 < (l1.length : Int)
        · rw [if_pos c4] at H
          have c4b0 : decide (x5_1 < (l1.length : Int)) = true := decide_eq_true c4
          clear c4
          by_cases c5 : 0 ≤ x5_1
          · rw [if_pos c5] at H
            have c5b0 : decide (0 ≤ x5_1) = true := decide_eq_true c5
            clear c5
            by_cases c6 : a0 = (rd l1 x5_1)
            · rw [if_pos c6] at H
              have c6b0 : (a0 == (rd l1 x5_1)) = true := beq_iff_eq.mpr c6
              have c6b1 : (a0 != (rd l1 x5_1)) = false := bne_eq_false_iff_eq.mpr c6
              clear c6
              obtain rfl := Option.some.inj H
              have p126 : 0 ≤ (x5_1 : Int) := of_decide_eq_true (by first | (with_reducible assumption) | assumption)
              have q126 : x5_1 < (l1.length : Int) := of_decide_eq_true (by first | (with_reducible assumption) | assumption)
              obtain ⟨ad126, e126, hx126_0⟩ := Kd.at_int HR1.out x5_1 p126 q126
              cases e126
              replace p126 := eq_true p126
              replace q126 := eq_true q126
              go_wp2
              go_ret
              exact ⟨by first | rfl | (simp; done) | (simp [*]; done), by repeat (first | exact Drawn0.refl _ | apply Drawn0.step)⟩
            · rw [if_neg c6] at H
              have c6b0 : (a0 == (rd l1 x5_1)) = false := beq_eq_false_iff_ne.mpr c6
              have c6b1 : (a0 != (rd l1 x5_1)) = true := bne_iff_ne.mpr c6
              have H' := Aside0.mk H
              clear H
              have p126 : 0 ≤ (x5_1 : Int) := of_decide_eq_true (by first | (with_reducible assumption) | assumption)
              have q126 : x5_1 < (l1.length : Int) := of_decide_eq_true (by first | (with_reducible assumption) | assumption)
              obtain ⟨ad126, e126, hx126_0⟩ := Kd.at_int HR1.out x5_1 p126 q126
              cases e126
              replace p126 := eq_true p126
              replace q126 := eq_true q126
              go_wp2
              go_roundg k1
              case measure => have := HK1.out; omega
              case rel => exact ⟨(wrap64 (x5_1 + 1)), (by first | rfl | (simp; done) | (simp [*]; done)), (by first | exact H' | (subst_vars; exact H')), ⟨by have := HK1.out; omega⟩, by repeat (first | exact Drawn0.refl _ | apply Drawn0.step)⟩
          · rw [if_neg c5] at H
            exact absurd H (by simp)
        · rw [if_neg c4] at H
          have c4b0 : decide (x5_1 < (l1.length : Int)) = false := decide_eq_false c4
          clear c4
          obtain rfl := Option.some.inj H
          go_wp2
          go_ret
          exact ⟨by first | rfl | (simp; done) | (simp [*]; done), by repeat (first | exact Drawn0.refl _ | apply Drawn0.step)⟩



/-! ### spec_badValues: function 36 -/
def spec_badValues.l0 : Nat → List (S41) → Int → Int → Option (Bool)
  | 0, _, _, _ => none
  | k + 1, x0, x3, x4 => if x4 < (x0.length : Int) then (if 0 ≤ x4 then (if ((rd_T41 x0 x4).f0) < 0 then (some true) else (if ((rd_T41 x0 x4).f0) > (wrap64 (2100000000000000 - x3)) then (some true) else (spec_badValues.l0 k x0 (wrap64 (x3 + ((rd_T41 x0 x4).f0))) (wrap64 (x4 + 1))))) else (none)) else (some false)
def spec_badValues.f (k : Nat) (l0 : List (S41)) : Option (Bool) := spec_badValues.l0 k l0 0 0
theorem spec_badValues.mono_l : ∀ k, (∀ y0 y1 y2, LeO (spec_badValues.l0 k y0 y1 y2) (spec_badValues.l0 (k + 1) y0 y1 y2))
  | 0 => fun _ _ _ r h => by simp [spec_badValues.l0] at h
  | k + 1 => by
    have ih0 := spec_badValues.mono_l k
    · intro y0 y1 y2
      unfold spec_badValues.l0
      repeat' first
      | (with_reducible exact ih0 _ _ _)
      | (with_reducible exact LeO.refl _)
      | (with_reducible exact LeO.none _)
      | (with_reducible refine LeO.ite ?_ ?_)
      | (with_reducible refine LeO.bind ?_ (fun _ => ?_))
      | exact ih0 _ _ _
      | exact LeO.none _
      | refine LeO.ite ?_ ?_
      | refine LeO.bind ?_ (fun _ => ?_)
theorem spec_badValues.mono : ∀ a0 k, LeO (spec_badValues.f k a0) (spec_badValues.f (k + 1) a0) := by
  intro a0 k
  have ih0 := spec_badValues.mono_l k
  unfold spec_badValues.f
  repeat' first
      | (with_reducible exact ih0 _ _ _)
      | (with_reducible exact LeO.refl _)
      | (with_reducible exact LeO.none _)
      | (with_reducible refine LeO.ite ?_ ?_)
      | (with_reducible refine LeO.bind ?_ (fun _ => ?_))
      | exact ih0 _ _ _
      | exact LeO.none _
      | refine LeO.ite ?_ ?_
      | refine LeO.bind ?_ (fun _ => ?_)
set_option maxHeartbeats 8000000 in
set_option maxRecDepth 100000 in
theorem spec_badValues.calls (k : Nat) (A0 : Option Addr) (c0 : Nat) (l0 : List (S41)) (r : Bool) (w : World) (hr0 : Kd.C k41 w A0 l0.length l0) (hc0 : l0.length ≤ c0) (h : spec_badValues.f k l0 = some r) :
    Calls Try.prog 36 #[.slice A0 l0.length c0] w fun e w' => e = .returned (.bool r) ∧ Drawn0 w w' := by
  have HR0 := Aside0.mk hr0
  have HC0 := Aside0.mk hc0
  clear hr0 hc0
  have H : (spec_badValues.l0 k l0 0 0) = some r := h
  clear h
  have H' := Aside0.mk H
  clear H
  go_enter Try.func36, Try.ntmps36
  go_wp2
  go_loopg [3, 4] k (fun kq v3 v4 w' => ∃ (x3_1 : Int) (x4_1 : Int), v3 = .int .i64 x3_1 ∧ v4 = .int .i64 x4_1 ∧ Aside0 (spec_badValues.l0 kq l0 x3_1 x4_1 = some r) ∧ Aside0 (kq ≤ k) ∧ Drawn0 w w')
  case atStart => exact ⟨(0), (0), (by first | rfl | (simp; done) | (simp [*]; done)), (by first | rfl | (simp; done) | (simp [*]; done)), H', ⟨Nat.le_refl _⟩, by repeat (first | exact Drawn0.refl _ | apply Drawn0.step)⟩
  case round =>
    clear H'
    obtain ⟨x3_1, x4_1, rfl, rfl, HA, HK1, ⟨m1, rfl⟩⟩ := hrel
    cases gk with
    | zero => exact absurd HA.out (by simp [spec_badValues.l0])
    | succ k1 =>
      have H := HA.out
      clear HA
      simp only [spec_badValues.l0] at H
      by_cases c2 : x4_1 < (l0.length : Int)
      · rw [if_pos c2] at H
        have c2b0 : decide (x4_1 < (l0.length : Int)) = true := decide_eq_true c2
        clear c2
        by_cases c3 : 0 ≤ x4_1
        · rw [if_pos c3] at H
          have c3b0 : decide (0 ≤ x4_1) = true := decide_eq_true c3
          clear c3
          by_cases c4 : ((rd_T41 l0 x4_1).f0) < 0
          · rw [if_pos c4] at H
            have c4b0 : decide (((rd_T41 l0 x4_1).f0) < 0) = true := decide_eq_true c4
            clear c4
            obtain rfl := Option.some.inj H
            have p233 : 0 ≤ (x4_1 : Int) := of_decide_eq_true (by first | (with_reducible assumption) | assumption)
            have q233 : x4_1 < (l0.length : Int) := of_decide_eq_true (by first | (with_reducible assumption) | assumption)
            obtain ⟨ad233, A233_1, c233_1, e233, hx233_0, hx233_1, hl233_1, hi233_1⟩ := at_T41 HR0.out x4_1 p233 q233
            cases e233
            have HR233_1 := Aside0.mk hi233_1
            have HC233_1 := Aside0.mk hl233_1
            clear hi233_1 hl233_1
            replace p233 := eq_true p233
            replace q233 := eq_true q233
            go_wp2
            go_ret
            exact ⟨by first | rfl | (simp; done) | (simp [*]; done), by repeat (first | exact Drawn0.refl _ | apply Drawn0.step)⟩
          · rw [if_neg c4] at H
            have c4b0 : decide (((rd_T41 l0 x4_1).f0) < 0) = false := decide_eq_false c4
            clear c4
            by_cases c5 : ((rd_T41 l0 x4_1).f0) > (wrap64 (2100000000000000 - x3_1))
            · rw [if_pos c5] at H
              have c5b0 : decide ((wrap64 (2100000000000000 - x3_1)) < ((rd_T41 l0 x4_1).f0)) = true := decide_eq_true c5
              clear c5
              obtain rfl := Option.some.inj H
              have p233 : 0 ≤ (x4_1 : Int) := of_decide_eq_true (by first | (with_reducible assumption) | assumption)
              have q233 : x4_1 < (l0.length : Int) := of_decide_eq_true (by first | (with_reducible assumption) | assumption)
              obtain ⟨ad233, A233_1, c233_1, e233, hx233_0, hx233_1, hl233_1, hi233_1⟩ := at_T41 HR0.out x4_1 p233 q233
              cases e233
              have HR233_1 := Aside0.mk hi233_1
              have HC233_1 := Aside0.mk hl233_1
              clear hi233_1 hl233_1
              replace p233 := eq_true p233
              replace q233 := eq_true q233
              have p234 : 0 ≤ (x4_1 : Int) := of_decide_eq_true (by first | (with_reducible assumption) | assumption)
              have q234 : x4_1 < (l0.length : Int) := of_decide_eq_true (by first | (with_reducible assumption) | assumption)
              obtain ⟨ad234, A234_1, c234_1, e234, hx234_0, hx234_1, hl234_1, hi234_1⟩ := at_T41 HR0.out x4_1 p234 q234
              obtain rfl : ad233 = ad234 := (by injection e234)
              have HR234_1 := Aside0.mk hi234_1
              have HC234_1 := Aside0.mk hl234_1
              clear hi234_1 hl234_1
              replace p234 := eq_true p234
              replace q234 := eq_true q234
              have ea_ := Option.some.inj (hx233_1.symm.trans hx234_1)
              injection ea_ with ea_ en_ ec_
              subst ea_
              subst ec_
              clear en_
              go_wp2
              go_ret
              exact ⟨by first | rfl | (simp; done) | (simp [*]; done), by repeat (first | exact Drawn0.refl _ | apply Drawn0.step)⟩
            · rw [if_neg c5] at H
              have c5b0 : decide ((wrap64 (2100000000000000 - x3_1)) < ((rd_T41 l0 x4_1).f0)) = false := decide_eq_false c5
              clear c5
              have H' := Aside0.mk H
              clear H
              have p233 : 0 ≤ (x4_1 : Int) := of_decide_eq_true (by first | (with_reducible assumption) | assumption)
              have q233 : x4_1 < (l0.length : Int) := of_decide_eq_true (by first | (with_reducible assumption) | assumption)
              obtain ⟨ad233, A233_1, c233_1, e233, hx233_0, hx233_1, hl233_1, hi233_1⟩ := at_T41 HR0.out x4_1 p233 q233
              cases e233
              have HR233_1 := Aside0.mk hi233_1
              have HC233_1 := Aside0.mk hl233_1
              clear hi233_1 hl233_1
              replace p233 := eq_true p233
              replace q233 := eq_true q233
              have p234 : 0 ≤ (x4_1 : Int) := of_decide_eq_true (by first | (with_reducible assumption) | assumption)
              have q234 : x4_1 < (l0.length : Int) := of_decide_eq_true (by first | (with_reducible assumption) | assumption)
              obtain ⟨ad234, A234_1, c234_1, e234, hx234_0, hx234_1, hl234_1, hi234_1⟩ := at_T41 HR0.out x4_1 p234 q234
              obtain rfl : ad233 = ad234 := (by injection e234)
              have HR234_1 := Aside0.mk hi234_1
              have HC234_1 := Aside0.mk hl234_1
              clear hi234_1 hl234_1
              replace p234 := eq_true p234
              replace q234 := eq_true q234
              have ea_ := Option.some.inj (hx233_1.symm.trans hx234_1)
              injection ea_ with ea_ en_ ec_
              subst ea_
              subst ec_
              clear en_
              have p235 : 0 ≤ (x4_1 : Int) := of_decide_eq_true (by first | (with_reducible assumption) | assumption)
              have q235 : x4_1 < (l0.length : Int) := of_decide_eq_true (by first | (with_reducible assumption) | assumption)
              obtain ⟨ad235, A235_1, c235_1, e235, hx235_0, hx235_1, hl235_1, hi235_1⟩ := at_T41 HR0.out x4_1 p235 q235
              obtain rfl : ad233 = ad235 := (by injection e235)
              have HR235_1 := Aside0.mk hi235_1
              have HC235_1 := Aside0.mk hl235_1
              clear hi235_1 hl235_1
              replace p235 := eq_true p235
              replace q235 := eq_true q235
              have ea_ := Option.some.inj (hx233_1.symm.trans hx235_1)
              injection ea_ with ea_ en_ ec_
              subst ea_
              subst ec_
              clear en_
              go_wp2
              go_roundg k1
              case measure => have := HK1.out; omega
              case rel => exact ⟨(wrap64 (x3_1 + ((rd_T41 l0 x4_1).f0))), (wrap64 (x4_1 + 1)), (by first | rfl | (simp; done) | (simp [*]; done)), (by first | rfl | (simp; done) | (simp [*]; done)), (by first | exact H' | (subst_vars; exact H')), ⟨by have := HK1.out; omega⟩, by repeat (first | exact Drawn0.refl _ | apply Drawn0.step)⟩
        · rw [if_neg c3] at H
          exact absurd H (by simp)
      · rw [if_neg c2] at H
        have c2b0 : decide (x4_1 < (l0.length : Int)) = false := decide_eq_false c2
        clear c2
        obtain rfl := Option.some.inj H
        go_wp2
        go_ret
        exact ⟨by first | rfl | (simp; done) | (simp [*]; done), by repeat (first | exact Drawn0.refl _ | apply Drawn0.step)⟩

end Go.Proofs.Ytdheoajaaofmbaa.QFnScriptPlaces
