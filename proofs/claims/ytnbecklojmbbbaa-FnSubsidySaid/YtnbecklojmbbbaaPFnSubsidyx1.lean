-- PRINTED BY print.sh 35421559b90ae4d0a3588c463048766b98c2df88dd9212a6774a882060cdf62d: not written by this session
import Derived.Test.YtnbecklojmbbbaaPFnSubsidyx0
namespace Go.Proofs.Ytnbecklojmbbbaa.PFnSubsidy
open Go.RowKit Go.Proofs.YtnbecklojmbbbaaW.PrintWords Go.Proofs.YtnbecklojmbbbaaW.PrintLast Go.Proofs.YtnbecklojmbbbaaW.PrintMore
attribute [local go_sem] max2_int min2_int max_two min_two max_three min_three max_four min_four   -- for this text's walks alone
set_option linter.unusedVariables false
set_option linter.unusedSimpArgs false

-- NOT PRINTED: function 27 (blockchain_CalcBlockSubsidy)

-- NOT PRINTED: function 9 (impl_Subsidy)

/-! ### spec_Subsidy: function 10 -/
def spec_Subsidy.l0 : Nat → Int → Int → Int → Int → Option (Int)
  | 0, _, _, _, _ => none
  | k + 1, x0, x1, x5, x6 => if x1 = 0 then (none) else (if x6 < (wrap32 (Int.tdiv x0 x1)) then (if x5 > 0 then (spec_Subsidy.l0 k x0 x1 (wrap64 (Int.tdiv x5 2)) (wrap32 (x6 + 1))) else (some x5)) else (some x5))
def spec_Subsidy.f (k : Nat) (a0 : Int) (a1 : Int) : Option (Int) := if a1 = 0 then (some 5000000000) else (spec_Subsidy.l0 k a0 a1 5000000000 0)
theorem spec_Subsidy.mono_l : ∀ k, (∀ y0 y1 y2 y3, LeO (spec_Subsidy.l0 k y0 y1 y2 y3) (spec_Subsidy.l0 (k + 1) y0 y1 y2 y3))
  | 0 => fun _ _ _ _ r h => by simp [spec_Subsidy.l0] at h
  | k + 1 => by
    have ih0 := spec_Subsidy.mono_l k
    · intro y0 y1 y2 y3
      unfold spec_Subsidy.l0
      repeat' first
      | (with_reducible exact ih0 _ _ _ _)
      | (with_reducible exact LeO.refl _)
      | (with_reducible exact LeO.none _)
      | (with_reducible refine LeO.ite ?_ ?_)
      | (with_reducible refine LeO.bind ?_ (fun _ => ?_))
      | exact ih0 _ _ _ _
      | exact LeO.none _
      | refine LeO.ite ?_ ?_
      | refine LeO.bind ?_ (fun _ => ?_)
theorem spec_Subsidy.mono : ∀ a0 a1 k, LeO (spec_Subsidy.f k a0 a1) (spec_Subsidy.f (k + 1) a0 a1) := by
  intro a0 a1 k
  have ih0 := spec_Subsidy.mono_l k
  unfold spec_Subsidy.f
  repeat' first
      | (with_reducible exact ih0 _ _ _ _)
      | (with_reducible exact LeO.refl _)
      | (with_reducible exact LeO.none _)
      | (with_reducible refine LeO.ite ?_ ?_)
      | (with_reducible refine LeO.bind ?_ (fun _ => ?_))
      | exact ih0 _ _ _ _
      | exact LeO.none _
      | refine LeO.ite ?_ ?_
      | refine LeO.bind ?_ (fun _ => ?_)
set_option maxHeartbeats 8000000 in
set_option maxRecDepth 100000 in
theorem spec_Subsidy.calls (k : Nat) (a0 : Int) (a1 : Int) (r : Int) (w : World) (h : spec_Subsidy.f k a0 a1 = some r) :
    Calls Try.prog 10 #[.int .i32 a0, .int .i32 a1] w fun e w' => e = .returned (.int .i64 r) ∧ Drawn0 w w' := by
  have H : (if a1 = 0 then (some 5000000000) else (spec_Subsidy.l0 k a0 a1 5000000000 0)) = some r := h
  clear h
  by_cases c3 : a1 = 0
  · rw [if_pos c3] at H
    have c3b0 : (a1 == 0) = true := beq_iff_eq.mpr c3
    have c3b1 : (a1 != 0) = false := bne_eq_false_iff_eq.mpr c3
    clear c3
    obtain rfl := Option.some.inj H
    go_enter Try.func10, Try.ntmps10
    go_wp2
    go_ret
    exact ⟨by first | rfl | (simp; done) | (simp [*]; done), by repeat (first | exact Drawn0.refl _ | apply Drawn0.step)⟩
  · rw [if_neg c3] at H
    have c3b0 : (a1 == 0) = false := beq_eq_false_iff_ne.mpr c3
    have c3b1 : (a1 != 0) = true := bne_iff_ne.mpr c3
    have H' := Aside0.mk H
    clear H
    go_enter Try.func10, Try.ntmps10
    go_wp2
    go_loopg [5, 6] k (fun kq v5 v6 w' => ∃ (x5_1 : Int) (x6_1 : Int), v5 = .int .i64 x5_1 ∧ v6 = .int .i32 x6_1 ∧ Aside0 (spec_Subsidy.l0 kq a0 a1 x5_1 x6_1 = some r) ∧ Aside0 (kq ≤ k) ∧ Drawn0 w w')
    case atStart => exact ⟨(5000000000), (0), (by first | rfl | (simp; done) | (simp [*]; done)), (by first | rfl | (simp; done) | (simp [*]; done)), H', ⟨Nat.le_refl _⟩, by repeat (first | exact Drawn0.refl _ | apply Drawn0.step)⟩
    case round =>
      clear H'
      try clear c1
      try clear p2
      try clear c3
      try clear c3b0
      try clear c3b1
      obtain ⟨x5_1, x6_1, rfl, rfl, HA, HK1, ⟨m1, rfl⟩⟩ := hrel
      cases gk with
      | zero => exact absurd HA.out (by simp [spec_Subsidy.l0])
      | succ k1 =>
        have H := HA.out
        clear HA
        simp only [spec_Subsidy.l0] at H
        by_cases c4 : a1 = 0
        · rw [if_pos c4] at H
          exact absurd H (by simp)
        · rw [if_neg c4] at H
          have c4b0 : (a1 == 0) = false := beq_eq_false_iff_ne.mpr c4
          have c4b1 : (a1 != 0) = true := bne_iff_ne.mpr c4
          by_cases c5 : x6_1 < (wrap32 (Int.tdiv a0 a1))
          · rw [if_pos c5] at H
            have c5b0 : decide (x6_1 < (wrap32 (Int.tdiv a0 a1))) = true := decide_eq_true c5
            clear c5
            by_cases c6 : x5_1 > 0
            · rw [if_pos c6] at H
              have c6b0 : decide (0 < x5_1) = true := decide_eq_true c6
              clear c6
              have H' := Aside0.mk H
              clear H
              go_wp2
              go_roundg k1
              case measure => have := HK1.out; omega
              case rel => exact ⟨(wrap64 (Int.tdiv x5_1 2)), (wrap32 (x6_1 + 1)), (by first | rfl | (simp; done) | (simp [*]; done)), (by first | rfl | (simp; done) | (simp [*]; done)), H', ⟨by have := HK1.out; omega⟩, by repeat (first | exact Drawn0.refl _ | apply Drawn0.step)⟩
            · rw [if_neg c6] at H
              have c6b0 : decide (0 < x5_1) = false := decide_eq_false c6
              clear c6
              obtain rfl := Option.some.inj H
              go_wp2
              go_ret
              exact ⟨by first | rfl | (simp; done) | (simp [*]; done), by repeat (first | exact Drawn0.refl _ | apply Drawn0.step)⟩
          · rw [if_neg c5] at H
            have c5b0 : decide (x6_1 < (wrap32 (Int.tdiv a0 a1))) = false := decide_eq_false c5
            clear c5
            obtain rfl := Option.some.inj H
            go_wp2
            go_ret
            exact ⟨by first | rfl | (simp; done) | (simp [*]; done), by repeat (first | exact Drawn0.refl _ | apply Drawn0.step)⟩

-- NOT PRINTED: function 3 (laws_FnSubsidy)

end Go.Proofs.Ytnbecklojmbbbaa.PFnSubsidy
