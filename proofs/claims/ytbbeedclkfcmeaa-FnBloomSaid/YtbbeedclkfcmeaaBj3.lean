/- Printed functions over contracts that were proved by hand. -/
import Derived.Test.YtbbeedclkfcmeaaBj2
namespace Go.Proofs.Ytbbeedclkfcmeaa.KFnBloom
open Go.RowKit Go.Proofs.YtbbeedclkfcmeaaW.PrintWords Go.Proofs.YtbbeedclkfcmeaaW.PrintLast Go.Proofs.YtbbeedclkfcmeaaW.PrintMore
attribute [local go_sem] nn_mod256 nn_mod65536 nn_mod32 max2_int min2_int max_two min_two max_three min_three max_four min_four   -- for this text's walks alone
set_option linter.unusedVariables false
set_option linter.unusedSimpArgs false
/-! ### spec_Murmur: function 23 -/
mutual
def spec_Murmur.l0 : Nat → List Int → Int → Int → Int → Option (Int)
  | 0, _, _, _, _ => none
  | k + 1, x1, x5, x7, x8 => if (wrap64 (x8 + 4)) ≤ x7 then (if 0 ≤ x8 then (if x8 < (x1.length : Int) then (if 0 ≤ (wrap64 (x8 + 1)) then (if (wrap64 (x8 + 1)) < (x1.length : Int) then (if 0 ≤ (wrap64 (x8 + 2)) then (if (wrap64 (x8 + 2)) < (x1.length : Int) then (if 0 ≤ (wrap64 (x8 + 3)) then (if (wrap64 (x8 + 3)) < (x1.length : Int) then ((spec_Murmur_1.f (((((rd x1 x8) + (((rd x1 (wrap64 (x8 + 1))) % 4294967296) * 256)) + (((rd x1 (wrap64 (x8 + 2))) % 4294967296) * 65536)) + (((rd x1 (wrap64 (x8 + 3))) % 4294967296) * 16777216)) % 4294967296)).bind fun t138 => ((spec_rotate.f (Go.bits .xor .u32 x5 t138) 13).bind fun t139 => (spec_Murmur.l0 k x1 (((t139 * 5) + 3864292196) % 4294967296) x7 (wrap64 (x8 + 4))))) else (none)) else (none)) else (none)) else (none)) else (none)) else (none)) else (none)) else (none)) else (spec_Murmur.l1 k x1 x5 x7 x8 0 (wrap64 (x7 - 1)))
def spec_Murmur.l1 : Nat → List Int → Int → Int → Int → Int → Int → Option (Int)
  | 0, _, _, _, _, _, _ => none
  | k + 1, x1, x5, x7, x8, x10, x11 => if x11 ≥ x8 then (if 0 ≤ x11 then (if x11 < (x1.length : Int) then (spec_Murmur.l1 k x1 x5 x7 x8 (((x10 * 256) + (rd x1 x11)) % 4294967296) (wrap64 (x11 - 1))) else (none)) else (none)) else ((spec_Murmur_1.f x10).bind fun t141 => (some (Go.bits .xor .u32 (((Go.bits .xor .u32 (((Go.bits .xor .u32 (Go.bits .xor .u32 (Go.bits .xor .u32 x5 t141) ((x7) % 4294967296)) ((Go.bits .xor .u32 (Go.bits .xor .u32 x5 t141) ((x7) % 4294967296)) / 65536)) * 2246822507) % 4294967296) ((((Go.bits .xor .u32 (Go.bits .xor .u32 (Go.bits .xor .u32 x5 t141) ((x7) % 4294967296)) ((Go.bits .xor .u32 (Go.bits .xor .u32 x5 t141) ((x7) % 4294967296)) / 65536)) * 2246822507) % 4294967296) / 8192)) * 3266489909) % 4294967296) ((((Go.bits .xor .u32 (((Go.bits .xor .u32 (Go.bits .xor .u32 (Go.bits .xor .u32 x5 t141) ((x7) % 4294967296)) ((Go.bits .xor .u32 (Go.bits .xor .u32 x5 t141) ((x7) % 4294967296)) / 65536)) * 2246822507) % 4294967296) ((((Go.bits .xor .u32 (Go.bits .xor .u32 (Go.bits .xor .u32 x5 t141) ((x7) % 4294967296)) ((Go.bits .xor .u32 (Go.bits .xor .u32 x5 t141) ((x7) % 4294967296)) / 65536)) * 2246822507) % 4294967296) / 8192)) * 3266489909) % 4294967296) / 65536))))
end
def spec_Murmur.f (k : Nat) (a0 : Int) (l1 : List Int) : Option (Int) := spec_Murmur.l0 k l1 a0 (l1.length : Int) 0
theorem spec_Murmur.mono_l : ∀ k, (∀ y0 y1 y2 y3, LeO (spec_Murmur.l0 k y0 y1 y2 y3) (spec_Murmur.l0 (k + 1) y0 y1 y2 y3)) ∧ (∀ y0 y1 y2 y3 y4 y5, LeO (spec_Murmur.l1 k y0 y1 y2 y3 y4 y5) (spec_Murmur.l1 (k + 1) y0 y1 y2 y3 y4 y5))
  | 0 => ⟨fun _ _ _ _ r h => by simp [spec_Murmur.l0] at h, fun _ _ _ _ _ _ r h => by simp [spec_Murmur.l1] at h⟩
  | k + 1 => by
    obtain ⟨ih0, ih1⟩ := spec_Murmur.mono_l k
    refine ⟨?_, ?_⟩
    · intro y0 y1 y2 y3
      unfold spec_Murmur.l0
      repeat' first
      | (with_reducible exact ih0 _ _ _ _)
      | (with_reducible exact ih1 _ _ _ _ _ _)
      | (with_reducible exact LeO.refl _)
      | (with_reducible exact LeO.none _)
      | (with_reducible refine LeO.ite ?_ ?_)
      | (with_reducible refine LeO.bind ?_ (fun _ => ?_))
      | exact ih0 _ _ _ _
      | exact ih1 _ _ _ _ _ _
      | exact LeO.none _
      | refine LeO.ite ?_ ?_
      | refine LeO.bind ?_ (fun _ => ?_)
    · intro y0 y1 y2 y3 y4 y5
      unfold spec_Murmur.l1
      repeat' first
      | (with_reducible exact ih0 _ _ _ _)
      | (with_reducible exact ih1 _ _ _ _ _ _)
      | (with_reducible exact LeO.refl _)
      | (with_reducible exact LeO.none _)
      | (with_reducible refine LeO.ite ?_ ?_)
      | (with_reducible refine LeO.bind ?_ (fun _ => ?_))
      | exact ih0 _ _ _ _
      | exact ih1 _ _ _ _ _ _
      | exact LeO.none _
      | refine LeO.ite ?_ ?_
      | refine LeO.bind ?_ (fun _ => ?_)
theorem spec_Murmur.mono : ∀ a0 a1 k, LeO (spec_Murmur.f k a0 a1) (spec_Murmur.f (k + 1) a0 a1) := by
  intro a0 a1 k
  obtain ⟨ih0, ih1⟩ := spec_Murmur.mono_l k
  unfold spec_Murmur.f
  repeat' first
      | (with_reducible exact ih0 _ _ _ _)
      | (with_reducible exact ih1 _ _ _ _ _ _)
      | (with_reducible exact LeO.refl _)
      | (with_reducible exact LeO.none _)
      | (with_reducible refine LeO.ite ?_ ?_)
      | (with_reducible refine LeO.bind ?_ (fun _ => ?_))
      | exact ih0 _ _ _ _
      | exact ih1 _ _ _ _ _ _
      | exact LeO.none _
      | refine LeO.ite ?_ ?_
      | refine LeO.bind ?_ (fun _ => ?_)
set_option maxHeartbeats 8000000 in
set_option maxRecDepth 100000 in
theorem spec_Murmur.calls (k : Nat) (a0 : Int) (A1 : Option Addr) (c1 : Nat) (l1 : List Int) (r : Int) (w : World) (hr1 : Kd.C (Kd.int .u8) w A1 l1.length l1) (hc1 : l1.length ≤ c1) (h : spec_Murmur.f k a0 l1 = some r) :
    Calls Try.prog 23 #[.int .u32 a0, .slice A1 l1.length c1] w fun e w' => e = .returned (.int .u32 r) ∧ Drawn0 w w' := by
  have HR1 := Aside0.mk hr1
  have HC1 := Aside0.mk hc1
  clear hr1 hc1
  have H : (spec_Murmur.l0 k l1 a0 (l1.length : Int) 0) = some r := h
  clear h
  have H' := Aside0.mk H
  clear H
  go_enter Try.func23, Try.ntmps23
  go_wp2
  repeat (go_quiet (fail); try go_wp2)
  go_loopg [5, 8] k (fun kq v5 v8 w' => ∃ (x5_1 : Int) (x8_1 : Int), v5 = .int .u32 x5_1 ∧ v8 = .int .i64 x8_1 ∧ Aside0 (spec_Murmur.l0 kq l1 x5_1 (l1.length : Int) x8_1 = some r) ∧ Aside0 (kq ≤ k) ∧ Drawn0 w w')
  case atStart => exact ⟨(a0), (0), (by first | rfl | (simp; done) | (simp [*]; done)), (by first | rfl | (simp; done) | (simp [*]; done)), H', ⟨Nat.le_refl _⟩, by repeat (first | exact Drawn0.refl _ | apply Drawn0.step)⟩
  case round =>
    clear H'
    try clear c1
    try clear c2
    try clear p2
    obtain ⟨x5_1, x8_1, rfl, rfl, HA, HK1, ⟨m1, rfl⟩⟩ := hrel
    cases gk with
    | zero => exact absurd HA.out (by simp [spec_Murmur.l0])
    | succ k1 =>
      have H := HA.out
      clear HA
      simp only [spec_Murmur.l0] at H
      by_cases c3 : (wrap64 (x8_1 + 4)) ≤ (l1.length : Int)
      · rw [if_pos c3] at H
        have c3b0 : decide ((wrap64 (x8_1 + 4)) ≤ (l1.length : Int)) = true := decide_eq_true c3
        clear c3
        by_cases c4 : 0 ≤ x8_1
        · rw [if_pos c4] at H
          have c4b0 : decide (0 ≤ x8_1) = true := decide_eq_true c4
          clear c4
          by_cases c5 : x8_1 < (l1.length : Int)
          · rw [if_pos c5] at H
            have c5b0 : decide (x8_1 < (l1.length : Int)) = true := decide_eq_true c5
            clear c5
            obtain ⟨ji6, hji6⟩ : ∃ j_ : Int, (wrap64 (x8_1 + 1)) = j_ := ⟨_, rfl⟩
            replace H : (if 0 ≤ (ji6) then (if (ji6) < (l1.length : Int) then (if 0 ≤ (wrap64 (x8_1 + 2)) then (if (wrap64 (x8_1 + 2)) < (l1.length : Int) then (if 0 ≤ (wrap64 (x8_1 + 3)) then (if (wrap64 (x8_1 + 3)) < (l1.length : Int) then ((spec_Murmur_1.f (((((rd l1 x8_1) + (((rd l1 (ji6)) % 4294967296) * 256)) + (((rd l1 (wrap64 (x8_1 + 2))) % 4294967296) * 65536)) + (((rd l1 (wrap64 (x8_1 + 3))) % 4294967296) * 16777216)) % 4294967296)).bind fun t138 => ((spec_rotate.f (Go.bits .xor .u32 x5_1 t138) 13).bind fun t139 => (spec_Murmur.l0 k1 l1 (((t139 * 5) + 3864292196) % 4294967296) (l1.length : Int) (wrap64 (x8_1 + 4))))) else (none)) else (none)) else (none)) else (none)) else (none)) else (none)) = some r := by first | (rw [hji6] at H; exact H) | (simp only [hji6] at H ⊢; exact H)
            have hji6w : (IntKind.i64.wrap (x8_1 + 1)) = ji6 := (i64_w _).trans hji6
            by_cases c7 : 0 ≤ (ji6)
            · rw [if_pos c7] at H
              have c7b0 : decide (0 ≤ (ji6)) = true := decide_eq_true c7
              clear c7
              by_cases c8 : (ji6) < (l1.length : Int)
              · rw [if_pos c8] at H
                have c8b0 : decide ((ji6) < (l1.length : Int)) = true := decide_eq_true c8
                clear c8
                obtain ⟨ji9, hji9⟩ : ∃ j_ : Int, (wrap64 (x8_1 + 2)) = j_ := ⟨_, rfl⟩
                replace H : (if 0 ≤ (ji9) then (if (ji9) < (l1.length : Int) then (if 0 ≤ (wrap64 (x8_1 + 3)) then (if (wrap64 (x8_1 + 3)) < (l1.length : Int) then ((spec_Murmur_1.f (((((rd l1 x8_1) + (((rd l1 (ji6)) % 4294967296) * 256)) + (((rd l1 (ji9)) % 4294967296) * 65536)) + (((rd l1 (wrap64 (x8_1 + 3))) % 4294967296) * 16777216)) % 4294967296)).bind fun t138 => ((spec_rotate.f (Go.bits .xor .u32 x5_1 t138) 13).bind fun t139 => (spec_Murmur.l0 k1 l1 (((t139 * 5) + 3864292196) % 4294967296) (l1.length : Int) (wrap64 (x8_1 + 4))))) else (none)) else (none)) else (none)) else (none)) = some r := by first | (rw [hji9] at H; exact H) | (simp only [hji9] at H ⊢; exact H)
                have hji9w : (IntKind.i64.wrap (x8_1 + 2)) = ji9 := (i64_w _).trans hji9
                by_cases c10 : 0 ≤ (ji9)
                · rw [if_pos c10] at H
                  have c10b0 : decide (0 ≤ (ji9)) = true := decide_eq_true c10
                  clear c10
                  by_cases c11 : (ji9) < (l1.length : Int)
                  · rw [if_pos c11] at H
                    have c11b0 : decide ((ji9) < (l1.length : Int)) = true := decide_eq_true c11
                    clear c11
                    obtain ⟨ji12, hji12⟩ : ∃ j_ : Int, (wrap64 (x8_1 + 3)) = j_ := ⟨_, rfl⟩
                    replace H : (if 0 ≤ (ji12) then (if (ji12) < (l1.length : Int) then ((spec_Murmur_1.f (((((rd l1 x8_1) + (((rd l1 (ji6)) % 4294967296) * 256)) + (((rd l1 (ji9)) % 4294967296) * 65536)) + (((rd l1 (ji12)) % 4294967296) * 16777216)) % 4294967296)).bind fun t138 => ((spec_rotate.f (Go.bits .xor .u32 x5_1 t138) 13).bind fun t139 => (spec_Murmur.l0 k1 l1 (((t139 * 5) + 3864292196) % 4294967296) (l1.length : Int) (wrap64 (x8_1 + 4))))) else (none)) else (none)) = some r := by first | (rw [hji12] at H; exact H) | (simp only [hji12] at H ⊢; exact H)
                    have hji12w : (IntKind.i64.wrap (x8_1 + 3)) = ji12 := (i64_w _).trans hji12
                    by_cases c13 : 0 ≤ (ji12)
                    · rw [if_pos c13] at H
                      have c13b0 : decide (0 ≤ (ji12)) = true := decide_eq_true c13
                      clear c13
                      by_cases c14 : (ji12) < (l1.length : Int)
                      · rw [if_pos c14] at H
                        have c14b0 : decide ((ji12) < (l1.length : Int)) = true := decide_eq_true c14
                        clear c14
                        replace H := Option.bind_eq_some_iff.mp H
                        obtain ⟨t138, A150, H⟩ := H
                        replace H : ((spec_rotate.f (Go.bits .xor .u32 x5_1 t138) 13).bind fun t139 => (spec_Murmur.l0 k1 l1 (((t139 * 5) + 3864292196) % 4294967296) (l1.length : Int) (wrap64 (x8_1 + 4)))) = some r := H
                        have A15 := Aside0.mk A150
                        clear A150
                        replace H := Option.bind_eq_some_iff.mp H
                        obtain ⟨t139, A160, H⟩ := H
                        replace H : (spec_Murmur.l0 k1 l1 (((t139 * 5) + 3864292196) % 4294967296) (l1.length : Int) (wrap64 (x8_1 + 4))) = some r := H
                        have A16 := Aside0.mk A160
                        clear A160
                        have H' := Aside0.mk H
                        clear H
                        have p134 : 0 ≤ (x8_1 : Int) := of_decide_eq_true (by first | (with_reducible assumption) | assumption)
                        have q134 : x8_1 < (l1.length : Int) := of_decide_eq_true (by first | (with_reducible assumption) | assumption)
                        obtain ⟨ad134, e134, hx134_0⟩ := Kd.at_int HR1.out x8_1 p134 q134
                        cases e134
                        replace p134 := eq_true p134
                        replace q134 := eq_true q134
                        have p135 : 0 ≤ ((ji6) : Int) := of_decide_eq_true (by first | (with_reducible assumption) | assumption)
                        have q135 : (ji6) < (l1.length : Int) := of_decide_eq_true (by first | (with_reducible assumption) | assumption)
                        obtain ⟨ad135, e135, hx135_0⟩ := Kd.at_int HR1.out (ji6) p135 q135
                        obtain rfl : ad134 = ad135 := (by injection e135)
                        replace p135 := eq_true p135
                        replace q135 := eq_true q135
                        have p136 : 0 ≤ ((ji9) : Int) := of_decide_eq_true (by first | (with_reducible assumption) | assumption)
                        have q136 : (ji9) < (l1.length : Int) := of_decide_eq_true (by first | (with_reducible assumption) | assumption)
                        obtain ⟨ad136, e136, hx136_0⟩ := Kd.at_int HR1.out (ji9) p136 q136
                        obtain rfl : ad134 = ad136 := (by injection e136)
                        replace p136 := eq_true p136
                        replace q136 := eq_true q136
                        have p137 : 0 ≤ ((ji12) : Int) := of_decide_eq_true (by first | (with_reducible assumption) | assumption)
                        have q137 : (ji12) < (l1.length : Int) := of_decide_eq_true (by first | (with_reducible assumption) | assumption)
                        obtain ⟨ad137, e137, hx137_0⟩ := Kd.at_int HR1.out (ji12) p137 q137
                        obtain rfl : ad134 = ad137 := (by injection e137)
                        replace p137 := eq_true p137
                        replace q137 := eq_true q137
                        go_wp2_with (first | (go_at_call 29; (with_reducible refine (spec_Murmur_1.calls (((((rd l1 x8_1) + (((rd l1 (ji6)) % 4294967296) * 256)) + (((rd l1 (ji9)) % 4294967296) * 65536)) + (((rd l1 (ji12)) % 4294967296) * 16777216)) % 4294967296) t138 _ A15.out).mono ?_); rintro e w' ⟨rfl, ⟨nd, rfl⟩⟩; (try first | exact ⟨rfl, _, World.drewN_drewN _ _ _⟩ | exact ⟨rfl, _, Eq.trans (World.drewN_drewN _ _ _) (congrArg (World.drewN _) (Nat.add_assoc _ _ _))⟩)) | (go_at_call 30; (with_reducible refine (spec_rotate.calls (Go.bits .xor .u32 x5_1 t138) 13 t139 _ A16.out).mono ?_); rintro e w' ⟨rfl, ⟨nd, rfl⟩⟩; (try first | exact ⟨rfl, _, World.drewN_drewN _ _ _⟩ | exact ⟨rfl, _, Eq.trans (World.drewN_drewN _ _ _) (congrArg (World.drewN _) (Nat.add_assoc _ _ _))⟩)))
                        repeat (go_quiet (first | (go_at_call 29; (with_reducible refine (spec_Murmur_1.calls (((((rd l1 x8_1) + (((rd l1 (ji6)) % 4294967296) * 256)) + (((rd l1 (ji9)) % 4294967296) * 65536)) + (((rd l1 (ji12)) % 4294967296) * 16777216)) % 4294967296) t138 _ A15.out).mono ?_); rintro e w' ⟨rfl, ⟨nd, rfl⟩⟩; (try first | exact ⟨rfl, _, World.drewN_drewN _ _ _⟩ | exact ⟨rfl, _, Eq.trans (World.drewN_drewN _ _ _) (congrArg (World.drewN _) (Nat.add_assoc _ _ _))⟩)) | (go_at_call 30; (with_reducible refine (spec_rotate.calls (Go.bits .xor .u32 x5_1 t138) 13 t139 _ A16.out).mono ?_); rintro e w' ⟨rfl, ⟨nd, rfl⟩⟩; (try first | exact ⟨rfl, _, World.drewN_drewN _ _ _⟩ | exact ⟨rfl, _, Eq.trans (World.drewN_drewN _ _ _) (congrArg (World.drewN _) (Nat.add_assoc _ _ _))⟩))); try go_wp2_with (first | (go_at_call 29; (with_reducible refine (spec_Murmur_1.calls (((((rd l1 x8_1) + (((rd l1 (ji6)) % 4294967296) * 256)) + (((rd l1 (ji9)) % 4294967296) * 65536)) + (((rd l1 (ji12)) % 4294967296) * 16777216)) % 4294967296) t138 _ A15.out).mono ?_); rintro e w' ⟨rfl, ⟨nd, rfl⟩⟩; (try first | exact ⟨rfl, _, World.drewN_drewN _ _ _⟩ | exact ⟨rfl, _, Eq.trans (World.drewN_drewN _ _ _) (congrArg (World.drewN _) (Nat.add_assoc _ _ _))⟩)) | (go_at_call 30; (with_reducible refine (spec_rotate.calls (Go.bits .xor .u32 x5_1 t138) 13 t139 _ A16.out).mono ?_); rintro e w' ⟨rfl, ⟨nd, rfl⟩⟩; (try first | exact ⟨rfl, _, World.drewN_drewN _ _ _⟩ | exact ⟨rfl, _, Eq.trans (World.drewN_drewN _ _ _) (congrArg (World.drewN _) (Nat.add_assoc _ _ _))⟩))))
                        go_roundg k1
                        case measure => have := HK1.out; omega
                        case rel => exact ⟨(((t139 * 5) + 3864292196) % 4294967296), (wrap64 (x8_1 + 4)), (by first | rfl | (simp; done) | (simp [*]; done)), (by first | rfl | (simp; done) | (simp [*]; done)), (by first | exact H' | (subst_vars; exact H')), ⟨by have := HK1.out; omega⟩, by repeat (first | exact Drawn0.refl _ | apply Drawn0.step)⟩
                      · rw [if_neg c14] at H
                        exact absurd H (by simp)
                    · rw [if_neg c13] at H
                      exact absurd H (by simp)
                  · rw [if_neg c11] at H
                    exact absurd H (by simp)
                · rw [if_neg c10] at H
                  exact absurd H (by simp)
              · rw [if_neg c8] at H
                exact absurd H (by simp)
            · rw [if_neg c7] at H
              exact absurd H (by simp)
          · rw [if_neg c5] at H
            exact absurd H (by simp)
        · rw [if_neg c4] at H
          exact absurd H (by simp)
      · rw [if_neg c3] at H
        have c3b0 : decide ((wrap64 (x8_1 + 4)) ≤ (l1.length : Int)) = false := decide_eq_false c3
        clear c3
        have H' := Aside0.mk H
        clear H
        go_wp2
        repeat (go_quiet (fail); try go_wp2)
        go_loopg [10, 11] k1 (fun kq v10 v11 w' => ∃ (x10_2 : Int) (x11_2 : Int), v10 = .int .u32 x10_2 ∧ v11 = .int .i64 x11_2 ∧ Aside0 (spec_Murmur.l1 kq l1 x5_1 (l1.length : Int) x8_1 x10_2 x11_2 = some r) ∧ Aside0 (kq ≤ k1) ∧ Drawn0 w w')
        case atStart => exact ⟨(0), (wrap64 ((l1.length : Int) - 1)), (by first | rfl | (simp; done) | (simp [*]; done)), (by first | rfl | (simp; done) | (simp [*]; done)), H', ⟨Nat.le_refl _⟩, by repeat (first | exact Drawn0.refl _ | apply Drawn0.step)⟩
        case round =>
          clear H'
          try clear c1
          try clear p1
          try clear q1
          try clear hx1
          try clear c2
          try clear p2
          try clear c3
          try clear c3b0
          try clear c4
          try clear c4b0
          try clear c5
          try clear c5b0
          try clear p6
          try clear c7
          try clear c7b0
          try clear c8
          try clear c8b0
          try clear c10
          try clear c10b0
          try clear c11
          try clear c11b0
          try clear c13
          try clear c13b0
          try clear p13
          try clear q13
          try clear hx13
          try clear c14
          try clear c14b0
          try clear hx134_0
          try clear hx135_0
          try clear hx136_0
          try clear hx137_0
          try clear p134
          try clear p135
          try clear p136
          try clear p137
          try clear p2
          try clear q134
          try clear q135
          try clear q136
          try clear q137
          obtain ⟨x10_2, x11_2, rfl, rfl, HA, HK2, ⟨m2, rfl⟩⟩ := hrel
          cases gk with
          | zero => exact absurd HA.out (by simp [spec_Murmur.l1])
          | succ k2 =>
            have H := HA.out
            clear HA
            simp only [spec_Murmur.l1] at H
            by_cases c17 : x11_2 ≥ x8_1
            · rw [if_pos c17] at H
              have c17b0 : decide (x8_1 ≤ x11_2) = true := decide_eq_true c17
              clear c17
              by_cases c18 : 0 ≤ x11_2
              · rw [if_pos c18] at H
                have c18b0 : decide (0 ≤ x11_2) = true := decide_eq_true c18
                clear c18
                by_cases c19 : x11_2 < (l1.length : Int)
                · rw [if_pos c19] at H
                  have c19b0 : decide (x11_2 < (l1.length : Int)) = true := decide_eq_true c19
                  clear c19
                  have H' := Aside0.mk H
                  clear H
                  have p140 : 0 ≤ (x11_2 : Int) := of_decide_eq_true (by first | (with_reducible assumption) | assumption)
                  have q140 : x11_2 < (l1.length : Int) := of_decide_eq_true (by first | (with_reducible assumption) | assumption)
                  obtain ⟨ad140, e140, hx140_0⟩ := Kd.at_int HR1.out x11_2 p140 q140
                  cases e140
                  replace p140 := eq_true p140
                  replace q140 := eq_true q140
                  go_wp2
                  repeat (go_quiet (fail); try go_wp2)
                  go_roundg k2
                  case measure => have := HK1.out; have := HK2.out; omega
                  case rel => exact ⟨(((x10_2 * 256) + (rd l1 x11_2)) % 4294967296), (wrap64 (x11_2 - 1)), (by first | rfl | (simp; done) | (simp [*]; done)), (by first | rfl | (simp; done) | (simp [*]; done)), (by first | exact H' | (subst_vars; exact H')), ⟨by have := HK1.out; have := HK2.out; omega⟩, by repeat (first | exact Drawn0.refl _ | apply Drawn0.step)⟩
                · rw [if_neg c19] at H
                  exact absurd H (by simp)
              · rw [if_neg c18] at H
                exact absurd H (by simp)
            · rw [if_neg c17] at H
              have c17b0 : decide (x8_1 ≤ x11_2) = false := decide_eq_false c17
              clear c17
              replace H := Option.bind_eq_some_iff.mp H
              obtain ⟨t141, A200, H⟩ := H
              replace H : (some (Go.bits .xor .u32 (((Go.bits .xor .u32 (((Go.bits .xor .u32 (Go.bits .xor .u32 (Go.bits .xor .u32 x5_1 t141) (((l1.length : Int)) % 4294967296)) ((Go.bits .xor .u32 (Go.bits .xor .u32 x5_1 t141) (((l1.length : Int)) % 4294967296)) / 65536)) * 2246822507) % 4294967296) ((((Go.bits .xor .u32 (Go.bits .xor .u32 (Go.bits .xor .u32 x5_1 t141) (((l1.length : Int)) % 4294967296)) ((Go.bits .xor .u32 (Go.bits .xor .u32 x5_1 t141) (((l1.length : Int)) % 4294967296)) / 65536)) * 2246822507) % 4294967296) / 8192)) * 3266489909) % 4294967296) ((((Go.bits .xor .u32 (((Go.bits .xor .u32 (Go.bits .xor .u32 (Go.bits .xor .u32 x5_1 t141) (((l1.length : Int)) % 4294967296)) ((Go.bits .xor .u32 (Go.bits .xor .u32 x5_1 t141) (((l1.length : Int)) % 4294967296)) / 65536)) * 2246822507) % 4294967296) ((((Go.bits .xor .u32 (Go.bits .xor .u32 (Go.bits .xor .u32 x5_1 t141) (((l1.length : Int)) % 4294967296)) ((Go.bits .xor .u32 (Go.bits .xor .u32 x5_1 t141) (((l1.length : Int)) % 4294967296)) / 65536)) * 2246822507) % 4294967296) / 8192)) * 3266489909) % 4294967296) / 65536))) = some r := H
              have A20 := Aside0.mk A200
              clear A200
              obtain rfl := Option.some.inj H
              go_wp2_with (first | (go_at_call 29; (with_reducible refine (spec_Murmur_1.calls x10_2 t141 _ A20.out).mono ?_); rintro e w' ⟨rfl, ⟨nd, rfl⟩⟩; (try first | exact ⟨rfl, _, World.drewN_drewN _ _ _⟩ | exact ⟨rfl, _, Eq.trans (World.drewN_drewN _ _ _) (congrArg (World.drewN _) (Nat.add_assoc _ _ _))⟩)))
              repeat (go_quiet (first | (go_at_call 29; (with_reducible refine (spec_Murmur_1.calls x10_2 t141 _ A20.out).mono ?_); rintro e w' ⟨rfl, ⟨nd, rfl⟩⟩; (try first | exact ⟨rfl, _, World.drewN_drewN _ _ _⟩ | exact ⟨rfl, _, Eq.trans (World.drewN_drewN _ _ _) (congrArg (World.drewN _) (Nat.add_assoc _ _ _))⟩))); try go_wp2_with (first | (go_at_call 29; (with_reducible refine (spec_Murmur_1.calls x10_2 t141 _ A20.out).mono ?_); rintro e w' ⟨rfl, ⟨nd, rfl⟩⟩; (try first | exact ⟨rfl, _, World.drewN_drewN _ _ _⟩ | exact ⟨rfl, _, Eq.trans (World.drewN_drewN _ _ _) (congrArg (World.drewN _) (Nat.add_assoc _ _ _))⟩))))
              go_ret
              exact ⟨by first | rfl | (simp; done) | (simp [*]; done), by repeat (first | exact Drawn0.refl _ | apply Drawn0.step)⟩

/-! ### spec_bit: function 15 -/
def spec_bit.f (k : Nat) (l0_0 : List Int) (a0_1 : Int) (a0_2 : Int) (a1 : Int) (l2 : List Int) : Option (Int) := (spec_Murmur.f k (((a1 * 4221880213) + a0_2) % 4294967296) l2).bind fun t143 => (if ((wrap64 (8 * (l0_0.length : Int))) % 4294967296) = 0 then (none) else (some (Int.tmod t143 ((wrap64 (8 * (l0_0.length : Int))) % 4294967296))))
theorem spec_bit.mono : ∀ a0 a1 a2 a3 a4 k, LeO (spec_bit.f k a0 a1 a2 a3 a4) (spec_bit.f (k + 1) a0 a1 a2 a3 a4) := by
  intro a0 a1 a2 a3 a4 k
  unfold spec_bit.f
  repeat' first
      | (with_reducible exact spec_Murmur.mono _ _ _)
      | (with_reducible exact LeO.refl _)
      | (with_reducible exact LeO.none _)
      | (with_reducible refine LeO.ite ?_ ?_)
      | (with_reducible refine LeO.bind ?_ (fun _ => ?_))
      | exact spec_Murmur.mono _ _ _
      | exact LeO.none _
      | refine LeO.ite ?_ ?_
      | refine LeO.bind ?_ (fun _ => ?_)
set_option maxHeartbeats 8000000 in
set_option maxRecDepth 100000 in
theorem spec_bit.calls (k : Nat) (A0_0 : Option Addr) (c0_0 : Nat) (l0_0 : List Int) (a0_1 : Int) (a0_2 : Int) (a1 : Int) (A2 : Option Addr) (c2 : Nat) (l2 : List Int) (r : Int) (w : World) (hr0_0 : Kd.C (Kd.int .u8) w A0_0 l0_0.length l0_0) (hc0_0 : l0_0.length ≤ c0_0) (hr2 : Kd.C (Kd.int .u8) w A2 l2.length l2) (hc2 : l2.length ≤ c2) (h : spec_bit.f k l0_0 a0_1 a0_2 a1 l2 = some r) :
    Calls Try.prog 15 #[.agg #[.slice A0_0 l0_0.length c0_0, .int .u32 a0_1, .int .u32 a0_2], .int .u32 a1, .slice A2 l2.length c2] w fun e w' => e = .returned (.int .u32 r) ∧ Below w.heap.size w w' := by
  have hu25 := Try.underlying25
  have HR0_0 := Aside0.mk hr0_0
  have HC0_0 := Aside0.mk hc0_0
  clear hr0_0 hc0_0
  have HR2 := Aside0.mk hr2
  have HC2 := Aside0.mk hc2
  clear hr2 hc2
  have HB := Aside0.mk (Below.refl w.heap.size w)
  have H : ((spec_Murmur.f k (((a1 * 4221880213) + a0_2) % 4294967296) l2).bind fun t143 => (if ((wrap64 (8 * (l0_0.length : Int))) % 4294967296) = 0 then (none) else (some (Int.tmod t143 ((wrap64 (8 * (l0_0.length : Int))) % 4294967296))))) = some r := h
  clear h
  replace H := Option.bind_eq_some_iff.mp H
  obtain ⟨t143, A40, H⟩ := H
  replace H : (if ((wrap64 (8 * (l0_0.length : Int))) % 4294967296) = 0 then (none) else (some (Int.tmod t143 ((wrap64 (8 * (l0_0.length : Int))) % 4294967296)))) = some r := H
  have A4 := Aside0.mk A40
  clear A40
  by_cases c5 : ((wrap64 (8 * (l0_0.length : Int))) % 4294967296) = 0
  · rw [if_pos c5] at H
    exact absurd H (by simp)
  · rw [if_neg c5] at H
    have c5b0 : (((wrap64 (8 * (l0_0.length : Int))) % 4294967296) == 0) = false := beq_eq_false_iff_ne.mpr c5
    have c5b1 : (((wrap64 (8 * (l0_0.length : Int))) % 4294967296) != 0) = true := bne_iff_ne.mpr c5
    obtain rfl := Option.some.inj H
    go_enter Try.func15, Try.ntmps15
    go_wp2_with (first | ((with_reducible refine gate_dst (N := 3) rfl ?_); refine box_event ?hg (N := 3) ?hd (cs := #[.slice A0_0 l0_0.length c0_0, .int .u32 a0_1, .int .u32 a0_2]) (t := 25) ?hr ?_; (case hd => rfl); (case hg => rfl); (case hr => first | (go_simp; done) | (go_simp; rfl)); intro gb142 hg w6 hbox hb; have n0_ := Aside0.mk (below_step (by repeat (first | (with_reducible first | exact HB.out | apply below_alloc | apply pw_below_drewN | apply below_drew1) | exact HB.out)) hb); have n1_ := Aside0.mk (hbox); have n2_ := Aside0.mk ((by rw [hg]; exact (below_size (by repeat (first | (with_reducible first | exact HB.out | apply below_alloc | apply pw_below_drewN | apply below_drew1) | exact HB.out))) : w.heap.size ≤ gb142)); have n3_ := Aside0.mk ((by rw [hg]; exact (below_size (by repeat (first | (with_reducible first | exact HB.out | apply below_alloc | apply pw_below_drewN | apply below_drew1) | exact HB.out))) : w.heap.size ≤ gb142)); clear HB; have HB := n0_; have BK142 := n1_; have GW142 := n2_; have GE142 := n3_; clear n0_ n1_ n2_ n3_; clear hb hbox hg; have hcz7_0 : w6.cell? ⟨gb142, 0, none⟩ = some (.slice A0_0 l0_0.length c0_0) := (blk_cell BK142.out 0).trans rfl; have hcz7_1 : w6.cell? ⟨gb142, 1, none⟩ = some (.int .u32 a0_1) := (blk_cell BK142.out 1).trans rfl; have hcz7_2 : w6.cell? ⟨gb142, 2, none⟩ = some (.int .u32 a0_2) := (blk_cell BK142.out 2).trans rfl; have hfz7_0 := blk_frozen BK142.out 0; have hfz7_1 := blk_frozen BK142.out 1; have hfz7_2 := blk_frozen BK142.out 2) | (go_at_call 23; (with_reducible refine (spec_Murmur.calls k (((a1 * 4221880213) + a0_2) % 4294967296) _ _ l2 t143 _ ?side1 ?side2 A4.out).mono ?_); (case side1 => repeat (first | exact (Kd.C_below HR2.out HB.out) | (with_reducible refine Kd.C_alloc ?_ _) | (with_reducible refine Kd.C_drewN ?_ _) | (with_reducible refine Kd.C_drew ?_))); (case side2 => exact HC2.out); rintro e w' ⟨rfl, ⟨nd, rfl⟩⟩; (try first | exact ⟨rfl, _, World.drewN_drewN _ _ _⟩ | exact ⟨rfl, _, Eq.trans (World.drewN_drewN _ _ _) (congrArg (World.drewN _) (Nat.add_assoc _ _ _))⟩)))
    repeat (go_quiet (first | ((with_reducible refine gate_dst (N := 3) rfl ?_); refine box_event ?hg (N := 3) ?hd (cs := #[.slice A0_0 l0_0.length c0_0, .int .u32 a0_1, .int .u32 a0_2]) (t := 25) ?hr ?_; (case hd => rfl); (case hg => rfl); (case hr => first | (go_simp; done) | (go_simp; rfl)); intro gb142 hg w6 hbox hb; have n0_ := Aside0.mk (below_step (by repeat (first | (with_reducible first | exact HB.out | apply below_alloc | apply pw_below_drewN | apply below_drew1) | exact HB.out)) hb); have n1_ := Aside0.mk (hbox); have n2_ := Aside0.mk ((by rw [hg]; exact (below_size (by repeat (first | (with_reducible first | exact HB.out | apply below_alloc | apply pw_below_drewN | apply below_drew1) | exact HB.out))) : w.heap.size ≤ gb142)); have n3_ := Aside0.mk ((by rw [hg]; exact (below_size (by repeat (first | (with_reducible first | exact HB.out | apply below_alloc | apply pw_below_drewN | apply below_drew1) | exact HB.out))) : w.heap.size ≤ gb142)); clear HB; have HB := n0_; have BK142 := n1_; have GW142 := n2_; have GE142 := n3_; clear n0_ n1_ n2_ n3_; clear hb hbox hg; have hcz7_0 : w6.cell? ⟨gb142, 0, none⟩ = some (.slice A0_0 l0_0.length c0_0) := (blk_cell BK142.out 0).trans rfl; have hcz7_1 : w6.cell? ⟨gb142, 1, none⟩ = some (.int .u32 a0_1) := (blk_cell BK142.out 1).trans rfl; have hcz7_2 : w6.cell? ⟨gb142, 2, none⟩ = some (.int .u32 a0_2) := (blk_cell BK142.out 2).trans rfl; have hfz7_0 := blk_frozen BK142.out 0; have hfz7_1 := blk_frozen BK142.out 1; have hfz7_2 := blk_frozen BK142.out 2) | (go_at_call 23; (with_reducible refine (spec_Murmur.calls k (((a1 * 4221880213) + a0_2) % 4294967296) _ _ l2 t143 _ ?side1 ?side2 A4.out).mono ?_); (case side1 => repeat (first | exact (Kd.C_below HR2.out HB.out) | (with_reducible refine Kd.C_alloc ?_ _) | (with_reducible refine Kd.C_drewN ?_ _) | (with_reducible refine Kd.C_drew ?_))); (case side2 => exact HC2.out); rintro e w' ⟨rfl, ⟨nd, rfl⟩⟩; (try first | exact ⟨rfl, _, World.drewN_drewN _ _ _⟩ | exact ⟨rfl, _, Eq.trans (World.drewN_drewN _ _ _) (congrArg (World.drewN _) (Nat.add_assoc _ _ _))⟩))); try go_wp2_with (first | ((with_reducible refine gate_dst (N := 3) rfl ?_); refine box_event ?hg (N := 3) ?hd (cs := #[.slice A0_0 l0_0.length c0_0, .int .u32 a0_1, .int .u32 a0_2]) (t := 25) ?hr ?_; (case hd => rfl); (case hg => rfl); (case hr => first | (go_simp; done) | (go_simp; rfl)); intro gb142 hg w6 hbox hb; have n0_ := Aside0.mk (below_step (by repeat (first | (with_reducible first | exact HB.out | apply below_alloc | apply pw_below_drewN | apply below_drew1) | exact HB.out)) hb); have n1_ := Aside0.mk (hbox); have n2_ := Aside0.mk ((by rw [hg]; exact (below_size (by repeat (first | (with_reducible first | exact HB.out | apply below_alloc | apply pw_below_drewN | apply below_drew1) | exact HB.out))) : w.heap.size ≤ gb142)); have n3_ := Aside0.mk ((by rw [hg]; exact (below_size (by repeat (first | (with_reducible first | exact HB.out | apply below_alloc | apply pw_below_drewN | apply below_drew1) | exact HB.out))) : w.heap.size ≤ gb142)); clear HB; have HB := n0_; have BK142 := n1_; have GW142 := n2_; have GE142 := n3_; clear n0_ n1_ n2_ n3_; clear hb hbox hg; have hcz7_0 : w6.cell? ⟨gb142, 0, none⟩ = some (.slice A0_0 l0_0.length c0_0) := (blk_cell BK142.out 0).trans rfl; have hcz7_1 : w6.cell? ⟨gb142, 1, none⟩ = some (.int .u32 a0_1) := (blk_cell BK142.out 1).trans rfl; have hcz7_2 : w6.cell? ⟨gb142, 2, none⟩ = some (.int .u32 a0_2) := (blk_cell BK142.out 2).trans rfl; have hfz7_0 := blk_frozen BK142.out 0; have hfz7_1 := blk_frozen BK142.out 1; have hfz7_2 := blk_frozen BK142.out 2) | (go_at_call 23; (with_reducible refine (spec_Murmur.calls k (((a1 * 4221880213) + a0_2) % 4294967296) _ _ l2 t143 _ ?side1 ?side2 A4.out).mono ?_); (case side1 => repeat (first | exact (Kd.C_below HR2.out HB.out) | (with_reducible refine Kd.C_alloc ?_ _) | (with_reducible refine Kd.C_drewN ?_ _) | (with_reducible refine Kd.C_drew ?_))); (case side2 => exact HC2.out); rintro e w' ⟨rfl, ⟨nd, rfl⟩⟩; (try first | exact ⟨rfl, _, World.drewN_drewN _ _ _⟩ | exact ⟨rfl, _, Eq.trans (World.drewN_drewN _ _ _) (congrArg (World.drewN _) (Nat.add_assoc _ _ _))⟩))))
    go_ret
    exact ⟨by first | rfl | (simp [errW_none, errW_some] <;> rfl) | (simp [*, errW_none, errW_some] <;> rfl), by repeat (first | (with_reducible first | exact HB.out | apply below_alloc | apply pw_below_drewN | apply below_drew1 | refine below_set ?_ GE142.out) | exact HB.out)⟩

/-! ### spec_BloomAdd: function 8 -/
def spec_BloomAdd.l0 : Nat → List Int → Int → List Int → Int → Int → Option (List Int × Int × Int)
  | 0, _, _, _, _, _ => none
  | k + 1, x1, x5, x145000, x145001, x145002 => if x5 < x145001 then ((spec_bit.f k x145000 x145001 x145002 x5 x1).bind fun t152 => (if 0 ≤ ((Int.tdiv t152 8) % 4294967296) then (if ((Int.tdiv t152 8) % 4294967296) < (x145000.length : Int) then (if 0 ≤ (Int.tmod t152 8) then (spec_BloomAdd.l0 k x1 ((x5 + 1) % 4294967296) (x145000.set (((Int.tdiv t152 8) % 4294967296) : Int).toNat (Go.bits .or .u8 (rd x145000 ((Int.tdiv t152 8) % 4294967296)) (shl .u8 1 (Int.tmod t152 8)))) x145001 x145002) else (none)) else (none)) else (none))) else (some (x145000, x145001, x145002))
def spec_BloomAdd.f (k : Nat) (l0_0 : List Int) (a0_1 : Int) (a0_2 : Int) (l1 : List Int) : Option (List Int × Int × Int) := (some (([] : List Int) : List Int)).bind fun y146 => (if y146.length + l0_0.length < 140737488355328 then ((some (y146 ++ l0_0 : List Int)).bind fun y149 => (if (y149.length : Int) = 0 then (some (y149, a0_1, a0_2)) else (spec_BloomAdd.l0 k l1 0 y149 a0_1 a0_2))) else (none))
theorem spec_BloomAdd.mono_l : ∀ k, (∀ y0 y1 y2 y3 y4, LeO (spec_BloomAdd.l0 k y0 y1 y2 y3 y4) (spec_BloomAdd.l0 (k + 1) y0 y1 y2 y3 y4))
  | 0 => fun _ _ _ _ _ r h => by simp [spec_BloomAdd.l0] at h
  | k + 1 => by
    have ih0 := spec_BloomAdd.mono_l k
    · intro y0 y1 y2 y3 y4
      unfold spec_BloomAdd.l0
      repeat' first
      | (with_reducible exact ih0 _ _ _ _ _)
      | (with_reducible exact spec_bit.mono _ _ _ _ _ _)
      | (with_reducible exact LeO.refl _)
      | (with_reducible exact LeO.none _)
      | (with_reducible refine LeO.ite ?_ ?_)
      | (with_reducible refine LeO.bind ?_ (fun _ => ?_))
      | exact ih0 _ _ _ _ _
      | exact spec_bit.mono _ _ _ _ _ _
      | exact LeO.none _
      | refine LeO.ite ?_ ?_
      | refine LeO.bind ?_ (fun _ => ?_)
theorem spec_BloomAdd.mono : ∀ a0 a1 a2 a3 k, LeO (spec_BloomAdd.f k a0 a1 a2 a3) (spec_BloomAdd.f (k + 1) a0 a1 a2 a3) := by
  intro a0 a1 a2 a3 k
  have ih0 := spec_BloomAdd.mono_l k
  unfold spec_BloomAdd.f
  repeat' first
      | (with_reducible exact ih0 _ _ _ _ _)
      | (with_reducible exact spec_bit.mono _ _ _ _ _ _)
      | (with_reducible exact LeO.refl _)
      | (with_reducible exact LeO.none _)
      | (with_reducible refine LeO.ite ?_ ?_)
      | (with_reducible refine LeO.bind ?_ (fun _ => ?_))
      | exact ih0 _ _ _ _ _
      | exact spec_bit.mono _ _ _ _ _ _
      | exact LeO.none _
      | refine LeO.ite ?_ ?_
      | refine LeO.bind ?_ (fun _ => ?_)
def spec_BloomAdd.T8 : Bool × List (List Nat × List Nat) := (true, [([], []), ([0], [0]), ([], []), ([2], [2]), ([], []), ([4], [4]), ([], []), ([6], [6]), ([5, 7], [5, 7]), ([8], [8]), ([], []), ([10], [10]), ([11], [11]), ([9, 12], [9, 12]), ([1, 3, 0, 1, 2, 3, 4, 5, 6, 7, 8, 9, 10, 11, 12, 13], [1, 3]), ([14, 13, 0, 1, 2, 3, 4, 5, 6, 7, 8, 9, 10, 11, 12, 13], [13, 14])])
def spec_BloomAdd.B8 : List Nat := [0, 1, 0, 4, 0, 16, 0, 64, 240, 496, 0, 1024, 3072, 8176, 16383, 32767]
theorem spec_BloomAdd.tab8 : rtab .any (opsOf Try.f8 8) = spec_BloomAdd.T8 := by kernel_rfl
theorem spec_BloomAdd.bits8 : waitsOk spec_BloomAdd.T8.2 spec_BloomAdd.B8 = true := by kernel_rfl
set_option maxHeartbeats 8000000 in
set_option maxRecDepth 100000 in
theorem spec_BloomAdd.calls (k : Nat) (A0_0 : Option Addr) (c0_0 : Nat) (l0_0 : List Int) (a0_1 : Int) (a0_2 : Int) (A1 : Option Addr) (c1 : Nat) (l1 : List Int) (r1 : List Int) (r2 : Int) (r3 : Int) (w : World) (hr0_0 : Kd.C (Kd.int .u8) w A0_0 l0_0.length l0_0) (hc0_0 : l0_0.length ≤ c0_0) (hr1 : Kd.C (Kd.int .u8) w A1 l1.length l1) (hc1 : l1.length ≤ c1) (h : spec_BloomAdd.f k l0_0 a0_1 a0_2 l1 = some (r1, r2, r3)) :
    Calls Try.prog 8 #[.agg #[.slice A0_0 l0_0.length c0_0, .int .u32 a0_1, .int .u32 a0_2], .slice A1 l1.length c1] w fun e w' => ∃ v0_ : Value, e = .returned (.agg #[v0_, .int .u32 r2, .int .u32 r3]) ∧ Kd.R (Kd.int .u8) 5 w' w.heap.size (fun _ => True) v0_ r1 ∧ Below w.heap.size w w' := by
  have hu25 := Try.underlying25
  have HR0_0 := Aside0.mk hr0_0
  have HC0_0 := Aside0.mk hc0_0
  clear hr0_0 hc0_0
  have HR1 := Aside0.mk hr1
  have HC1 := Aside0.mk hc1
  clear hr1 hc1
  have HB := Aside0.mk (Below.refl w.heap.size w)
  have H : ((some (([] : List Int) : List Int)).bind fun y146 => (if y146.length + l0_0.length < 140737488355328 then ((some (y146 ++ l0_0 : List Int)).bind fun y149 => (if (y149.length : Int) = 0 then (some (y149, a0_1, a0_2)) else (spec_BloomAdd.l0 k l1 0 y149 a0_1 a0_2))) else (none))) = some (r1, r2, r3) := h
  clear h
  obtain ⟨y146, hy146⟩ : ∃ y_ : List Int, y_ = (([] : List Int)) := ⟨_, rfl⟩
  replace H : (if y146.length + l0_0.length < 140737488355328 then ((some (y146 ++ l0_0 : List Int)).bind fun y149 => (if (y149.length : Int) = 0 then (some (y149, a0_1, a0_2)) else (spec_BloomAdd.l0 k l1 0 y149 a0_1 a0_2))) else (none)) = some (r1, r2, r3) := by first | (rw [hy146]; with_reducible exact H) | (have H2_ := (Option.bind_some _ _).symm.trans H; rw [hy146]; with_reducible exact H2_) | (have H2_ := (Option.bind_some _ _).symm.trans H; with_reducible exact H2_) | with_reducible exact H | (rw [hy146]; exact H) | exact H
  have Ny146 := Aside0.mk hy146
  clear hy146
  by_cases c3 : y146.length + l0_0.length < 140737488355328
  · rw [if_pos c3] at H
    have LMc3 := Aside0.mk c3
    clear c3
    obtain ⟨y149, hy149⟩ : ∃ y_ : List Int, y_ = (y146 ++ l0_0) := ⟨_, rfl⟩
    replace H : (if (y149.length : Int) = 0 then (some (y149, a0_1, a0_2)) else (spec_BloomAdd.l0 k l1 0 y149 a0_1 a0_2)) = some (r1, r2, r3) := by first | (rw [hy149]; with_reducible exact H) | (have H2_ := (Option.bind_some _ _).symm.trans H; rw [hy149]; with_reducible exact H2_) | (have H2_ := (Option.bind_some _ _).symm.trans H; with_reducible exact H2_) | with_reducible exact H | (rw [hy149]; exact H) | exact H
    have Ny149 := Aside0.mk hy149
    clear hy149
    by_cases c4 : (y149.length : Int) = 0
    · rw [if_pos c4] at H
      have c4b0 : ((y149.length : Int) == 0) = true := beq_iff_eq.mpr c4
      have c4b1 : ((y149.length : Int) != 0) = false := bne_eq_false_iff_eq.mpr c4
      clear c4
      simp only [Option.some.injEq, Prod.mk.injEq] at H
      obtain ⟨rfl, rfl, rfl⟩ := H
      go_enter Try.func8, Try.ntmps8
      go_wp2_with (first | ((with_reducible refine gate_dst (N := 2) rfl ?_); refine box_event ?hg (N := 2) ?hd (cs := #[.slice A0_0 l0_0.length c0_0, .int .u32 a0_1, .int .u32 a0_2]) (t := 25) ?hr ?_; (case hd => rfl); (case hg => rfl); (case hr => first | (go_simp; done) | (go_simp; rfl)); intro gb144 hg w5 hbox hb; have n0_ := Aside0.mk (below_step (by repeat (first | (with_reducible first | exact HB.out | apply below_alloc | apply pw_below_drewN | apply below_drew1) | exact HB.out)) hb); have n1_ := Aside0.mk (hbox); have n2_ := Aside0.mk ((by rw [hg]; exact (below_size (by repeat (first | (with_reducible first | exact HB.out | apply below_alloc | apply pw_below_drewN | apply below_drew1) | exact HB.out))) : w.heap.size ≤ gb144)); have n3_ := Aside0.mk ((by rw [hg]; exact (below_size (by repeat (first | (with_reducible first | exact HB.out | apply below_alloc | apply pw_below_drewN | apply below_drew1) | exact HB.out))) : w.heap.size ≤ gb144)); clear HB; have HB := n0_; have BK144 := n1_; have GW144 := n2_; have GE144 := n3_; clear n0_ n1_ n2_ n3_; clear hb hbox hg) | ((with_reducible refine gate_dst (N := 4) rfl ?_); refine box_event ?hg (N := 4) ?hd (cs := #[.slice none 0 0, .int .u32 0, .int .u32 0]) (t := 25) ?hr ?_; (case hd => rfl); (case hg => rfl); (case hr => first | (go_simp; done) | (go_simp; rfl)); intro gb145 hg w6 hbox hb; have n0_ := Aside0.mk (blk_below (g := gb144) (o := .cells #[.slice A0_0 l0_0.length c0_0, .int .u32 a0_1, .int .u32 a0_2] 25 (0, 0)) (by (with_reducible repeat (first | refine blk_drewN ?_ _ | refine blk_drew ?_ | refine blk_alloc ?_ _)); exact BK144.out) hb); have n1_ := Aside0.mk (below_step (by repeat (first | (with_reducible first | exact HB.out | apply below_alloc | apply pw_below_drewN | apply below_drew1 | refine below_set ?_ GE144.out) | exact HB.out)) hb); have n2_ := Aside0.mk (hbox); have n3_ := Aside0.mk ((by rw [hg]; exact (below_size (by repeat (first | (with_reducible first | exact HB.out | apply below_alloc | apply pw_below_drewN | apply below_drew1 | refine below_set ?_ GE144.out) | exact HB.out))) : w.heap.size ≤ gb145)); have n4_ := Aside0.mk ((by rw [hg]; exact (below_size (by repeat (first | (with_reducible first | exact HB.out | apply below_alloc | apply pw_below_drewN | apply below_drew1 | refine below_set ?_ GE144.out) | exact HB.out))) : w.heap.size ≤ gb145)); have n5_ := Aside0.mk ((by rw [hg]; exact Nat.ne_of_lt (blk_lt (g := gb144) (o := .cells #[.slice A0_0 l0_0.length c0_0, .int .u32 a0_1, .int .u32 a0_2] 25 (0, 0)) (by (with_reducible repeat (first | refine blk_drewN ?_ _ | refine blk_drew ?_ | refine blk_alloc ?_ _)); exact BK144.out)) : gb144 ≠ gb145)); have n6_ := Aside0.mk ((by rw [hg]; exact Nat.ne_of_gt (blk_lt (g := gb144) (o := .cells #[.slice A0_0 l0_0.length c0_0, .int .u32 a0_1, .int .u32 a0_2] 25 (0, 0)) (by (with_reducible repeat (first | refine blk_drewN ?_ _ | refine blk_drew ?_ | refine blk_alloc ?_ _)); exact BK144.out)) : gb145 ≠ gb144)); clear BK144; clear HB; have BK144 := n0_; have HB := n1_; have BK145 := n2_; have GW145 := n3_; have GE145 := n4_; have NB144_145 := n5_; have NB145_144 := n6_; clear n0_ n1_ n2_ n3_ n4_ n5_ n6_; clear hb hbox hg) | ((with_reducible refine gate_dst (N := 7) rfl ?_); refine Kd.R_lit (Kd.int .u8) _ 5 ?hg (N := 7) ?hd (xs := ([] : List Int)) (inner := []) (ok := fun _ => True) (okp := fun _ => True) ?hr ?hp (fun _ hk => hk) trivial (Below.refl _ _) (Nat.le_refl _) (by simp) ?_; (case hd => rfl); (case hg => rfl); (case hr => first | (go_simp; done) | (go_simp; rfl)); (case hp => exact (Reps.none _ _)); intro v147 w7 ho8 hb hg_ hnew_; clear hg_ hnew_; (first | rw [← Ny146.out] at ho8 | (simp only [Int.reduceToNat] at ho8; rw [← Ny146.out] at ho8)); have n0_ := Aside0.mk (Kd.R_lower ho8 (below_size (by repeat (first | (with_reducible first | exact HB.out | apply below_alloc | apply pw_below_drewN | apply below_drew1 | refine below_set ?_ GE144.out | refine below_set ?_ GE145.out) | exact HB.out)))); have n1_ := Aside0.mk (blk_below (g := gb144) (o := .cells #[.slice A0_0 l0_0.length c0_0, .int .u32 a0_1, .int .u32 a0_2] 25 (0, 0)) (by (with_reducible repeat (first | refine blk_drewN ?_ _ | refine blk_drew ?_ | refine blk_alloc ?_ _)); exact BK144.out) hb); have n2_ := Aside0.mk (blk_below (g := gb145) (o := .cells #[.slice none 0 0, .int .u32 0, .int .u32 0] 25 (0, 0)) (by (with_reducible repeat (first | refine blk_drewN ?_ _ | refine blk_drew ?_ | refine blk_alloc ?_ _)); exact BK145.out) hb); have n3_ := Aside0.mk (below_step (by repeat (first | (with_reducible first | exact HB.out | apply below_alloc | apply pw_below_drewN | apply below_drew1 | refine below_set ?_ GE144.out | refine below_set ?_ GE145.out) | exact HB.out)) hb); clear BK144; clear BK145; clear HB; have HO148 := n0_; have BK144 := n1_; have BK145 := n2_; have HB := n3_; clear n0_ n1_ n2_ n3_; clear hb ho8; have hnb9 := NB144_145.out; have hnc9 := NB145_144.out; have hcz10_0 : w7.cell? ⟨gb144, 0, none⟩ = some (.slice A0_0 l0_0.length c0_0) := (blk_cell BK144.out 0).trans rfl; have hcz10_1 : w7.cell? ⟨gb144, 1, none⟩ = some (.int .u32 a0_1) := (blk_cell BK144.out 1).trans rfl; have hcz10_2 : w7.cell? ⟨gb144, 2, none⟩ = some (.int .u32 a0_2) := (blk_cell BK144.out 2).trans rfl; have hfz10_0 := blk_frozen BK144.out 0; have hfz10_1 := blk_frozen BK144.out 1; have hfz10_2 := blk_frozen BK144.out 2) | ((with_reducible refine gate_builtin (b := .append) (xs := #[.tmp 7, .tmp 9]) rfl ?_); at_builtin; refine Kd.R_append_rows (Kd.int .u8) (w0 := w) w.heap.size rfl (.tmp 7) (.tmp 9) 22 5 (.int .u8 0) 1 rfl Try.underlying22 info5 rfl (by decide) (by omega) v147 y146 l0_0 _ _ _ (fun _ => True) (fun _ => False) rfl rfl ?aO ?aR (fun _ _ h => h) (fun _ h => h.elim) ?aF ?aB ?aS ?aL ?_; (case aR => repeat (first | exact (Kd.C_below HR0_0.out HB.out) | (with_reducible refine Kd.C_alloc ?_ _) | (with_reducible refine Kd.C_drewN ?_ _) | (with_reducible refine Kd.C_drew ?_))); (case aB => exact (by repeat (first | (with_reducible first | exact HB.out | apply below_alloc | apply pw_below_drewN | apply below_drew1 | refine below_set ?_ GE144.out | refine below_set ?_ GE145.out) | exact HB.out))); (case aF => exact (fun _ _ => trivial)); (case aO => exact (by (with_reducible repeat (first | apply Kd.R_alloc | apply Kd.R_drewN | apply Kd.R_drew)); exact HO148.out)); (case aS => exact (below_size (by repeat (first | (with_reducible first | exact HB.out | apply below_alloc | apply pw_below_drewN | apply below_drew1 | refine below_set ?_ GE144.out | refine below_set ?_ GE145.out) | exact HB.out)))); (case aL => have := LMc3.out; omega); intro v150 w11 ho hb hg hat; rw [← Ny149.out] at ho; have n0_ := Aside0.mk (blk_grown (g := gb144) (o := .cells #[.slice A0_0 l0_0.length c0_0, .int .u32 a0_1, .int .u32 a0_2] 25 (0, 0)) (by (with_reducible repeat (first | refine blk_drewN ?_ _ | refine blk_drew ?_ | refine blk_alloc ?_ _)); exact BK144.out) hg (Kd.R_ne HO148.out BK144.out (by decide))); have n1_ := Aside0.mk (blk_grown (g := gb145) (o := .cells #[.slice none 0 0, .int .u32 0, .int .u32 0] 25 (0, 0)) (by (with_reducible repeat (first | refine blk_drewN ?_ _ | refine blk_drew ?_ | refine blk_alloc ?_ _)); exact BK145.out) hg (Kd.R_ne HO148.out BK145.out (by decide))); have n2_ := Aside0.mk (hb); have n3_ := Aside0.mk (ho); clear BK144; clear BK145; clear HB; clear HO148; have BK144 := n0_; have BK145 := n1_; have HB := n2_; have HO151 := n3_; clear n0_ n1_ n2_ n3_; clear ho hb hg hat; obtain ⟨Ao12, co12, eo12⟩ := Kd.R_slice HO151.out; subst eo12; have hcz13_0 : w11.cell? ⟨gb144, 0, none⟩ = some (.slice A0_0 l0_0.length c0_0) := (blk_cell BK144.out 0).trans rfl; have hcz13_1 : w11.cell? ⟨gb144, 1, none⟩ = some (.int .u32 a0_1) := (blk_cell BK144.out 1).trans rfl; have hcz13_2 : w11.cell? ⟨gb144, 2, none⟩ = some (.int .u32 a0_2) := (blk_cell BK144.out 2).trans rfl; have hfz13_0 := blk_frozen BK144.out 0; have hfz13_1 := blk_frozen BK144.out 1; have hfz13_2 := blk_frozen BK144.out 2; have hcz14_0 : w11.cell? ⟨gb145, 0, none⟩ = some (.slice none 0 0) := (blk_cell BK145.out 0).trans rfl; have hcz14_1 : w11.cell? ⟨gb145, 1, none⟩ = some (.int .u32 0) := (blk_cell BK145.out 1).trans rfl; have hcz14_2 : w11.cell? ⟨gb145, 2, none⟩ = some (.int .u32 0) := (blk_cell BK145.out 2).trans rfl; have hfz14_0 := blk_frozen BK145.out 0; have hfz14_1 := blk_frozen BK145.out 1; have hfz14_2 := blk_frozen BK145.out 2))
      refine bodyPost_ret (results_cell_row rfl _ _ gb145 25 #[.slice Ao12 y149.length co12, .int .u32 a0_1, .int .u32 a0_2] (0, 0) _ rfl (by (with_reducible repeat (first | refine blk_drewN ?_ _ | refine blk_drew ?_ | refine blk_alloc ?_ _)); refine blk_put (cs := #[.slice Ao12 y149.length co12, .int .u32 a0_1, .int .u32 0]) ?_ 2 _ rfl; (with_reducible repeat (first | refine blk_drewN ?_ _ | refine blk_drew ?_ | refine blk_alloc ?_ _)); refine blk_put (cs := #[.slice Ao12 y149.length co12, .int .u32 0, .int .u32 0]) ?_ 1 _ rfl; (with_reducible repeat (first | refine blk_drewN ?_ _ | refine blk_drew ?_ | refine blk_alloc ?_ _)); refine blk_put (cs := #[.slice none 0 0, .int .u32 0, .int .u32 0]) ?_ 0 _ rfl; (with_reducible repeat (first | refine blk_drewN ?_ _ | refine blk_drew ?_ | refine blk_alloc ?_ _)); refine blk_far ?_ NB145_144.out _; (with_reducible repeat (first | refine blk_drewN ?_ _ | refine blk_drew ?_ | refine blk_alloc ?_ _)); exact BK145.out) Try.underlying25 rfl (by kernel_rfl)) rfl ?_
      exact ⟨_, by first | rfl | (simp [errW_none, errW_some] <;> rfl) | (simp [*, errW_none, errW_some] <;> rfl), by (with_reducible repeat (first | apply Kd.R_alloc | apply Kd.R_drewN | apply Kd.R_drew)); exact Kd.R_mono (Kd.R_far (p := ⟨gb145, 2, none⟩) (Kd.R_far (p := ⟨gb145, 1, none⟩) (Kd.R_far (p := ⟨gb145, 0, none⟩) (Kd.R_far (p := ⟨gb144, 0, none⟩) (Kd.R_types (Kd.R_types HO151.out BK144.out (by decide)) BK145.out (by decide)) (fun _ hk => hk.1.2) (.slice Ao12 y149.length co12)) (fun _ hk => hk.2) (.slice Ao12 y149.length co12)) (fun _ hk => hk.2) (.int .u32 a0_1)) (fun _ hk => hk.2) (.int .u32 a0_2)) (fun _ hk => trivial), by repeat (first | (with_reducible first | exact HB.out | apply below_alloc | apply pw_below_drewN | apply below_drew1 | refine below_set ?_ GE144.out | refine below_set ?_ GE145.out) | exact HB.out)⟩
    · rw [if_neg c4] at H
      have c4b0 : ((y149.length : Int) == 0) = false := beq_eq_false_iff_ne.mpr c4
      have c4b1 : ((y149.length : Int) != 0) = true := bne_iff_ne.mpr c4
      have c4b2 : ¬ (y149 = []) := fun h_ => c4 (by rw [h_]; rfl)
      have H' := Aside0.mk H
      clear H
      go_enter Try.func8, Try.ntmps8
      go_wp2_with (first | ((with_reducible refine gate_dst (N := 2) rfl ?_); refine box_event ?hg (N := 2) ?hd (cs := #[.slice A0_0 l0_0.length c0_0, .int .u32 a0_1, .int .u32 a0_2]) (t := 25) ?hr ?_; (case hd => rfl); (case hg => rfl); (case hr => first | (go_simp; done) | (go_simp; rfl)); intro gb144 hg w15 hbox hb; have n0_ := Aside0.mk (below_step (by repeat (first | (with_reducible first | exact HB.out | apply below_alloc | apply pw_below_drewN | apply below_drew1) | exact HB.out)) hb); have n1_ := Aside0.mk (hbox); have n2_ := Aside0.mk ((by rw [hg]; exact (below_size (by repeat (first | (with_reducible first | exact HB.out | apply below_alloc | apply pw_below_drewN | apply below_drew1) | exact HB.out))) : w.heap.size ≤ gb144)); have n3_ := Aside0.mk ((by rw [hg]; exact (below_size (by repeat (first | (with_reducible first | exact HB.out | apply below_alloc | apply pw_below_drewN | apply below_drew1) | exact HB.out))) : w.heap.size ≤ gb144)); clear HB; have HB := n0_; have BK144 := n1_; have GW144 := n2_; have GE144 := n3_; clear n0_ n1_ n2_ n3_; clear hb hbox hg) | ((with_reducible refine gate_dst (N := 4) rfl ?_); refine box_event ?hg (N := 4) ?hd (cs := #[.slice none 0 0, .int .u32 0, .int .u32 0]) (t := 25) ?hr ?_; (case hd => rfl); (case hg => rfl); (case hr => first | (go_simp; done) | (go_simp; rfl)); intro gb145 hg w16 hbox hb; have n0_ := Aside0.mk (blk_below (g := gb144) (o := .cells #[.slice A0_0 l0_0.length c0_0, .int .u32 a0_1, .int .u32 a0_2] 25 (0, 0)) (by (with_reducible repeat (first | refine blk_drewN ?_ _ | refine blk_drew ?_ | refine blk_alloc ?_ _)); exact BK144.out) hb); have n1_ := Aside0.mk (below_step (by repeat (first | (with_reducible first | exact HB.out | apply below_alloc | apply pw_below_drewN | apply below_drew1 | refine below_set ?_ GE144.out) | exact HB.out)) hb); have n2_ := Aside0.mk (hbox); have n3_ := Aside0.mk ((by rw [hg]; exact (below_size (by repeat (first | (with_reducible first | exact HB.out | apply below_alloc | apply pw_below_drewN | apply below_drew1 | refine below_set ?_ GE144.out) | exact HB.out))) : w.heap.size ≤ gb145)); have n4_ := Aside0.mk ((by rw [hg]; exact (below_size (by repeat (first | (with_reducible first | exact HB.out | apply below_alloc | apply pw_below_drewN | apply below_drew1 | refine below_set ?_ GE144.out) | exact HB.out))) : w.heap.size ≤ gb145)); have n5_ := Aside0.mk ((by rw [hg]; exact Nat.ne_of_lt (blk_lt (g := gb144) (o := .cells #[.slice A0_0 l0_0.length c0_0, .int .u32 a0_1, .int .u32 a0_2] 25 (0, 0)) (by (with_reducible repeat (first | refine blk_drewN ?_ _ | refine blk_drew ?_ | refine blk_alloc ?_ _)); exact BK144.out)) : gb144 ≠ gb145)); have n6_ := Aside0.mk ((by rw [hg]; exact Nat.ne_of_gt (blk_lt (g := gb144) (o := .cells #[.slice A0_0 l0_0.length c0_0, .int .u32 a0_1, .int .u32 a0_2] 25 (0, 0)) (by (with_reducible repeat (first | refine blk_drewN ?_ _ | refine blk_drew ?_ | refine blk_alloc ?_ _)); exact BK144.out)) : gb145 ≠ gb144)); clear BK144; clear HB; have BK144 := n0_; have HB := n1_; have BK145 := n2_; have GW145 := n3_; have GE145 := n4_; have NB144_145 := n5_; have NB145_144 := n6_; clear n0_ n1_ n2_ n3_ n4_ n5_ n6_; clear hb hbox hg) | ((with_reducible refine gate_dst (N := 7) rfl ?_); refine Kd.R_lit (Kd.int .u8) _ 5 ?hg (N := 7) ?hd (xs := ([] : List Int)) (inner := []) (ok := fun _ => True) (okp := fun _ => True) ?hr ?hp (fun _ hk => hk) trivial (Below.refl _ _) (Nat.le_refl _) (by simp) ?_; (case hd => rfl); (case hg => rfl); (case hr => first | (go_simp; done) | (go_simp; rfl)); (case hp => exact (Reps.none _ _)); intro v147 w17 ho18 hb hg_ hnew_; clear hg_ hnew_; (first | rw [← Ny146.out] at ho18 | (simp only [Int.reduceToNat] at ho18; rw [← Ny146.out] at ho18)); have n0_ := Aside0.mk (Kd.R_lower ho18 (below_size (by repeat (first | (with_reducible first | exact HB.out | apply below_alloc | apply pw_below_drewN | apply below_drew1 | refine below_set ?_ GE144.out | refine below_set ?_ GE145.out) | exact HB.out)))); have n1_ := Aside0.mk (blk_below (g := gb144) (o := .cells #[.slice A0_0 l0_0.length c0_0, .int .u32 a0_1, .int .u32 a0_2] 25 (0, 0)) (by (with_reducible repeat (first | refine blk_drewN ?_ _ | refine blk_drew ?_ | refine blk_alloc ?_ _)); exact BK144.out) hb); have n2_ := Aside0.mk (blk_below (g := gb145) (o := .cells #[.slice none 0 0, .int .u32 0, .int .u32 0] 25 (0, 0)) (by (with_reducible repeat (first | refine blk_drewN ?_ _ | refine blk_drew ?_ | refine blk_alloc ?_ _)); exact BK145.out) hb); have n3_ := Aside0.mk (below_step (by repeat (first | (with_reducible first | exact HB.out | apply below_alloc | apply pw_below_drewN | apply below_drew1 | refine below_set ?_ GE144.out | refine below_set ?_ GE145.out) | exact HB.out)) hb); clear BK144; clear BK145; clear HB; have HO148 := n0_; have BK144 := n1_; have BK145 := n2_; have HB := n3_; clear n0_ n1_ n2_ n3_; clear hb ho18; have hnb19 := NB144_145.out; have hnc19 := NB145_144.out; have hcz20_0 : w17.cell? ⟨gb144, 0, none⟩ = some (.slice A0_0 l0_0.length c0_0) := (blk_cell BK144.out 0).trans rfl; have hcz20_1 : w17.cell? ⟨gb144, 1, none⟩ = some (.int .u32 a0_1) := (blk_cell BK144.out 1).trans rfl; have hcz20_2 : w17.cell? ⟨gb144, 2, none⟩ = some (.int .u32 a0_2) := (blk_cell BK144.out 2).trans rfl; have hfz20_0 := blk_frozen BK144.out 0; have hfz20_1 := blk_frozen BK144.out 1; have hfz20_2 := blk_frozen BK144.out 2) | ((with_reducible refine gate_builtin (b := .append) (xs := #[.tmp 7, .tmp 9]) rfl ?_); at_builtin; refine Kd.R_append_rows (Kd.int .u8) (w0 := w) w.heap.size rfl (.tmp 7) (.tmp 9) 22 5 (.int .u8 0) 1 rfl Try.underlying22 info5 rfl (by decide) (by omega) v147 y146 l0_0 _ _ _ (fun _ => True) (fun _ => False) rfl rfl ?aO ?aR (fun _ _ h => h) (fun _ h => h.elim) ?aF ?aB ?aS ?aL ?_; (case aR => repeat (first | exact (Kd.C_below HR0_0.out HB.out) | (with_reducible refine Kd.C_alloc ?_ _) | (with_reducible refine Kd.C_drewN ?_ _) | (with_reducible refine Kd.C_drew ?_))); (case aB => exact (by repeat (first | (with_reducible first | exact HB.out | apply below_alloc | apply pw_below_drewN | apply below_drew1 | refine below_set ?_ GE144.out | refine below_set ?_ GE145.out) | exact HB.out))); (case aF => exact (fun _ _ => trivial)); (case aO => exact (by (with_reducible repeat (first | apply Kd.R_alloc | apply Kd.R_drewN | apply Kd.R_drew)); exact HO148.out)); (case aS => exact (below_size (by repeat (first | (with_reducible first | exact HB.out | apply below_alloc | apply pw_below_drewN | apply below_drew1 | refine below_set ?_ GE144.out | refine below_set ?_ GE145.out) | exact HB.out)))); (case aL => have := LMc3.out; omega); intro v150 w21 ho hb hg hat; rw [← Ny149.out] at ho; have n0_ := Aside0.mk (blk_grown (g := gb144) (o := .cells #[.slice A0_0 l0_0.length c0_0, .int .u32 a0_1, .int .u32 a0_2] 25 (0, 0)) (by (with_reducible repeat (first | refine blk_drewN ?_ _ | refine blk_drew ?_ | refine blk_alloc ?_ _)); exact BK144.out) hg (Kd.R_ne HO148.out BK144.out (by decide))); have n1_ := Aside0.mk (blk_grown (g := gb145) (o := .cells #[.slice none 0 0, .int .u32 0, .int .u32 0] 25 (0, 0)) (by (with_reducible repeat (first | refine blk_drewN ?_ _ | refine blk_drew ?_ | refine blk_alloc ?_ _)); exact BK145.out) hg (Kd.R_ne HO148.out BK145.out (by decide))); have n2_ := Aside0.mk (hb); have n3_ := Aside0.mk (ho); clear BK144; clear BK145; clear HB; clear HO148; have BK144 := n0_; have BK145 := n1_; have HB := n2_; have HO151 := n3_; clear n0_ n1_ n2_ n3_; clear ho hb hg hat; obtain ⟨Ao22, co22, eo22⟩ := Kd.R_slice HO151.out; subst eo22; have hcz23_0 : w21.cell? ⟨gb144, 0, none⟩ = some (.slice A0_0 l0_0.length c0_0) := (blk_cell BK144.out 0).trans rfl; have hcz23_1 : w21.cell? ⟨gb144, 1, none⟩ = some (.int .u32 a0_1) := (blk_cell BK144.out 1).trans rfl; have hcz23_2 : w21.cell? ⟨gb144, 2, none⟩ = some (.int .u32 a0_2) := (blk_cell BK144.out 2).trans rfl; have hfz23_0 := blk_frozen BK144.out 0; have hfz23_1 := blk_frozen BK144.out 1; have hfz23_2 := blk_frozen BK144.out 2))
      go_loopg [5] k (fun kq v5 w' => ∃ (x5_1 : Int) (x145000_1 : List Int) (u145000 : Value), v5 = .int .u32 x5_1 ∧ Aside0 (spec_BloomAdd.l0 kq l1 x5_1 x145000_1 a0_1 a0_2 = some (r1, r2, r3)) ∧ Aside0 (kq ≤ k) ∧ Aside0 (Kd.R (Kd.int .u8) 5 w' w.heap.size (fun _ => True) u145000 x145000_1) ∧ Aside0 (w'.heap[gb144]? = some (.cells #[u145000, .int .u32 a0_1, .int .u32 a0_2] 25 (0, 0))) ∧ Aside0 (w'.heap[gb145]? = some (.cells #[(.slice none 0 0), .int .u32 0, .int .u32 0] 25 (0, 0))) ∧ Aside0 (Below w.heap.size w w'))
      case atStart => exact ⟨(0), (y149), (.slice Ao22 y149.length co22), (by first | rfl | (simp; done) | (simp [*]; done)), H', ⟨Nat.le_refl _⟩, ⟨by (with_reducible repeat (first | apply Kd.R_alloc | apply Kd.R_drewN | apply Kd.R_drew)); exact Kd.R_mono (Kd.R_far (p := ⟨gb144, 0, none⟩) (Kd.R_types HO151.out BK144.out (by decide)) (fun _ hk => hk.2) (.slice Ao22 y149.length co22)) (fun _ hk => trivial)⟩, ⟨by (with_reducible repeat (first | refine blk_drewN ?_ _ | refine blk_drew ?_ | refine blk_alloc ?_ _)); refine blk_put (cs := #[.slice A0_0 l0_0.length c0_0, .int .u32 a0_1, .int .u32 a0_2]) ?_ 0 _ rfl; (with_reducible repeat (first | refine blk_drewN ?_ _ | refine blk_drew ?_ | refine blk_alloc ?_ _)); exact BK144.out⟩, ⟨by (with_reducible repeat (first | refine blk_drewN ?_ _ | refine blk_drew ?_ | refine blk_alloc ?_ _)); refine blk_far ?_ NB145_144.out _; (with_reducible repeat (first | refine blk_drewN ?_ _ | refine blk_drew ?_ | refine blk_alloc ?_ _)); exact BK145.out⟩, ⟨by repeat (first | (with_reducible first | exact HB.out | apply below_alloc | apply pw_below_drewN | apply below_drew1 | refine below_set ?_ GE144.out | refine below_set ?_ GE145.out) | exact HB.out)⟩⟩
      case round =>
        clear H'
        try clear c1
        try clear p2
        try clear c3
        try clear c4
        try clear c4b0
        try clear c4b1
        try clear c4b2
        try clear c8
        try clear c9
        try clear c19
        try clear hcz10_0
        try clear hcz10_1
        try clear hcz10_2
        try clear hcz13_0
        try clear hcz13_1
        try clear hcz13_2
        try clear hcz14_0
        try clear hcz14_1
        try clear hcz14_2
        try clear hcz20_0
        try clear hcz20_1
        try clear hcz20_2
        try clear hcz23_0
        try clear hcz23_1
        try clear hcz23_2
        try clear hfz10_0
        try clear hfz10_1
        try clear hfz10_2
        try clear hfz13_0
        try clear hfz13_1
        try clear hfz13_2
        try clear hfz14_0
        try clear hfz14_1
        try clear hfz14_2
        try clear hfz20_0
        try clear hfz20_1
        try clear hfz20_2
        try clear hfz23_0
        try clear hfz23_1
        try clear hfz23_2
        obtain ⟨x5_1, x145000_1, u145000, rfl, HA, HK1, HO_145000, BK144, BK145, HB⟩ := hrel
        cases gk with
        | zero => exact absurd HA.out (by simp [spec_BloomAdd.l0])
        | succ k1 =>
          have H := HA.out
          clear HA
          simp only [spec_BloomAdd.l0] at H
          by_cases c24 : x5_1 < a0_1
          · rw [if_pos c24] at H
            have c24b0 : decide (x5_1 < a0_1) = true := decide_eq_true c24
            clear c24
            replace H := Option.bind_eq_some_iff.mp H
            obtain ⟨t152, A250, H⟩ := H
            replace H : (if 0 ≤ ((Int.tdiv t152 8) % 4294967296) then (if ((Int.tdiv t152 8) % 4294967296) < (x145000_1.length : Int) then (if 0 ≤ (Int.tmod t152 8) then (spec_BloomAdd.l0 k1 l1 ((x5_1 + 1) % 4294967296) (x145000_1.set (((Int.tdiv t152 8) % 4294967296) : Int).toNat (Go.bits .or .u8 (rd x145000_1 ((Int.tdiv t152 8) % 4294967296)) (shl .u8 1 (Int.tmod t152 8)))) a0_1 a0_2) else (none)) else (none)) else (none)) = some (r1, r2, r3) := H
            have A25 := Aside0.mk A250
            clear A250
            obtain ⟨ji26, hji26⟩ : ∃ j_ : Int, ((Int.tdiv t152 8) % 4294967296) = j_ := ⟨_, rfl⟩
            replace H : (if 0 ≤ (ji26) then (if (ji26) < (x145000_1.length : Int) then (if 0 ≤ (Int.tmod t152 8) then (spec_BloomAdd.l0 k1 l1 ((x5_1 + 1) % 4294967296) (x145000_1.set ((ji26) : Int).toNat (Go.bits .or .u8 (rd x145000_1 (ji26)) (shl .u8 1 (Int.tmod t152 8)))) a0_1 a0_2) else (none)) else (none)) else (none)) = some (r1, r2, r3) := by first | (rw [hji26] at H; exact H) | (simp only [hji26] at H ⊢; exact H)
            (try rw [hji26] at A25)
            by_cases c27 : 0 ≤ (ji26)
            · rw [if_pos c27] at H
              have c27b0 : decide (0 ≤ (ji26)) = true := decide_eq_true c27
              clear c27
              by_cases c28 : (ji26) < (x145000_1.length : Int)
              · rw [if_pos c28] at H
                have c28b0 : decide ((ji26) < (x145000_1.length : Int)) = true := decide_eq_true c28
                clear c28
                obtain ⟨ji29, hji29⟩ : ∃ j_ : Int, (Int.tmod t152 8) = j_ := ⟨_, rfl⟩
                replace H : (if 0 ≤ (ji29) then (spec_BloomAdd.l0 k1 l1 ((x5_1 + 1) % 4294967296) (x145000_1.set ((ji26) : Int).toNat (Go.bits .or .u8 (rd x145000_1 (ji26)) (shl .u8 1 (ji29)))) a0_1 a0_2) else (none)) = some (r1, r2, r3) := by first | (rw [hji29] at H; exact H) | (simp only [hji29] at H ⊢; exact H)
                (try rw [hji29] at A25)
                by_cases c30 : 0 ≤ (ji29)
                · rw [if_pos c30] at H
                  have c30b0 := eq_true c30
                  have c30b1 : decide (0 ≤ (ji29)) = true := decide_eq_true c30
                  clear c30
                  obtain ⟨ji31, hji31⟩ : ∃ j_ : Int, (shl .u8 1 (ji29)) = j_ := ⟨_, rfl⟩
                  replace H : (spec_BloomAdd.l0 k1 l1 ((x5_1 + 1) % 4294967296) (x145000_1.set ((ji26) : Int).toNat (Go.bits .or .u8 (rd x145000_1 (ji26)) (ji31))) a0_1 a0_2) = some (r1, r2, r3) := by first | (rw [hji31] at H; exact H) | (simp only [hji31] at H ⊢; exact H)
                  (try rw [hji31] at A25)
                  have hji31_ : (IntKind.u8.wrap (1 * 2 ^ min (ji29).toNat 8)) = ji31 := hji31
                  have hji31z : (ji29) ≤ 8 → (IntKind.u8.wrap (1 * 2 ^ (ji29).toNat)) = ji31 := shl_small hji31
                  have hji31u : (IntKind.u8.wrap (2 ^ min (ji29).toNat 8)) = ji31 := by have h_ := hji31_; rw [Int.one_mul] at h_; exact h_
                  have hji31v : (ji29) ≤ 8 → (IntKind.u8.wrap (2 ^ (ji29).toNat)) = ji31 := fun hle_ => by have h_ := hji31z hle_; rw [Int.one_mul] at h_; exact h_
                  obtain ⟨y154, hy154⟩ : ∃ y_ : List Int, y_ = (x145000_1.set ((ji26) : Int).toNat (Go.bits .or .u8 (rd x145000_1 (ji26)) (ji31))) := ⟨_, rfl⟩
                  replace H : (spec_BloomAdd.l0 k1 l1 ((x5_1 + 1) % 4294967296) y154 a0_1 a0_2) = some (r1, r2, r3) := by first | (rw [hy154]; with_reducible exact H) | (have H2_ := (Option.bind_some _ _).symm.trans H; rw [hy154]; with_reducible exact H2_) | (have H2_ := (Option.bind_some _ _).symm.trans H; with_reducible exact H2_) | with_reducible exact H | (rw [hy154]; exact H) | exact H
                  have Ny154 := Aside0.mk hy154
                  clear hy154
                  have H' := Aside0.mk H
                  clear H
                  have hnb33 := NB144_145.out
                  have hnc33 := NB145_144.out
                  have hcz34_0 : wr.cell? ⟨gb144, 0, none⟩ = some (u145000) := (blk_cell BK144.out 0).trans rfl
                  have hcz34_1 : wr.cell? ⟨gb144, 1, none⟩ = some (.int .u32 a0_1) := (blk_cell BK144.out 1).trans rfl
                  have hcz34_2 : wr.cell? ⟨gb144, 2, none⟩ = some (.int .u32 a0_2) := (blk_cell BK144.out 2).trans rfl
                  have hfz34_0 := blk_frozen BK144.out 0
                  have hfz34_1 := blk_frozen BK144.out 1
                  have hfz34_2 := blk_frozen BK144.out 2
                  obtain ⟨Ao35, co35, eo35⟩ := Kd.R_slice HO_145000.out
                  subst eo35
                  try go_wp2_with (first | ((with_reducible refine gate_callee (f := 15) rfl ?_); refine goesL_ (some 26) rfl rfl Try.func15 (by kernel_rfl) rfl #[.agg #[.slice Ao35 x145000_1.length co35, .int .u32 a0_1, .int .u32 a0_2], .int .u32 x5_1, .slice A1 l1.length c1] rfl (by (try simp only [List.map_toArray, List.map_cons, List.map_nil]); first | done | rfl | (simp only [List.length_drop, List.length_take]; rfl)) ?_; (with_reducible refine (spec_bit.calls k1 _ _ x145000_1 a0_1 a0_2 x5_1 _ _ l1 t152 _ ?side1 ?side2 ?side3 ?side4 A25.out).mono ?_); (case side1 => repeat (first | exact (Kd.R_reads' HO_145000.out).2.2 | (with_reducible refine Kd.C_alloc ?_ _) | (with_reducible refine Kd.C_drewN ?_ _) | (with_reducible refine Kd.C_drew ?_))); (case side2 => exact (Kd.R_reads' HO_145000.out).2.1); (case side3 => repeat (first | exact (Kd.C_below HR1.out HB.out) | (with_reducible refine Kd.C_alloc ?_ _) | (with_reducible refine Kd.C_drewN ?_ _) | (with_reducible refine Kd.C_drew ?_))); (case side4 => exact HC1.out); rintro e w36 ⟨rfl, hb⟩; refine ⟨_, rfl, ?_⟩; have n0_ := Aside0.mk (Kd.R_below (by (with_reducible repeat (first | apply Kd.R_alloc | apply Kd.R_drewN | apply Kd.R_drew)); exact HO_145000.out) hb); have n1_ := Aside0.mk (blk_below (g := gb144) (o := .cells #[.slice Ao35 x145000_1.length co35, .int .u32 a0_1, .int .u32 a0_2] 25 (0, 0)) (by (with_reducible repeat (first | refine blk_drewN ?_ _ | refine blk_drew ?_ | refine blk_alloc ?_ _)); exact BK144.out) hb); have n2_ := Aside0.mk (blk_below (g := gb145) (o := .cells #[.slice none 0 0, .int .u32 0, .int .u32 0] 25 (0, 0)) (by (with_reducible repeat (first | refine blk_drewN ?_ _ | refine blk_drew ?_ | refine blk_alloc ?_ _)); exact BK145.out) hb); have n3_ := Aside0.mk (below_step (by repeat (first | (with_reducible first | exact HB.out | apply below_alloc | apply pw_below_drewN | apply below_drew1 | refine below_set ?_ GE144.out | refine below_set ?_ GE145.out) | exact HB.out)) hb); clear HO_145000; clear BK144; clear BK145; clear HB; have HO_145000 := n0_; have BK144 := n1_; have BK145 := n2_; have HB := n3_; clear n0_ n1_ n2_ n3_; (try clear hb); (try clear hb2); (try clear hk); (try clear hi)))
                  have n0_ := Aside0.mk (Kd.R_drew HO_145000.out)
                  have n1_ := Aside0.mk (blk_drew BK144.out)
                  have n2_ := Aside0.mk (blk_drew BK145.out)
                  have n3_ := Aside0.mk (below_drew1 HB.out)
                  clear HO_145000
                  clear BK144
                  clear BK145
                  clear HB
                  have HO_145000 := n0_
                  have BK144 := n1_
                  have BK145 := n2_
                  have HB := n3_
                  clear n0_ n1_ n2_ n3_
                  have p153 : 0 ≤ ((ji26) : Int) := of_decide_eq_true (by first | (with_reducible assumption) | assumption)
                  have q153 : (ji26) < (x145000_1.length : Int) := of_decide_eq_true (by first | (with_reducible assumption) | assumption)
                  obtain ⟨ad153, e153, hx153_0⟩ := Kd.at_int (Kd.R_reads' HO_145000.out).2.2 (ji26) p153 q153
                  cases e153
                  replace p153 := eq_true p153
                  replace q153 := eq_true q153
                  have p32 : 0 ≤ ((ji26) : Int) := of_decide_eq_true (by first | (with_reducible assumption) | assumption)
                  have q32 : ((ji26) : Int) < ((x145000_1.length : Int) : Int) := of_decide_eq_true (by first | (with_reducible assumption) | assumption)
                  obtain ⟨go32, co32, eo32, gb32, gl32, cl32, HG32⟩ := Kd.R_form HO_145000.out (by omega)
                  (first | cases eo32 | (injection eo32 with ea_ en_ ec_; (first | subst ea_ | (injection ea_ with ea_; subst ea_)); subst ec_; clear en_))
                  have GB32 := Aside0.mk gb32
                  have GG32 := Aside0.mk HG32
                  clear gb32 gl32 HG32
                  (first | simp only [add_plain] at hx153_0 | skip)
                  obtain ⟨hx32_0, hf32_0⟩ := Kd.R_celln 0 HO_145000.out ((ji26) : Int) p32 q32
                  replace p32 := eq_true p32
                  replace q32 := eq_true q32
                  have HP38 := Kd.R_putn HO_145000.out ((ji26) : Int) (Go.bits .or .u8 (rd x145000_1 (ji26)) (ji31))
                  rw [← Ny154.out] at HP38
                  have HQ38 := Aside0.mk HP38
                  clear HP38
                  refine start_ (n := 16) (S := fun w' => w'.cell? ⟨gb144, 0, none⟩ = some (.slice (some ⟨go32, 0, none⟩) x145000_1.length co35) ∧ w'.cell? ⟨gb144, 1, none⟩ = some (.int .u32 a0_1) ∧ w'.cell? ⟨gb144, 2, none⟩ = some (.int .u32 a0_2) ∧ w'.cell? ⟨go32, ((ji26)).toNat, none⟩ = some (.int .u8 (rd x145000_1 (ji26)))) (ds := [15]) #[false, false, false, false, false, false, false, false, false, false, false, false, false, false, false, false] (by kernel_rfl) rfl rfl ⟨(blk_cell BK144.out 0).trans rfl, (blk_cell BK144.out 1).trans rfl, (blk_cell BK144.out 2).trans rfl, hx153_0⟩ (fun hHeld => ?_); refine with_tabW spec_BloomAdd.tab8 spec_BloomAdd.bits8 (fun HT_ HW_ => ?_)
                  generalize w36.drew = w37 at HO_145000 BK144 BK145 HB GG32 HQ38 hf32_0 hx153_0 hx32_0 hHeld ⊢
                  refine pure_ (i := 0) (N := some 27) (v := ?_) (a' := ?_) #[true, false, false, false, false, false, false, false, false, false, false, false, false, false, false, false] rfl rfl (any_of HT_.out (by kernel_rfl)) (fun _ _ _ h => h) (Or.inl ⟨by rfl, ?_⟩) ?_ ?_
                  rotate_left
                  · intro w'
                    go_simp
                    with_reducible rfl
                  rotate_left
                  · simp only [Act.put, List.setIfInBounds_toArray, List.set_cons_zero, List.set_cons_succ, i64_w, i32_w, u32_w_]
                    rfl
                  refine pure_ (i := 2) (N := some 29) (v := ?_) (a' := ?_) #[true, false, true, false, false, false, false, false, false, false, false, false, false, false, false, false] rfl rfl (any_of HT_.out (by kernel_rfl)) (fun _ _ _ h => h) (Or.inl ⟨by rfl, ?_⟩) ?_ ?_
                  rotate_left
                  · intro w'
                    go_simp
                    with_reducible rfl
                  rotate_left
                  · simp only [Act.put, List.setIfInBounds_toArray, List.set_cons_zero, List.set_cons_succ, i64_w, i32_w, u32_w_]
                    rfl
                  refine pure_ (i := 3) (N := some 30) (v := ?_) (a' := ?_) #[true, false, true, true, false, false, false, false, false, false, false, false, false, false, false, false] rfl rfl (any_of HT_.out (by kernel_rfl)) (fun _ _ _ h => h) (Or.inl ⟨by rfl, ?_⟩) ?_ ?_
                  rotate_left
                  · intro w'
                    go_simp
                    with_reducible rfl
                  rotate_left
                  · simp only [Act.put, List.setIfInBounds_toArray, List.set_cons_zero, List.set_cons_succ, i64_w, i32_w, u32_w_]
                    rfl
                  refine pure_ (i := 4) (N := some 31) (v := ?_) (a' := ?_) #[true, false, true, true, true, false, false, false, false, false, false, false, false, false, false, false] rfl rfl (any_of HT_.out (by kernel_rfl)) (fun _ _ _ h => h) (Or.inl ⟨by rfl, ?_⟩) ?_ ?_
                  rotate_left
                  · intro w'
                    go_simp
                    with_reducible rfl
                  rotate_left
                  · simp only [Act.put, List.setIfInBounds_toArray, List.set_cons_zero, List.set_cons_succ, i64_w, i32_w, u32_w_]
                    rfl
                  refine pure_ (i := 6) (N := some 33) (v := ?_) (a' := ?_) #[true, false, true, true, true, false, true, false, false, false, false, false, false, false, false, false] rfl rfl (any_of HT_.out (by kernel_rfl)) (fun _ _ _ h => h) (Or.inl ⟨by rfl, ?_⟩) ?_ ?_
                  rotate_left
                  · intro w'
                    go_simp
                    with_reducible rfl
                  rotate_left
                  · simp only [Act.put, List.setIfInBounds_toArray, List.set_cons_zero, List.set_cons_succ, i64_w, i32_w, u32_w_]
                    rfl
                  refine pure_ (i := 7) (N := some 34) (v := ?_) (a' := ?_) #[true, false, true, true, true, false, true, true, false, false, false, false, false, false, false, false] rfl rfl (any_of HT_.out (by kernel_rfl)) (fun _ _ _ h => h) (Or.inl ⟨by rfl, ?_⟩) ?_ ?_
                  rotate_left
                  · intro w'
                    go_simp
                    with_reducible rfl
                  rotate_left
                  · simp only [Act.put, List.setIfInBounds_toArray, List.set_cons_zero, List.set_cons_succ, i64_w, i32_w, u32_w_]
                    rfl
                  refine pure_ (i := 10) (N := some 37) (v := ?_) (a' := ?_) #[true, false, true, true, true, false, true, true, false, false, true, false, false, false, false, false] rfl rfl (any_of HT_.out (by kernel_rfl)) (fun _ _ _ h => h) (Or.inl ⟨by rfl, ?_⟩) ?_ ?_
                  rotate_left
                  · intro w'
                    go_simp
                    with_reducible rfl
                  rotate_left
                  · simp only [Act.put, List.setIfInBounds_toArray, List.set_cons_zero, List.set_cons_succ, i64_w, i32_w, u32_w_]
                    rfl
                  refine pure_ (i := 11) (N := some 38) (v := ?_) (a' := ?_) #[true, false, true, true, true, false, true, true, false, false, true, true, false, false, false, false] rfl rfl (any_of HT_.out (by kernel_rfl)) (fun _ _ _ h => h) (Or.inl ⟨by rfl, ?_⟩) ?_ ?_
                  rotate_left
                  · intro w'
                    go_simp
                    with_reducible rfl
                  rotate_left
                  · simp only [Act.put, List.setIfInBounds_toArray, List.set_cons_zero, List.set_cons_succ, i64_w, i32_w, u32_w_]
                    rfl
                  refine pure_ (i := 12) (N := some 39) (v := ?_) (a' := ?_) #[true, false, true, true, true, false, true, true, false, false, true, true, true, false, false, false] rfl rfl (any_of HT_.out (by kernel_rfl)) (fun _ _ _ h => h) (Or.inl ⟨by rfl, ?_⟩) ?_ ?_
                  rotate_left
                  · intro w'
                    go_simp
                    with_reducible rfl
                  rotate_left
                  · simp only [Act.put, List.setIfInBounds_toArray, List.set_cons_zero, List.set_cons_succ, i64_w, i32_w, u32_w_]
                    rfl
                  refine take_ (i := 1) (N := some 28) (v := ?_) (a' := ?_) #[true, true, true, true, true, false, true, true, false, false, true, true, true, false, false, false] rfl rfl (take_ofW HT_.out HW_.out (by kernel_rfl)) (fun _ _ _ h => h) (Or.inl ⟨by rfl, ?_⟩) hHeld ?_ ?_
                  rotate_left
                  · rintro w' ⟨s0, s1, s2, s3⟩
                    go_simp
                    with_reducible rfl
                  rotate_left
                  · simp only [Act.put, List.setIfInBounds_toArray, List.set_cons_zero, List.set_cons_succ, i64_w, i32_w, u32_w_]
                    rfl
                  refine take_ (i := 5) (N := some 32) (v := ?_) (a' := ?_) #[true, true, true, true, true, true, true, true, false, false, true, true, true, false, false, false] rfl rfl (take_ofW HT_.out HW_.out (by kernel_rfl)) (fun _ _ _ h => h) (Or.inl ⟨by rfl, ?_⟩) hHeld ?_ ?_
                  rotate_left
                  · rintro w' ⟨s0, s1, s2, s3⟩
                    go_simp
                    with_reducible rfl
                  rotate_left
                  · simp only [Act.put, List.setIfInBounds_toArray, List.set_cons_zero, List.set_cons_succ, i64_w, i32_w, u32_w_]
                    rfl
                  refine pure_ (i := 8) (N := some 35) (v := ?_) (a' := ?_) #[true, true, true, true, true, true, true, true, true, false, true, true, true, false, false, false] rfl rfl (any_of HT_.out (by kernel_rfl)) (fun _ _ _ h => h) (Or.inl ⟨by rfl, ?_⟩) ?_ ?_
                  rotate_left
                  · intro w'
                    go_simp
                    with_reducible rfl
                  rotate_left
                  · simp only [Act.put, List.setIfInBounds_toArray, List.set_cons_zero, List.set_cons_succ, i64_w, i32_w, u32_w_]
                    rfl
                  refine take_ (i := 9) (N := some 36) (v := ?_) (a' := ?_) #[true, true, true, true, true, true, true, true, true, true, true, true, true, false, false, false] rfl rfl (take_ofW HT_.out HW_.out (by kernel_rfl)) (fun _ _ _ h => h) (Or.inl ⟨by rfl, ?_⟩) hHeld ?_ ?_
                  rotate_left
                  · rintro w' ⟨s0, s1, s2, s3⟩
                    go_simp
                    with_reducible rfl
                  rotate_left
                  · simp only [Act.put, List.setIfInBounds_toArray, List.set_cons_zero, List.set_cons_succ, i64_w, i32_w, u32_w_]
                    rfl
                  refine pure_ (i := 13) (N := some 40) (v := ?_) (a' := ?_) #[true, true, true, true, true, true, true, true, true, true, true, true, true, true, false, false] rfl rfl (any_of HT_.out (by kernel_rfl)) (fun _ _ _ h => h) (Or.inl ⟨by rfl, ?_⟩) ?_ ?_
                  rotate_left
                  · intro w'
                    go_simp
                    with_reducible rfl
                  rotate_left
                  · simp only [Act.put, List.setIfInBounds_toArray, List.set_cons_zero, List.set_cons_succ, i64_w, i32_w, u32_w_]
                    rfl
                  refine pure_ (i := 14) (N := some 41) (v := ?_) (a' := ?_) #[true, true, true, true, true, true, true, true, true, true, true, true, true, true, true, false] rfl rfl (any_of HT_.out (by kernel_rfl)) (fun _ _ _ h => h) (Or.inl ⟨by rfl, ?_⟩) ?_ ?_
                  rotate_left
                  · intro w'
                    go_simp
                    with_reducible rfl
                  rotate_left
                  · simp only [Act.put, List.setIfInBounds_toArray, List.set_cons_zero, List.set_cons_succ, i64_w, i32_w, u32_w_]
                    rfl
                  refine last_ (i := 15) (N := none) #[true, true, true, true, true, true, true, true, true, true, true, true, true, true, true, true] rfl rfl (one_of HT_.out (by kernel_rfl)) (by decide) (fun K hK => ?_)
                  refine skip_ (w1 := ?_) (by rfl) rfl ?_ ?_
                  rotate_left
                  · go_simp
                    rfl
                  refine hK.out _ _ ?_
                  clear hK K
                  refine done_ (done_of HT_.out (by kernel_rfl)) ?_
                  try go_wp2
                  go_roundg k1
                  case measure => have := HK1.out; omega
                  case rel => exact ⟨((x5_1 + 1) % 4294967296), (y154), (.slice (some ⟨go32, 0, none⟩) x145000_1.length co35), (by first | rfl | (simp; done) | (simp [*]; done)), (by first | exact H' | (subst_vars; exact H')), ⟨by have := HK1.out; omega⟩, ⟨by (with_reducible repeat (first | apply Kd.R_alloc | apply Kd.R_drewN | apply Kd.R_drew)); exact HQ38.out⟩, ⟨by (with_reducible repeat (first | refine blk_drewN ?_ _ | refine blk_drew ?_ | refine blk_alloc ?_ _)); refine blk_far ?_ (by have h_ := Kd.R_ne HO_145000.out BK144.out (by decide); intro e_; exact h_ (by rw [e_]; rfl)) _; (with_reducible repeat (first | refine blk_drewN ?_ _ | refine blk_drew ?_ | refine blk_alloc ?_ _)); exact BK144.out⟩, ⟨by (with_reducible repeat (first | refine blk_drewN ?_ _ | refine blk_drew ?_ | refine blk_alloc ?_ _)); refine blk_far ?_ (by have h_ := Kd.R_ne HO_145000.out BK145.out (by decide); intro e_; exact h_ (by rw [e_]; rfl)) _; (with_reducible repeat (first | refine blk_drewN ?_ _ | refine blk_drew ?_ | refine blk_alloc ?_ _)); exact BK145.out⟩, ⟨by repeat (first | (with_reducible first | exact HB.out | apply below_alloc | apply pw_below_drewN | apply below_drew1 | refine below_set ?_ GB32.out | refine below_set ?_ GE144.out | refine below_set ?_ GE145.out) | exact HB.out)⟩⟩
                · rw [if_neg c30] at H
                  exact absurd H (by simp)
              · rw [if_neg c28] at H
                exact absurd H (by simp)
            · rw [if_neg c27] at H
              exact absurd H (by simp)
          · rw [if_neg c24] at H
            have c24b0 : decide (x5_1 < a0_1) = false := decide_eq_false c24
            clear c24
            simp only [Option.some.injEq, Prod.mk.injEq] at H
            obtain ⟨rfl, rfl, rfl⟩ := H
            have hnb39 := NB144_145.out
            have hnc39 := NB145_144.out
            have hcz40_0 : wr.cell? ⟨gb144, 0, none⟩ = some (u145000) := (blk_cell BK144.out 0).trans rfl
            have hcz40_1 : wr.cell? ⟨gb144, 1, none⟩ = some (.int .u32 a0_1) := (blk_cell BK144.out 1).trans rfl
            have hcz40_2 : wr.cell? ⟨gb144, 2, none⟩ = some (.int .u32 a0_2) := (blk_cell BK144.out 2).trans rfl
            have hfz40_0 := blk_frozen BK144.out 0
            have hfz40_1 := blk_frozen BK144.out 1
            have hfz40_2 := blk_frozen BK144.out 2
            obtain ⟨Ao41, co41, eo41⟩ := Kd.R_slice HO_145000.out
            subst eo41
            have hcz42_0 : wr.cell? ⟨gb145, 0, none⟩ = some (.slice none 0 0) := (blk_cell BK145.out 0).trans rfl
            have hcz42_1 : wr.cell? ⟨gb145, 1, none⟩ = some (.int .u32 0) := (blk_cell BK145.out 1).trans rfl
            have hcz42_2 : wr.cell? ⟨gb145, 2, none⟩ = some (.int .u32 0) := (blk_cell BK145.out 2).trans rfl
            have hfz42_0 := blk_frozen BK145.out 0
            have hfz42_1 := blk_frozen BK145.out 1
            have hfz42_2 := blk_frozen BK145.out 2
            go_wp2
            refine bodyPost_ret (results_cell_row rfl _ _ gb145 25 #[.slice Ao41 x145000_1.length co41, .int .u32 a0_1, .int .u32 a0_2] (0, 0) _ rfl (by (with_reducible repeat (first | refine blk_drewN ?_ _ | refine blk_drew ?_ | refine blk_alloc ?_ _)); refine blk_put (cs := #[.slice Ao41 x145000_1.length co41, .int .u32 a0_1, .int .u32 0]) ?_ 2 _ rfl; (with_reducible repeat (first | refine blk_drewN ?_ _ | refine blk_drew ?_ | refine blk_alloc ?_ _)); refine blk_put (cs := #[.slice Ao41 x145000_1.length co41, .int .u32 0, .int .u32 0]) ?_ 1 _ rfl; (with_reducible repeat (first | refine blk_drewN ?_ _ | refine blk_drew ?_ | refine blk_alloc ?_ _)); refine blk_put (cs := #[.slice none 0 0, .int .u32 0, .int .u32 0]) ?_ 0 _ rfl; (with_reducible repeat (first | refine blk_drewN ?_ _ | refine blk_drew ?_ | refine blk_alloc ?_ _)); exact BK145.out) Try.underlying25 rfl (by kernel_rfl)) rfl ?_
            exact ⟨_, by first | rfl | (simp [errW_none, errW_some] <;> rfl) | (simp [*, errW_none, errW_some] <;> rfl), by (with_reducible repeat (first | apply Kd.R_alloc | apply Kd.R_drewN | apply Kd.R_drew)); exact Kd.R_mono (Kd.R_far (p := ⟨gb145, 2, none⟩) (Kd.R_far (p := ⟨gb145, 1, none⟩) (Kd.R_far (p := ⟨gb145, 0, none⟩) (Kd.R_types HO_145000.out BK145.out (by decide)) (fun _ hk => hk.2) (.slice Ao41 x145000_1.length co41)) (fun _ hk => hk.2) (.int .u32 a0_1)) (fun _ hk => hk.2) (.int .u32 a0_2)) (fun _ hk => trivial), by repeat (first | (with_reducible first | exact HB.out | apply below_alloc | apply pw_below_drewN | apply below_drew1 | refine below_set ?_ GE144.out | refine below_set ?_ GE145.out) | exact HB.out)⟩
  · rw [if_neg c3] at H
    exact absurd H (by simp)



/-! ### spec_BloomHas: function 10 -/
def spec_BloomHas.l0 : Nat → List Int → Int → List Int → Int → Int → Option (Bool)
  | 0, _, _, _, _, _ => none
  | k + 1, x1, x5, x159000, x159001, x159002 => if x5 < x159001 then ((spec_bit.f k x159000 x159001 x159002 x5 x1).bind fun t159 => (if 0 ≤ ((Int.tdiv t159 8) % 4294967296) then (if ((Int.tdiv t159 8) % 4294967296) < (x159000.length : Int) then (if 0 ≤ (Int.tmod t159 8) then (if (Go.bits .and .u8 (shr .u8 (rd x159000 ((Int.tdiv t159 8) % 4294967296)) (Int.tmod t159 8)) 1) = 0 then (some false) else (spec_BloomHas.l0 k x1 ((x5 + 1) % 4294967296) x159000 x159001 x159002)) else (none)) else (none)) else (none))) else (some true)
def spec_BloomHas.f (k : Nat) (l0_0 : List Int) (a0_1 : Int) (a0_2 : Int) (l1 : List Int) : Option (Bool) := if (l0_0.length : Int) = 0 then (some false) else (spec_BloomHas.l0 k l1 0 l0_0 a0_1 a0_2)
theorem spec_BloomHas.mono_l : ∀ k, (∀ y0 y1 y2 y3 y4, LeO (spec_BloomHas.l0 k y0 y1 y2 y3 y4) (spec_BloomHas.l0 (k + 1) y0 y1 y2 y3 y4))
  | 0 => fun _ _ _ _ _ r h => by simp [spec_BloomHas.l0] at h
  | k + 1 => by
    have ih0 := spec_BloomHas.mono_l k
    · intro y0 y1 y2 y3 y4
      unfold spec_BloomHas.l0
      repeat' first
      | (with_reducible exact ih0 _ _ _ _ _)
      | (with_reducible exact spec_bit.mono _ _ _ _ _ _)
      | (with_reducible exact LeO.refl _)
      | (with_reducible exact LeO.none _)
      | (with_reducible refine LeO.ite ?_ ?_)
      | (with_reducible refine LeO.bind ?_ (fun _ => ?_))
      | exact ih0 _ _ _ _ _
      | exact spec_bit.mono _ _ _ _ _ _
      | exact LeO.none _
      | refine LeO.ite ?_ ?_
      | refine LeO.bind ?_ (fun _ => ?_)
theorem spec_BloomHas.mono : ∀ a0 a1 a2 a3 k, LeO (spec_BloomHas.f k a0 a1 a2 a3) (spec_BloomHas.f (k + 1) a0 a1 a2 a3) := by
  intro a0 a1 a2 a3 k
  have ih0 := spec_BloomHas.mono_l k
  unfold spec_BloomHas.f
  repeat' first
      | (with_reducible exact ih0 _ _ _ _ _)
      | (with_reducible exact spec_bit.mono _ _ _ _ _ _)
      | (with_reducible exact LeO.refl _)
      | (with_reducible exact LeO.none _)
      | (with_reducible refine LeO.ite ?_ ?_)
      | (with_reducible refine LeO.bind ?_ (fun _ => ?_))
      | exact ih0 _ _ _ _ _
      | exact spec_bit.mono _ _ _ _ _ _
      | exact LeO.none _
      | refine LeO.ite ?_ ?_
      | refine LeO.bind ?_ (fun _ => ?_)
set_option maxHeartbeats 8000000 in
set_option maxRecDepth 100000 in
theorem spec_BloomHas.calls (k : Nat) (A0_0 : Option Addr) (c0_0 : Nat) (l0_0 : List Int) (a0_1 : Int) (a0_2 : Int) (A1 : Option Addr) (c1 : Nat) (l1 : List Int) (r : Bool) (w : World) (hr0_0 : Kd.C (Kd.int .u8) w A0_0 l0_0.length l0_0) (hc0_0 : l0_0.length ≤ c0_0) (hr1 : Kd.C (Kd.int .u8) w A1 l1.length l1) (hc1 : l1.length ≤ c1) (h : spec_BloomHas.f k l0_0 a0_1 a0_2 l1 = some r) :
    Calls Try.prog 10 #[.agg #[.slice A0_0 l0_0.length c0_0, .int .u32 a0_1, .int .u32 a0_2], .slice A1 l1.length c1] w fun e w' => e = .returned (.bool r) ∧ Below w.heap.size w w' := by
  have hu25 := Try.underlying25
  have HR0_0 := Aside0.mk hr0_0
  have HC0_0 := Aside0.mk hc0_0
  clear hr0_0 hc0_0
  have HR1 := Aside0.mk hr1
  have HC1 := Aside0.mk hc1
  clear hr1 hc1
  have HB := Aside0.mk (Below.refl w.heap.size w)
  have H : (if (l0_0.length : Int) = 0 then (some false) else (spec_BloomHas.l0 k l1 0 l0_0 a0_1 a0_2)) = some r := h
  clear h
  by_cases c3 : (l0_0.length : Int) = 0
  · rw [if_pos c3] at H
    have c3b0 : ((l0_0.length : Int) == 0) = true := beq_iff_eq.mpr c3
    have c3b1 : ((l0_0.length : Int) != 0) = false := bne_eq_false_iff_eq.mpr c3
    clear c3
    obtain rfl := Option.some.inj H
    go_enter Try.func10, Try.ntmps10
    go_wp2_with (first | ((with_reducible refine gate_dst (N := 2) rfl ?_); refine box_event ?hg (N := 2) ?hd (cs := #[.slice A0_0 l0_0.length c0_0, .int .u32 a0_1, .int .u32 a0_2]) (t := 25) ?hr ?_; (case hd => rfl); (case hg => rfl); (case hr => first | (go_simp; done) | (go_simp; rfl)); intro gb158 hg w4 hbox hb; have n0_ := Aside0.mk (below_step (by repeat (first | (with_reducible first | exact HB.out | apply below_alloc | apply pw_below_drewN | apply below_drew1) | exact HB.out)) hb); have n1_ := Aside0.mk (hbox); have n2_ := Aside0.mk ((by rw [hg]; exact (below_size (by repeat (first | (with_reducible first | exact HB.out | apply below_alloc | apply pw_below_drewN | apply below_drew1) | exact HB.out))) : w.heap.size ≤ gb158)); have n3_ := Aside0.mk ((by rw [hg]; exact (below_size (by repeat (first | (with_reducible first | exact HB.out | apply below_alloc | apply pw_below_drewN | apply below_drew1) | exact HB.out))) : w.heap.size ≤ gb158)); clear HB; have HB := n0_; have BK158 := n1_; have GW158 := n2_; have GE158 := n3_; clear n0_ n1_ n2_ n3_; clear hb hbox hg; have hcz5_0 : w4.cell? ⟨gb158, 0, none⟩ = some (.slice A0_0 l0_0.length c0_0) := (blk_cell BK158.out 0).trans rfl; have hcz5_1 : w4.cell? ⟨gb158, 1, none⟩ = some (.int .u32 a0_1) := (blk_cell BK158.out 1).trans rfl; have hcz5_2 : w4.cell? ⟨gb158, 2, none⟩ = some (.int .u32 a0_2) := (blk_cell BK158.out 2).trans rfl; have hfz5_0 := blk_frozen BK158.out 0; have hfz5_1 := blk_frozen BK158.out 1; have hfz5_2 := blk_frozen BK158.out 2))
    go_ret
    exact ⟨by first | rfl | (simp [errW_none, errW_some] <;> rfl) | (simp [*, errW_none, errW_some] <;> rfl), by repeat (first | (with_reducible first | exact HB.out | apply below_alloc | apply pw_below_drewN | apply below_drew1 | refine below_set ?_ GE158.out) | exact HB.out)⟩
  · rw [if_neg c3] at H
    have c3b0 : ((l0_0.length : Int) == 0) = false := beq_eq_false_iff_ne.mpr c3
    have c3b1 : ((l0_0.length : Int) != 0) = true := bne_iff_ne.mpr c3
    have c3b2 : ¬ (l0_0 = []) := fun h_ => c3 (by rw [h_]; rfl)
    have H' := Aside0.mk H
    clear H
    go_enter Try.func10, Try.ntmps10
    go_wp2_with (first | ((with_reducible refine gate_dst (N := 2) rfl ?_); refine box_event ?hg (N := 2) ?hd (cs := #[.slice A0_0 l0_0.length c0_0, .int .u32 a0_1, .int .u32 a0_2]) (t := 25) ?hr ?_; (case hd => rfl); (case hg => rfl); (case hr => first | (go_simp; done) | (go_simp; rfl)); intro gb158 hg w6 hbox hb; have n0_ := Aside0.mk (below_step (by repeat (first | (with_reducible first | exact HB.out | apply below_alloc | apply pw_below_drewN | apply below_drew1) | exact HB.out)) hb); have n1_ := Aside0.mk (hbox); have n2_ := Aside0.mk ((by rw [hg]; exact (below_size (by repeat (first | (with_reducible first | exact HB.out | apply below_alloc | apply pw_below_drewN | apply below_drew1) | exact HB.out))) : w.heap.size ≤ gb158)); have n3_ := Aside0.mk ((by rw [hg]; exact (below_size (by repeat (first | (with_reducible first | exact HB.out | apply below_alloc | apply pw_below_drewN | apply below_drew1) | exact HB.out))) : w.heap.size ≤ gb158)); clear HB; have HB := n0_; have BK158 := n1_; have GW158 := n2_; have GE158 := n3_; clear n0_ n1_ n2_ n3_; clear hb hbox hg; have hcz7_0 : w6.cell? ⟨gb158, 0, none⟩ = some (.slice A0_0 l0_0.length c0_0) := (blk_cell BK158.out 0).trans rfl; have hcz7_1 : w6.cell? ⟨gb158, 1, none⟩ = some (.int .u32 a0_1) := (blk_cell BK158.out 1).trans rfl; have hcz7_2 : w6.cell? ⟨gb158, 2, none⟩ = some (.int .u32 a0_2) := (blk_cell BK158.out 2).trans rfl; have hfz7_0 := blk_frozen BK158.out 0; have hfz7_1 := blk_frozen BK158.out 1; have hfz7_2 := blk_frozen BK158.out 2))
    go_loopg [5] k (fun kq v5 w' => ∃ (x5_1 : Int), v5 = .int .u32 x5_1 ∧ Aside0 (spec_BloomHas.l0 kq l1 x5_1 l0_0 a0_1 a0_2 = some r) ∧ Aside0 (kq ≤ k) ∧ Aside0 (w'.heap[gb158]? = some (.cells #[(.slice A0_0 l0_0.length c0_0), .int .u32 a0_1, .int .u32 a0_2] 25 (0, 0))) ∧ Aside0 (Below w.heap.size w w'))
    case atStart => exact ⟨(0), (by first | rfl | (simp; done) | (simp [*]; done)), H', ⟨Nat.le_refl _⟩, ⟨by (with_reducible repeat (first | refine blk_drewN ?_ _ | refine blk_drew ?_ | refine blk_alloc ?_ _)); exact BK158.out⟩, ⟨by repeat (first | (with_reducible first | exact HB.out | apply below_alloc | apply pw_below_drewN | apply below_drew1 | refine below_set ?_ GE158.out) | exact HB.out)⟩⟩
    case round =>
      clear H'
      try clear c1
      try clear p2
      try clear c3
      try clear c3b0
      try clear c3b1
      try clear c3b2
      try clear hcz5_0
      try clear hcz5_1
      try clear hcz5_2
      try clear hcz7_0
      try clear hcz7_1
      try clear hcz7_2
      try clear hfz5_0
      try clear hfz5_1
      try clear hfz5_2
      try clear hfz7_0
      try clear hfz7_1
      try clear hfz7_2
      obtain ⟨x5_1, rfl, HA, HK1, BK158, HB⟩ := hrel
      cases gk with
      | zero => exact absurd HA.out (by simp [spec_BloomHas.l0])
      | succ k1 =>
        have H := HA.out
        clear HA
        simp only [spec_BloomHas.l0] at H
        by_cases c8 : x5_1 < a0_1
        · rw [if_pos c8] at H
          have c8b0 : decide (x5_1 < a0_1) = true := decide_eq_true c8
          clear c8
          replace H := Option.bind_eq_some_iff.mp H
          obtain ⟨t159, A90, H⟩ := H
          replace H : (if 0 ≤ ((Int.tdiv t159 8) % 4294967296) then (if ((Int.tdiv t159 8) % 4294967296) < (l0_0.length : Int) then (if 0 ≤ (Int.tmod t159 8) then (if (Go.bits .and .u8 (shr .u8 (rd l0_0 ((Int.tdiv t159 8) % 4294967296)) (Int.tmod t159 8)) 1) = 0 then (some false) else (spec_BloomHas.l0 k1 l1 ((x5_1 + 1) % 4294967296) l0_0 a0_1 a0_2)) else (none)) else (none)) else (none)) = some r := H
          have A9 := Aside0.mk A90
          clear A90
          obtain ⟨ji10, hji10⟩ : ∃ j_ : Int, ((Int.tdiv t159 8) % 4294967296) = j_ := ⟨_, rfl⟩
          replace H : (if 0 ≤ (ji10) then (if (ji10) < (l0_0.length : Int) then (if 0 ≤ (Int.tmod t159 8) then (if (Go.bits .and .u8 (shr .u8 (rd l0_0 (ji10)) (Int.tmod t159 8)) 1) = 0 then (some false) else (spec_BloomHas.l0 k1 l1 ((x5_1 + 1) % 4294967296) l0_0 a0_1 a0_2)) else (none)) else (none)) else (none)) = some r := by first | (rw [hji10] at H; exact H) | (simp only [hji10] at H ⊢; exact H)
          (try rw [hji10] at A9)
          by_cases c11 : 0 ≤ (ji10)
          · rw [if_pos c11] at H
            have c11b0 : decide (0 ≤ (ji10)) = true := decide_eq_true c11
            clear c11
            by_cases c12 : (ji10) < (l0_0.length : Int)
            · rw [if_pos c12] at H
              have c12b0 : decide ((ji10) < (l0_0.length : Int)) = true := decide_eq_true c12
              clear c12
              obtain ⟨ji13, hji13⟩ : ∃ j_ : Int, (Int.tmod t159 8) = j_ := ⟨_, rfl⟩
              replace H : (if 0 ≤ (ji13) then (if (Go.bits .and .u8 (shr .u8 (rd l0_0 (ji10)) (ji13)) 1) = 0 then (some false) else (spec_BloomHas.l0 k1 l1 ((x5_1 + 1) % 4294967296) l0_0 a0_1 a0_2)) else (none)) = some r := by first | (rw [hji13] at H; exact H) | (simp only [hji13] at H ⊢; exact H)
              (try rw [hji13] at A9)
              by_cases c14 : 0 ≤ (ji13)
              · rw [if_pos c14] at H
                have c14b0 := eq_true c14
                have c14b1 : decide (0 ≤ (ji13)) = true := decide_eq_true c14
                clear c14
                obtain ⟨ji15, hji15⟩ : ∃ j_ : Int, (shr .u8 (rd l0_0 (ji10)) (ji13)) = j_ := ⟨_, rfl⟩
                replace H : (if (Go.bits .and .u8 (ji15) 1) = 0 then (some false) else (spec_BloomHas.l0 k1 l1 ((x5_1 + 1) % 4294967296) l0_0 a0_1 a0_2)) = some r := by first | (rw [hji15] at H; exact H) | (simp only [hji15] at H ⊢; exact H)
                (try rw [hji15] at A9)
                have hji15_ : ((rd l0_0 (ji10)) / 2 ^ min (ji13).toNat 8) = ji15 := hji15
                have hji15z : (ji13) ≤ 8 → ((rd l0_0 (ji10)) / 2 ^ (ji13).toNat) = ji15 := shr_small hji15
                by_cases c16 : (Go.bits .and .u8 (ji15) 1) = 0
                · rw [if_pos c16] at H
                  have c16b0 : ((Go.bits .and .u8 (ji15) 1) == 0) = true := beq_iff_eq.mpr c16
                  have c16b1 : ((Go.bits .and .u8 (ji15) 1) != 0) = false := bne_eq_false_iff_eq.mpr c16
                  clear c16
                  obtain rfl := Option.some.inj H
                  have hcz17_0 : wr.cell? ⟨gb158, 0, none⟩ = some (.slice A0_0 l0_0.length c0_0) := (blk_cell BK158.out 0).trans rfl
                  have hcz17_1 : wr.cell? ⟨gb158, 1, none⟩ = some (.int .u32 a0_1) := (blk_cell BK158.out 1).trans rfl
                  have hcz17_2 : wr.cell? ⟨gb158, 2, none⟩ = some (.int .u32 a0_2) := (blk_cell BK158.out 2).trans rfl
                  have hfz17_0 := blk_frozen BK158.out 0
                  have hfz17_1 := blk_frozen BK158.out 1
                  have hfz17_2 := blk_frozen BK158.out 2
                  go_wp2_with (first | ((with_reducible refine gate_callee (f := 15) rfl ?_); refine goesL_ (some 20) rfl rfl Try.func15 (by kernel_rfl) rfl #[.agg #[.slice A0_0 l0_0.length c0_0, .int .u32 a0_1, .int .u32 a0_2], .int .u32 x5_1, .slice A1 l1.length c1] rfl (by (try simp only [List.map_toArray, List.map_cons, List.map_nil]); first | done | rfl | (simp only [List.length_drop, List.length_take]; rfl)) ?_; (with_reducible refine (spec_bit.calls k1 _ _ l0_0 a0_1 a0_2 x5_1 _ _ l1 t159 _ ?side1 ?side2 ?side3 ?side4 A9.out).mono ?_); (case side1 => repeat (first | exact (Kd.C_below HR0_0.out HB.out) | (with_reducible refine Kd.C_alloc ?_ _) | (with_reducible refine Kd.C_drewN ?_ _) | (with_reducible refine Kd.C_drew ?_))); (case side2 => exact HC0_0.out); (case side3 => repeat (first | exact (Kd.C_below HR1.out HB.out) | (with_reducible refine Kd.C_alloc ?_ _) | (with_reducible refine Kd.C_drewN ?_ _) | (with_reducible refine Kd.C_drew ?_))); (case side4 => exact HC1.out); rintro e w18 ⟨rfl, hb⟩; refine ⟨_, rfl, ?_⟩; have n0_ := Aside0.mk (blk_below (g := gb158) (o := .cells #[.slice A0_0 l0_0.length c0_0, .int .u32 a0_1, .int .u32 a0_2] 25 (0, 0)) (by (with_reducible repeat (first | refine blk_drewN ?_ _ | refine blk_drew ?_ | refine blk_alloc ?_ _)); exact BK158.out) hb); have n1_ := Aside0.mk (below_step (by repeat (first | (with_reducible first | exact HB.out | apply below_alloc | apply pw_below_drewN | apply below_drew1 | refine below_set ?_ GE158.out) | exact HB.out)) hb); clear BK158; clear HB; have BK158 := n0_; have HB := n1_; clear n0_ n1_; (try clear hb); (try clear hb2); (try clear hk); (try clear hi); have hcz19_0 : w18.cell? ⟨gb158, 0, none⟩ = some (.slice A0_0 l0_0.length c0_0) := (blk_cell BK158.out 0).trans rfl; have hcz19_1 : w18.cell? ⟨gb158, 1, none⟩ = some (.int .u32 a0_1) := (blk_cell BK158.out 1).trans rfl; have hcz19_2 : w18.cell? ⟨gb158, 2, none⟩ = some (.int .u32 a0_2) := (blk_cell BK158.out 2).trans rfl; have hfz19_0 := blk_frozen BK158.out 0; have hfz19_1 := blk_frozen BK158.out 1; have hfz19_2 := blk_frozen BK158.out 2; have p160 : 0 ≤ ((ji10) : Int) := of_decide_eq_true (by first | (with_reducible assumption) | assumption); have q160 : (ji10) < (l0_0.length : Int) := of_decide_eq_true (by first | (with_reducible assumption) | assumption); obtain ⟨ad160, e160, hx160_0⟩ := Kd.at_int HR0_0.out (ji10) p160 q160; cases e160; replace hx160_0 := (HB.out.cell (World.block_lt_of_cell? w _ hx160_0)).trans hx160_0; replace p160 := eq_true p160; replace q160 := eq_true q160))
                  go_ret
                  exact ⟨by first | rfl | (simp [errW_none, errW_some] <;> rfl) | (simp only [← hji10, ← hji13, ← hji15]; first | rfl | (simp [errW_none, errW_some] <;> rfl)) | (simp [*, errW_none, errW_some] <;> rfl), by repeat (first | (with_reducible first | exact HB.out | apply below_alloc | apply pw_below_drewN | apply below_drew1 | refine below_set ?_ GE158.out) | exact HB.out)⟩
                · rw [if_neg c16] at H
                  have c16b0 : ((Go.bits .and .u8 (ji15) 1) == 0) = false := beq_eq_false_iff_ne.mpr c16
                  have c16b1 : ((Go.bits .and .u8 (ji15) 1) != 0) = true := bne_iff_ne.mpr c16
                  have H' := Aside0.mk H
                  clear H
                  have hcz20_0 : wr.cell? ⟨gb158, 0, none⟩ = some (.slice A0_0 l0_0.length c0_0) := (blk_cell BK158.out 0).trans rfl
                  have hcz20_1 : wr.cell? ⟨gb158, 1, none⟩ = some (.int .u32 a0_1) := (blk_cell BK158.out 1).trans rfl
                  have hcz20_2 : wr.cell? ⟨gb158, 2, none⟩ = some (.int .u32 a0_2) := (blk_cell BK158.out 2).trans rfl
                  have hfz20_0 := blk_frozen BK158.out 0
                  have hfz20_1 := blk_frozen BK158.out 1
                  have hfz20_2 := blk_frozen BK158.out 2
                  go_wp2_with (first | ((with_reducible refine gate_callee (f := 15) rfl ?_); refine goesL_ (some 20) rfl rfl Try.func15 (by kernel_rfl) rfl #[.agg #[.slice A0_0 l0_0.length c0_0, .int .u32 a0_1, .int .u32 a0_2], .int .u32 x5_1, .slice A1 l1.length c1] rfl (by (try simp only [List.map_toArray, List.map_cons, List.map_nil]); first | done | rfl | (simp only [List.length_drop, List.length_take]; rfl)) ?_; (with_reducible refine (spec_bit.calls k1 _ _ l0_0 a0_1 a0_2 x5_1 _ _ l1 t159 _ ?side1 ?side2 ?side3 ?side4 A9.out).mono ?_); (case side1 => repeat (first | exact (Kd.C_below HR0_0.out HB.out) | (with_reducible refine Kd.C_alloc ?_ _) | (with_reducible refine Kd.C_drewN ?_ _) | (with_reducible refine Kd.C_drew ?_))); (case side2 => exact HC0_0.out); (case side3 => repeat (first | exact (Kd.C_below HR1.out HB.out) | (with_reducible refine Kd.C_alloc ?_ _) | (with_reducible refine Kd.C_drewN ?_ _) | (with_reducible refine Kd.C_drew ?_))); (case side4 => exact HC1.out); rintro e w21 ⟨rfl, hb⟩; refine ⟨_, rfl, ?_⟩; have n0_ := Aside0.mk (blk_below (g := gb158) (o := .cells #[.slice A0_0 l0_0.length c0_0, .int .u32 a0_1, .int .u32 a0_2] 25 (0, 0)) (by (with_reducible repeat (first | refine blk_drewN ?_ _ | refine blk_drew ?_ | refine blk_alloc ?_ _)); exact BK158.out) hb); have n1_ := Aside0.mk (below_step (by repeat (first | (with_reducible first | exact HB.out | apply below_alloc | apply pw_below_drewN | apply below_drew1 | refine below_set ?_ GE158.out) | exact HB.out)) hb); clear BK158; clear HB; have BK158 := n0_; have HB := n1_; clear n0_ n1_; (try clear hb); (try clear hb2); (try clear hk); (try clear hi); have hcz22_0 : w21.cell? ⟨gb158, 0, none⟩ = some (.slice A0_0 l0_0.length c0_0) := (blk_cell BK158.out 0).trans rfl; have hcz22_1 : w21.cell? ⟨gb158, 1, none⟩ = some (.int .u32 a0_1) := (blk_cell BK158.out 1).trans rfl; have hcz22_2 : w21.cell? ⟨gb158, 2, none⟩ = some (.int .u32 a0_2) := (blk_cell BK158.out 2).trans rfl; have hfz22_0 := blk_frozen BK158.out 0; have hfz22_1 := blk_frozen BK158.out 1; have hfz22_2 := blk_frozen BK158.out 2; have p160 : 0 ≤ ((ji10) : Int) := of_decide_eq_true (by first | (with_reducible assumption) | assumption); have q160 : (ji10) < (l0_0.length : Int) := of_decide_eq_true (by first | (with_reducible assumption) | assumption); obtain ⟨ad160, e160, hx160_0⟩ := Kd.at_int HR0_0.out (ji10) p160 q160; cases e160; replace hx160_0 := (HB.out.cell (World.block_lt_of_cell? w _ hx160_0)).trans hx160_0; replace p160 := eq_true p160; replace q160 := eq_true q160))
                  go_roundg k1
                  case measure => have := HK1.out; omega
                  case rel => exact ⟨((x5_1 + 1) % 4294967296), (by first | rfl | (simp; done) | (simp [*]; done)), (by first | exact H' | (subst_vars; exact H')), ⟨by have := HK1.out; omega⟩, ⟨by (with_reducible repeat (first | refine blk_drewN ?_ _ | refine blk_drew ?_ | refine blk_alloc ?_ _)); exact BK158.out⟩, ⟨by repeat (first | (with_reducible first | exact HB.out | apply below_alloc | apply pw_below_drewN | apply below_drew1 | refine below_set ?_ GE158.out) | exact HB.out)⟩⟩
              · rw [if_neg c14] at H
                exact absurd H (by simp)
            · rw [if_neg c12] at H
              exact absurd H (by simp)
          · rw [if_neg c11] at H
            exact absurd H (by simp)
        · rw [if_neg c8] at H
          have c8b0 : decide (x5_1 < a0_1) = false := decide_eq_false c8
          clear c8
          obtain rfl := Option.some.inj H
          have hcz23_0 : wr.cell? ⟨gb158, 0, none⟩ = some (.slice A0_0 l0_0.length c0_0) := (blk_cell BK158.out 0).trans rfl
          have hcz23_1 : wr.cell? ⟨gb158, 1, none⟩ = some (.int .u32 a0_1) := (blk_cell BK158.out 1).trans rfl
          have hcz23_2 : wr.cell? ⟨gb158, 2, none⟩ = some (.int .u32 a0_2) := (blk_cell BK158.out 2).trans rfl
          have hfz23_0 := blk_frozen BK158.out 0
          have hfz23_1 := blk_frozen BK158.out 1
          have hfz23_2 := blk_frozen BK158.out 2
          go_wp2
          go_ret
          exact ⟨by first | rfl | (simp [errW_none, errW_some] <;> rfl) | (simp [*, errW_none, errW_some] <;> rfl), by repeat (first | (with_reducible first | exact HB.out | apply below_alloc | apply pw_below_drewN | apply below_drew1 | refine below_set ?_ GE158.out) | exact HB.out)⟩

end Go.Proofs.Ytbbeedclkfcmeaa.KFnBloom
