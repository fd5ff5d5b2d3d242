-- Made by a turned print (own tool turnprint.py over the kit print).
import Derived.Test.YtfbkjkihcajmdacQFnClassesx0
namespace Go.Proofs.Ytfbkjkihcajmdac.QFnClasses
open Go.RowKit Go.Proofs.YtfbkjkihcajmdacW.PrintWords Go.Proofs.YtfbkjkihcajmdacW.PrintLast Go.Proofs.YtfbkjkihcajmdacW.PrintMore
attribute [local go_sem] nn_mod256 nn_mod65536 nn_mod32 max2_int min2_int max_two min_two max_three min_three max_four min_four   -- for this text's walks alone
set_option linter.unusedVariables false
set_option linter.unusedSimpArgs false

/-! ### spec_word: function 35 -/
def spec_word.l0 : Nat → List Int → Int → Int → Option (Int × Bool)
  | 0, _, _, _ => none
  | k + 1, x0, x6, x7 => if x7 ≥ 0 then (if 0 ≤ x7 then (if x7 < (x0.length : Int) then (spec_word.l0 k x0 (wrap64 ((wrap64 (x6 * 256)) + (wrap64 (rd x0 x7)))) (wrap64 (x7 - 1))) else (none)) else (none)) else (some (x6, true))
def spec_word.f (k : Nat) (l0 : List Int) (a1 : Int) : Option (Int × Bool) := if (l0.length : Int) < a1 then (some (0, false)) else (spec_word.l0 k l0 0 (wrap64 (a1 - 1)))
theorem spec_word.mono_l : ∀ k, (∀ y0 y1 y2, LeO (spec_word.l0 k y0 y1 y2) (spec_word.l0 (k + 1) y0 y1 y2))
  | 0 => fun _ _ _ r h => by simp [spec_word.l0] at h
  | k + 1 => by
    have ih0 := spec_word.mono_l k
    · intro y0 y1 y2
      unfold spec_word.l0
      repeat' first
      | (with_reducible exact ih0 _ _ _)
      | (with_reducible exact LeO.refl _)
      | (with_reducible exact LeO.none _)
      | (with_reducible refine LeO.ite ?_ ?_)
      | (with_reducible refine LeO.bind ?_ (fun _ => ?_))
      | exact ih0 _ _ _
      | exact LeO.none _
      | refine LeO.ite ?_ ?_
      | refine LeO.bind ?_ (fun _ => ?_)
theorem spec_word.mono : ∀ a0 a1 k, LeO (spec_word.f k a0 a1) (spec_word.f (k + 1) a0 a1) := by
  intro a0 a1 k
  have ih0 := spec_word.mono_l k
  unfold spec_word.f
  repeat' first
      | (with_reducible exact ih0 _ _ _)
      | (with_reducible exact LeO.refl _)
      | (with_reducible exact LeO.none _)
      | (with_reducible refine LeO.ite ?_ ?_)
      | (with_reducible refine LeO.bind ?_ (fun _ => ?_))
      | exact ih0 _ _ _
      | exact LeO.none _
      | refine LeO.ite ?_ ?_
      | refine LeO.bind ?_ (fun _ => ?_)
set_option maxHeartbeats 8000000 in
set_option maxRecDepth 100000 in
theorem spec_word.calls (k : Nat) (A0 : Option Addr) (c0 : Nat) (l0 : List Int) (a1 : Int) (r1 : Int) (r2 : Bool) (w : World) (hr0 : Kd.C (Kd.int .u8) w A0 l0.length l0) (hc0 : l0.length ≤ c0) (h : spec_word.f k l0 a1 = some (r1, r2)) :
    Calls Try.prog 35 #[.slice A0 l0.length c0, .int .i64 a1] w fun e w' => e = .returned (.tuple #[.int .i64 r1, .bool r2]) ∧ Drawn0 w w' := by
  have HR0 := Aside0.mk hr0
  have HC0 := Aside0.mk hc0
  clear hr0 hc0
  have H : (if (l0.length : Int) < a1 then (some (0, false)) else (spec_word.l0 k l0 0 (wrap64 (a1 - 1)))) = some (r1, r2) := h
  clear h
  by_cases c3 : (l0.length : Int) < a1
  · rw [if_pos c3] at H
    have c3b0 : decide ((l0.length : Int) < a1) = true := decide_eq_true c3
    clear c3
    simp only [Option.some.injEq, Prod.mk.injEq] at H
    obtain ⟨rfl, rfl⟩ := H
    go_enter Try.func35, Try.ntmps35
    go_wp2
    go_ret2
    exact ⟨by first | rfl | (simp; done) | (simp [*]; done), by repeat (first | exact Drawn0.refl _ | apply Drawn0.step)⟩
  · rw [if_neg c3] at H
    have c3b0 : decide ((l0.length : Int) < a1) = false := decide_eq_false c3
    clear c3
    have H' := Aside0.mk H
    clear H
    go_enter Try.func35, Try.ntmps35
    go_wp2
    go_loopg [6, 7] k (fun kq v6 v7 w' => ∃ (x6_1 : Int) (x7_1 : Int), v6 = .int .i64 x6_1 ∧ v7 = .int .i64 x7_1 ∧ Aside0 (spec_word.l0 kq l0 x6_1 x7_1 = some (r1, r2)) ∧ Aside0 (kq ≤ k) ∧ Drawn0 w w')
    case atStart => exact ⟨(0), (wrap64 (a1 - 1)), (by first | rfl | (simp; done) | (simp [*]; done) | (simp [show wrap64 1 = 1 by unfold wrap64; decide, *]; done)), (by first | rfl | (simp; done) | (simp [*]; done) | (simp [show wrap64 1 = 1 by unfold wrap64; decide, *]; done)), H', ⟨Nat.le_refl _⟩, by repeat (first | exact Drawn0.refl _ | apply Drawn0.step)⟩
    case round =>
      clear H'
      try clear p2
      try clear c3
      try clear c3b0
      obtain ⟨x6_1, x7_1, rfl, rfl, HA, HK1, ⟨m1, rfl⟩⟩ := hrel
      cases gk with
      | zero => exact absurd HA.out (by simp [spec_word.l0])
      | succ k1 =>
        have H := HA.out
        clear HA
        simp only [spec_word.l0] at H
        by_cases c4 : x7_1 ≥ 0
        · rw [if_pos c4] at H
          have c4b0 : decide (0 ≤ x7_1) = true := decide_eq_true c4
          clear c4
          by_cases c5 : 0 ≤ x7_1
          · rw [if_pos c5] at H
            have c5b0 : decide (0 ≤ x7_1) = true := decide_eq_true c5
            clear c5
            by_cases c6 : x7_1 < (l0.length : Int)
            · rw [if_pos c6] at H
              have c6b0 : decide (x7_1 < (l0.length : Int)) = true := decide_eq_true c6
              clear c6
              have H' := Aside0.mk H
              clear H
              have p101 : 0 ≤ (x7_1 : Int) := of_decide_eq_true (by first | (with_reducible assumption) | assumption)
              have q101 : x7_1 < (l0.length : Int) := of_decide_eq_true (by first | (with_reducible assumption) | assumption)
              obtain ⟨ad101, e101, hx101_0⟩ := Kd.at_int HR0.out x7_1 p101 q101
              cases e101
              replace p101 := eq_true p101
              replace q101 := eq_true q101
              go_wp2
              go_roundg k1
              case measure => have := HK1.out; ((try clear hji25_ hji25z hji25u hji25v hji25y hji25x); omega)
              case rel => exact ⟨(wrap64 ((wrap64 (x6_1 * 256)) + (wrap64 (rd l0 x7_1)))), (wrap64 (x7_1 - 1)), (by first | rfl | (simp; done) | (simp [*]; done) | (simp [show wrap64 1 = 1 by unfold wrap64; decide, *]; done)), (by first | rfl | (simp; done) | (simp [*]; done) | (simp [show wrap64 1 = 1 by unfold wrap64; decide, *]; done)), (by first | exact H' | (subst_vars; exact H')), ⟨by have := HK1.out; ((try clear hji25_ hji25z hji25u hji25v hji25y hji25x); omega)⟩, by repeat (first | exact Drawn0.refl _ | apply Drawn0.step)⟩
            · rw [if_neg c6] at H
              exact absurd H (by simp)
          · rw [if_neg c5] at H
            exact absurd H (by simp)
        · rw [if_neg c4] at H
          have c4b0 : decide (0 ≤ x7_1) = false := decide_eq_false c4
          clear c4
          simp only [Option.some.injEq, Prod.mk.injEq] at H
          obtain ⟨rfl, rfl⟩ := H
          go_wp2
          go_ret2
          exact ⟨by first | rfl | (simp; done) | (simp [*]; done), by repeat (first | exact Drawn0.refl _ | apply Drawn0.step)⟩

/-! ### spec_Tokens: function 21 -/
mutual
def spec_Tokens.l0 : Nat → List Int → List (S36) → Int → Option ((List (S36)) × Int)
  | 0, _, _, _ => none
  | k + 1, x0, x2, x4 => if x4 < (x0.length : Int) then (if 0 ≤ x4 then (if 0 ≤ (wrap64 (x4 + 1)) then (if (wrap64 (x4 + 1)) ≤ (x0.length : Int) then ((some (x0.drop ((wrap64 (x4 + 1)) : Int).toNat : List Int)).bind fun y103 => (if (wrap64 (rd x0 x4)) ≥ 1 then (spec_Tokens.j1 k x0 x2 x4 (wrap64 (rd x0 x4)) y103 0 0 true (decide ((wrap64 (rd x0 x4)) < 76))) else (spec_Tokens.j1 k x0 x2 x4 (wrap64 (rd x0 x4)) y103 0 0 true false))) else (none)) else (none)) else (none)) else (some (x2, (-1)))
def spec_Tokens.j1 : Nat → List Int → List (S36) → Int → Int → List Int → Int → Int → Bool → Bool → Option ((List (S36)) × Int)
  | 0, _, _, _, _, _, _, _, _, _ => none
  | k + 1, x0, x2, x4, x5, x6, x7, x8, x9, x23 => if x23 = true then (if x9 = true then (if x5 > (wrap64 ((x6.length : Int) - x8)) then (some (x2, x4)) else (if 0 ≤ x8 then (if x8 ≤ (wrap64 (x8 + x5)) then (if (wrap64 (x8 + x5)) ≤ (x6.length : Int) then (if x2.length < 3518437208883 then (spec_Tokens.l0 k x0 (x2 ++ [(⟨x5, ((x6.take ((wrap64 (x8 + x5)) : Int).toNat).drop (x8 : Int).toNat), x4⟩ : S36)]) (wrap64 (x4 + (wrap64 ((wrap64 (1 + x8)) + x5))))) else (none)) else (none)) else (none)) else (none))) else (some (x2, x4))) else (if x5 ≥ 76 then (spec_Tokens.j2 k x0 x2 x4 x5 x6 x7 x8 x9 (decide (x5 ≤ 78))) else (spec_Tokens.j2 k x0 x2 x4 x5 x6 x7 x8 x9 false))
def spec_Tokens.j2 : Nat → List Int → List (S36) → Int → Int → List Int → Int → Int → Bool → Bool → Option ((List (S36)) × Int)
  | 0, _, _, _, _, _, _, _, _, _ => none
  | k + 1, x0, x2, x4, x5, x6, x7, x8, x9, x31 => if x31 = true then (if 0 ≤ (wrap64 (x5 - 76)) then ((spec_word.f k x6 (shl .i64 1 (wrap64 (x5 - 76)))).bind fun bt116 => (if bt116.2 = true then (if bt116.1 > (wrap64 ((x6.length : Int) - (shl .i64 1 (wrap64 (x5 - 76))))) then (some (x2, x4)) else (if 0 ≤ (shl .i64 1 (wrap64 (x5 - 76))) then (if (shl .i64 1 (wrap64 (x5 - 76))) ≤ (wrap64 ((shl .i64 1 (wrap64 (x5 - 76))) + bt116.1)) then (if (wrap64 ((shl .i64 1 (wrap64 (x5 - 76))) + bt116.1)) ≤ (x6.length : Int) then (if x2.length < 3518437208883 then (spec_Tokens.l0 k x0 (x2 ++ [(⟨x5, ((x6.take ((wrap64 ((shl .i64 1 (wrap64 (x5 - 76))) + bt116.1)) : Int).toNat).drop ((shl .i64 1 (wrap64 (x5 - 76))) : Int).toNat), x4⟩ : S36)]) (wrap64 (x4 + (wrap64 ((wrap64 (1 + (shl .i64 1 (wrap64 (x5 - 76))))) + bt116.1))))) else (none)) else (none)) else (none)) else (none))) else (some (x2, x4)))) else (none)) else (if x9 = true then (if x7 > (wrap64 ((x6.length : Int) - x8)) then (some (x2, x4)) else (if 0 ≤ x8 then (if x8 ≤ (wrap64 (x8 + x7)) then (if (wrap64 (x8 + x7)) ≤ (x6.length : Int) then (if x2.length < 3518437208883 then (spec_Tokens.l0 k x0 (x2 ++ [(⟨x5, ((x6.take ((wrap64 (x8 + x7)) : Int).toNat).drop (x8 : Int).toNat), x4⟩ : S36)]) (wrap64 (x4 + (wrap64 ((wrap64 (1 + x8)) + x7))))) else (none)) else (none)) else (none)) else (none))) else (some (x2, x4)))
end
def spec_Tokens.f (k : Nat) (l0 : List Int) : Option ((List (S36)) × Int) := spec_Tokens.l0 k l0 ([] : List (S36)) 0
theorem spec_Tokens.mono_l : ∀ k, (∀ y0 y1 y2, LeO (spec_Tokens.l0 k y0 y1 y2) (spec_Tokens.l0 (k + 1) y0 y1 y2)) ∧ (∀ y0 y1 y2 y3 y4 y5 y6 y7 y8, LeO (spec_Tokens.j1 k y0 y1 y2 y3 y4 y5 y6 y7 y8) (spec_Tokens.j1 (k + 1) y0 y1 y2 y3 y4 y5 y6 y7 y8)) ∧ (∀ y0 y1 y2 y3 y4 y5 y6 y7 y8, LeO (spec_Tokens.j2 k y0 y1 y2 y3 y4 y5 y6 y7 y8) (spec_Tokens.j2 (k + 1) y0 y1 y2 y3 y4 y5 y6 y7 y8))
  | 0 => ⟨fun _ _ _ r h => by simp [spec_Tokens.l0] at h, fun _ _ _ _ _ _ _ _ _ r h => by simp [spec_Tokens.j1] at h, fun _ _ _ _ _ _ _ _ _ r h => by simp [spec_Tokens.j2] at h⟩
  | k + 1 => by
    obtain ⟨ih0, ih1, ih2⟩ := spec_Tokens.mono_l k
    refine ⟨?_, ?_, ?_⟩
    · intro y0 y1 y2
      unfold spec_Tokens.l0
      repeat' first
      | (with_reducible exact ih0 _ _ _)
      | (with_reducible exact ih1 _ _ _ _ _ _ _ _ _)
      | (with_reducible exact ih2 _ _ _ _ _ _ _ _ _)
      | (with_reducible exact spec_word.mono _ _ _)
      | (with_reducible exact LeO.refl _)
      | (with_reducible exact LeO.none _)
      | (with_reducible refine LeO.ite ?_ ?_)
      | (with_reducible refine LeO.bind ?_ (fun _ => ?_))
      | exact ih0 _ _ _
      | exact ih1 _ _ _ _ _ _ _ _ _
      | exact ih2 _ _ _ _ _ _ _ _ _
      | exact spec_word.mono _ _ _
      | exact LeO.none _
      | refine LeO.ite ?_ ?_
      | refine LeO.bind ?_ (fun _ => ?_)
    · intro y0 y1 y2 y3 y4 y5 y6 y7 y8
      unfold spec_Tokens.j1
      repeat' first
      | (with_reducible exact ih0 _ _ _)
      | (with_reducible exact ih1 _ _ _ _ _ _ _ _ _)
      | (with_reducible exact ih2 _ _ _ _ _ _ _ _ _)
      | (with_reducible exact spec_word.mono _ _ _)
      | (with_reducible exact LeO.refl _)
      | (with_reducible exact LeO.none _)
      | (with_reducible refine LeO.ite ?_ ?_)
      | (with_reducible refine LeO.bind ?_ (fun _ => ?_))
      | exact ih0 _ _ _
      | exact ih1 _ _ _ _ _ _ _ _ _
      | exact ih2 _ _ _ _ _ _ _ _ _
      | exact spec_word.mono _ _ _
      | exact LeO.none _
      | refine LeO.ite ?_ ?_
      | refine LeO.bind ?_ (fun _ => ?_)
    · intro y0 y1 y2 y3 y4 y5 y6 y7 y8
      unfold spec_Tokens.j2
      repeat' first
      | (with_reducible exact ih0 _ _ _)
      | (with_reducible exact ih1 _ _ _ _ _ _ _ _ _)
      | (with_reducible exact ih2 _ _ _ _ _ _ _ _ _)
      | (with_reducible exact spec_word.mono _ _ _)
      | (with_reducible exact LeO.refl _)
      | (with_reducible exact LeO.none _)
      | (with_reducible refine LeO.ite ?_ ?_)
      | (with_reducible refine LeO.bind ?_ (fun _ => ?_))
      | exact ih0 _ _ _
      | exact ih1 _ _ _ _ _ _ _ _ _
      | exact ih2 _ _ _ _ _ _ _ _ _
      | exact spec_word.mono _ _ _
      | exact LeO.none _
      | refine LeO.ite ?_ ?_
      | refine LeO.bind ?_ (fun _ => ?_)
theorem spec_Tokens.mono : ∀ a0 k, LeO (spec_Tokens.f k a0) (spec_Tokens.f (k + 1) a0) := by
  intro a0 k
  obtain ⟨ih0, ih1, ih2⟩ := spec_Tokens.mono_l k
  unfold spec_Tokens.f
  repeat' first
      | (with_reducible exact ih0 _ _ _)
      | (with_reducible exact ih1 _ _ _ _ _ _ _ _ _)
      | (with_reducible exact ih2 _ _ _ _ _ _ _ _ _)
      | (with_reducible exact spec_word.mono _ _ _)
      | (with_reducible exact LeO.refl _)
      | (with_reducible exact LeO.none _)
      | (with_reducible refine LeO.ite ?_ ?_)
      | (with_reducible refine LeO.bind ?_ (fun _ => ?_))
      | exact ih0 _ _ _
      | exact ih1 _ _ _ _ _ _ _ _ _
      | exact ih2 _ _ _ _ _ _ _ _ _
      | exact spec_word.mono _ _ _
      | exact LeO.none _
      | refine LeO.ite ?_ ?_
      | refine LeO.bind ?_ (fun _ => ?_)
set_option maxHeartbeats 8000000 in
set_option maxRecDepth 100000 in
theorem spec_Tokens.calls (k : Nat) (P0_ : Nat → Prop) (A0 : Option Addr) (c0 : Nat) (l0 : List Int) (r1 : List (S36)) (r2 : Int) (w : World) (hs0 : Kd.V (Kd.int .u8) 5 w w.heap.size (fun k_ => P0_ k_) (.slice A0 l0.length c0) l0) (h : spec_Tokens.f k l0 = some (r1, r2)) :
    Calls Try.prog 21 #[.slice A0 l0.length c0] w fun e w' => ∃ v0_ : Value, e = .returned (.tuple #[v0_, .int .i64 r2]) ∧ Kd.N k36 36 w' w.heap.size (fun k_ => (P0_ k_ ∨ w.heap.size ≤ k_)) v0_ r1 ∧ Below w.heap.size w w' := by
  have hu36 := Try.underlying36
  have HO0 := Aside0.mk (show Kd.V (Kd.int .u8) 5 w w.heap.size (fun k_ => (P0_ k_ ∨ w.heap.size ≤ k_)) (.slice A0 l0.length c0) l0 from Kd.V_mono hs0 (fun k_ hk => .inl hk))
  have HB := Aside0.mk (Below.refl w.heap.size w)
  have H : (spec_Tokens.l0 k l0 ([] : List (S36)) 0) = some (r1, r2) := h
  clear h
  have H' := Aside0.mk H
  clear H
  go_enter Try.func21, Try.ntmps21
  go_wp2
  go_loopg [2, 4] k (fun kq v2 v4 w' => ∃ (x2_1 : List (S36)) (x4_1 : Int), v4 = .int .i64 x4_1 ∧ Aside0 (spec_Tokens.l0 kq l0 x2_1 x4_1 = some (r1, r2)) ∧ Aside0 (kq ≤ k) ∧ Aside0 (Kd.V (Kd.int .u8) 5 w' w.heap.size (fun k_ => (P0_ k_ ∨ w.heap.size ≤ k_) ∧ some k_ ≠ (v2 : Value).ownBlock) (.slice A0 l0.length c0) l0) ∧ Aside0 (Kd.N k36 36 w' w.heap.size (fun k_ => (P0_ k_ ∨ w.heap.size ≤ k_)) v2 x2_1) ∧ Aside0 (Below w.heap.size w w'))
  case atStart => exact ⟨(([] : List (S36))), (0), (by first | rfl | (simp; done) | (simp [*]; done) | (simp [show wrap64 1 = 1 by unfold wrap64; decide, *]; done)), H', ⟨Nat.le_refl _⟩, ⟨by (with_reducible repeat (first | apply Kd.V_alloc | apply Kd.V_drewN | apply Kd.V_drew)); exact Kd.V_mono HO0.out (fun _ hk => ⟨hk, (by simp [Value.ownBlock])⟩)⟩, ⟨by first | exact Kd.S_nil _ _ _ _ _ | exact Kd.N_nil _ _ _ _ _ | exact Kd.V_nil _ _ _ _ _ | exact Kd.Q_nil _ _ _ _ _ | exact Kd.R_nil _ _ _ _ _⟩, ⟨by repeat (first | (with_reducible first | exact HB.out | apply below_alloc | apply pw_below_drewN | apply below_drew1) | exact HB.out)⟩⟩
  case round =>
    clear H'
    obtain ⟨x2_1, x4_1, rfl, HA, HK1, HO_0, HO_2, HB⟩ := hrel
    cases gk with
    | zero => exact absurd HA.out (by simp [spec_Tokens.l0])
    | succ k1 =>
      have H := HA.out
      clear HA
      simp only [spec_Tokens.l0] at H
      by_cases c2 : x4_1 < (l0.length : Int)
      · rw [if_pos c2] at H
        have c2b0 : decide (x4_1 < (l0.length : Int)) = true := decide_eq_true c2
        clear c2
        by_cases c3 : 0 ≤ x4_1
        · rw [if_pos c3] at H
          have c3b0 : decide (0 ≤ x4_1) = true := decide_eq_true c3
          clear c3
          obtain ⟨ji4, hji4⟩ : ∃ j_ : Int, (wrap64 (x4_1 + 1)) = j_ := ⟨_, rfl⟩
          replace H : (if 0 ≤ (ji4) then (if (ji4) ≤ (l0.length : Int) then ((some (l0.drop ((ji4) : Int).toNat : List Int)).bind fun y103 => (if (wrap64 (rd l0 x4_1)) ≥ 1 then (spec_Tokens.j1 k1 l0 x2_1 x4_1 (wrap64 (rd l0 x4_1)) y103 0 0 true (decide ((wrap64 (rd l0 x4_1)) < 76))) else (spec_Tokens.j1 k1 l0 x2_1 x4_1 (wrap64 (rd l0 x4_1)) y103 0 0 true false))) else (none)) else (none)) = some (r1, r2) := by first | (rw [hji4] at H; exact H) | (simp only [hji4] at H ⊢; exact H)
          have hji4w : (IntKind.i64.wrap (x4_1 + 1)) = ji4 := (i64_w _).trans hji4
          by_cases c5 : 0 ≤ (ji4)
          · rw [if_pos c5] at H
            have c5b0 := eq_true c5
            have c5b1 : decide (0 ≤ (ji4)) = true := decide_eq_true c5
            clear c5
            by_cases c6 : (ji4) ≤ (l0.length : Int)
            · rw [if_pos c6] at H
              have c6b0 := eq_true c6
              have c6b1 : decide ((ji4) ≤ (l0.length : Int)) = true := decide_eq_true c6
              clear c6
              obtain ⟨y103, hy103⟩ : ∃ y_ : List Int, y_ = (l0.drop ((ji4) : Int).toNat) := ⟨_, rfl⟩
              replace H : (if (wrap64 (rd l0 x4_1)) ≥ 1 then (spec_Tokens.j1 k1 l0 x2_1 x4_1 (wrap64 (rd l0 x4_1)) y103 0 0 true (decide ((wrap64 (rd l0 x4_1)) < 76))) else (spec_Tokens.j1 k1 l0 x2_1 x4_1 (wrap64 (rd l0 x4_1)) y103 0 0 true false)) = some (r1, r2) := by first | (rw [hy103]; with_reducible exact H) | (have H2_ := (Option.bind_some _ _).symm.trans H; rw [hy103]; with_reducible exact H2_) | (have H2_ := (Option.bind_some _ _).symm.trans H; with_reducible exact H2_) | with_reducible exact H | (rw [hy103]; exact H) | exact H
              have Ny103 := Aside0.mk hy103
              clear hy103
              have HC7 := Aside0.mk H
              clear H
              have p102 : 0 ≤ (x4_1 : Int) := of_decide_eq_true (by first | (with_reducible assumption) | assumption)
              have q102 : x4_1 < (l0.length : Int) := of_decide_eq_true (by first | (with_reducible assumption) | assumption)
              obtain ⟨ad102, e102, hx102_0⟩ := Kd.at_int (Kd.V_reads' HO_0.out).2.2 x4_1 p102 q102
              cases e102
              replace p102 := eq_true p102
              replace q102 := eq_true q102
              have q8 : ((ji4) : Int) ≤ ((l0.length : Int) : Int) := of_decide_eq_true (by first | (with_reducible assumption) | assumption)
              obtain ⟨i08, hi08, _, hsz8, _⟩ := info_parts info5
              have hroom8 : l0.length ≤ c0 := (Kd.V_reads' HO_0.out).2.1
              have hC8 : Kd.F (Kd.int .u8) _ _ (some ad102) l0.length l0 := (Kd.V_at (base := w.heap.size) HO_0.out).2.2
              have q08 : (0 : Int) ≤ ((ji4) : Int) := of_decide_eq_true (by first | (with_reducible assumption) | assumption)
              have hcut8 := cut_from (P := Try.prog) 22 5 .i64 Try.underlying22 hi08 1 hsz8 (some ad102) l0.length c0 (ji4) q08 q8
              have hr8 := Kd.F_cut (m := ((ji4) : Int).toNat) (c := c0) hC8 (by ((try clear hji25_ hji25z hji25u hji25v hji25y hji25x); omega)) hroom8
              obtain ⟨A8, hA8⟩ : ∃ A1, A1 = (if c0 = ((ji4) : Int).toNat then (some ad102) else ((some ad102) : Option Addr).map (·.add (((ji4) : Int).toNat * 1))) := ⟨_, rfl⟩
              obtain ⟨c8, hc8⟩ : ∃ c1, c1 = c0 - ((ji4) : Int).toNat := ⟨_, rfl⟩
              have hy8 : y103.length = l0.length - ((ji4) : Int).toNat := (by rw [Ny103.out, List.length_drop] <;> ((try clear hji25_ hji25z hji25u hji25v hji25y hji25x); omega))
              rw [show (l0).drop ((ji4) : Int).toNat = y103 from Ny103.out.symm] at hr8
              replace hr8 : Kd.F (Kd.int .u8) _ _ A8 y103.length y103 := (by rw [hA8]; exact hr8)
              rw [← hy8, ← hA8, ← hc8] at hcut8
              have HO107 := Aside0.mk (show Kd.V (Kd.int .u8) 5 _ w.heap.size _ (.slice A8 y103.length c8) y103 from Kd.V_mk (by rw [hy8, hc8]; exact Nat.sub_le_sub_right hroom8 _) hr8)
              have HC107 := Aside0.mk (show y103.length ≤ c8 from by rw [hy8, hc8]; exact Nat.sub_le_sub_right hroom8 _)
              clear hr8 hC8 hroom8 hi08 hsz8 hc8
              have KY8 := Aside0.mk hy8
              have KA8 := Aside0.mk hA8
              clear hy8 hA8
              replace q8 := eq_true q8
              go_upto_region 6 with (fail)
              go_cut [23] (fun v23 wc => ∃ (kq : Nat) (x23_6 : Bool), v23 = .bool x23_6 ∧ Aside0 (spec_Tokens.j1 kq l0 x2_1 x4_1 (wrap64 (rd l0 x4_1)) y103 0 0 true x23_6 = some (r1, r2)) ∧ Aside0 (kq ≤ k1) ∧ Aside0 (Kd.V (Kd.int .u8) 5 wc w.heap.size (fun k_ => (P0_ k_ ∨ w.heap.size ≤ k_) ∧ some k_ ≠ (u2 : Value).ownBlock) (.slice (some ad102) l0.length c0) l0) ∧ Aside0 (Kd.N k36 36 wc w.heap.size (fun k_ => (P0_ k_ ∨ w.heap.size ≤ k_)) u2 x2_1) ∧ Aside0 (Kd.V (Kd.int .u8) 5 wc w.heap.size (fun k_ => (P0_ k_ ∨ w.heap.size ≤ k_) ∧ some k_ ≠ (u2 : Value).ownBlock) (.slice A8 y103.length c8) y103) ∧ Aside0 (Below w.heap.size w wc))
              case first =>
                have H := HC7.out
                clear HC7
                by_cases c9 : (wrap64 (rd l0 x4_1)) ≥ 1
                · rw [if_pos c9] at H
                  have c9b0 : decide (1 ≤ (wrap64 (rd l0 x4_1))) = true := decide_eq_true c9
                  clear c9
                  (first | rw [c9b0] | (simp only [i64_w, i32_w]; rw [c9b0]) | skip)
                  have H' := Aside0.mk H
                  clear H
                  go_wp2
                  go_meet
                  case rel => exact ⟨_, (decide ((wrap64 (rd l0 x4_1)) < 76)), (by first | rfl | (simp; done) | (simp [*]; done) | (simp [show wrap64 1 = 1 by unfold wrap64; decide, *]; done)), (by first | exact H' | (subst_vars; exact H')), ⟨by have := HK1.out; first | ((try clear hji25_ hji25z hji25u hji25v hji25y hji25x); omega) | exact Nat.le_refl _⟩, ⟨by (with_reducible repeat (first | apply Kd.V_alloc | apply Kd.V_drewN | apply Kd.V_drew)); exact HO_0.out⟩, ⟨by (with_reducible repeat (first | apply Kd.N_alloc | apply Kd.N_drewN | apply Kd.N_drew)); exact HO_2.out⟩, ⟨by (with_reducible repeat (first | apply Kd.V_alloc | apply Kd.V_drewN | apply Kd.V_drew)); exact HO107.out⟩, ⟨by repeat (first | (with_reducible first | exact HB.out | apply below_alloc | apply pw_below_drewN | apply below_drew1) | exact HB.out)⟩⟩
                · rw [if_neg c9] at H
                  have c9b0 : decide (1 ≤ (wrap64 (rd l0 x4_1))) = false := decide_eq_false c9
                  clear c9
                  (first | rw [c9b0] | (simp only [i64_w, i32_w]; rw [c9b0]) | skip)
                  have H' := Aside0.mk H
                  clear H
                  go_wp2
                  go_meet
                  case rel => exact ⟨_, (false), (by first | rfl | (simp; done) | (simp [*]; done) | (simp [show wrap64 1 = 1 by unfold wrap64; decide, *]; done)), (by first | exact H' | (subst_vars; exact H')), ⟨by have := HK1.out; first | ((try clear hji25_ hji25z hji25u hji25v hji25y hji25x); omega) | exact Nat.le_refl _⟩, ⟨by (with_reducible repeat (first | apply Kd.V_alloc | apply Kd.V_drewN | apply Kd.V_drew)); exact HO_0.out⟩, ⟨by (with_reducible repeat (first | apply Kd.N_alloc | apply Kd.N_drewN | apply Kd.N_drew)); exact HO_2.out⟩, ⟨by (with_reducible repeat (first | apply Kd.V_alloc | apply Kd.V_drewN | apply Kd.V_drew)); exact HO107.out⟩, ⟨by repeat (first | (with_reducible first | exact HB.out | apply below_alloc | apply pw_below_drewN | apply below_drew1) | exact HB.out)⟩⟩
              case rest =>
                clear HC7
                try clear c1
                try clear p1
                try clear q1
                try clear hx1
                try clear c2
                try clear c2b0
                try clear p2
                try clear c3
                try clear c3b0
                try clear c5
                try clear c5b0
                try clear c5b1
                try clear c6
                try clear c6b0
                try clear c6b1
                try clear p6
                try clear c8
                try clear q8
                try clear c9
                try clear c9b0
                try clear hx102_0
                try clear p102
                try clear q08
                try clear q102
                try clear q8
                obtain ⟨kq, x23_6, rfl, HA, HJ6, HO_0, HO_2, HO_6, HB⟩ := hcut
                cases kq with
                | zero => exact absurd HA.out (by simp [spec_Tokens.j1])
                | succ kj6 =>
                  have H := HA.out
                  clear HA
                  simp only [spec_Tokens.j1] at H
                  by_cases c10 : x23_6 = true
                  · subst c10
                    have H1 : (if true = true then (if (wrap64 (rd l0 x4_1)) > (wrap64 ((y103.length : Int) - 0)) then (some (x2_1, x4_1)) else (if 0 ≤ 0 then (if 0 ≤ (wrap64 (0 + (wrap64 (rd l0 x4_1)))) then (if (wrap64 (0 + (wrap64 (rd l0 x4_1)))) ≤ (y103.length : Int) then (if x2_1.length < 3518437208883 then (spec_Tokens.l0 kj6 l0 (x2_1 ++ [(⟨(wrap64 (rd l0 x4_1)), ((y103.take ((wrap64 (0 + (wrap64 (rd l0 x4_1)))) : Int).toNat).drop (0 : Int).toNat), x4_1⟩ : S36)]) (wrap64 (x4_1 + (wrap64 ((wrap64 (1 + 0)) + (wrap64 (rd l0 x4_1))))))) else (none)) else (none)) else (none)) else (none))) else (some (x2_1, x4_1))) = some (r1, r2) := by rw [if_pos rfl] at H; exact H
                    clear H
                    have H := H1
                    clear H1
                    by_cases c11 : true = true
                    · clear c11
                      have H1 : (if (wrap64 (rd l0 x4_1)) > (wrap64 ((y103.length : Int) - 0)) then (some (x2_1, x4_1)) else (if 0 ≤ 0 then (if 0 ≤ (wrap64 (0 + (wrap64 (rd l0 x4_1)))) then (if (wrap64 (0 + (wrap64 (rd l0 x4_1)))) ≤ (y103.length : Int) then (if x2_1.length < 3518437208883 then (spec_Tokens.l0 kj6 l0 (x2_1 ++ [(⟨(wrap64 (rd l0 x4_1)), ((y103.take ((wrap64 (0 + (wrap64 (rd l0 x4_1)))) : Int).toNat).drop (0 : Int).toNat), x4_1⟩ : S36)]) (wrap64 (x4_1 + (wrap64 ((wrap64 (1 + 0)) + (wrap64 (rd l0 x4_1))))))) else (none)) else (none)) else (none)) else (none))) = some (r1, r2) := by rw [if_pos rfl] at H; exact H
                      clear H
                      have H := H1
                      clear H1
                      by_cases c12 : (wrap64 (rd l0 x4_1)) > (wrap64 ((y103.length : Int) - 0))
                      · rw [if_pos c12] at H
                        have c12b0 : decide ((wrap64 ((y103.length : Int) - 0)) < (wrap64 (rd l0 x4_1))) = true := decide_eq_true c12
                        try simp only [Int.sub_zero, Int.zero_add, Int.add_zero] at c12b0
                        clear c12
                        simp only [Option.some.injEq, Prod.mk.injEq] at H
                        obtain ⟨rfl, rfl⟩ := H
                        go_wp2
                        go_ret2
                        exact ⟨_, by first | rfl | (simp [errW_none, errW_some] <;> rfl) | (simp only [← hji4]; first | rfl | (simp [errW_none, errW_some] <;> rfl)) | (simp [*, errW_none, errW_some] <;> rfl), by (with_reducible repeat (first | apply Kd.N_alloc | apply Kd.N_drewN | apply Kd.N_drew)); exact HO_2.out, by repeat (first | (with_reducible first | exact HB.out | apply below_alloc | apply pw_below_drewN | apply below_drew1) | exact HB.out)⟩
                      · rw [if_neg c12] at H
                        have c12b0 : decide ((wrap64 ((y103.length : Int) - 0)) < (wrap64 (rd l0 x4_1))) = false := decide_eq_false c12
                        try simp only [Int.sub_zero, Int.zero_add, Int.add_zero] at c12b0
                        clear c12
                        by_cases c13 : 0 ≤ 0
                        · rw [if_pos c13] at H
                          have c13b0 := eq_true c13
                          have c13b1 : decide (0 ≤ 0) = true := decide_eq_true c13
                          clear c13
                          obtain ⟨ji14, hji14⟩ : ∃ j_ : Int, (wrap64 (0 + (wrap64 (rd l0 x4_1)))) = j_ := ⟨_, rfl⟩
                          replace H : (if 0 ≤ (ji14) then (if (ji14) ≤ (y103.length : Int) then (if x2_1.length < 3518437208883 then (spec_Tokens.l0 kj6 l0 (x2_1 ++ [(⟨(wrap64 (rd l0 x4_1)), ((y103.take ((ji14) : Int).toNat).drop (0 : Int).toNat), x4_1⟩ : S36)]) (wrap64 (x4_1 + (wrap64 ((wrap64 (1 + 0)) + (wrap64 (rd l0 x4_1))))))) else (none)) else (none)) else (none)) = some (r1, r2) := by first | (rw [hji14] at H; exact H) | (simp only [hji14] at H ⊢; exact H)
                          have hji14w : (IntKind.i64.wrap (0 + (wrap64 (rd l0 x4_1)))) = ji14 := (i64_w _).trans hji14
                          try simp only [Int.sub_zero, Int.zero_add, Int.add_zero] at hji14w
                          by_cases c15 : 0 ≤ (ji14)
                          · rw [if_pos c15] at H
                            have c15b0 := eq_true c15
                            have c15b1 : decide (0 ≤ (ji14)) = true := decide_eq_true c15
                            clear c15
                            by_cases c16 : (ji14) ≤ (y103.length : Int)
                            · rw [if_pos c16] at H
                              have c16b0 := eq_true c16
                              have c16b1 : decide ((ji14) ≤ (y103.length : Int)) = true := decide_eq_true c16
                              clear c16
                              obtain ⟨y108, hy108⟩ : ∃ y_ : List Int, y_ = ((y103.take ((ji14) : Int).toNat).drop (0 : Int).toNat) := ⟨_, rfl⟩
                              replace H : (if x2_1.length < 3518437208883 then (spec_Tokens.l0 kj6 l0 (x2_1 ++ [(⟨(wrap64 (rd l0 x4_1)), y108, x4_1⟩ : S36)]) (wrap64 (x4_1 + (wrap64 ((wrap64 (1 + 0)) + (wrap64 (rd l0 x4_1))))))) else (none)) = some (r1, r2) := by first | (rw [hy108]; with_reducible exact H) | (have H2_ := (Option.bind_some _ _).symm.trans H; rw [hy108]; with_reducible exact H2_) | (have H2_ := (Option.bind_some _ _).symm.trans H; with_reducible exact H2_) | with_reducible exact H | (rw [hy108]; exact H) | exact H
                              have Ny108 := Aside0.mk hy108
                              clear hy108
                              by_cases c17 : x2_1.length < 3518437208883
                              · rw [if_pos c17] at H
                                have LMc17 := Aside0.mk c17
                                clear c17
                                obtain ⟨y113, hy113⟩ : ∃ y_ : List (S36), y_ = (x2_1 ++ [(⟨(wrap64 (rd l0 x4_1)), y108, x4_1⟩ : S36)]) := ⟨_, rfl⟩
                                replace H : (spec_Tokens.l0 kj6 l0 y113 (wrap64 (x4_1 + (wrap64 ((wrap64 (1 + 0)) + (wrap64 (rd l0 x4_1))))))) = some (r1, r2) := by first | (rw [hy113]; with_reducible exact H) | (have H2_ := (Option.bind_some _ _).symm.trans H; rw [hy113]; with_reducible exact H2_) | (have H2_ := (Option.bind_some _ _).symm.trans H; with_reducible exact H2_) | with_reducible exact H | (rw [hy113]; exact H) | exact H
                                have Ny113 := Aside0.mk hy113
                                clear hy113
                                have H' := Aside0.mk H
                                clear H
                                have q18 : ((ji14) : Int) ≤ ((y103.length : Int) : Int) := of_decide_eq_true (by first | (with_reducible assumption) | assumption)
                                obtain ⟨i018, hi018, _, hsz18, _⟩ := info_parts info5
                                have hroom18 : y103.length ≤ c8 := (Kd.V_reads' HO_6.out).2.1
                                have hC18 : Kd.F (Kd.int .u8) _ _ A8 y103.length y103 := (Kd.V_at (base := w.heap.size) HO_6.out).2.2
                                have ql18 : (0 : Int) ≤ ((ji14) : Int) := of_decide_eq_true (by first | (with_reducible assumption) | assumption)
                                have hcut18 := cut_mid (P := Try.prog) 22 5 .i64 .i64 Try.underlying22 hi018 1 hsz18 A8 y103.length c8 0 (ji14) (by ((try clear hji25_ hji25z hji25u hji25v hji25y hji25x); omega)) ql18 q18 hroom18
                                have hr18 := Kd.F_mid (lo := (0 : Int).toNat) (hi := ((ji14) : Int).toNat) (c := c8) hC18 (by ((try clear hji25_ hji25z hji25u hji25v hji25y hji25x); omega)) (by ((try clear hji25_ hji25z hji25u hji25v hji25y hji25x); omega)) hroom18
                                obtain ⟨A18, hA18⟩ : ∃ A1, A1 = (if c8 = (0 : Int).toNat then A8 else (A8 : Option Addr).map (·.add ((0 : Int).toNat * 1))) := ⟨_, rfl⟩
                                obtain ⟨c18, hc18⟩ : ∃ c1, c1 = c8 - (0 : Int).toNat := ⟨_, rfl⟩
                                have hy18 : y108.length = ((ji14) : Int).toNat - (0 : Int).toNat := (by rw [Ny108.out, List.length_drop, List.length_take] <;> ((try clear hji25_ hji25z hji25u hji25v hji25y hji25x); omega))
                                rw [show ((y103).take ((ji14) : Int).toNat).drop (0 : Int).toNat = y108 from Ny108.out.symm] at hr18
                                replace hr18 : Kd.F (Kd.int .u8) _ _ A18 y108.length y108 := (by rw [hA18]; exact hr18)
                                rw [← hy18, ← hA18, ← hc18] at hcut18
                                have HO112 := Aside0.mk (show Kd.V (Kd.int .u8) 5 _ w.heap.size _ (.slice A18 y108.length c18) y108 from Kd.V_mk (by rw [hy18, hc18]; exact Nat.sub_le_sub_right (Nat.le_trans (by ((try clear hji25_ hji25z hji25u hji25v hji25y hji25x); omega)) hroom18) _) hr18)
                                have HC112 := Aside0.mk (show y108.length ≤ c18 from by rw [hy18, hc18]; exact Nat.sub_le_sub_right (Nat.le_trans (by ((try clear hji25_ hji25z hji25u hji25v hji25y hji25x); omega)) hroom18) _)
                                clear hr18 hC18 hroom18 hi018 hsz18 hc18
                                have KY18 := Aside0.mk hy18
                                have KA18 := Aside0.mk hA18
                                clear hy18 hA18
                                replace q18 := eq_true q18
                                go_wp2_with (first | ((with_reducible refine gate_builtin (b := .append) (xs := #[.tmp 59, .tmp 69]) rfl ?_); (try (refine gate_guard (by rfl) ?_; dsimp only)); at_builtin; refine Kd.N_append k36 (w0 := w) w.heap.size rfl (.tmp 59) (.tmp 69) 32 36 (.agg #[(.int .i64 0), (.slice none 0 0), (.int .i64 0)]) 40 rfl Try.underlying32 info36 rfl (by decide) (by decide) u2 x2_1 (⟨(wrap64 (rd l0 x4_1)), y108, x4_1⟩ : S36) [.int .i64 (wrap64 (rd l0 x4_1)), .slice A18 y108.length c18, .int .i64 x4_1] (fun k_ => (P0_ k_ ∨ w.heap.size ≤ k_)) (fun k_ => ((fun k_ => (P0_ k_ ∨ w.heap.size ≤ k_))) k_ ∧ some k_ ≠ (u2 : Value).ownBlock) rfl rfl ?aP (fun _ hk => hk) ?aF ?aO ?aB ?aS ?aL ?_; (case aP => (have z2_ := (Kd.V_reads' (Kd.V_mono (ok' := (fun k_ => ((fun k_ => (P0_ k_ ∨ w.heap.size ≤ k_))) k_ ∧ some k_ ≠ (u2 : Value).ownBlock)) (HO112.out) (fun k_ hk => ⟨hk.1, hk.2⟩))).2.1; have z3_ := (Kd.V_F (Kd.V_mono (ok' := (fun k_ => ((fun k_ => (P0_ k_ ∨ w.heap.size ≤ k_))) k_ ∧ some k_ ≠ (u2 : Value).ownBlock)) (HO112.out) (fun k_ hk => ⟨hk.1, hk.2⟩))); exact k36_mkF _ _ (⟨(wrap64 (rd l0 x4_1)), y108, x4_1⟩ : S36) z2_ z3_)); (case aB => exact (by repeat (first | (with_reducible first | exact HB.out | apply below_alloc | apply pw_below_drewN | apply below_drew1) | exact HB.out))); (case aF => exact (fun k_ hk => (.inr (Nat.le_trans (below_size (by repeat (first | (with_reducible first | exact HB.out | apply below_alloc | apply pw_below_drewN | apply below_drew1) | exact HB.out))) hk)))); (case aO => exact (by (with_reducible repeat (first | apply Kd.N_alloc | apply Kd.N_drewN | apply Kd.N_drew)); exact HO_2.out)); (case aS => exact (below_size (by repeat (first | (with_reducible first | exact HB.out | apply below_alloc | apply pw_below_drewN | apply below_drew1) | exact HB.out)))); (case aL => have := LMc17.out; ((try clear hji25_ hji25z hji25u hji25v hji25y hji25x); omega)); intro v114 w19 ho hb hg hat; rw [← Ny113.out] at ho; have n0_ := Aside0.mk (Kd.V_afterv (ok := (fun k_ => (P0_ k_ ∨ w.heap.size ≤ k_))) (by (with_reducible repeat (first | apply Kd.V_alloc | apply Kd.V_drewN | apply Kd.V_drew)); exact HO_0.out) hg hat); have n1_ := Aside0.mk (Kd.V_afterv (ok := (fun k_ => (P0_ k_ ∨ w.heap.size ≤ k_))) (by (with_reducible repeat (first | apply Kd.V_alloc | apply Kd.V_drewN | apply Kd.V_drew)); exact HO_6.out) hg hat); have n2_ := Aside0.mk (Kd.V_afterv (ok := (fun k_ => (P0_ k_ ∨ w.heap.size ≤ k_))) (by (with_reducible repeat (first | apply Kd.V_alloc | apply Kd.V_drewN | apply Kd.V_drew)); exact HO112.out) hg hat); have n3_ := Aside0.mk (hb); have n4_ := Aside0.mk (ho); clear HO_0; clear HO_6; clear HO112; clear HB; clear HO_2; have HO_0 := n0_; have HO_6 := n1_; have HO112 := n2_; have HB := n3_; have HO115 := n4_; clear n0_ n1_ n2_ n3_ n4_; clear ho hb hg hat))
                                go_roundg kj6
                                case measure => have := HK1.out; have := HJ6.out; ((try clear hji25_ hji25z hji25u hji25v hji25y hji25x); omega)
                                case rel => exact ⟨(y113), (wrap64 (x4_1 + (wrap64 ((wrap64 (1 + 0)) + (wrap64 (rd l0 x4_1)))))), (by first | rfl | (simp; done) | (simp [*]; done) | (simp [show wrap64 1 = 1 by unfold wrap64; decide, *]; done)), (by first | exact H' | (subst_vars; exact H')), ⟨by have := HK1.out; have := HJ6.out; ((try clear hji25_ hji25z hji25u hji25v hji25y hji25x); omega)⟩, ⟨by (with_reducible repeat (first | apply Kd.V_alloc | apply Kd.V_drewN | apply Kd.V_drew)); exact HO_0.out⟩, ⟨by (with_reducible repeat (first | apply Kd.N_alloc | apply Kd.N_drewN | apply Kd.N_drew)); exact HO115.out⟩, ⟨by repeat (first | (with_reducible first | exact HB.out | apply below_alloc | apply pw_below_drewN | apply below_drew1) | exact HB.out)⟩⟩
                              · rw [if_neg c17] at H
                                exact absurd H (by simp)
                            · rw [if_neg c16] at H
                              exact absurd H (by simp)
                          · rw [if_neg c15] at H
                            exact absurd H (by simp)
                        · rw [if_neg c13] at H
                          exact absurd H (by simp)
                    · exact absurd rfl c11
                  · replace c10 := Bool.eq_false_iff.mpr c10
                    subst c10
                    have H1 : (if (wrap64 (rd l0 x4_1)) ≥ 76 then (spec_Tokens.j2 kj6 l0 x2_1 x4_1 (wrap64 (rd l0 x4_1)) y103 0 0 true (decide ((wrap64 (rd l0 x4_1)) ≤ 78))) else (spec_Tokens.j2 kj6 l0 x2_1 x4_1 (wrap64 (rd l0 x4_1)) y103 0 0 true false)) = some (r1, r2) := by rw [if_neg (show ¬ (false = true) by decide)] at H; exact H
                    clear H
                    have H := H1
                    clear H1
                    have HC20 := Aside0.mk H
                    clear H
                    go_upto_region 8 with (fail)
                    go_cut [31] (fun v31 wc => ∃ (kq : Nat) (x31_19 : Bool), v31 = .bool x31_19 ∧ Aside0 (spec_Tokens.j2 kq l0 x2_1 x4_1 (wrap64 (rd l0 x4_1)) y103 0 0 true x31_19 = some (r1, r2)) ∧ Aside0 (kq ≤ kj6) ∧ Aside0 (Kd.V (Kd.int .u8) 5 wc w.heap.size (fun k_ => (P0_ k_ ∨ w.heap.size ≤ k_) ∧ some k_ ≠ (u2 : Value).ownBlock) (.slice (some ad102) l0.length c0) l0) ∧ Aside0 (Kd.N k36 36 wc w.heap.size (fun k_ => (P0_ k_ ∨ w.heap.size ≤ k_)) u2 x2_1) ∧ Aside0 (Kd.V (Kd.int .u8) 5 wc w.heap.size (fun k_ => (P0_ k_ ∨ w.heap.size ≤ k_) ∧ some k_ ≠ (u2 : Value).ownBlock) (.slice A8 y103.length c8) y103) ∧ Aside0 (Below w.heap.size w wc))
                    case first =>
                      have H := HC20.out
                      clear HC20
                      by_cases c21 : (wrap64 (rd l0 x4_1)) ≥ 76
                      · rw [if_pos c21] at H
                        have c21b0 : decide (76 ≤ (wrap64 (rd l0 x4_1))) = true := decide_eq_true c21
                        clear c21
                        (first | rw [c21b0] | (simp only [i64_w, i32_w]; rw [c21b0]) | skip)
                        have H' := Aside0.mk H
                        clear H
                        go_wp2
                        go_meet
                        case rel => exact ⟨_, (decide ((wrap64 (rd l0 x4_1)) ≤ 78)), (by first | rfl | (simp; done) | (simp [*]; done) | (simp [show wrap64 1 = 1 by unfold wrap64; decide, *]; done)), (by first | exact H' | (subst_vars; exact H')), ⟨by have := HK1.out; have := HJ6.out; first | ((try clear hji25_ hji25z hji25u hji25v hji25y hji25x); omega) | exact Nat.le_refl _⟩, ⟨by (with_reducible repeat (first | apply Kd.V_alloc | apply Kd.V_drewN | apply Kd.V_drew)); exact HO_0.out⟩, ⟨by (with_reducible repeat (first | apply Kd.N_alloc | apply Kd.N_drewN | apply Kd.N_drew)); exact HO_2.out⟩, ⟨by (with_reducible repeat (first | apply Kd.V_alloc | apply Kd.V_drewN | apply Kd.V_drew)); exact HO_6.out⟩, ⟨by repeat (first | (with_reducible first | exact HB.out | apply below_alloc | apply pw_below_drewN | apply below_drew1) | exact HB.out)⟩⟩
                      · rw [if_neg c21] at H
                        have c21b0 : decide (76 ≤ (wrap64 (rd l0 x4_1))) = false := decide_eq_false c21
                        clear c21
                        (first | rw [c21b0] | (simp only [i64_w, i32_w]; rw [c21b0]) | skip)
                        have H' := Aside0.mk H
                        clear H
                        go_wp2
                        go_meet
                        case rel => exact ⟨_, (false), (by first | rfl | (simp; done) | (simp [*]; done) | (simp [show wrap64 1 = 1 by unfold wrap64; decide, *]; done)), (by first | exact H' | (subst_vars; exact H')), ⟨by have := HK1.out; have := HJ6.out; first | ((try clear hji25_ hji25z hji25u hji25v hji25y hji25x); omega) | exact Nat.le_refl _⟩, ⟨by (with_reducible repeat (first | apply Kd.V_alloc | apply Kd.V_drewN | apply Kd.V_drew)); exact HO_0.out⟩, ⟨by (with_reducible repeat (first | apply Kd.N_alloc | apply Kd.N_drewN | apply Kd.N_drew)); exact HO_2.out⟩, ⟨by (with_reducible repeat (first | apply Kd.V_alloc | apply Kd.V_drewN | apply Kd.V_drew)); exact HO_6.out⟩, ⟨by repeat (first | (with_reducible first | exact HB.out | apply below_alloc | apply pw_below_drewN | apply below_drew1) | exact HB.out)⟩⟩
                    case rest =>
                      clear HC20
                      try clear c1
                      try clear p1
                      try clear q1
                      try clear hx1
                      try clear c2
                      try clear c2b0
                      try clear p2
                      try clear c3
                      try clear c3b0
                      try clear c5
                      try clear c5b0
                      try clear c5b1
                      try clear c6
                      try clear c6b0
                      try clear c6b1
                      try clear p6
                      try clear c8
                      try clear q8
                      try clear c9
                      try clear c9b0
                      try clear c10
                      try clear p10
                      try clear q10
                      try clear hx10
                      try clear c11
                      try clear c12
                      try clear c12b0
                      try clear c13
                      try clear c13b0
                      try clear c13b1
                      try clear c15
                      try clear c15b0
                      try clear c15b1
                      try clear c16
                      try clear c16b0
                      try clear c16b1
                      try clear c17
                      try clear c18
                      try clear q18
                      try clear c21
                      try clear c21b0
                      try clear hx102_0
                      try clear p1
                      try clear p102
                      try clear p2
                      try clear p6
                      try clear q08
                      try clear q1
                      try clear q102
                      try clear q18
                      try clear q8
                      obtain ⟨kq, x31_19, rfl, HA, HJ19, HO_0, HO_2, HO_6, HB⟩ := hcut
                      cases kq with
                      | zero => exact absurd HA.out (by simp [spec_Tokens.j2])
                      | succ kj19 =>
                        have H := HA.out
                        clear HA
                        simp only [spec_Tokens.j2] at H
                        by_cases c22 : x31_19 = true
                        · subst c22
                          have H1 : (if 0 ≤ (wrap64 ((wrap64 (rd l0 x4_1)) - 76)) then ((spec_word.f kj19 y103 (shl .i64 1 (wrap64 ((wrap64 (rd l0 x4_1)) - 76)))).bind fun bt116 => (if bt116.2 = true then (if bt116.1 > (wrap64 ((y103.length : Int) - (shl .i64 1 (wrap64 ((wrap64 (rd l0 x4_1)) - 76))))) then (some (x2_1, x4_1)) else (if 0 ≤ (shl .i64 1 (wrap64 ((wrap64 (rd l0 x4_1)) - 76))) then (if (shl .i64 1 (wrap64 ((wrap64 (rd l0 x4_1)) - 76))) ≤ (wrap64 ((shl .i64 1 (wrap64 ((wrap64 (rd l0 x4_1)) - 76))) + bt116.1)) then (if (wrap64 ((shl .i64 1 (wrap64 ((wrap64 (rd l0 x4_1)) - 76))) + bt116.1)) ≤ (y103.length : Int) then (if x2_1.length < 3518437208883 then (spec_Tokens.l0 kj19 l0 (x2_1 ++ [(⟨(wrap64 (rd l0 x4_1)), ((y103.take ((wrap64 ((shl .i64 1 (wrap64 ((wrap64 (rd l0 x4_1)) - 76))) + bt116.1)) : Int).toNat).drop ((shl .i64 1 (wrap64 ((wrap64 (rd l0 x4_1)) - 76))) : Int).toNat), x4_1⟩ : S36)]) (wrap64 (x4_1 + (wrap64 ((wrap64 (1 + (shl .i64 1 (wrap64 ((wrap64 (rd l0 x4_1)) - 76))))) + bt116.1))))) else (none)) else (none)) else (none)) else (none))) else (some (x2_1, x4_1)))) else (none)) = some (r1, r2) := by rw [if_pos rfl] at H; exact H
                          clear H
                          have H := H1
                          clear H1
                          obtain ⟨ji23, hji23⟩ : ∃ j_ : Int, (wrap64 ((wrap64 (rd l0 x4_1)) - 76)) = j_ := ⟨_, rfl⟩
                          replace H : (if 0 ≤ (ji23) then ((spec_word.f kj19 y103 (shl .i64 1 (ji23))).bind fun bt116 => (if bt116.2 = true then (if bt116.1 > (wrap64 ((y103.length : Int) - (shl .i64 1 (ji23)))) then (some (x2_1, x4_1)) else (if 0 ≤ (shl .i64 1 (ji23)) then (if (shl .i64 1 (ji23)) ≤ (wrap64 ((shl .i64 1 (ji23)) + bt116.1)) then (if (wrap64 ((shl .i64 1 (ji23)) + bt116.1)) ≤ (y103.length : Int) then (if x2_1.length < 3518437208883 then (spec_Tokens.l0 kj19 l0 (x2_1 ++ [(⟨(wrap64 (rd l0 x4_1)), ((y103.take ((wrap64 ((shl .i64 1 (ji23)) + bt116.1)) : Int).toNat).drop ((shl .i64 1 (ji23)) : Int).toNat), x4_1⟩ : S36)]) (wrap64 (x4_1 + (wrap64 ((wrap64 (1 + (shl .i64 1 (ji23)))) + bt116.1))))) else (none)) else (none)) else (none)) else (none))) else (some (x2_1, x4_1)))) else (none)) = some (r1, r2) := by first | (rw [hji23] at H; exact H) | (simp only [hji23] at H ⊢; exact H)
                          have hji23w : (IntKind.i64.wrap ((wrap64 (rd l0 x4_1)) - 76)) = ji23 := (i64_w _).trans hji23
                          by_cases c24 : 0 ≤ (ji23)
                          · rw [if_pos c24] at H
                            have c24b0 := eq_true c24
                            have c24b1 : decide (0 ≤ (ji23)) = true := decide_eq_true c24
                            clear c24
                            obtain ⟨ji25, hji25⟩ : ∃ j_ : Int, (shl .i64 1 (ji23)) = j_ := ⟨_, rfl⟩
                            replace H : ((spec_word.f kj19 y103 (ji25)).bind fun bt116 => (if bt116.2 = true then (if bt116.1 > (wrap64 ((y103.length : Int) - (ji25))) then (some (x2_1, x4_1)) else (if 0 ≤ (ji25) then (if (ji25) ≤ (wrap64 ((ji25) + bt116.1)) then (if (wrap64 ((ji25) + bt116.1)) ≤ (y103.length : Int) then (if x2_1.length < 3518437208883 then (spec_Tokens.l0 kj19 l0 (x2_1 ++ [(⟨(wrap64 (rd l0 x4_1)), ((y103.take ((wrap64 ((ji25) + bt116.1)) : Int).toNat).drop ((ji25) : Int).toNat), x4_1⟩ : S36)]) (wrap64 (x4_1 + (wrap64 ((wrap64 (1 + (ji25))) + bt116.1))))) else (none)) else (none)) else (none)) else (none))) else (some (x2_1, x4_1)))) = some (r1, r2) := by first | (rw [hji25] at H; exact H) | (simp only [hji25] at H ⊢; exact H)
                            have hji25_ : (IntKind.i64.wrap (1 * 2 ^ min (ji23).toNat 64)) = ji25 := hji25
                            have hji25z : (ji23) ≤ 64 → (IntKind.i64.wrap (1 * 2 ^ (ji23).toNat)) = ji25 := shl_small hji25
                            have hji25u : (IntKind.i64.wrap (2 ^ min (ji23).toNat 64)) = ji25 := by have h_ := hji25_; rw [Int.one_mul] at h_; exact h_
                            have hji25v : (ji23) ≤ 64 → (IntKind.i64.wrap (2 ^ (ji23).toNat)) = ji25 := fun hle_ => by have h_ := hji25z hle_; rw [Int.one_mul] at h_; exact h_
                            have hji25y : (wrap64 (1 * 2 ^ min (ji23).toNat 64)) = ji25 := (i64_w _).symm.trans hji25_
                            have hji25x : (ji23) ≤ 64 → (wrap64 (1 * 2 ^ (ji23).toNat)) = ji25 := fun h_ => (i64_w _).symm.trans (hji25z h_)
                            replace H := Option.bind_eq_some_iff.mp H
                            obtain ⟨⟨t116, t117⟩, A260, H⟩ := H
                            replace H : (if t117 = true then (if t116 > (wrap64 ((y103.length : Int) - (ji25))) then (some (x2_1, x4_1)) else (if 0 ≤ (ji25) then (if (ji25) ≤ (wrap64 ((ji25) + t116)) then (if (wrap64 ((ji25) + t116)) ≤ (y103.length : Int) then (if x2_1.length < 3518437208883 then (spec_Tokens.l0 kj19 l0 (x2_1 ++ [(⟨(wrap64 (rd l0 x4_1)), ((y103.take ((wrap64 ((ji25) + t116)) : Int).toNat).drop ((ji25) : Int).toNat), x4_1⟩ : S36)]) (wrap64 (x4_1 + (wrap64 ((wrap64 (1 + (ji25))) + t116))))) else (none)) else (none)) else (none)) else (none))) else (some (x2_1, x4_1))) = some (r1, r2) := H
                            have A26 := Aside0.mk A260
                            clear A260
                            by_cases c27 : t117 = true
                            · subst c27
                              have H1 : (if t116 > (wrap64 ((y103.length : Int) - (ji25))) then (some (x2_1, x4_1)) else (if 0 ≤ (ji25) then (if (ji25) ≤ (wrap64 ((ji25) + t116)) then (if (wrap64 ((ji25) + t116)) ≤ (y103.length : Int) then (if x2_1.length < 3518437208883 then (spec_Tokens.l0 kj19 l0 (x2_1 ++ [(⟨(wrap64 (rd l0 x4_1)), ((y103.take ((wrap64 ((ji25) + t116)) : Int).toNat).drop ((ji25) : Int).toNat), x4_1⟩ : S36)]) (wrap64 (x4_1 + (wrap64 ((wrap64 (1 + (ji25))) + t116))))) else (none)) else (none)) else (none)) else (none))) = some (r1, r2) := by rw [if_pos rfl] at H; exact H
                              clear H
                              have H := H1
                              clear H1
                              by_cases c28 : t116 > (wrap64 ((y103.length : Int) - (ji25)))
                              · rw [if_pos c28] at H
                                have c28b0 : decide ((wrap64 ((y103.length : Int) - (ji25))) < t116) = true := decide_eq_true c28
                                clear c28
                                simp only [Option.some.injEq, Prod.mk.injEq] at H
                                obtain ⟨rfl, rfl⟩ := H
                                go_wp2_with (first | ((with_reducible refine gate_callee (f := 35) rfl ?_); refine goesL_ (some 44) rfl rfl Try.func35 (by kernel_rfl) rfl #[.slice A8 y103.length c8, .int .i64 ji25] rfl (by (try simp only [List.map_toArray, List.map_cons, List.map_nil]); first | done | (simp only [hji25]; rfl) | rfl | (simp only [List.length_drop, List.length_take]; rfl)) ?_; (with_reducible refine (spec_word.calls kj19 _ _ y103 ji25 t116 true _ ?side1 ?side2 A26.out).mono ?_); (case side1 => repeat (first | exact (Kd.V_reads' HO_6.out).2.2 | (with_reducible refine Kd.C_alloc ?_ _) | (with_reducible refine Kd.C_drewN ?_ _) | (with_reducible refine Kd.C_drew ?_))); (case side2 => exact (Kd.V_reads' HO_6.out).2.1); rintro e w' ⟨rfl, ⟨nd, rfl⟩⟩; refine ⟨_, rfl, ?_⟩))
                                go_ret2
                                exact ⟨_, by first | rfl | (simp [errW_none, errW_some] <;> rfl) | (simp only [← hji4, ← hji23, ← hji25]; first | rfl | (simp [errW_none, errW_some] <;> rfl)) | (simp [*, errW_none, errW_some] <;> rfl), by (with_reducible repeat (first | apply Kd.N_alloc | apply Kd.N_drewN | apply Kd.N_drew)); exact HO_2.out, by repeat (first | (with_reducible first | exact HB.out | apply below_alloc | apply pw_below_drewN | apply below_drew1) | exact HB.out)⟩
                              · rw [if_neg c28] at H
                                have c28b0 : decide ((wrap64 ((y103.length : Int) - (ji25))) < t116) = false := decide_eq_false c28
                                clear c28
                                by_cases c29 : 0 ≤ (ji25)
                                · rw [if_pos c29] at H
                                  have c29b0 := eq_true c29
                                  have c29b1 : decide (0 ≤ (ji25)) = true := decide_eq_true c29
                                  clear c29
                                  by_cases c30 : (ji25) ≤ (wrap64 ((ji25) + t116))
                                  · rw [if_pos c30] at H
                                    have c30b0 := eq_true c30
                                    have c30b1 : decide ((ji25) ≤ (wrap64 ((ji25) + t116))) = true := decide_eq_true c30
                                    by_cases c31 : (wrap64 ((ji25) + t116)) ≤ (y103.length : Int)
                                    · rw [if_pos c31] at H
                                      have c31b0 := eq_true c31
                                      have c31b1 : decide ((wrap64 ((ji25) + t116)) ≤ (y103.length : Int)) = true := decide_eq_true c31
                                      obtain ⟨y118, hy118⟩ : ∃ y_ : List Int, y_ = ((y103.take ((wrap64 ((ji25) + t116)) : Int).toNat).drop ((ji25) : Int).toNat) := ⟨_, rfl⟩
                                      replace H : (if x2_1.length < 3518437208883 then (spec_Tokens.l0 kj19 l0 (x2_1 ++ [(⟨(wrap64 (rd l0 x4_1)), y118, x4_1⟩ : S36)]) (wrap64 (x4_1 + (wrap64 ((wrap64 (1 + (ji25))) + t116))))) else (none)) = some (r1, r2) := by first | (rw [hy118]; with_reducible exact H) | (have H2_ := (Option.bind_some _ _).symm.trans H; rw [hy118]; with_reducible exact H2_) | (have H2_ := (Option.bind_some _ _).symm.trans H; with_reducible exact H2_) | with_reducible exact H | (rw [hy118]; exact H) | exact H
                                      have Ny118 := Aside0.mk hy118
                                      clear hy118
                                      by_cases c32 : x2_1.length < 3518437208883
                                      · rw [if_pos c32] at H
                                        have LMc32 := Aside0.mk c32
                                        clear c32
                                        obtain ⟨y123, hy123⟩ : ∃ y_ : List (S36), y_ = (x2_1 ++ [(⟨(wrap64 (rd l0 x4_1)), y118, x4_1⟩ : S36)]) := ⟨_, rfl⟩
                                        replace H : (spec_Tokens.l0 kj19 l0 y123 (wrap64 (x4_1 + (wrap64 ((wrap64 (1 + (ji25))) + t116))))) = some (r1, r2) := by first | (rw [hy123]; with_reducible exact H) | (have H2_ := (Option.bind_some _ _).symm.trans H; rw [hy123]; with_reducible exact H2_) | (have H2_ := (Option.bind_some _ _).symm.trans H; with_reducible exact H2_) | with_reducible exact H | (rw [hy123]; exact H) | exact H
                                        have Ny123 := Aside0.mk hy123
                                        clear hy123
                                        have H' := Aside0.mk H
                                        clear H
                                        go_wp2_with (first | ((with_reducible refine gate_callee (f := 35) rfl ?_); refine goesL_ (some 44) rfl rfl Try.func35 (by kernel_rfl) rfl #[.slice A8 y103.length c8, .int .i64 ji25] rfl (by (try simp only [List.map_toArray, List.map_cons, List.map_nil]); first | done | (simp only [hji25]; rfl) | rfl | (simp only [List.length_drop, List.length_take]; rfl)) ?_; (with_reducible refine (spec_word.calls kj19 _ _ y103 ji25 t116 true _ ?side1 ?side2 A26.out).mono ?_); (case side1 => repeat (first | exact (Kd.V_reads' HO_6.out).2.2 | (with_reducible refine Kd.C_alloc ?_ _) | (with_reducible refine Kd.C_drewN ?_ _) | (with_reducible refine Kd.C_drew ?_))); (case side2 => exact (Kd.V_reads' HO_6.out).2.1); rintro e w' ⟨rfl, ⟨nd, rfl⟩⟩; refine ⟨_, rfl, ?_⟩; have q33 : ((wrap64 ((ji25) + t116)) : Int) ≤ ((y103.length : Int) : Int) := of_decide_eq_true (by first | (with_reducible assumption) | assumption); obtain ⟨i033, hi033, _, hsz33, _⟩ := info_parts info5; have hroom33 : y103.length ≤ c8 := (Kd.V_reads' HO_6.out).2.1; have hC33 : Kd.F (Kd.int .u8) _ _ A8 y103.length y103 := (Kd.V_at (base := w.heap.size) HO_6.out).2.2; have ql33 : ((ji25) : Int) ≤ ((wrap64 ((ji25) + t116)) : Int) := of_decide_eq_true (by first | (with_reducible assumption) | assumption); have q033 : (0 : Int) ≤ ((ji25) : Int) := of_decide_eq_true (by first | (with_reducible assumption) | assumption); have hcut33 := cut_mid (P := Try.prog) 22 5 .i64 .i64 Try.underlying22 hi033 1 hsz33 A8 y103.length c8 (ji25) (wrap64 ((ji25) + t116)) q033 ql33 q33 hroom33; have hr33 := Kd.F_mid (lo := ((ji25) : Int).toNat) (hi := ((wrap64 ((ji25) + t116)) : Int).toNat) (c := c8) hC33 (by ((try clear hji25_ hji25z hji25u hji25v hji25y hji25x); omega)) (by ((try clear hji25_ hji25z hji25u hji25v hji25y hji25x); omega)) hroom33; obtain ⟨A33, hA33⟩ : ∃ A1, A1 = (if c8 = ((ji25) : Int).toNat then A8 else (A8 : Option Addr).map (·.add (((ji25) : Int).toNat * 1))) := ⟨_, rfl⟩; obtain ⟨c33, hc33⟩ : ∃ c1, c1 = c8 - ((ji25) : Int).toNat := ⟨_, rfl⟩; have hy33 : y118.length = ((wrap64 ((ji25) + t116)) : Int).toNat - ((ji25) : Int).toNat := (by rw [Ny118.out, List.length_drop, List.length_take] <;> ((try clear hji25_ hji25z hji25u hji25v hji25y hji25x); omega)); rw [show ((y103).take ((wrap64 ((ji25) + t116)) : Int).toNat).drop ((ji25) : Int).toNat = y118 from Ny118.out.symm] at hr33; replace hr33 : Kd.F (Kd.int .u8) _ _ A33 y118.length y118 := (by rw [hA33]; exact hr33); rw [← hy33, ← hA33, ← hc33] at hcut33; have HO122 := Aside0.mk (show Kd.V (Kd.int .u8) 5 _ w.heap.size _ (.slice A33 y118.length c33) y118 from Kd.V_mk (by rw [hy33, hc33]; exact Nat.sub_le_sub_right (Nat.le_trans (show ((wrap64 ((ji25) + t116)) : Int).toNat ≤ y103.length by ((try clear hji25_ hji25z hji25u hji25v hji25y hji25x); omega)) hroom33) _) hr33); have HC122 := Aside0.mk (show y118.length ≤ c33 from by rw [hy33, hc33]; exact Nat.sub_le_sub_right (Nat.le_trans (show ((wrap64 ((ji25) + t116)) : Int).toNat ≤ y103.length by ((try clear hji25_ hji25z hji25u hji25v hji25y hji25x); omega)) hroom33) _); clear hr33 hC33 hroom33 hi033 hsz33 hc33; have KY33 := Aside0.mk hy33; have KA33 := Aside0.mk hA33; clear hy33 hA33; replace q33 := eq_true q33; (try clear hji25_ hji25z hji25u hji25v hji25y hji25x); skip) | ((with_reducible refine gate_builtin (b := .append) (xs := #[.tmp 59, .tmp 69]) rfl ?_); (try (refine gate_guard (by rfl) ?_; dsimp only)); at_builtin; refine Kd.N_append k36 (w0 := w) w.heap.size rfl (.tmp 59) (.tmp 69) 32 36 (.agg #[(.int .i64 0), (.slice none 0 0), (.int .i64 0)]) 40 rfl Try.underlying32 info36 rfl (by decide) (by decide) u2 x2_1 (⟨(wrap64 (rd l0 x4_1)), y118, x4_1⟩ : S36) [.int .i64 (wrap64 (rd l0 x4_1)), .slice A33 y118.length c33, .int .i64 x4_1] (fun k_ => (P0_ k_ ∨ w.heap.size ≤ k_)) (fun k_ => ((fun k_ => (P0_ k_ ∨ w.heap.size ≤ k_))) k_ ∧ some k_ ≠ (u2 : Value).ownBlock) rfl rfl ?aP (fun _ hk => hk) ?aF ?aO ?aB ?aS ?aL ?_; (case aP => (have z2_ := (Kd.V_reads' (Kd.V_mono (ok' := (fun k_ => ((fun k_ => (P0_ k_ ∨ w.heap.size ≤ k_))) k_ ∧ some k_ ≠ (u2 : Value).ownBlock)) (HO122.out) (fun k_ hk => ⟨hk.1, hk.2⟩))).2.1; have z3_ := (Kd.V_F (Kd.V_mono (ok' := (fun k_ => ((fun k_ => (P0_ k_ ∨ w.heap.size ≤ k_))) k_ ∧ some k_ ≠ (u2 : Value).ownBlock)) (HO122.out) (fun k_ hk => ⟨hk.1, hk.2⟩))); exact k36_mkF _ _ (⟨(wrap64 (rd l0 x4_1)), y118, x4_1⟩ : S36) z2_ z3_)); (case aB => exact (by repeat (first | (with_reducible first | exact HB.out | apply below_alloc | apply pw_below_drewN | apply below_drew1) | exact HB.out))); (case aF => exact (fun k_ hk => (.inr (Nat.le_trans (below_size (by repeat (first | (with_reducible first | exact HB.out | apply below_alloc | apply pw_below_drewN | apply below_drew1) | exact HB.out))) hk)))); (case aO => exact (by (with_reducible repeat (first | apply Kd.N_alloc | apply Kd.N_drewN | apply Kd.N_drew)); exact HO_2.out)); (case aS => exact (below_size (by repeat (first | (with_reducible first | exact HB.out | apply below_alloc | apply pw_below_drewN | apply below_drew1) | exact HB.out)))); (case aL => have := LMc32.out; ((try clear hji25_ hji25z hji25u hji25v hji25y hji25x); omega)); intro v124 w34 ho hb hg hat; rw [← Ny123.out] at ho; have n0_ := Aside0.mk (Kd.V_afterv (ok := (fun k_ => (P0_ k_ ∨ w.heap.size ≤ k_))) (by (with_reducible repeat (first | apply Kd.V_alloc | apply Kd.V_drewN | apply Kd.V_drew)); exact HO_0.out) hg hat); have n1_ := Aside0.mk (Kd.V_afterv (ok := (fun k_ => (P0_ k_ ∨ w.heap.size ≤ k_))) (by (with_reducible repeat (first | apply Kd.V_alloc | apply Kd.V_drewN | apply Kd.V_drew)); exact HO_6.out) hg hat); have n2_ := Aside0.mk (Kd.V_afterv (ok := (fun k_ => (P0_ k_ ∨ w.heap.size ≤ k_))) (by (with_reducible repeat (first | apply Kd.V_alloc | apply Kd.V_drewN | apply Kd.V_drew)); exact HO122.out) hg hat); have n3_ := Aside0.mk (hb); have n4_ := Aside0.mk (ho); clear HO_0; clear HO_6; clear HO122; clear HB; clear HO_2; have HO_0 := n0_; have HO_6 := n1_; have HO122 := n2_; have HB := n3_; have HO125 := n4_; clear n0_ n1_ n2_ n3_ n4_; clear ho hb hg hat))
                                        go_roundg kj19
                                        case measure => have := HK1.out; have := HJ6.out; have := HJ19.out; ((try clear hji25_ hji25z hji25u hji25v hji25y hji25x); omega)
                                        case rel => exact ⟨(y123), (wrap64 (x4_1 + (wrap64 ((wrap64 (1 + (ji25))) + t116)))), (by first | rfl | (simp; done) | (simp only [← hji25] <;> (first | rfl | simp)) | (simp [*]; done)), (by first | exact H' | (subst_vars; exact H')), ⟨by have := HK1.out; have := HJ6.out; have := HJ19.out; ((try clear hji25_ hji25z hji25u hji25v hji25y hji25x); omega)⟩, ⟨by (with_reducible repeat (first | apply Kd.V_alloc | apply Kd.V_drewN | apply Kd.V_drew)); exact HO_0.out⟩, ⟨by (with_reducible repeat (first | apply Kd.N_alloc | apply Kd.N_drewN | apply Kd.N_drew)); exact HO125.out⟩, ⟨by repeat (first | (with_reducible first | exact HB.out | apply below_alloc | apply pw_below_drewN | apply below_drew1) | exact HB.out)⟩⟩
                                      · rw [if_neg c32] at H
                                        exact absurd H (by simp)
                                    · rw [if_neg c31] at H
                                      exact absurd H (by simp)
                                  · rw [if_neg c30] at H
                                    exact absurd H (by simp)
                                · rw [if_neg c29] at H
                                  exact absurd H (by simp)
                            · replace c27 := Bool.eq_false_iff.mpr c27
                              subst c27
                              have H1 : (some (x2_1, x4_1)) = some (r1, r2) := by rw [if_neg (show ¬ (false = true) by decide)] at H; exact H
                              clear H
                              have H := H1
                              clear H1
                              simp only [Option.some.injEq, Prod.mk.injEq] at H
                              obtain ⟨rfl, rfl⟩ := H
                              go_wp2_with (first | ((with_reducible refine gate_callee (f := 35) rfl ?_); refine goesL_ (some 44) rfl rfl Try.func35 (by kernel_rfl) rfl #[.slice A8 y103.length c8, .int .i64 ji25] rfl (by (try simp only [List.map_toArray, List.map_cons, List.map_nil]); first | done | (simp only [hji25]; rfl) | rfl | (simp only [List.length_drop, List.length_take]; rfl)) ?_; (with_reducible refine (spec_word.calls kj19 _ _ y103 ji25 t116 false _ ?side1 ?side2 A26.out).mono ?_); (case side1 => repeat (first | exact (Kd.V_reads' HO_6.out).2.2 | (with_reducible refine Kd.C_alloc ?_ _) | (with_reducible refine Kd.C_drewN ?_ _) | (with_reducible refine Kd.C_drew ?_))); (case side2 => exact (Kd.V_reads' HO_6.out).2.1); rintro e w' ⟨rfl, ⟨nd, rfl⟩⟩; refine ⟨_, rfl, ?_⟩))
                              go_ret2
                              exact ⟨_, by first | rfl | (simp [errW_none, errW_some] <;> rfl) | (simp only [← hji4, ← hji23, ← hji25]; first | rfl | (simp [errW_none, errW_some] <;> rfl)) | (simp [*, errW_none, errW_some] <;> rfl), by (with_reducible repeat (first | apply Kd.N_alloc | apply Kd.N_drewN | apply Kd.N_drew)); exact HO_2.out, by repeat (first | (with_reducible first | exact HB.out | apply below_alloc | apply pw_below_drewN | apply below_drew1) | exact HB.out)⟩
                          · rw [if_neg c24] at H
                            exact absurd H (by simp)
                        · replace c22 := Bool.eq_false_iff.mpr c22
                          subst c22
                          have H1 : (if true = true then (if 0 > (wrap64 ((y103.length : Int) - 0)) then (some (x2_1, x4_1)) else (if 0 ≤ 0 then (if 0 ≤ (wrap64 (0 + 0)) then (if (wrap64 (0 + 0)) ≤ (y103.length : Int) then (if x2_1.length < 3518437208883 then (spec_Tokens.l0 kj19 l0 (x2_1 ++ [(⟨(wrap64 (rd l0 x4_1)), ((y103.take ((wrap64 (0 + 0)) : Int).toNat).drop (0 : Int).toNat), x4_1⟩ : S36)]) (wrap64 (x4_1 + (wrap64 ((wrap64 (1 + 0)) + 0))))) else (none)) else (none)) else (none)) else (none))) else (some (x2_1, x4_1))) = some (r1, r2) := by rw [if_neg (show ¬ (false = true) by decide)] at H; exact H
                          clear H
                          have H := H1
                          clear H1
                          by_cases c35 : true = true
                          · clear c35
                            have H1 : (if 0 > (wrap64 ((y103.length : Int) - 0)) then (some (x2_1, x4_1)) else (if 0 ≤ 0 then (if 0 ≤ (wrap64 (0 + 0)) then (if (wrap64 (0 + 0)) ≤ (y103.length : Int) then (if x2_1.length < 3518437208883 then (spec_Tokens.l0 kj19 l0 (x2_1 ++ [(⟨(wrap64 (rd l0 x4_1)), ((y103.take ((wrap64 (0 + 0)) : Int).toNat).drop (0 : Int).toNat), x4_1⟩ : S36)]) (wrap64 (x4_1 + (wrap64 ((wrap64 (1 + 0)) + 0))))) else (none)) else (none)) else (none)) else (none))) = some (r1, r2) := by rw [if_pos rfl] at H; exact H
                            clear H
                            have H := H1
                            clear H1
                            by_cases c36 : 0 > (wrap64 ((y103.length : Int) - 0))
                            · rw [if_pos c36] at H
                              have c36b0 : decide ((wrap64 ((y103.length : Int) - 0)) < 0) = true := decide_eq_true c36
                              try simp only [Int.sub_zero, Int.zero_add, Int.add_zero] at c36b0
                              clear c36
                              simp only [Option.some.injEq, Prod.mk.injEq] at H
                              obtain ⟨rfl, rfl⟩ := H
                              go_wp2
                              go_ret2
                              exact ⟨_, by first | rfl | (simp [errW_none, errW_some] <;> rfl) | (simp only [← hji4]; first | rfl | (simp [errW_none, errW_some] <;> rfl)) | (simp [*, errW_none, errW_some] <;> rfl), by (with_reducible repeat (first | apply Kd.N_alloc | apply Kd.N_drewN | apply Kd.N_drew)); exact HO_2.out, by repeat (first | (with_reducible first | exact HB.out | apply below_alloc | apply pw_below_drewN | apply below_drew1) | exact HB.out)⟩
                            · rw [if_neg c36] at H
                              have c36b0 : decide ((wrap64 ((y103.length : Int) - 0)) < 0) = false := decide_eq_false c36
                              try simp only [Int.sub_zero, Int.zero_add, Int.add_zero] at c36b0
                              clear c36
                              by_cases c37 : 0 ≤ 0
                              · rw [if_pos c37] at H
                                have c37b0 := eq_true c37
                                have c37b1 : decide (0 ≤ 0) = true := decide_eq_true c37
                                clear c37
                                obtain ⟨ji38, hji38⟩ : ∃ j_ : Int, (wrap64 (0 + 0)) = j_ := ⟨_, rfl⟩
                                replace H : (if 0 ≤ (ji38) then (if (ji38) ≤ (y103.length : Int) then (if x2_1.length < 3518437208883 then (spec_Tokens.l0 kj19 l0 (x2_1 ++ [(⟨(wrap64 (rd l0 x4_1)), ((y103.take ((ji38) : Int).toNat).drop (0 : Int).toNat), x4_1⟩ : S36)]) (wrap64 (x4_1 + (wrap64 ((wrap64 (1 + 0)) + 0))))) else (none)) else (none)) else (none)) = some (r1, r2) := by first | (rw [hji38] at H; exact H) | (simp only [hji38] at H ⊢; exact H)
                                have hji38w : (IntKind.i64.wrap (0 + 0)) = ji38 := (i64_w _).trans hji38
                                try simp only [Int.sub_zero, Int.zero_add, Int.add_zero] at hji38w
                                by_cases c39 : 0 ≤ (ji38)
                                · rw [if_pos c39] at H
                                  have c39b0 := eq_true c39
                                  have c39b1 : decide (0 ≤ (ji38)) = true := decide_eq_true c39
                                  clear c39
                                  by_cases c40 : (ji38) ≤ (y103.length : Int)
                                  · rw [if_pos c40] at H
                                    have c40b0 := eq_true c40
                                    have c40b1 : decide ((ji38) ≤ (y103.length : Int)) = true := decide_eq_true c40
                                    clear c40
                                    obtain ⟨y126, hy126⟩ : ∃ y_ : List Int, y_ = ((y103.take ((ji38) : Int).toNat).drop (0 : Int).toNat) := ⟨_, rfl⟩
                                    replace H : (if x2_1.length < 3518437208883 then (spec_Tokens.l0 kj19 l0 (x2_1 ++ [(⟨(wrap64 (rd l0 x4_1)), y126, x4_1⟩ : S36)]) (wrap64 (x4_1 + (wrap64 ((wrap64 (1 + 0)) + 0))))) else (none)) = some (r1, r2) := by first | (rw [hy126]; with_reducible exact H) | (have H2_ := (Option.bind_some _ _).symm.trans H; rw [hy126]; with_reducible exact H2_) | (have H2_ := (Option.bind_some _ _).symm.trans H; with_reducible exact H2_) | with_reducible exact H | (rw [hy126]; exact H) | exact H
                                    have Ny126 := Aside0.mk hy126
                                    clear hy126
                                    by_cases c41 : x2_1.length < 3518437208883
                                    · rw [if_pos c41] at H
                                      have LMc41 := Aside0.mk c41
                                      clear c41
                                      obtain ⟨y131, hy131⟩ : ∃ y_ : List (S36), y_ = (x2_1 ++ [(⟨(wrap64 (rd l0 x4_1)), y126, x4_1⟩ : S36)]) := ⟨_, rfl⟩
                                      replace H : (spec_Tokens.l0 kj19 l0 y131 (wrap64 (x4_1 + (wrap64 ((wrap64 (1 + 0)) + 0))))) = some (r1, r2) := by first | (rw [hy131]; with_reducible exact H) | (have H2_ := (Option.bind_some _ _).symm.trans H; rw [hy131]; with_reducible exact H2_) | (have H2_ := (Option.bind_some _ _).symm.trans H; with_reducible exact H2_) | with_reducible exact H | (rw [hy131]; exact H) | exact H
                                      have Ny131 := Aside0.mk hy131
                                      clear hy131
                                      have H' := Aside0.mk H
                                      clear H
                                      have q42 : ((ji38) : Int) ≤ ((y103.length : Int) : Int) := of_decide_eq_true (by first | (with_reducible assumption) | assumption)
                                      obtain ⟨i042, hi042, _, hsz42, _⟩ := info_parts info5
                                      have hroom42 : y103.length ≤ c8 := (Kd.V_reads' HO_6.out).2.1
                                      have hC42 : Kd.F (Kd.int .u8) _ _ A8 y103.length y103 := (Kd.V_at (base := w.heap.size) HO_6.out).2.2
                                      have ql42 : (0 : Int) ≤ ((ji38) : Int) := of_decide_eq_true (by first | (with_reducible assumption) | assumption)
                                      have hcut42 := cut_mid (P := Try.prog) 22 5 .i64 .i64 Try.underlying22 hi042 1 hsz42 A8 y103.length c8 0 (ji38) (by ((try clear hji25_ hji25z hji25u hji25v hji25y hji25x); omega)) ql42 q42 hroom42
                                      have hr42 := Kd.F_mid (lo := (0 : Int).toNat) (hi := ((ji38) : Int).toNat) (c := c8) hC42 (by ((try clear hji25_ hji25z hji25u hji25v hji25y hji25x); omega)) (by ((try clear hji25_ hji25z hji25u hji25v hji25y hji25x); omega)) hroom42
                                      obtain ⟨A42, hA42⟩ : ∃ A1, A1 = (if c8 = (0 : Int).toNat then A8 else (A8 : Option Addr).map (·.add ((0 : Int).toNat * 1))) := ⟨_, rfl⟩
                                      obtain ⟨c42, hc42⟩ : ∃ c1, c1 = c8 - (0 : Int).toNat := ⟨_, rfl⟩
                                      have hy42 : y126.length = ((ji38) : Int).toNat - (0 : Int).toNat := (by rw [Ny126.out, List.length_drop, List.length_take] <;> ((try clear hji25_ hji25z hji25u hji25v hji25y hji25x); omega))
                                      rw [show ((y103).take ((ji38) : Int).toNat).drop (0 : Int).toNat = y126 from Ny126.out.symm] at hr42
                                      replace hr42 : Kd.F (Kd.int .u8) _ _ A42 y126.length y126 := (by rw [hA42]; exact hr42)
                                      rw [← hy42, ← hA42, ← hc42] at hcut42
                                      have HO130 := Aside0.mk (show Kd.V (Kd.int .u8) 5 _ w.heap.size _ (.slice A42 y126.length c42) y126 from Kd.V_mk (by rw [hy42, hc42]; exact Nat.sub_le_sub_right (Nat.le_trans (by ((try clear hji25_ hji25z hji25u hji25v hji25y hji25x); omega)) hroom42) _) hr42)
                                      have HC130 := Aside0.mk (show y126.length ≤ c42 from by rw [hy42, hc42]; exact Nat.sub_le_sub_right (Nat.le_trans (by ((try clear hji25_ hji25z hji25u hji25v hji25y hji25x); omega)) hroom42) _)
                                      clear hr42 hC42 hroom42 hi042 hsz42 hc42
                                      have KY42 := Aside0.mk hy42
                                      have KA42 := Aside0.mk hA42
                                      clear hy42 hA42
                                      replace q42 := eq_true q42
                                      go_wp2_with (first | ((with_reducible refine gate_builtin (b := .append) (xs := #[.tmp 59, .tmp 69]) rfl ?_); (try (refine gate_guard (by rfl) ?_; dsimp only)); at_builtin; refine Kd.N_append k36 (w0 := w) w.heap.size rfl (.tmp 59) (.tmp 69) 32 36 (.agg #[(.int .i64 0), (.slice none 0 0), (.int .i64 0)]) 40 rfl Try.underlying32 info36 rfl (by decide) (by decide) u2 x2_1 (⟨(wrap64 (rd l0 x4_1)), y126, x4_1⟩ : S36) [.int .i64 (wrap64 (rd l0 x4_1)), .slice A42 y126.length c42, .int .i64 x4_1] (fun k_ => (P0_ k_ ∨ w.heap.size ≤ k_)) (fun k_ => ((fun k_ => (P0_ k_ ∨ w.heap.size ≤ k_))) k_ ∧ some k_ ≠ (u2 : Value).ownBlock) rfl rfl ?aP (fun _ hk => hk) ?aF ?aO ?aB ?aS ?aL ?_; (case aP => (have z2_ := (Kd.V_reads' (Kd.V_mono (ok' := (fun k_ => ((fun k_ => (P0_ k_ ∨ w.heap.size ≤ k_))) k_ ∧ some k_ ≠ (u2 : Value).ownBlock)) (HO130.out) (fun k_ hk => ⟨hk.1, hk.2⟩))).2.1; have z3_ := (Kd.V_F (Kd.V_mono (ok' := (fun k_ => ((fun k_ => (P0_ k_ ∨ w.heap.size ≤ k_))) k_ ∧ some k_ ≠ (u2 : Value).ownBlock)) (HO130.out) (fun k_ hk => ⟨hk.1, hk.2⟩))); exact k36_mkF _ _ (⟨(wrap64 (rd l0 x4_1)), y126, x4_1⟩ : S36) z2_ z3_)); (case aB => exact (by repeat (first | (with_reducible first | exact HB.out | apply below_alloc | apply pw_below_drewN | apply below_drew1) | exact HB.out))); (case aF => exact (fun k_ hk => (.inr (Nat.le_trans (below_size (by repeat (first | (with_reducible first | exact HB.out | apply below_alloc | apply pw_below_drewN | apply below_drew1) | exact HB.out))) hk)))); (case aO => exact (by (with_reducible repeat (first | apply Kd.N_alloc | apply Kd.N_drewN | apply Kd.N_drew)); exact HO_2.out)); (case aS => exact (below_size (by repeat (first | (with_reducible first | exact HB.out | apply below_alloc | apply pw_below_drewN | apply below_drew1) | exact HB.out)))); (case aL => have := LMc41.out; ((try clear hji25_ hji25z hji25u hji25v hji25y hji25x); omega)); intro v132 w43 ho hb hg hat; rw [← Ny131.out] at ho; have n0_ := Aside0.mk (Kd.V_afterv (ok := (fun k_ => (P0_ k_ ∨ w.heap.size ≤ k_))) (by (with_reducible repeat (first | apply Kd.V_alloc | apply Kd.V_drewN | apply Kd.V_drew)); exact HO_0.out) hg hat); have n1_ := Aside0.mk (Kd.V_afterv (ok := (fun k_ => (P0_ k_ ∨ w.heap.size ≤ k_))) (by (with_reducible repeat (first | apply Kd.V_alloc | apply Kd.V_drewN | apply Kd.V_drew)); exact HO_6.out) hg hat); have n2_ := Aside0.mk (Kd.V_afterv (ok := (fun k_ => (P0_ k_ ∨ w.heap.size ≤ k_))) (by (with_reducible repeat (first | apply Kd.V_alloc | apply Kd.V_drewN | apply Kd.V_drew)); exact HO130.out) hg hat); have n3_ := Aside0.mk (hb); have n4_ := Aside0.mk (ho); clear HO_0; clear HO_6; clear HO130; clear HB; clear HO_2; have HO_0 := n0_; have HO_6 := n1_; have HO130 := n2_; have HB := n3_; have HO133 := n4_; clear n0_ n1_ n2_ n3_ n4_; clear ho hb hg hat))
                                      go_roundg kj19
                                      case measure => have := HK1.out; have := HJ6.out; have := HJ19.out; ((try clear hji25_ hji25z hji25u hji25v hji25y hji25x); omega)
                                      case rel => exact ⟨(y131), (wrap64 (x4_1 + (wrap64 ((wrap64 (1 + 0)) + 0)))), (by first | rfl | (simp; done) | (simp [*]; done) | (simp [show wrap64 1 = 1 by unfold wrap64; decide, *]; done)), (by first | exact H' | (subst_vars; exact H')), ⟨by have := HK1.out; have := HJ6.out; have := HJ19.out; ((try clear hji25_ hji25z hji25u hji25v hji25y hji25x); omega)⟩, ⟨by (with_reducible repeat (first | apply Kd.V_alloc | apply Kd.V_drewN | apply Kd.V_drew)); exact HO_0.out⟩, ⟨by (with_reducible repeat (first | apply Kd.N_alloc | apply Kd.N_drewN | apply Kd.N_drew)); exact HO133.out⟩, ⟨by repeat (first | (with_reducible first | exact HB.out | apply below_alloc | apply pw_below_drewN | apply below_drew1) | exact HB.out)⟩⟩
                                    · rw [if_neg c41] at H
                                      exact absurd H (by simp)
                                  · rw [if_neg c40] at H
                                    exact absurd H (by simp)
                                · rw [if_neg c39] at H
                                  exact absurd H (by simp)
                              · rw [if_neg c37] at H
                                exact absurd H (by simp)
                          · exact absurd rfl c35
            · rw [if_neg c6] at H
              exact absurd H (by simp)
          · rw [if_neg c5] at H
            exact absurd H (by simp)
        · rw [if_neg c3] at H
          exact absurd H (by simp)
      · rw [if_neg c2] at H
        have c2b0 : decide (x4_1 < (l0.length : Int)) = false := decide_eq_false c2
        clear c2
        simp only [Option.some.injEq, Prod.mk.injEq] at H
        obtain ⟨rfl, rfl⟩ := H
        go_wp2
        go_ret2
        exact ⟨_, by first | rfl | (simp [errW_none, errW_some] <;> rfl) | (simp [*, errW_none, errW_some] <;> rfl), by (with_reducible repeat (first | apply Kd.N_alloc | apply Kd.N_drewN | apply Kd.N_drew)); exact HO_2.out, by repeat (first | (with_reducible first | exact HB.out | apply below_alloc | apply pw_below_drewN | apply below_drew1) | exact HB.out)⟩

end Go.Proofs.Ytfbkjkihcajmdac.QFnClasses
