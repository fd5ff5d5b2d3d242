-- Made by a turned print (own tool turnprint.py over the kit print).
import Derived.Test.YtfbkjkihcajmdacQFnClassesx0
import Derived.Test.YtfbkjkihcajmdacQFnClassesx1
import Derived.Test.YtfbkjkihcajmdacQFnClassesx2
namespace Go.Proofs.Ytfbkjkihcajmdac.QFnClasses
open Go.RowKit Go.Proofs.YtfbkjkihcajmdacW.PrintWords Go.Proofs.YtfbkjkihcajmdacW.PrintLast Go.Proofs.YtfbkjkihcajmdacW.PrintMore
attribute [local go_sem] nn_mod256 nn_mod65536 nn_mod32 max2_int min2_int max_two min_two max_three min_three max_four min_four   -- for this text's walks alone
set_option linter.unusedVariables false
set_option linter.unusedSimpArgs false

/-! ### spec_Data: function 7 -/
def spec_Data.j0 : Nat → List (S36) → Bool → Option (List Int × Bool)
  | 0, _, _ => none
  | k + 1, x4, x31 => if x31 = true then (some (([] : List Int), false)) else (if (x4.length : Int) = 1 then (some (([] : List Int), true)) else (if 1 < (x4.length : Int) then ((spec_Small.f ((rd_T36 x4 1).f0)).bind fun bt161 => (if bt161.2 = true then (some (([] : List Int), true)) else (if ((rd_T36 x4 1).f0) ≤ 78 then (some ((rd_T36 x4 1).f1, decide ((((rd_T36 x4 1).f1).length : Int) ≤ 80))) else (some ((rd_T36 x4 1).f1, false))))) else (none)))
def spec_Data.f (k : Nat) (l0 : List Int) : Option (List Int × Bool) := (spec_Tokens.f k l0).bind fun bt155 => (if bt155.2 ≥ 0 then (spec_Data.j0 k bt155.1 true) else (if (bt155.1.length : Int) = 0 then (spec_Data.j0 k bt155.1 true) else (if (bt155.1.length : Int) > 2 then (spec_Data.j0 k bt155.1 true) else (if 0 < (bt155.1.length : Int) then (spec_Data.j0 k bt155.1 (((rd_T36 bt155.1 0).f0) != 106)) else (none)))))
theorem spec_Data.mono_l : ∀ k, (∀ y0 y1, LeO (spec_Data.j0 k y0 y1) (spec_Data.j0 (k + 1) y0 y1))
  | 0 => fun _ _ r h => by simp [spec_Data.j0] at h
  | k + 1 => by
    have ih0 := spec_Data.mono_l k
    · intro y0 y1
      unfold spec_Data.j0
      repeat' first
      | (with_reducible exact ih0 _ _)
      | (with_reducible exact spec_Tokens.mono _ _)
      | (with_reducible exact LeO.refl _)
      | (with_reducible exact LeO.none _)
      | (with_reducible refine LeO.ite ?_ ?_)
      | (with_reducible refine LeO.bind ?_ (fun _ => ?_))
      | exact ih0 _ _
      | exact spec_Tokens.mono _ _
      | exact LeO.none _
      | refine LeO.ite ?_ ?_
      | refine LeO.bind ?_ (fun _ => ?_)
theorem spec_Data.mono : ∀ a0 k, LeO (spec_Data.f k a0) (spec_Data.f (k + 1) a0) := by
  intro a0 k
  have ih0 := spec_Data.mono_l k
  unfold spec_Data.f
  repeat' first
      | (with_reducible exact ih0 _ _)
      | (with_reducible exact spec_Tokens.mono _ _)
      | (with_reducible exact LeO.refl _)
      | (with_reducible exact LeO.none _)
      | (with_reducible refine LeO.ite ?_ ?_)
      | (with_reducible refine LeO.bind ?_ (fun _ => ?_))
      | exact ih0 _ _
      | exact spec_Tokens.mono _ _
      | exact LeO.none _
      | refine LeO.ite ?_ ?_
      | refine LeO.bind ?_ (fun _ => ?_)
set_option maxHeartbeats 8000000 in
set_option maxRecDepth 100000 in
theorem spec_Data.calls (k : Nat) (P0_ : Nat → Prop) (A0 : Option Addr) (c0 : Nat) (l0 : List Int) (r1 : List Int) (r2 : Bool) (w : World) (hs0 : Kd.V (Kd.int .u8) 5 w w.heap.size (fun k_ => P0_ k_) (.slice A0 l0.length c0) l0) (h : spec_Data.f k l0 = some (r1, r2)) :
    Calls Try.prog 7 #[.slice A0 l0.length c0] w fun e w' => ∃ v0_ : Value, e = .returned (.tuple #[v0_, .bool r2]) ∧ Kd.V (Kd.int .u8) 5 w' w.heap.size (fun k_ => (P0_ k_ ∨ w.heap.size ≤ k_)) v0_ r1 ∧ Below w.heap.size w w' := by
  have HO0 := Aside0.mk (show Kd.V (Kd.int .u8) 5 w w.heap.size (fun k_ => (P0_ k_ ∨ w.heap.size ≤ k_)) (.slice A0 l0.length c0) l0 from Kd.V_mono hs0 (fun k_ hk => .inl hk))
  have HB := Aside0.mk (Below.refl w.heap.size w)
  have H : ((spec_Tokens.f k l0).bind fun bt155 => (if bt155.2 ≥ 0 then (spec_Data.j0 k bt155.1 true) else (if (bt155.1.length : Int) = 0 then (spec_Data.j0 k bt155.1 true) else (if (bt155.1.length : Int) > 2 then (spec_Data.j0 k bt155.1 true) else (if 0 < (bt155.1.length : Int) then (spec_Data.j0 k bt155.1 (((rd_T36 bt155.1 0).f0) != 106)) else (none)))))) = some (r1, r2) := h
  clear h
  replace H := Option.bind_eq_some_iff.mp H
  obtain ⟨⟨t155, t158⟩, A20, H⟩ := H
  replace H : (if t158 ≥ 0 then (spec_Data.j0 k t155 true) else (if (t155.length : Int) = 0 then (spec_Data.j0 k t155 true) else (if (t155.length : Int) > 2 then (spec_Data.j0 k t155 true) else (if 0 < (t155.length : Int) then (spec_Data.j0 k t155 (((rd_T36 t155 0).f0) != 106)) else (none))))) = some (r1, r2) := H
  have A2 := Aside0.mk A20
  clear A20
  have HC3 := Aside0.mk H
  clear H
  go_enter Try.func7, Try.ntmps7
  go_upto_region 2 with (first | (go_at_call 21; (with_reducible refine (spec_Tokens.calls k (fun k_ => (P0_ k_ ∨ w.heap.size ≤ k_)) _ _ l0 t155 t158 _ ?side1 A2.out).mono ?_); (case side1 => exact HO0.out); rintro e w4 ⟨v156, rfl, ho0, hb⟩; have n0_ := Aside0.mk (Kd.V_elder' (by (with_reducible repeat (first | apply Kd.V_alloc | apply Kd.V_drewN | apply Kd.V_drew)); exact HO0.out) (Kd.N_base ho0) hb); have n1_ := Aside0.mk (Kd.N_lower (Kd.N_mono (ok' := fun k_ => (P0_ k_ ∨ w.heap.size ≤ k_)) ho0 (fun k_ hk_ => Or.elim hk_ (fun hs_ => hs_) (fun hn_ => (.inr (Nat.le_trans (below_size (by repeat (first | (with_reducible first | exact HB.out | apply below_alloc | apply pw_below_drewN | apply below_drew1) | exact HB.out))) hn_))))) (below_size (by repeat (first | (with_reducible first | exact HB.out | apply below_alloc | apply pw_below_drewN | apply below_drew1) | exact HB.out)))); have n2_ := Aside0.mk (below_step (by repeat (first | (with_reducible first | exact HB.out | apply below_alloc | apply pw_below_drewN | apply below_drew1) | exact HB.out)) hb); clear HO0; clear HB; have HO0 := n0_; have HO157 := n1_; have HB := n2_; clear n0_ n1_ n2_; (try clear hb); (try clear hb2); (try clear hk); (try clear hi); (try clear ho0)))
  repeat (go_quiet (first | (go_at_call 21; (with_reducible refine (spec_Tokens.calls k (fun k_ => (P0_ k_ ∨ w.heap.size ≤ k_)) _ _ l0 t155 t158 _ ?side1 A2.out).mono ?_); (case side1 => exact HO0.out); rintro e w4 ⟨v156, rfl, ho0, hb⟩; have n0_ := Aside0.mk (Kd.V_elder' (by (with_reducible repeat (first | apply Kd.V_alloc | apply Kd.V_drewN | apply Kd.V_drew)); exact HO0.out) (Kd.N_base ho0) hb); have n1_ := Aside0.mk (Kd.N_lower (Kd.N_mono (ok' := fun k_ => (P0_ k_ ∨ w.heap.size ≤ k_)) ho0 (fun k_ hk_ => Or.elim hk_ (fun hs_ => hs_) (fun hn_ => (.inr (Nat.le_trans (below_size (by repeat (first | (with_reducible first | exact HB.out | apply below_alloc | apply pw_below_drewN | apply below_drew1) | exact HB.out))) hn_))))) (below_size (by repeat (first | (with_reducible first | exact HB.out | apply below_alloc | apply pw_below_drewN | apply below_drew1) | exact HB.out)))); have n2_ := Aside0.mk (below_step (by repeat (first | (with_reducible first | exact HB.out | apply below_alloc | apply pw_below_drewN | apply below_drew1) | exact HB.out)) hb); clear HO0; clear HB; have HO0 := n0_; have HO157 := n1_; have HB := n2_; clear n0_ n1_ n2_; (try clear hb); (try clear hb2); (try clear hk); (try clear hi); (try clear ho0))); go_upto_region 2 with (first | (go_at_call 21; (with_reducible refine (spec_Tokens.calls k (fun k_ => (P0_ k_ ∨ w.heap.size ≤ k_)) _ _ l0 t155 t158 _ ?side1 A2.out).mono ?_); (case side1 => exact HO0.out); rintro e w4 ⟨v156, rfl, ho0, hb⟩; have n0_ := Aside0.mk (Kd.V_elder' (by (with_reducible repeat (first | apply Kd.V_alloc | apply Kd.V_drewN | apply Kd.V_drew)); exact HO0.out) (Kd.N_base ho0) hb); have n1_ := Aside0.mk (Kd.N_lower (Kd.N_mono (ok' := fun k_ => (P0_ k_ ∨ w.heap.size ≤ k_)) ho0 (fun k_ hk_ => Or.elim hk_ (fun hs_ => hs_) (fun hn_ => (.inr (Nat.le_trans (below_size (by repeat (first | (with_reducible first | exact HB.out | apply below_alloc | apply pw_below_drewN | apply below_drew1) | exact HB.out))) hn_))))) (below_size (by repeat (first | (with_reducible first | exact HB.out | apply below_alloc | apply pw_below_drewN | apply below_drew1) | exact HB.out)))); have n2_ := Aside0.mk (below_step (by repeat (first | (with_reducible first | exact HB.out | apply below_alloc | apply pw_below_drewN | apply below_drew1) | exact HB.out)) hb); clear HO0; clear HB; have HO0 := n0_; have HO157 := n1_; have HB := n2_; clear n0_ n1_ n2_; (try clear hb); (try clear hb2); (try clear hk); (try clear hi); (try clear ho0))))
  (try simp only [Act.put, List.setIfInBounds_toArray, List.set_cons_zero, List.set_cons_succ])
  go_cut [31] (fun v31 wc => ∃ (kq : Nat) (x31_2 : Bool), v31 = .bool x31_2 ∧ Aside0 (spec_Data.j0 kq t155 x31_2 = some (r1, r2)) ∧ Aside0 (kq ≤ k) ∧ Aside0 (Kd.N k36 36 wc w.heap.size (fun k_ => (P0_ k_ ∨ w.heap.size ≤ k_)) v156 t155) ∧ Aside0 (Below w.heap.size w wc))
  case first =>
    have H := HC3.out
    clear HC3
    by_cases c5 : t158 ≥ 0
    · rw [if_pos c5] at H
      have c5b0 : decide (0 ≤ t158) = true := decide_eq_true c5
      clear c5
      (first | rw [c5b0] | (simp only [i64_w, i32_w]; rw [c5b0]) | skip)
      have H' := Aside0.mk H
      clear H
      go_wp2
      repeat (go_quiet (fail); try go_wp2)
      go_meet
      case rel => exact ⟨_, (true), (by first | rfl | (simp; done) | (simp [*]; done) | (simp [show wrap64 1 = 1 by unfold wrap64; decide, *]; done)), (by first | exact H' | (subst_vars; exact H')), ⟨by first | omega | exact Nat.le_refl _⟩, ⟨by (with_reducible repeat (first | apply Kd.N_alloc | apply Kd.N_drewN | apply Kd.N_drew)); exact HO157.out⟩, ⟨by repeat (first | (with_reducible first | exact HB.out | apply below_alloc | apply pw_below_drewN | apply below_drew1) | exact HB.out)⟩⟩
    · rw [if_neg c5] at H
      have c5b0 : decide (0 ≤ t158) = false := decide_eq_false c5
      clear c5
      (first | rw [c5b0] | (simp only [i64_w, i32_w]; rw [c5b0]) | skip)
      by_cases c6 : (t155.length : Int) = 0
      · rw [if_pos c6] at H
        have c6b0 : ((t155.length : Int) == 0) = true := beq_iff_eq.mpr c6
        have c6b1 : ((t155.length : Int) != 0) = false := bne_eq_false_iff_eq.mpr c6
        clear c6
        have H' := Aside0.mk H
        clear H
        obtain ⟨Ao7, co7, eo7⟩ := Kd.N_slice HO157.out
        subst eo7
        go_wp2
        repeat (go_quiet (fail); try go_wp2)
        go_meet
        case rel => exact ⟨_, (true), (by first | rfl | (simp; done) | (simp [*]; done) | (simp [show wrap64 1 = 1 by unfold wrap64; decide, *]; done)), (by first | exact H' | (subst_vars; exact H')), ⟨by first | omega | exact Nat.le_refl _⟩, ⟨by (with_reducible repeat (first | apply Kd.N_alloc | apply Kd.N_drewN | apply Kd.N_drew)); exact HO157.out⟩, ⟨by repeat (first | (with_reducible first | exact HB.out | apply below_alloc | apply pw_below_drewN | apply below_drew1) | exact HB.out)⟩⟩
      · rw [if_neg c6] at H
        have c6b0 : ((t155.length : Int) == 0) = false := beq_eq_false_iff_ne.mpr c6
        have c6b1 : ((t155.length : Int) != 0) = true := bne_iff_ne.mpr c6
        have c6b2 : ¬ (t155 = []) := fun h_ => c6 (by rw [h_]; rfl)
        by_cases c8 : (t155.length : Int) > 2
        · rw [if_pos c8] at H
          have c8b0 : decide (2 < (t155.length : Int)) = true := decide_eq_true c8
          have c8b1 : decide (2 < t155.length) = true := decide_eq_true (by omega)
          clear c8
          have H' := Aside0.mk H
          clear H
          obtain ⟨Ao9, co9, eo9⟩ := Kd.N_slice HO157.out
          subst eo9
          go_wp2
          repeat (go_quiet (fail); try go_wp2)
          go_meet
          case rel => exact ⟨_, (true), (by first | rfl | (simp; done) | (simp [*]; done) | (simp [show wrap64 1 = 1 by unfold wrap64; decide, *]; done)), (by first | exact H' | (subst_vars; exact H')), ⟨by first | omega | exact Nat.le_refl _⟩, ⟨by (with_reducible repeat (first | apply Kd.N_alloc | apply Kd.N_drewN | apply Kd.N_drew)); exact HO157.out⟩, ⟨by repeat (first | (with_reducible first | exact HB.out | apply below_alloc | apply pw_below_drewN | apply below_drew1) | exact HB.out)⟩⟩
        · rw [if_neg c8] at H
          have c8b0 : decide (2 < (t155.length : Int)) = false := decide_eq_false c8
          have c8b1 : decide (2 < t155.length) = false := decide_eq_false (by omega)
          clear c8
          by_cases c10 : 0 < (t155.length : Int)
          · rw [if_pos c10] at H
            have c10b0 : decide (0 < (t155.length : Int)) = true := decide_eq_true c10
            have c10b1 : decide (0 < t155.length) = true := decide_eq_true (by omega)
            clear c10
            have H' := Aside0.mk H
            clear H
            obtain ⟨Ao11, co11, eo11⟩ := Kd.N_slice HO157.out
            subst eo11
            have p159 : 0 ≤ (0 : Int) := (by omega)
            have q159 : 0 < (t155.length : Int) := of_decide_eq_true (by first | (with_reducible assumption) | assumption)
            obtain ⟨ad159, A159_1, c159_1, e159, hx159_0, hx159_1, hx159_2, hl159_1, hi159_1⟩ := at_T36 (Kd.N_reads' HO157.out).2.2 0 p159 q159
            cases e159
            obtain ⟨ce159, hce159, hMe159, hcc159⟩ := Kd.N_get HO157.out z36 0 p159 (by first | exact q159 | exact of_decide_eq_true (by first | (with_reducible assumption) | assumption) | (have e_ := (Kd.N_reads' HO157.out).1; omega))
            obtain ⟨ua159_1, uc159_1, rfl, ul159_1, ge159_1⟩ := k36_openF hMe159
            have hv159_1 := hcc159 1 _ rfl
            rw [add_field _ _ 1 (by omega)] at hv159_1
            replace hv159_1 := Option.some.inj (hv159_1.symm.trans hx159_1)
            injection hv159_1 with hva_ hvn_ hvc_
            rw [hva_] at ge159_1
            rw [hvc_] at ul159_1
            have HL159_1 := Aside0.mk (show Kd.V (Kd.int .u8) 5 _ w.heap.size _ _ ((rd_T36 t155 0).f1) from Kd.V_mk ul159_1 ge159_1)
            clear hva_ hvn_ hvc_ ge159_1 ul159_1
            clear hcc159 hce159
            have qi159 : (0 < t155.length) = True := eq_true (by omega)
            (try rw [show ((0 : Int)).toNat = 0 from rfl] at hx159_0)
            (try rw [show 0 * 3 = 0 from rfl] at hx159_0)
            (try rw [Addr.add_zero'] at hx159_0)
            (try rw [show ((0 : Int)).toNat = 0 from rfl] at hx159_1)
            (try rw [show 0 * 3 = 0 from rfl] at hx159_1)
            (try rw [Addr.add_zero'] at hx159_1)
            (try rw [show ((0 : Int)).toNat = 0 from rfl] at hx159_2)
            (try rw [show 0 * 3 = 0 from rfl] at hx159_2)
            (try rw [Addr.add_zero'] at hx159_2)
            have HR159_1 := Aside0.mk hi159_1
            have HC159_1 := Aside0.mk hl159_1
            clear hi159_1 hl159_1
            replace p159 := eq_true p159
            replace q159 := eq_true q159
            go_wp2
            repeat (go_quiet (fail); try go_wp2)
            go_meet
            case rel => exact ⟨_, ((((rd_T36 t155 0).f0) != 106)), (by first | rfl | (simp; done) | (simp [*]; done) | (simp [show wrap64 1 = 1 by unfold wrap64; decide, *]; done)), (by first | exact H' | (subst_vars; exact H')), ⟨by first | omega | exact Nat.le_refl _⟩, ⟨by (with_reducible repeat (first | apply Kd.N_alloc | apply Kd.N_drewN | apply Kd.N_drew)); exact HO157.out⟩, ⟨by repeat (first | (with_reducible first | exact HB.out | apply below_alloc | apply pw_below_drewN | apply below_drew1) | exact HB.out)⟩⟩
          · rw [if_neg c10] at H
            exact absurd H (by simp)
  case rest =>
    clear HC3
    try clear c1
    try clear p1
    try clear q1
    try clear hx1
    try clear qi1
    try clear p2
    try clear c5
    try clear c5b0
    try clear c6
    try clear c6b0
    try clear c6b1
    try clear c6b2
    try clear c7
    try clear c8
    try clear c8b0
    try clear c8b1
    try clear c10
    try clear c10b0
    try clear c10b1
    try clear hx159_0
    try clear hx159_1
    try clear hx159_2
    try clear p159
    try clear q159
    obtain ⟨kq, x31_2, rfl, HA, HJ2, HO_4, HB⟩ := hcut
    cases kq with
    | zero => exact absurd HA.out (by simp [spec_Data.j0])
    | succ kj2 =>
      have H := HA.out
      clear HA
      simp only [spec_Data.j0] at H
      by_cases c12 : x31_2 = true
      · subst c12
        have H1 : (some (([] : List Int), false)) = some (r1, r2) := by rw [if_pos rfl] at H; exact H
        clear H
        have H := H1
        clear H1
        simp only [Option.some.injEq, Prod.mk.injEq] at H
        obtain ⟨rfl, rfl⟩ := H
        go_wp2
        repeat (go_quiet (fail); try go_wp2)
        go_ret2
        exact ⟨_, by first | rfl | (simp [errW_none, errW_some] <;> rfl) | (simp [*, errW_none, errW_some] <;> rfl), Kd.V_nil _ _ _ _ _, by repeat (first | (with_reducible first | exact HB.out | apply below_alloc | apply pw_below_drewN | apply below_drew1) | exact HB.out)⟩
      · replace c12 := Bool.eq_false_iff.mpr c12
        subst c12
        have H1 : (if (t155.length : Int) = 1 then (some (([] : List Int), true)) else (if 1 < (t155.length : Int) then ((spec_Small.f ((rd_T36 t155 1).f0)).bind fun bt161 => (if bt161.2 = true then (some (([] : List Int), true)) else (if ((rd_T36 t155 1).f0) ≤ 78 then (some ((rd_T36 t155 1).f1, decide ((((rd_T36 t155 1).f1).length : Int) ≤ 80))) else (some ((rd_T36 t155 1).f1, false))))) else (none))) = some (r1, r2) := by rw [if_neg (show ¬ (false = true) by decide)] at H; exact H
        clear H
        have H := H1
        clear H1
        by_cases c13 : (t155.length : Int) = 1
        · rw [if_pos c13] at H
          have c13b0 : ((t155.length : Int) == 1) = true := beq_iff_eq.mpr c13
          have c13b1 : ((t155.length : Int) != 1) = false := bne_eq_false_iff_eq.mpr c13
          clear c13
          simp only [Option.some.injEq, Prod.mk.injEq] at H
          obtain ⟨rfl, rfl⟩ := H
          obtain ⟨Ao14, co14, eo14⟩ := Kd.N_slice HO_4.out
          subst eo14
          go_wp2
          repeat (go_quiet (fail); try go_wp2)
          go_ret2
          exact ⟨_, by first | rfl | (simp [errW_none, errW_some] <;> rfl) | (simp [*, errW_none, errW_some] <;> rfl), Kd.V_nil _ _ _ _ _, by repeat (first | (with_reducible first | exact HB.out | apply below_alloc | apply pw_below_drewN | apply below_drew1) | exact HB.out)⟩
        · rw [if_neg c13] at H
          have c13b0 : ((t155.length : Int) == 1) = false := beq_eq_false_iff_ne.mpr c13
          have c13b1 : ((t155.length : Int) != 1) = true := bne_iff_ne.mpr c13
          by_cases c15 : 1 < (t155.length : Int)
          · rw [if_pos c15] at H
            have c15b0 : decide (1 < (t155.length : Int)) = true := decide_eq_true c15
            have c15b1 : decide (1 < t155.length) = true := decide_eq_true (by omega)
            clear c15
            replace H := Option.bind_eq_some_iff.mp H
            obtain ⟨⟨t161, t162⟩, A160, H⟩ := H
            replace H : (if t162 = true then (some (([] : List Int), true)) else (if ((rd_T36 t155 1).f0) ≤ 78 then (some ((rd_T36 t155 1).f1, decide ((((rd_T36 t155 1).f1).length : Int) ≤ 80))) else (some ((rd_T36 t155 1).f1, false)))) = some (r1, r2) := H
            have A16 := Aside0.mk A160
            clear A160
            by_cases c17 : t162 = true
            · subst c17
              have H1 : (some (([] : List Int), true)) = some (r1, r2) := by rw [if_pos rfl] at H; exact H
              clear H
              have H := H1
              clear H1
              simp only [Option.some.injEq, Prod.mk.injEq] at H
              obtain ⟨rfl, rfl⟩ := H
              obtain ⟨Ao18, co18, eo18⟩ := Kd.N_slice HO_4.out
              subst eo18
              have p160 : 0 ≤ (1 : Int) := (by omega)
              have q160 : 1 < (t155.length : Int) := of_decide_eq_true (by first | (with_reducible assumption) | assumption)
              obtain ⟨ad160, A160_1, c160_1, e160, hx160_0, hx160_1, hx160_2, hl160_1, hi160_1⟩ := at_T36 (Kd.N_reads' HO_4.out).2.2 1 p160 q160
              cases e160
              obtain ⟨ce160, hce160, hMe160, hcc160⟩ := Kd.N_get HO_4.out z36 1 p160 (by first | exact q160 | exact of_decide_eq_true (by first | (with_reducible assumption) | assumption) | (have e_ := (Kd.N_reads' HO_4.out).1; omega))
              obtain ⟨ua160_1, uc160_1, rfl, ul160_1, ge160_1⟩ := k36_openF hMe160
              have hv160_1 := hcc160 1 _ rfl
              rw [add_field _ _ 1 (by omega)] at hv160_1
              replace hv160_1 := Option.some.inj (hv160_1.symm.trans hx160_1)
              injection hv160_1 with hva_ hvn_ hvc_
              rw [hva_] at ge160_1
              rw [hvc_] at ul160_1
              have HL160_1 := Aside0.mk (show Kd.V (Kd.int .u8) 5 _ w.heap.size _ _ ((rd_T36 t155 1).f1) from Kd.V_mk ul160_1 ge160_1)
              clear hva_ hvn_ hvc_ ge160_1 ul160_1
              clear hcc160 hce160
              (try simp only [show (1 : Int).toNat = 1 from rfl, Nat.reduceMul, Nat.reduceEqDiff, Go.Addr.add, ↓reduceIte] at hx160_0)
              (try simp only [show (1 : Int).toNat = 1 from rfl, Nat.reduceMul, Nat.reduceEqDiff, Go.Addr.add, ↓reduceIte] at hx160_1)
              (try simp only [show (1 : Int).toNat = 1 from rfl, Nat.reduceMul, Nat.reduceEqDiff, Go.Addr.add, ↓reduceIte] at hx160_2)
              have qi160 : (1 < t155.length) = True := eq_true (by omega)
              (try rw [show ((1 : Int)).toNat = 1 from rfl] at hx160_0)
              (try rw [show 1 * 3 = 3 from rfl] at hx160_0)
              (try rw [show ((1 : Int)).toNat = 1 from rfl] at hx160_1)
              (try rw [show 1 * 3 = 3 from rfl] at hx160_1)
              (try rw [show ((1 : Int)).toNat = 1 from rfl] at hx160_2)
              (try rw [show 1 * 3 = 3 from rfl] at hx160_2)
              have HR160_1 := Aside0.mk hi160_1
              have HC160_1 := Aside0.mk hl160_1
              clear hi160_1 hl160_1
              replace p160 := eq_true p160
              replace q160 := eq_true q160
              go_wp2_with (first | (go_at_call 22; (with_reducible refine (spec_Small.calls ((rd_T36 t155 1).f0) t161 true _ A16.out).mono ?_); rintro e w' ⟨rfl, ⟨nd, rfl⟩⟩; (try first | exact ⟨rfl, _, World.drewN_drewN _ _ _⟩ | exact ⟨rfl, _, Eq.trans (World.drewN_drewN _ _ _) (congrArg (World.drewN _) (Nat.add_assoc _ _ _))⟩)))
              repeat (go_quiet (first | (go_at_call 22; (with_reducible refine (spec_Small.calls ((rd_T36 t155 1).f0) t161 true _ A16.out).mono ?_); rintro e w' ⟨rfl, ⟨nd, rfl⟩⟩; (try first | exact ⟨rfl, _, World.drewN_drewN _ _ _⟩ | exact ⟨rfl, _, Eq.trans (World.drewN_drewN _ _ _) (congrArg (World.drewN _) (Nat.add_assoc _ _ _))⟩))); try go_wp2_with (first | (go_at_call 22; (with_reducible refine (spec_Small.calls ((rd_T36 t155 1).f0) t161 true _ A16.out).mono ?_); rintro e w' ⟨rfl, ⟨nd, rfl⟩⟩; (try first | exact ⟨rfl, _, World.drewN_drewN _ _ _⟩ | exact ⟨rfl, _, Eq.trans (World.drewN_drewN _ _ _) (congrArg (World.drewN _) (Nat.add_assoc _ _ _))⟩))))
              go_ret2
              exact ⟨_, by first | rfl | (simp [errW_none, errW_some] <;> rfl) | (simp [*, errW_none, errW_some] <;> rfl), Kd.V_nil _ _ _ _ _, by repeat (first | (with_reducible first | exact HB.out | apply below_alloc | apply pw_below_drewN | apply below_drew1) | exact HB.out)⟩
            · replace c17 := Bool.eq_false_iff.mpr c17
              subst c17
              have H1 : (if ((rd_T36 t155 1).f0) ≤ 78 then (some ((rd_T36 t155 1).f1, decide ((((rd_T36 t155 1).f1).length : Int) ≤ 80))) else (some ((rd_T36 t155 1).f1, false))) = some (r1, r2) := by rw [if_neg (show ¬ (false = true) by decide)] at H; exact H
              clear H
              have H := H1
              clear H1
              by_cases c19 : ((rd_T36 t155 1).f0) ≤ 78
              · rw [if_pos c19] at H
                have c19b0 : decide (((rd_T36 t155 1).f0) ≤ 78) = true := decide_eq_true c19
                clear c19
                simp only [Option.some.injEq, Prod.mk.injEq] at H
                obtain ⟨rfl, rfl⟩ := H
                obtain ⟨Ao20, co20, eo20⟩ := Kd.N_slice HO_4.out
                subst eo20
                have p160 : 0 ≤ (1 : Int) := (by omega)
                have q160 : 1 < (t155.length : Int) := of_decide_eq_true (by first | (with_reducible assumption) | assumption)
                obtain ⟨ad160, A160_1, c160_1, e160, hx160_0, hx160_1, hx160_2, hl160_1, hi160_1⟩ := at_T36 (Kd.N_reads' HO_4.out).2.2 1 p160 q160
                cases e160
                obtain ⟨ce160, hce160, hMe160, hcc160⟩ := Kd.N_get HO_4.out z36 1 p160 (by first | exact q160 | exact of_decide_eq_true (by first | (with_reducible assumption) | assumption) | (have e_ := (Kd.N_reads' HO_4.out).1; omega))
                obtain ⟨ua160_1, uc160_1, rfl, ul160_1, ge160_1⟩ := k36_openF hMe160
                have hv160_1 := hcc160 1 _ rfl
                rw [add_field _ _ 1 (by omega)] at hv160_1
                replace hv160_1 := Option.some.inj (hv160_1.symm.trans hx160_1)
                injection hv160_1 with hva_ hvn_ hvc_
                rw [hva_] at ge160_1
                rw [hvc_] at ul160_1
                have HL160_1 := Aside0.mk (show Kd.V (Kd.int .u8) 5 _ w.heap.size _ _ ((rd_T36 t155 1).f1) from Kd.V_mk ul160_1 ge160_1)
                clear hva_ hvn_ hvc_ ge160_1 ul160_1
                clear hcc160 hce160
                (try simp only [show (1 : Int).toNat = 1 from rfl, Nat.reduceMul, Nat.reduceEqDiff, Go.Addr.add, ↓reduceIte] at hx160_0)
                (try simp only [show (1 : Int).toNat = 1 from rfl, Nat.reduceMul, Nat.reduceEqDiff, Go.Addr.add, ↓reduceIte] at hx160_1)
                (try simp only [show (1 : Int).toNat = 1 from rfl, Nat.reduceMul, Nat.reduceEqDiff, Go.Addr.add, ↓reduceIte] at hx160_2)
                have qi160 : (1 < t155.length) = True := eq_true (by omega)
                (try rw [show ((1 : Int)).toNat = 1 from rfl] at hx160_0)
                (try rw [show 1 * 3 = 3 from rfl] at hx160_0)
                (try rw [show ((1 : Int)).toNat = 1 from rfl] at hx160_1)
                (try rw [show 1 * 3 = 3 from rfl] at hx160_1)
                (try rw [show ((1 : Int)).toNat = 1 from rfl] at hx160_2)
                (try rw [show 1 * 3 = 3 from rfl] at hx160_2)
                have HR160_1 := Aside0.mk hi160_1
                have HC160_1 := Aside0.mk hl160_1
                clear hi160_1 hl160_1
                replace p160 := eq_true p160
                replace q160 := eq_true q160
                go_wp2_with (first | (go_at_call 22; (with_reducible refine (spec_Small.calls ((rd_T36 t155 1).f0) t161 false _ A16.out).mono ?_); rintro e w' ⟨rfl, ⟨nd, rfl⟩⟩; (try first | exact ⟨rfl, _, World.drewN_drewN _ _ _⟩ | exact ⟨rfl, _, Eq.trans (World.drewN_drewN _ _ _) (congrArg (World.drewN _) (Nat.add_assoc _ _ _))⟩); have p163 : 0 ≤ (1 : Int) := (by omega); have q163 : 1 < (t155.length : Int) := of_decide_eq_true (by first | (with_reducible assumption) | assumption); obtain ⟨ad163, A163_1, c163_1, e163, hx163_0, hx163_1, hx163_2, hl163_1, hi163_1⟩ := at_T36 (Kd.N_reads' HO_4.out).2.2 1 p163 q163; obtain rfl : ad160 = ad163 := (by injection e163); obtain ⟨ce163, hce163, hMe163, hcc163⟩ := Kd.N_get HO_4.out z36 1 p163 (by first | exact q163 | exact of_decide_eq_true (by first | (with_reducible assumption) | assumption) | (have e_ := (Kd.N_reads' HO_4.out).1; omega)); obtain ⟨ua163_1, uc163_1, rfl, ul163_1, ge163_1⟩ := k36_openF hMe163; have hv163_1 := hcc163 1 _ rfl; rw [add_field _ _ 1 (by omega)] at hv163_1; replace hv163_1 := Option.some.inj (hv163_1.symm.trans hx163_1); injection hv163_1 with hva_ hvn_ hvc_; rw [hva_] at ge163_1; rw [hvc_] at ul163_1; have HL163_1 := Aside0.mk (show Kd.V (Kd.int .u8) 5 _ w.heap.size _ _ ((rd_T36 t155 1).f1) from Kd.V_mk ul163_1 ge163_1); clear hva_ hvn_ hvc_ ge163_1 ul163_1; clear hcc163 hce163; (try simp only [show (1 : Int).toNat = 1 from rfl, Nat.reduceMul, Nat.reduceEqDiff, Go.Addr.add, ↓reduceIte] at hx163_0); (try simp only [show (1 : Int).toNat = 1 from rfl, Nat.reduceMul, Nat.reduceEqDiff, Go.Addr.add, ↓reduceIte] at hx163_1); (try simp only [show (1 : Int).toNat = 1 from rfl, Nat.reduceMul, Nat.reduceEqDiff, Go.Addr.add, ↓reduceIte] at hx163_2); have qi163 : (1 < t155.length) = True := eq_true (by omega); (try rw [show ((1 : Int)).toNat = 1 from rfl] at hx163_0); (try rw [show 1 * 3 = 3 from rfl] at hx163_0); (try rw [show ((1 : Int)).toNat = 1 from rfl] at hx163_1); (try rw [show 1 * 3 = 3 from rfl] at hx163_1); (try rw [show ((1 : Int)).toNat = 1 from rfl] at hx163_2); (try rw [show 1 * 3 = 3 from rfl] at hx163_2); have HR163_1 := Aside0.mk hi163_1; have HC163_1 := Aside0.mk hl163_1; clear hi163_1 hl163_1; replace p163 := eq_true p163; replace q163 := eq_true q163; have ea_ := Option.some.inj (hx160_1.symm.trans hx163_1); injection ea_ with ea_ en_ ec_; subst ea_; subst ec_; clear en_; have p164 : 0 ≤ (1 : Int) := (by omega); have q164 : 1 < (t155.length : Int) := of_decide_eq_true (by first | (with_reducible assumption) | assumption); obtain ⟨ad164, A164_1, c164_1, e164, hx164_0, hx164_1, hx164_2, hl164_1, hi164_1⟩ := at_T36 (Kd.N_reads' HO_4.out).2.2 1 p164 q164; obtain rfl : ad160 = ad164 := (by injection e164); obtain ⟨ce164, hce164, hMe164, hcc164⟩ := Kd.N_get HO_4.out z36 1 p164 (by first | exact q164 | exact of_decide_eq_true (by first | (with_reducible assumption) | assumption) | (have e_ := (Kd.N_reads' HO_4.out).1; omega)); obtain ⟨ua164_1, uc164_1, rfl, ul164_1, ge164_1⟩ := k36_openF hMe164; have hv164_1 := hcc164 1 _ rfl; rw [add_field _ _ 1 (by omega)] at hv164_1; replace hv164_1 := Option.some.inj (hv164_1.symm.trans hx164_1); injection hv164_1 with hva_ hvn_ hvc_; rw [hva_] at ge164_1; rw [hvc_] at ul164_1; have HL164_1 := Aside0.mk (show Kd.V (Kd.int .u8) 5 _ w.heap.size _ _ ((rd_T36 t155 1).f1) from Kd.V_mk ul164_1 ge164_1); clear hva_ hvn_ hvc_ ge164_1 ul164_1; clear hcc164 hce164; (try simp only [show (1 : Int).toNat = 1 from rfl, Nat.reduceMul, Nat.reduceEqDiff, Go.Addr.add, ↓reduceIte] at hx164_0); (try simp only [show (1 : Int).toNat = 1 from rfl, Nat.reduceMul, Nat.reduceEqDiff, Go.Addr.add, ↓reduceIte] at hx164_1); (try simp only [show (1 : Int).toNat = 1 from rfl, Nat.reduceMul, Nat.reduceEqDiff, Go.Addr.add, ↓reduceIte] at hx164_2); have qi164 : (1 < t155.length) = True := eq_true (by omega); (try rw [show ((1 : Int)).toNat = 1 from rfl] at hx164_0); (try rw [show 1 * 3 = 3 from rfl] at hx164_0); (try rw [show ((1 : Int)).toNat = 1 from rfl] at hx164_1); (try rw [show 1 * 3 = 3 from rfl] at hx164_1); (try rw [show ((1 : Int)).toNat = 1 from rfl] at hx164_2); (try rw [show 1 * 3 = 3 from rfl] at hx164_2); have HR164_1 := Aside0.mk hi164_1; have HC164_1 := Aside0.mk hl164_1; clear hi164_1 hl164_1; replace p164 := eq_true p164; replace q164 := eq_true q164; have ea_ := Option.some.inj (hx160_1.symm.trans hx164_1); injection ea_ with ea_ en_ ec_; subst ea_; subst ec_; clear en_; have p165 : 0 ≤ (1 : Int) := (by omega); have q165 : 1 < (t155.length : Int) := of_decide_eq_true (by first | (with_reducible assumption) | assumption); obtain ⟨ad165, A165_1, c165_1, e165, hx165_0, hx165_1, hx165_2, hl165_1, hi165_1⟩ := at_T36 (Kd.N_reads' HO_4.out).2.2 1 p165 q165; obtain rfl : ad160 = ad165 := (by injection e165); obtain ⟨ce165, hce165, hMe165, hcc165⟩ := Kd.N_get HO_4.out z36 1 p165 (by first | exact q165 | exact of_decide_eq_true (by first | (with_reducible assumption) | assumption) | (have e_ := (Kd.N_reads' HO_4.out).1; omega)); obtain ⟨ua165_1, uc165_1, rfl, ul165_1, ge165_1⟩ := k36_openF hMe165; have hv165_1 := hcc165 1 _ rfl; rw [add_field _ _ 1 (by omega)] at hv165_1; replace hv165_1 := Option.some.inj (hv165_1.symm.trans hx165_1); injection hv165_1 with hva_ hvn_ hvc_; rw [hva_] at ge165_1; rw [hvc_] at ul165_1; have HL165_1 := Aside0.mk (show Kd.V (Kd.int .u8) 5 _ w.heap.size _ _ ((rd_T36 t155 1).f1) from Kd.V_mk ul165_1 ge165_1); clear hva_ hvn_ hvc_ ge165_1 ul165_1; clear hcc165 hce165; (try simp only [show (1 : Int).toNat = 1 from rfl, Nat.reduceMul, Nat.reduceEqDiff, Go.Addr.add, ↓reduceIte] at hx165_0); (try simp only [show (1 : Int).toNat = 1 from rfl, Nat.reduceMul, Nat.reduceEqDiff, Go.Addr.add, ↓reduceIte] at hx165_1); (try simp only [show (1 : Int).toNat = 1 from rfl, Nat.reduceMul, Nat.reduceEqDiff, Go.Addr.add, ↓reduceIte] at hx165_2); have qi165 : (1 < t155.length) = True := eq_true (by omega); (try rw [show ((1 : Int)).toNat = 1 from rfl] at hx165_0); (try rw [show 1 * 3 = 3 from rfl] at hx165_0); (try rw [show ((1 : Int)).toNat = 1 from rfl] at hx165_1); (try rw [show 1 * 3 = 3 from rfl] at hx165_1); (try rw [show ((1 : Int)).toNat = 1 from rfl] at hx165_2); (try rw [show 1 * 3 = 3 from rfl] at hx165_2); have HR165_1 := Aside0.mk hi165_1; have HC165_1 := Aside0.mk hl165_1; clear hi165_1 hl165_1; replace p165 := eq_true p165; replace q165 := eq_true q165; have ea_ := Option.some.inj (hx160_1.symm.trans hx165_1); injection ea_ with ea_ en_ ec_; subst ea_; subst ec_; clear en_))
                repeat (go_quiet (first | (go_at_call 22; (with_reducible refine (spec_Small.calls ((rd_T36 t155 1).f0) t161 false _ A16.out).mono ?_); rintro e w' ⟨rfl, ⟨nd, rfl⟩⟩; (try first | exact ⟨rfl, _, World.drewN_drewN _ _ _⟩ | exact ⟨rfl, _, Eq.trans (World.drewN_drewN _ _ _) (congrArg (World.drewN _) (Nat.add_assoc _ _ _))⟩); have p163 : 0 ≤ (1 : Int) := (by omega); have q163 : 1 < (t155.length : Int) := of_decide_eq_true (by first | (with_reducible assumption) | assumption); obtain ⟨ad163, A163_1, c163_1, e163, hx163_0, hx163_1, hx163_2, hl163_1, hi163_1⟩ := at_T36 (Kd.N_reads' HO_4.out).2.2 1 p163 q163; obtain rfl : ad160 = ad163 := (by injection e163); obtain ⟨ce163, hce163, hMe163, hcc163⟩ := Kd.N_get HO_4.out z36 1 p163 (by first | exact q163 | exact of_decide_eq_true (by first | (with_reducible assumption) | assumption) | (have e_ := (Kd.N_reads' HO_4.out).1; omega)); obtain ⟨ua163_1, uc163_1, rfl, ul163_1, ge163_1⟩ := k36_openF hMe163; have hv163_1 := hcc163 1 _ rfl; rw [add_field _ _ 1 (by omega)] at hv163_1; replace hv163_1 := Option.some.inj (hv163_1.symm.trans hx163_1); injection hv163_1 with hva_ hvn_ hvc_; rw [hva_] at ge163_1; rw [hvc_] at ul163_1; have HL163_1 := Aside0.mk (show Kd.V (Kd.int .u8) 5 _ w.heap.size _ _ ((rd_T36 t155 1).f1) from Kd.V_mk ul163_1 ge163_1); clear hva_ hvn_ hvc_ ge163_1 ul163_1; clear hcc163 hce163; (try simp only [show (1 : Int).toNat = 1 from rfl, Nat.reduceMul, Nat.reduceEqDiff, Go.Addr.add, ↓reduceIte] at hx163_0); (try simp only [show (1 : Int).toNat = 1 from rfl, Nat.reduceMul, Nat.reduceEqDiff, Go.Addr.add, ↓reduceIte] at hx163_1); (try simp only [show (1 : Int).toNat = 1 from rfl, Nat.reduceMul, Nat.reduceEqDiff, Go.Addr.add, ↓reduceIte] at hx163_2); have qi163 : (1 < t155.length) = True := eq_true (by omega); (try rw [show ((1 : Int)).toNat = 1 from rfl] at hx163_0); (try rw [show 1 * 3 = 3 from rfl] at hx163_0); (try rw [show ((1 : Int)).toNat = 1 from rfl] at hx163_1); (try rw [show 1 * 3 = 3 from rfl] at hx163_1); (try rw [show ((1 : Int)).toNat = 1 from rfl] at hx163_2); (try rw [show 1 * 3 = 3 from rfl] at hx163_2); have HR163_1 := Aside0.mk hi163_1; have HC163_1 := Aside0.mk hl163_1; clear hi163_1 hl163_1; replace p163 := eq_true p163; replace q163 := eq_true q163; have ea_ := Option.some.inj (hx160_1.symm.trans hx163_1); injection ea_ with ea_ en_ ec_; subst ea_; subst ec_; clear en_; have p164 : 0 ≤ (1 : Int) := (by omega); have q164 : 1 < (t155.length : Int) := of_decide_eq_true (by first | (with_reducible assumption) | assumption); obtain ⟨ad164, A164_1, c164_1, e164, hx164_0, hx164_1, hx164_2, hl164_1, hi164_1⟩ := at_T36 (Kd.N_reads' HO_4.out).2.2 1 p164 q164; obtain rfl : ad160 = ad164 := (by injection e164); obtain ⟨ce164, hce164, hMe164, hcc164⟩ := Kd.N_get HO_4.out z36 1 p164 (by first | exact q164 | exact of_decide_eq_true (by first | (with_reducible assumption) | assumption) | (have e_ := (Kd.N_reads' HO_4.out).1; omega)); obtain ⟨ua164_1, uc164_1, rfl, ul164_1, ge164_1⟩ := k36_openF hMe164; have hv164_1 := hcc164 1 _ rfl; rw [add_field _ _ 1 (by omega)] at hv164_1; replace hv164_1 := Option.some.inj (hv164_1.symm.trans hx164_1); injection hv164_1 with hva_ hvn_ hvc_; rw [hva_] at ge164_1; rw [hvc_] at ul164_1; have HL164_1 := Aside0.mk (show Kd.V (Kd.int .u8) 5 _ w.heap.size _ _ ((rd_T36 t155 1).f1) from Kd.V_mk ul164_1 ge164_1); clear hva_ hvn_ hvc_ ge164_1 ul164_1; clear hcc164 hce164; (try simp only [show (1 : Int).toNat = 1 from rfl, Nat.reduceMul, Nat.reduceEqDiff, Go.Addr.add, ↓reduceIte] at hx164_0); (try simp only [show (1 : Int).toNat = 1 from rfl, Nat.reduceMul, Nat.reduceEqDiff, Go.Addr.add, ↓reduceIte] at hx164_1); (try simp only [show (1 : Int).toNat = 1 from rfl, Nat.reduceMul, Nat.reduceEqDiff, Go.Addr.add, ↓reduceIte] at hx164_2); have qi164 : (1 < t155.length) = True := eq_true (by omega); (try rw [show ((1 : Int)).toNat = 1 from rfl] at hx164_0); (try rw [show 1 * 3 = 3 from rfl] at hx164_0); (try rw [show ((1 : Int)).toNat = 1 from rfl] at hx164_1); (try rw [show 1 * 3 = 3 from rfl] at hx164_1); (try rw [show ((1 : Int)).toNat = 1 from rfl] at hx164_2); (try rw [show 1 * 3 = 3 from rfl] at hx164_2); have HR164_1 := Aside0.mk hi164_1; have HC164_1 := Aside0.mk hl164_1; clear hi164_1 hl164_1; replace p164 := eq_true p164; replace q164 := eq_true q164; have ea_ := Option.some.inj (hx160_1.symm.trans hx164_1); injection ea_ with ea_ en_ ec_; subst ea_; subst ec_; clear en_; have p165 : 0 ≤ (1 : Int) := (by omega); have q165 : 1 < (t155.length : Int) := of_decide_eq_true (by first | (with_reducible assumption) | assumption); obtain ⟨ad165, A165_1, c165_1, e165, hx165_0, hx165_1, hx165_2, hl165_1, hi165_1⟩ := at_T36 (Kd.N_reads' HO_4.out).2.2 1 p165 q165; obtain rfl : ad160 = ad165 := (by injection e165); obtain ⟨ce165, hce165, hMe165, hcc165⟩ := Kd.N_get HO_4.out z36 1 p165 (by first | exact q165 | exact of_decide_eq_true (by first | (with_reducible assumption) | assumption) | (have e_ := (Kd.N_reads' HO_4.out).1; omega)); obtain ⟨ua165_1, uc165_1, rfl, ul165_1, ge165_1⟩ := k36_openF hMe165; have hv165_1 := hcc165 1 _ rfl; rw [add_field _ _ 1 (by omega)] at hv165_1; replace hv165_1 := Option.some.inj (hv165_1.symm.trans hx165_1); injection hv165_1 with hva_ hvn_ hvc_; rw [hva_] at ge165_1; rw [hvc_] at ul165_1; have HL165_1 := Aside0.mk (show Kd.V (Kd.int .u8) 5 _ w.heap.size _ _ ((rd_T36 t155 1).f1) from Kd.V_mk ul165_1 ge165_1); clear hva_ hvn_ hvc_ ge165_1 ul165_1; clear hcc165 hce165; (try simp only [show (1 : Int).toNat = 1 from rfl, Nat.reduceMul, Nat.reduceEqDiff, Go.Addr.add, ↓reduceIte] at hx165_0); (try simp only [show (1 : Int).toNat = 1 from rfl, Nat.reduceMul, Nat.reduceEqDiff, Go.Addr.add, ↓reduceIte] at hx165_1); (try simp only [show (1 : Int).toNat = 1 from rfl, Nat.reduceMul, Nat.reduceEqDiff, Go.Addr.add, ↓reduceIte] at hx165_2); have qi165 : (1 < t155.length) = True := eq_true (by omega); (try rw [show ((1 : Int)).toNat = 1 from rfl] at hx165_0); (try rw [show 1 * 3 = 3 from rfl] at hx165_0); (try rw [show ((1 : Int)).toNat = 1 from rfl] at hx165_1); (try rw [show 1 * 3 = 3 from rfl] at hx165_1); (try rw [show ((1 : Int)).toNat = 1 from rfl] at hx165_2); (try rw [show 1 * 3 = 3 from rfl] at hx165_2); have HR165_1 := Aside0.mk hi165_1; have HC165_1 := Aside0.mk hl165_1; clear hi165_1 hl165_1; replace p165 := eq_true p165; replace q165 := eq_true q165; have ea_ := Option.some.inj (hx160_1.symm.trans hx165_1); injection ea_ with ea_ en_ ec_; subst ea_; subst ec_; clear en_)); try go_wp2_with (first | (go_at_call 22; (with_reducible refine (spec_Small.calls ((rd_T36 t155 1).f0) t161 false _ A16.out).mono ?_); rintro e w' ⟨rfl, ⟨nd, rfl⟩⟩; (try first | exact ⟨rfl, _, World.drewN_drewN _ _ _⟩ | exact ⟨rfl, _, Eq.trans (World.drewN_drewN _ _ _) (congrArg (World.drewN _) (Nat.add_assoc _ _ _))⟩); have p163 : 0 ≤ (1 : Int) := (by omega); have q163 : 1 < (t155.length : Int) := of_decide_eq_true (by first | (with_reducible assumption) | assumption); obtain ⟨ad163, A163_1, c163_1, e163, hx163_0, hx163_1, hx163_2, hl163_1, hi163_1⟩ := at_T36 (Kd.N_reads' HO_4.out).2.2 1 p163 q163; obtain rfl : ad160 = ad163 := (by injection e163); obtain ⟨ce163, hce163, hMe163, hcc163⟩ := Kd.N_get HO_4.out z36 1 p163 (by first | exact q163 | exact of_decide_eq_true (by first | (with_reducible assumption) | assumption) | (have e_ := (Kd.N_reads' HO_4.out).1; omega)); obtain ⟨ua163_1, uc163_1, rfl, ul163_1, ge163_1⟩ := k36_openF hMe163; have hv163_1 := hcc163 1 _ rfl; rw [add_field _ _ 1 (by omega)] at hv163_1; replace hv163_1 := Option.some.inj (hv163_1.symm.trans hx163_1); injection hv163_1 with hva_ hvn_ hvc_; rw [hva_] at ge163_1; rw [hvc_] at ul163_1; have HL163_1 := Aside0.mk (show Kd.V (Kd.int .u8) 5 _ w.heap.size _ _ ((rd_T36 t155 1).f1) from Kd.V_mk ul163_1 ge163_1); clear hva_ hvn_ hvc_ ge163_1 ul163_1; clear hcc163 hce163; (try simp only [show (1 : Int).toNat = 1 from rfl, Nat.reduceMul, Nat.reduceEqDiff, Go.Addr.add, ↓reduceIte] at hx163_0); (try simp only [show (1 : Int).toNat = 1 from rfl, Nat.reduceMul, Nat.reduceEqDiff, Go.Addr.add, ↓reduceIte] at hx163_1); (try simp only [show (1 : Int).toNat = 1 from rfl, Nat.reduceMul, Nat.reduceEqDiff, Go.Addr.add, ↓reduceIte] at hx163_2); have qi163 : (1 < t155.length) = True := eq_true (by omega); (try rw [show ((1 : Int)).toNat = 1 from rfl] at hx163_0); (try rw [show 1 * 3 = 3 from rfl] at hx163_0); (try rw [show ((1 : Int)).toNat = 1 from rfl] at hx163_1); (try rw [show 1 * 3 = 3 from rfl] at hx163_1); (try rw [show ((1 : Int)).toNat = 1 from rfl] at hx163_2); (try rw [show 1 * 3 = 3 from rfl] at hx163_2); have HR163_1 := Aside0.mk hi163_1; have HC163_1 := Aside0.mk hl163_1; clear hi163_1 hl163_1; replace p163 := eq_true p163; replace q163 := eq_true q163; have ea_ := Option.some.inj (hx160_1.symm.trans hx163_1); injection ea_ with ea_ en_ ec_; subst ea_; subst ec_; clear en_; have p164 : 0 ≤ (1 : Int) := (by omega); have q164 : 1 < (t155.length : Int) := of_decide_eq_true (by first | (with_reducible assumption) | assumption); obtain ⟨ad164, A164_1, c164_1, e164, hx164_0, hx164_1, hx164_2, hl164_1, hi164_1⟩ := at_T36 (Kd.N_reads' HO_4.out).2.2 1 p164 q164; obtain rfl : ad160 = ad164 := (by injection e164); obtain ⟨ce164, hce164, hMe164, hcc164⟩ := Kd.N_get HO_4.out z36 1 p164 (by first | exact q164 | exact of_decide_eq_true (by first | (with_reducible assumption) | assumption) | (have e_ := (Kd.N_reads' HO_4.out).1; omega)); obtain ⟨ua164_1, uc164_1, rfl, ul164_1, ge164_1⟩ := k36_openF hMe164; have hv164_1 := hcc164 1 _ rfl; rw [add_field _ _ 1 (by omega)] at hv164_1; replace hv164_1 := Option.some.inj (hv164_1.symm.trans hx164_1); injection hv164_1 with hva_ hvn_ hvc_; rw [hva_] at ge164_1; rw [hvc_] at ul164_1; have HL164_1 := Aside0.mk (show Kd.V (Kd.int .u8) 5 _ w.heap.size _ _ ((rd_T36 t155 1).f1) from Kd.V_mk ul164_1 ge164_1); clear hva_ hvn_ hvc_ ge164_1 ul164_1; clear hcc164 hce164; (try simp only [show (1 : Int).toNat = 1 from rfl, Nat.reduceMul, Nat.reduceEqDiff, Go.Addr.add, ↓reduceIte] at hx164_0); (try simp only [show (1 : Int).toNat = 1 from rfl, Nat.reduceMul, Nat.reduceEqDiff, Go.Addr.add, ↓reduceIte] at hx164_1); (try simp only [show (1 : Int).toNat = 1 from rfl, Nat.reduceMul, Nat.reduceEqDiff, Go.Addr.add, ↓reduceIte] at hx164_2); have qi164 : (1 < t155.length) = True := eq_true (by omega); (try rw [show ((1 : Int)).toNat = 1 from rfl] at hx164_0); (try rw [show 1 * 3 = 3 from rfl] at hx164_0); (try rw [show ((1 : Int)).toNat = 1 from rfl] at hx164_1); (try rw [show 1 * 3 = 3 from rfl] at hx164_1); (try rw [show ((1 : Int)).toNat = 1 from rfl] at hx164_2); (try rw [show 1 * 3 = 3 from rfl] at hx164_2); have HR164_1 := Aside0.mk hi164_1; have HC164_1 := Aside0.mk hl164_1; clear hi164_1 hl164_1; replace p164 := eq_true p164; replace q164 := eq_true q164; have ea_ := Option.some.inj (hx160_1.symm.trans hx164_1); injection ea_ with ea_ en_ ec_; subst ea_; subst ec_; clear en_; have p165 : 0 ≤ (1 : Int) := (by omega); have q165 : 1 < (t155.length : Int) := of_decide_eq_true (by first | (with_reducible assumption) | assumption); obtain ⟨ad165, A165_1, c165_1, e165, hx165_0, hx165_1, hx165_2, hl165_1, hi165_1⟩ := at_T36 (Kd.N_reads' HO_4.out).2.2 1 p165 q165; obtain rfl : ad160 = ad165 := (by injection e165); obtain ⟨ce165, hce165, hMe165, hcc165⟩ := Kd.N_get HO_4.out z36 1 p165 (by first | exact q165 | exact of_decide_eq_true (by first | (with_reducible assumption) | assumption) | (have e_ := (Kd.N_reads' HO_4.out).1; omega)); obtain ⟨ua165_1, uc165_1, rfl, ul165_1, ge165_1⟩ := k36_openF hMe165; have hv165_1 := hcc165 1 _ rfl; rw [add_field _ _ 1 (by omega)] at hv165_1; replace hv165_1 := Option.some.inj (hv165_1.symm.trans hx165_1); injection hv165_1 with hva_ hvn_ hvc_; rw [hva_] at ge165_1; rw [hvc_] at ul165_1; have HL165_1 := Aside0.mk (show Kd.V (Kd.int .u8) 5 _ w.heap.size _ _ ((rd_T36 t155 1).f1) from Kd.V_mk ul165_1 ge165_1); clear hva_ hvn_ hvc_ ge165_1 ul165_1; clear hcc165 hce165; (try simp only [show (1 : Int).toNat = 1 from rfl, Nat.reduceMul, Nat.reduceEqDiff, Go.Addr.add, ↓reduceIte] at hx165_0); (try simp only [show (1 : Int).toNat = 1 from rfl, Nat.reduceMul, Nat.reduceEqDiff, Go.Addr.add, ↓reduceIte] at hx165_1); (try simp only [show (1 : Int).toNat = 1 from rfl, Nat.reduceMul, Nat.reduceEqDiff, Go.Addr.add, ↓reduceIte] at hx165_2); have qi165 : (1 < t155.length) = True := eq_true (by omega); (try rw [show ((1 : Int)).toNat = 1 from rfl] at hx165_0); (try rw [show 1 * 3 = 3 from rfl] at hx165_0); (try rw [show ((1 : Int)).toNat = 1 from rfl] at hx165_1); (try rw [show 1 * 3 = 3 from rfl] at hx165_1); (try rw [show ((1 : Int)).toNat = 1 from rfl] at hx165_2); (try rw [show 1 * 3 = 3 from rfl] at hx165_2); have HR165_1 := Aside0.mk hi165_1; have HC165_1 := Aside0.mk hl165_1; clear hi165_1 hl165_1; replace p165 := eq_true p165; replace q165 := eq_true q165; have ea_ := Option.some.inj (hx160_1.symm.trans hx165_1); injection ea_ with ea_ en_ ec_; subst ea_; subst ec_; clear en_)))
                go_ret2
                exact ⟨_, by first | rfl | (simp [errW_none, errW_some] <;> rfl) | (simp [*, errW_none, errW_some] <;> rfl), by (with_reducible repeat (first | apply Kd.V_alloc | apply Kd.V_drewN | apply Kd.V_drew)); exact Kd.V_mono HL163_1.out (fun _ hk => hk.1), by repeat (first | (with_reducible first | exact HB.out | apply below_alloc | apply pw_below_drewN | apply below_drew1) | exact HB.out)⟩
              · rw [if_neg c19] at H
                have c19b0 : decide (((rd_T36 t155 1).f0) ≤ 78) = false := decide_eq_false c19
                clear c19
                simp only [Option.some.injEq, Prod.mk.injEq] at H
                obtain ⟨rfl, rfl⟩ := H
                obtain ⟨Ao21, co21, eo21⟩ := Kd.N_slice HO_4.out
                subst eo21
                have p160 : 0 ≤ (1 : Int) := (by omega)
                have q160 : 1 < (t155.length : Int) := of_decide_eq_true (by first | (with_reducible assumption) | assumption)
                obtain ⟨ad160, A160_1, c160_1, e160, hx160_0, hx160_1, hx160_2, hl160_1, hi160_1⟩ := at_T36 (Kd.N_reads' HO_4.out).2.2 1 p160 q160
                cases e160
                obtain ⟨ce160, hce160, hMe160, hcc160⟩ := Kd.N_get HO_4.out z36 1 p160 (by first | exact q160 | exact of_decide_eq_true (by first | (with_reducible assumption) | assumption) | (have e_ := (Kd.N_reads' HO_4.out).1; omega))
                obtain ⟨ua160_1, uc160_1, rfl, ul160_1, ge160_1⟩ := k36_openF hMe160
                have hv160_1 := hcc160 1 _ rfl
                rw [add_field _ _ 1 (by omega)] at hv160_1
                replace hv160_1 := Option.some.inj (hv160_1.symm.trans hx160_1)
                injection hv160_1 with hva_ hvn_ hvc_
                rw [hva_] at ge160_1
                rw [hvc_] at ul160_1
                have HL160_1 := Aside0.mk (show Kd.V (Kd.int .u8) 5 _ w.heap.size _ _ ((rd_T36 t155 1).f1) from Kd.V_mk ul160_1 ge160_1)
                clear hva_ hvn_ hvc_ ge160_1 ul160_1
                clear hcc160 hce160
                (try simp only [show (1 : Int).toNat = 1 from rfl, Nat.reduceMul, Nat.reduceEqDiff, Go.Addr.add, ↓reduceIte] at hx160_0)
                (try simp only [show (1 : Int).toNat = 1 from rfl, Nat.reduceMul, Nat.reduceEqDiff, Go.Addr.add, ↓reduceIte] at hx160_1)
                (try simp only [show (1 : Int).toNat = 1 from rfl, Nat.reduceMul, Nat.reduceEqDiff, Go.Addr.add, ↓reduceIte] at hx160_2)
                have qi160 : (1 < t155.length) = True := eq_true (by omega)
                (try rw [show ((1 : Int)).toNat = 1 from rfl] at hx160_0)
                (try rw [show 1 * 3 = 3 from rfl] at hx160_0)
                (try rw [show ((1 : Int)).toNat = 1 from rfl] at hx160_1)
                (try rw [show 1 * 3 = 3 from rfl] at hx160_1)
                (try rw [show ((1 : Int)).toNat = 1 from rfl] at hx160_2)
                (try rw [show 1 * 3 = 3 from rfl] at hx160_2)
                have HR160_1 := Aside0.mk hi160_1
                have HC160_1 := Aside0.mk hl160_1
                clear hi160_1 hl160_1
                replace p160 := eq_true p160
                replace q160 := eq_true q160
                go_wp2_with (first | (go_at_call 22; (with_reducible refine (spec_Small.calls ((rd_T36 t155 1).f0) t161 false _ A16.out).mono ?_); rintro e w' ⟨rfl, ⟨nd, rfl⟩⟩; (try first | exact ⟨rfl, _, World.drewN_drewN _ _ _⟩ | exact ⟨rfl, _, Eq.trans (World.drewN_drewN _ _ _) (congrArg (World.drewN _) (Nat.add_assoc _ _ _))⟩); have p163 : 0 ≤ (1 : Int) := (by omega); have q163 : 1 < (t155.length : Int) := of_decide_eq_true (by first | (with_reducible assumption) | assumption); obtain ⟨ad163, A163_1, c163_1, e163, hx163_0, hx163_1, hx163_2, hl163_1, hi163_1⟩ := at_T36 (Kd.N_reads' HO_4.out).2.2 1 p163 q163; obtain rfl : ad160 = ad163 := (by injection e163); obtain ⟨ce163, hce163, hMe163, hcc163⟩ := Kd.N_get HO_4.out z36 1 p163 (by first | exact q163 | exact of_decide_eq_true (by first | (with_reducible assumption) | assumption) | (have e_ := (Kd.N_reads' HO_4.out).1; omega)); obtain ⟨ua163_1, uc163_1, rfl, ul163_1, ge163_1⟩ := k36_openF hMe163; have hv163_1 := hcc163 1 _ rfl; rw [add_field _ _ 1 (by omega)] at hv163_1; replace hv163_1 := Option.some.inj (hv163_1.symm.trans hx163_1); injection hv163_1 with hva_ hvn_ hvc_; rw [hva_] at ge163_1; rw [hvc_] at ul163_1; have HL163_1 := Aside0.mk (show Kd.V (Kd.int .u8) 5 _ w.heap.size _ _ ((rd_T36 t155 1).f1) from Kd.V_mk ul163_1 ge163_1); clear hva_ hvn_ hvc_ ge163_1 ul163_1; clear hcc163 hce163; (try simp only [show (1 : Int).toNat = 1 from rfl, Nat.reduceMul, Nat.reduceEqDiff, Go.Addr.add, ↓reduceIte] at hx163_0); (try simp only [show (1 : Int).toNat = 1 from rfl, Nat.reduceMul, Nat.reduceEqDiff, Go.Addr.add, ↓reduceIte] at hx163_1); (try simp only [show (1 : Int).toNat = 1 from rfl, Nat.reduceMul, Nat.reduceEqDiff, Go.Addr.add, ↓reduceIte] at hx163_2); have qi163 : (1 < t155.length) = True := eq_true (by omega); (try rw [show ((1 : Int)).toNat = 1 from rfl] at hx163_0); (try rw [show 1 * 3 = 3 from rfl] at hx163_0); (try rw [show ((1 : Int)).toNat = 1 from rfl] at hx163_1); (try rw [show 1 * 3 = 3 from rfl] at hx163_1); (try rw [show ((1 : Int)).toNat = 1 from rfl] at hx163_2); (try rw [show 1 * 3 = 3 from rfl] at hx163_2); have HR163_1 := Aside0.mk hi163_1; have HC163_1 := Aside0.mk hl163_1; clear hi163_1 hl163_1; replace p163 := eq_true p163; replace q163 := eq_true q163; have ea_ := Option.some.inj (hx160_1.symm.trans hx163_1); injection ea_ with ea_ en_ ec_; subst ea_; subst ec_; clear en_; have p164 : 0 ≤ (1 : Int) := (by omega); have q164 : 1 < (t155.length : Int) := of_decide_eq_true (by first | (with_reducible assumption) | assumption); obtain ⟨ad164, A164_1, c164_1, e164, hx164_0, hx164_1, hx164_2, hl164_1, hi164_1⟩ := at_T36 (Kd.N_reads' HO_4.out).2.2 1 p164 q164; obtain rfl : ad160 = ad164 := (by injection e164); obtain ⟨ce164, hce164, hMe164, hcc164⟩ := Kd.N_get HO_4.out z36 1 p164 (by first | exact q164 | exact of_decide_eq_true (by first | (with_reducible assumption) | assumption) | (have e_ := (Kd.N_reads' HO_4.out).1; omega)); obtain ⟨ua164_1, uc164_1, rfl, ul164_1, ge164_1⟩ := k36_openF hMe164; have hv164_1 := hcc164 1 _ rfl; rw [add_field _ _ 1 (by omega)] at hv164_1; replace hv164_1 := Option.some.inj (hv164_1.symm.trans hx164_1); injection hv164_1 with hva_ hvn_ hvc_; rw [hva_] at ge164_1; rw [hvc_] at ul164_1; have HL164_1 := Aside0.mk (show Kd.V (Kd.int .u8) 5 _ w.heap.size _ _ ((rd_T36 t155 1).f1) from Kd.V_mk ul164_1 ge164_1); clear hva_ hvn_ hvc_ ge164_1 ul164_1; clear hcc164 hce164; (try simp only [show (1 : Int).toNat = 1 from rfl, Nat.reduceMul, Nat.reduceEqDiff, Go.Addr.add, ↓reduceIte] at hx164_0); (try simp only [show (1 : Int).toNat = 1 from rfl, Nat.reduceMul, Nat.reduceEqDiff, Go.Addr.add, ↓reduceIte] at hx164_1); (try simp only [show (1 : Int).toNat = 1 from rfl, Nat.reduceMul, Nat.reduceEqDiff, Go.Addr.add, ↓reduceIte] at hx164_2); have qi164 : (1 < t155.length) = True := eq_true (by omega); (try rw [show ((1 : Int)).toNat = 1 from rfl] at hx164_0); (try rw [show 1 * 3 = 3 from rfl] at hx164_0); (try rw [show ((1 : Int)).toNat = 1 from rfl] at hx164_1); (try rw [show 1 * 3 = 3 from rfl] at hx164_1); (try rw [show ((1 : Int)).toNat = 1 from rfl] at hx164_2); (try rw [show 1 * 3 = 3 from rfl] at hx164_2); have HR164_1 := Aside0.mk hi164_1; have HC164_1 := Aside0.mk hl164_1; clear hi164_1 hl164_1; replace p164 := eq_true p164; replace q164 := eq_true q164; have ea_ := Option.some.inj (hx160_1.symm.trans hx164_1); injection ea_ with ea_ en_ ec_; subst ea_; subst ec_; clear en_))
                repeat (go_quiet (first | (go_at_call 22; (with_reducible refine (spec_Small.calls ((rd_T36 t155 1).f0) t161 false _ A16.out).mono ?_); rintro e w' ⟨rfl, ⟨nd, rfl⟩⟩; (try first | exact ⟨rfl, _, World.drewN_drewN _ _ _⟩ | exact ⟨rfl, _, Eq.trans (World.drewN_drewN _ _ _) (congrArg (World.drewN _) (Nat.add_assoc _ _ _))⟩); have p163 : 0 ≤ (1 : Int) := (by omega); have q163 : 1 < (t155.length : Int) := of_decide_eq_true (by first | (with_reducible assumption) | assumption); obtain ⟨ad163, A163_1, c163_1, e163, hx163_0, hx163_1, hx163_2, hl163_1, hi163_1⟩ := at_T36 (Kd.N_reads' HO_4.out).2.2 1 p163 q163; obtain rfl : ad160 = ad163 := (by injection e163); obtain ⟨ce163, hce163, hMe163, hcc163⟩ := Kd.N_get HO_4.out z36 1 p163 (by first | exact q163 | exact of_decide_eq_true (by first | (with_reducible assumption) | assumption) | (have e_ := (Kd.N_reads' HO_4.out).1; omega)); obtain ⟨ua163_1, uc163_1, rfl, ul163_1, ge163_1⟩ := k36_openF hMe163; have hv163_1 := hcc163 1 _ rfl; rw [add_field _ _ 1 (by omega)] at hv163_1; replace hv163_1 := Option.some.inj (hv163_1.symm.trans hx163_1); injection hv163_1 with hva_ hvn_ hvc_; rw [hva_] at ge163_1; rw [hvc_] at ul163_1; have HL163_1 := Aside0.mk (show Kd.V (Kd.int .u8) 5 _ w.heap.size _ _ ((rd_T36 t155 1).f1) from Kd.V_mk ul163_1 ge163_1); clear hva_ hvn_ hvc_ ge163_1 ul163_1; clear hcc163 hce163; (try simp only [show (1 : Int).toNat = 1 from rfl, Nat.reduceMul, Nat.reduceEqDiff, Go.Addr.add, ↓reduceIte] at hx163_0); (try simp only [show (1 : Int).toNat = 1 from rfl, Nat.reduceMul, Nat.reduceEqDiff, Go.Addr.add, ↓reduceIte] at hx163_1); (try simp only [show (1 : Int).toNat = 1 from rfl, Nat.reduceMul, Nat.reduceEqDiff, Go.Addr.add, ↓reduceIte] at hx163_2); have qi163 : (1 < t155.length) = True := eq_true (by omega); (try rw [show ((1 : Int)).toNat = 1 from rfl] at hx163_0); (try rw [show 1 * 3 = 3 from rfl] at hx163_0); (try rw [show ((1 : Int)).toNat = 1 from rfl] at hx163_1); (try rw [show 1 * 3 = 3 from rfl] at hx163_1); (try rw [show ((1 : Int)).toNat = 1 from rfl] at hx163_2); (try rw [show 1 * 3 = 3 from rfl] at hx163_2); have HR163_1 := Aside0.mk hi163_1; have HC163_1 := Aside0.mk hl163_1; clear hi163_1 hl163_1; replace p163 := eq_true p163; replace q163 := eq_true q163; have ea_ := Option.some.inj (hx160_1.symm.trans hx163_1); injection ea_ with ea_ en_ ec_; subst ea_; subst ec_; clear en_; have p164 : 0 ≤ (1 : Int) := (by omega); have q164 : 1 < (t155.length : Int) := of_decide_eq_true (by first | (with_reducible assumption) | assumption); obtain ⟨ad164, A164_1, c164_1, e164, hx164_0, hx164_1, hx164_2, hl164_1, hi164_1⟩ := at_T36 (Kd.N_reads' HO_4.out).2.2 1 p164 q164; obtain rfl : ad160 = ad164 := (by injection e164); obtain ⟨ce164, hce164, hMe164, hcc164⟩ := Kd.N_get HO_4.out z36 1 p164 (by first | exact q164 | exact of_decide_eq_true (by first | (with_reducible assumption) | assumption) | (have e_ := (Kd.N_reads' HO_4.out).1; omega)); obtain ⟨ua164_1, uc164_1, rfl, ul164_1, ge164_1⟩ := k36_openF hMe164; have hv164_1 := hcc164 1 _ rfl; rw [add_field _ _ 1 (by omega)] at hv164_1; replace hv164_1 := Option.some.inj (hv164_1.symm.trans hx164_1); injection hv164_1 with hva_ hvn_ hvc_; rw [hva_] at ge164_1; rw [hvc_] at ul164_1; have HL164_1 := Aside0.mk (show Kd.V (Kd.int .u8) 5 _ w.heap.size _ _ ((rd_T36 t155 1).f1) from Kd.V_mk ul164_1 ge164_1); clear hva_ hvn_ hvc_ ge164_1 ul164_1; clear hcc164 hce164; (try simp only [show (1 : Int).toNat = 1 from rfl, Nat.reduceMul, Nat.reduceEqDiff, Go.Addr.add, ↓reduceIte] at hx164_0); (try simp only [show (1 : Int).toNat = 1 from rfl, Nat.reduceMul, Nat.reduceEqDiff, Go.Addr.add, ↓reduceIte] at hx164_1); (try simp only [show (1 : Int).toNat = 1 from rfl, Nat.reduceMul, Nat.reduceEqDiff, Go.Addr.add, ↓reduceIte] at hx164_2); have qi164 : (1 < t155.length) = True := eq_true (by omega); (try rw [show ((1 : Int)).toNat = 1 from rfl] at hx164_0); (try rw [show 1 * 3 = 3 from rfl] at hx164_0); (try rw [show ((1 : Int)).toNat = 1 from rfl] at hx164_1); (try rw [show 1 * 3 = 3 from rfl] at hx164_1); (try rw [show ((1 : Int)).toNat = 1 from rfl] at hx164_2); (try rw [show 1 * 3 = 3 from rfl] at hx164_2); have HR164_1 := Aside0.mk hi164_1; have HC164_1 := Aside0.mk hl164_1; clear hi164_1 hl164_1; replace p164 := eq_true p164; replace q164 := eq_true q164; have ea_ := Option.some.inj (hx160_1.symm.trans hx164_1); injection ea_ with ea_ en_ ec_; subst ea_; subst ec_; clear en_)); try go_wp2_with (first | (go_at_call 22; (with_reducible refine (spec_Small.calls ((rd_T36 t155 1).f0) t161 false _ A16.out).mono ?_); rintro e w' ⟨rfl, ⟨nd, rfl⟩⟩; (try first | exact ⟨rfl, _, World.drewN_drewN _ _ _⟩ | exact ⟨rfl, _, Eq.trans (World.drewN_drewN _ _ _) (congrArg (World.drewN _) (Nat.add_assoc _ _ _))⟩); have p163 : 0 ≤ (1 : Int) := (by omega); have q163 : 1 < (t155.length : Int) := of_decide_eq_true (by first | (with_reducible assumption) | assumption); obtain ⟨ad163, A163_1, c163_1, e163, hx163_0, hx163_1, hx163_2, hl163_1, hi163_1⟩ := at_T36 (Kd.N_reads' HO_4.out).2.2 1 p163 q163; obtain rfl : ad160 = ad163 := (by injection e163); obtain ⟨ce163, hce163, hMe163, hcc163⟩ := Kd.N_get HO_4.out z36 1 p163 (by first | exact q163 | exact of_decide_eq_true (by first | (with_reducible assumption) | assumption) | (have e_ := (Kd.N_reads' HO_4.out).1; omega)); obtain ⟨ua163_1, uc163_1, rfl, ul163_1, ge163_1⟩ := k36_openF hMe163; have hv163_1 := hcc163 1 _ rfl; rw [add_field _ _ 1 (by omega)] at hv163_1; replace hv163_1 := Option.some.inj (hv163_1.symm.trans hx163_1); injection hv163_1 with hva_ hvn_ hvc_; rw [hva_] at ge163_1; rw [hvc_] at ul163_1; have HL163_1 := Aside0.mk (show Kd.V (Kd.int .u8) 5 _ w.heap.size _ _ ((rd_T36 t155 1).f1) from Kd.V_mk ul163_1 ge163_1); clear hva_ hvn_ hvc_ ge163_1 ul163_1; clear hcc163 hce163; (try simp only [show (1 : Int).toNat = 1 from rfl, Nat.reduceMul, Nat.reduceEqDiff, Go.Addr.add, ↓reduceIte] at hx163_0); (try simp only [show (1 : Int).toNat = 1 from rfl, Nat.reduceMul, Nat.reduceEqDiff, Go.Addr.add, ↓reduceIte] at hx163_1); (try simp only [show (1 : Int).toNat = 1 from rfl, Nat.reduceMul, Nat.reduceEqDiff, Go.Addr.add, ↓reduceIte] at hx163_2); have qi163 : (1 < t155.length) = True := eq_true (by omega); (try rw [show ((1 : Int)).toNat = 1 from rfl] at hx163_0); (try rw [show 1 * 3 = 3 from rfl] at hx163_0); (try rw [show ((1 : Int)).toNat = 1 from rfl] at hx163_1); (try rw [show 1 * 3 = 3 from rfl] at hx163_1); (try rw [show ((1 : Int)).toNat = 1 from rfl] at hx163_2); (try rw [show 1 * 3 = 3 from rfl] at hx163_2); have HR163_1 := Aside0.mk hi163_1; have HC163_1 := Aside0.mk hl163_1; clear hi163_1 hl163_1; replace p163 := eq_true p163; replace q163 := eq_true q163; have ea_ := Option.some.inj (hx160_1.symm.trans hx163_1); injection ea_ with ea_ en_ ec_; subst ea_; subst ec_; clear en_; have p164 : 0 ≤ (1 : Int) := (by omega); have q164 : 1 < (t155.length : Int) := of_decide_eq_true (by first | (with_reducible assumption) | assumption); obtain ⟨ad164, A164_1, c164_1, e164, hx164_0, hx164_1, hx164_2, hl164_1, hi164_1⟩ := at_T36 (Kd.N_reads' HO_4.out).2.2 1 p164 q164; obtain rfl : ad160 = ad164 := (by injection e164); obtain ⟨ce164, hce164, hMe164, hcc164⟩ := Kd.N_get HO_4.out z36 1 p164 (by first | exact q164 | exact of_decide_eq_true (by first | (with_reducible assumption) | assumption) | (have e_ := (Kd.N_reads' HO_4.out).1; omega)); obtain ⟨ua164_1, uc164_1, rfl, ul164_1, ge164_1⟩ := k36_openF hMe164; have hv164_1 := hcc164 1 _ rfl; rw [add_field _ _ 1 (by omega)] at hv164_1; replace hv164_1 := Option.some.inj (hv164_1.symm.trans hx164_1); injection hv164_1 with hva_ hvn_ hvc_; rw [hva_] at ge164_1; rw [hvc_] at ul164_1; have HL164_1 := Aside0.mk (show Kd.V (Kd.int .u8) 5 _ w.heap.size _ _ ((rd_T36 t155 1).f1) from Kd.V_mk ul164_1 ge164_1); clear hva_ hvn_ hvc_ ge164_1 ul164_1; clear hcc164 hce164; (try simp only [show (1 : Int).toNat = 1 from rfl, Nat.reduceMul, Nat.reduceEqDiff, Go.Addr.add, ↓reduceIte] at hx164_0); (try simp only [show (1 : Int).toNat = 1 from rfl, Nat.reduceMul, Nat.reduceEqDiff, Go.Addr.add, ↓reduceIte] at hx164_1); (try simp only [show (1 : Int).toNat = 1 from rfl, Nat.reduceMul, Nat.reduceEqDiff, Go.Addr.add, ↓reduceIte] at hx164_2); have qi164 : (1 < t155.length) = True := eq_true (by omega); (try rw [show ((1 : Int)).toNat = 1 from rfl] at hx164_0); (try rw [show 1 * 3 = 3 from rfl] at hx164_0); (try rw [show ((1 : Int)).toNat = 1 from rfl] at hx164_1); (try rw [show 1 * 3 = 3 from rfl] at hx164_1); (try rw [show ((1 : Int)).toNat = 1 from rfl] at hx164_2); (try rw [show 1 * 3 = 3 from rfl] at hx164_2); have HR164_1 := Aside0.mk hi164_1; have HC164_1 := Aside0.mk hl164_1; clear hi164_1 hl164_1; replace p164 := eq_true p164; replace q164 := eq_true q164; have ea_ := Option.some.inj (hx160_1.symm.trans hx164_1); injection ea_ with ea_ en_ ec_; subst ea_; subst ec_; clear en_)))
                go_ret2
                exact ⟨_, by first | rfl | (simp [errW_none, errW_some] <;> rfl) | (simp [*, errW_none, errW_some] <;> rfl), by (with_reducible repeat (first | apply Kd.V_alloc | apply Kd.V_drewN | apply Kd.V_drew)); exact Kd.V_mono HL163_1.out (fun _ hk => hk.1), by repeat (first | (with_reducible first | exact HB.out | apply below_alloc | apply pw_below_drewN | apply below_drew1) | exact HB.out)⟩
          · rw [if_neg c15] at H
            exact absurd H (by simp)

-- NOT PRINTED: function 60 (btcdtxscript_extractCompressedPubKey)

-- NOT PRINTED: function 61 (btcdtxscript_extractUncompressedPubKey)

-- NOT PRINTED: function 46 (btcdtxscript_extractPubKey)

-- NOT PRINTED: function 36 (btcdtxscript_isPubKeyScript)

-- NOT PRINTED: function 23 (btcdtxscript_IsPayToPubKey)

-- NOT PRINTED: function 8 (impl_IsPubKey)

/-! ### spec_KeyForm: function 24 -/
def spec_KeyForm.j0 : Nat → List Int → Bool → Option (Int)
  | 0, _, _ => none
  | k + 1, x0, x3 => if x3 = true then (some 33) else (if (x0.length : Int) = 65 then (if 0 < (x0.length : Int) then (if (rd x0 0) = 4 then (some 65) else (some 0)) else (none)) else (some 0))
def spec_KeyForm.f (k : Nat) (l0 : List Int) : Option (Int) := if (l0.length : Int) = 33 then (if 0 < (l0.length : Int) then (if (rd l0 0) = 2 then (spec_KeyForm.j0 k l0 true) else (spec_KeyForm.j0 k l0 ((rd l0 0) == 3))) else (none)) else (spec_KeyForm.j0 k l0 false)
theorem spec_KeyForm.mono_l : ∀ k, (∀ y0 y1, LeO (spec_KeyForm.j0 k y0 y1) (spec_KeyForm.j0 (k + 1) y0 y1))
  | 0 => fun _ _ r h => by simp [spec_KeyForm.j0] at h
  | k + 1 => by
    have ih0 := spec_KeyForm.mono_l k
    · intro y0 y1
      unfold spec_KeyForm.j0
      repeat' first
      | (with_reducible exact ih0 _ _)
      | (with_reducible exact LeO.refl _)
      | (with_reducible exact LeO.none _)
      | (with_reducible refine LeO.ite ?_ ?_)
      | (with_reducible refine LeO.bind ?_ (fun _ => ?_))
      | exact ih0 _ _
      | exact LeO.none _
      | refine LeO.ite ?_ ?_
      | refine LeO.bind ?_ (fun _ => ?_)
theorem spec_KeyForm.mono : ∀ a0 k, LeO (spec_KeyForm.f k a0) (spec_KeyForm.f (k + 1) a0) := by
  intro a0 k
  have ih0 := spec_KeyForm.mono_l k
  unfold spec_KeyForm.f
  repeat' first
      | (with_reducible exact ih0 _ _)
      | (with_reducible exact LeO.refl _)
      | (with_reducible exact LeO.none _)
      | (with_reducible refine LeO.ite ?_ ?_)
      | (with_reducible refine LeO.bind ?_ (fun _ => ?_))
      | exact ih0 _ _
      | exact LeO.none _
      | refine LeO.ite ?_ ?_
      | refine LeO.bind ?_ (fun _ => ?_)
set_option maxHeartbeats 8000000 in
set_option maxRecDepth 100000 in
theorem spec_KeyForm.calls (k : Nat) (A0 : Option Addr) (c0 : Nat) (l0 : List Int) (r : Int) (w : World) (hr0 : Kd.C (Kd.int .u8) w A0 l0.length l0) (hc0 : l0.length ≤ c0) (h : spec_KeyForm.f k l0 = some r) :
    Calls Try.prog 24 #[.slice A0 l0.length c0] w fun e w' => e = .returned (.int .i64 r) ∧ Drawn0 w w' := by
  have HR0 := Aside0.mk hr0
  have HC0 := Aside0.mk hc0
  clear hr0 hc0
  have H : (if (l0.length : Int) = 33 then (if 0 < (l0.length : Int) then (if (rd l0 0) = 2 then (spec_KeyForm.j0 k l0 true) else (spec_KeyForm.j0 k l0 ((rd l0 0) == 3))) else (none)) else (spec_KeyForm.j0 k l0 false)) = some r := h
  clear h
  have HC2 := Aside0.mk H
  clear H
  go_enter Try.func24, Try.ntmps24
  go_upto_region 1 with (fail)
  go_cut [3] (fun v3 wc => ∃ (kq : Nat) (x3_1 : Bool), v3 = .bool x3_1 ∧ Aside0 (spec_KeyForm.j0 kq l0 x3_1 = some r) ∧ Aside0 (kq ≤ k) ∧ Drawn0 w wc)
  case first =>
    have H := HC2.out
    clear HC2
    by_cases c3 : (l0.length : Int) = 33
    · rw [if_pos c3] at H
      have c3b0 : ((l0.length : Int) == 33) = true := beq_iff_eq.mpr c3
      have c3b1 : ((l0.length : Int) != 33) = false := bne_eq_false_iff_eq.mpr c3
      clear c3
      (first | rw [c3b0] | (simp only [i64_w, i32_w]; rw [c3b0]) | skip)
      by_cases c4 : 0 < (l0.length : Int)
      · rw [if_pos c4] at H
        have c4b0 : decide (0 < (l0.length : Int)) = true := decide_eq_true c4
        have c4b1 : decide (0 < l0.length) = true := decide_eq_true (by omega)
        clear c4
        by_cases c5 : (rd l0 0) = 2
        · rw [if_pos c5] at H
          have c5b0 : ((rd l0 0) == 2) = true := beq_iff_eq.mpr c5
          have c5b1 : ((rd l0 0) != 2) = false := bne_eq_false_iff_eq.mpr c5
          clear c5
          have H' := Aside0.mk H
          clear H
          have p195 : 0 ≤ (0 : Int) := (by omega)
          have q195 : 0 < (l0.length : Int) := of_decide_eq_true (by first | (with_reducible assumption) | assumption)
          obtain ⟨ad195, e195, hx195_0⟩ := Kd.at_int HR0.out 0 p195 q195
          cases e195
          have qi195 : (0 < l0.length) = True := eq_true (by omega)
          (try rw [show ((0 : Int)).toNat = 0 from rfl] at hx195_0)
          (try rw [Addr.add_zero'] at hx195_0)
          replace p195 := eq_true p195
          replace q195 := eq_true q195
          go_wp2
          go_meet
          case rel => exact ⟨_, (true), (by first | rfl | (simp; done) | (simp [*]; done) | (simp [show wrap64 1 = 1 by unfold wrap64; decide, *]; done)), (by first | exact H' | (subst_vars; exact H')), ⟨by first | omega | exact Nat.le_refl _⟩, by repeat (first | exact Drawn0.refl _ | apply Drawn0.step)⟩
        · rw [if_neg c5] at H
          have c5b0 : ((rd l0 0) == 2) = false := beq_eq_false_iff_ne.mpr c5
          have c5b1 : ((rd l0 0) != 2) = true := bne_iff_ne.mpr c5
          have H' := Aside0.mk H
          clear H
          have p195 : 0 ≤ (0 : Int) := (by omega)
          have q195 : 0 < (l0.length : Int) := of_decide_eq_true (by first | (with_reducible assumption) | assumption)
          obtain ⟨ad195, e195, hx195_0⟩ := Kd.at_int HR0.out 0 p195 q195
          cases e195
          have qi195 : (0 < l0.length) = True := eq_true (by omega)
          (try rw [show ((0 : Int)).toNat = 0 from rfl] at hx195_0)
          (try rw [Addr.add_zero'] at hx195_0)
          replace p195 := eq_true p195
          replace q195 := eq_true q195
          have p196 : 0 ≤ (0 : Int) := (by omega)
          have q196 : 0 < (l0.length : Int) := of_decide_eq_true (by first | (with_reducible assumption) | assumption)
          obtain ⟨ad196, e196, hx196_0⟩ := Kd.at_int HR0.out 0 p196 q196
          obtain rfl : ad195 = ad196 := (by injection e196)
          have qi196 : (0 < l0.length) = True := eq_true (by omega)
          (try rw [show ((0 : Int)).toNat = 0 from rfl] at hx196_0)
          (try rw [Addr.add_zero'] at hx196_0)
          replace p196 := eq_true p196
          replace q196 := eq_true q196
          go_wp2
          go_meet
          case rel => exact ⟨_, (((rd l0 0) == 3)), (by first | rfl | (simp; done) | (simp [*]; done) | (simp [show wrap64 1 = 1 by unfold wrap64; decide, *]; done)), (by first | exact H' | (subst_vars; exact H')), ⟨by first | omega | exact Nat.le_refl _⟩, by repeat (first | exact Drawn0.refl _ | apply Drawn0.step)⟩
      · rw [if_neg c4] at H
        exact absurd H (by simp)
    · rw [if_neg c3] at H
      have c3b0 : ((l0.length : Int) == 33) = false := beq_eq_false_iff_ne.mpr c3
      have c3b1 : ((l0.length : Int) != 33) = true := bne_iff_ne.mpr c3
      (first | rw [c3b0] | (simp only [i64_w, i32_w]; rw [c3b0]) | skip)
      have H' := Aside0.mk H
      clear H
      go_wp2
      go_meet
      case rel => exact ⟨_, (false), (by first | rfl | (simp; done) | (simp [*]; done) | (simp [show wrap64 1 = 1 by unfold wrap64; decide, *]; done)), (by first | exact H' | (subst_vars; exact H')), ⟨by first | omega | exact Nat.le_refl _⟩, by repeat (first | exact Drawn0.refl _ | apply Drawn0.step)⟩
  case rest =>
    clear HC2
    try clear p1
    try clear q1
    try clear hx1
    try clear qi1
    try clear c2
    try clear p2
    try clear c3
    try clear c3b0
    try clear c3b1
    try clear c4
    try clear c4b0
    try clear c4b1
    try clear c5
    try clear c5b0
    try clear c5b1
    try clear hx195_0
    try clear hx196_0
    try clear p195
    try clear p196
    try clear q195
    try clear q196
    obtain ⟨kq, x3_1, rfl, HA, HJ1, ⟨mc1, rfl⟩⟩ := hcut
    cases kq with
    | zero => exact absurd HA.out (by simp [spec_KeyForm.j0])
    | succ kj1 =>
      have H := HA.out
      clear HA
      simp only [spec_KeyForm.j0] at H
      by_cases c6 : x3_1 = true
      · subst c6
        have H1 : (some 33) = some r := by rw [if_pos rfl] at H; exact H
        clear H
        have H := H1
        clear H1
        obtain rfl := Option.some.inj H
        go_wp2
        go_ret
        exact ⟨by first | rfl | (simp; done) | (simp [*]; done), by repeat (first | exact Drawn0.refl _ | apply Drawn0.step)⟩
      · replace c6 := Bool.eq_false_iff.mpr c6
        subst c6
        have H1 : (if (l0.length : Int) = 65 then (if 0 < (l0.length : Int) then (if (rd l0 0) = 4 then (some 65) else (some 0)) else (none)) else (some 0)) = some r := by rw [if_neg (show ¬ (false = true) by decide)] at H; exact H
        clear H
        have H := H1
        clear H1
        by_cases c7 : (l0.length : Int) = 65
        · rw [if_pos c7] at H
          have c7b0 : ((l0.length : Int) == 65) = true := beq_iff_eq.mpr c7
          have c7b1 : ((l0.length : Int) != 65) = false := bne_eq_false_iff_eq.mpr c7
          clear c7
          by_cases c8 : 0 < (l0.length : Int)
          · rw [if_pos c8] at H
            have c8b0 : decide (0 < (l0.length : Int)) = true := decide_eq_true c8
            have c8b1 : decide (0 < l0.length) = true := decide_eq_true (by omega)
            clear c8
            by_cases c9 : (rd l0 0) = 4
            · rw [if_pos c9] at H
              have c9b0 : ((rd l0 0) == 4) = true := beq_iff_eq.mpr c9
              have c9b1 : ((rd l0 0) != 4) = false := bne_eq_false_iff_eq.mpr c9
              clear c9
              obtain rfl := Option.some.inj H
              have p197 : 0 ≤ (0 : Int) := (by omega)
              have q197 : 0 < (l0.length : Int) := of_decide_eq_true (by first | (with_reducible assumption) | assumption)
              obtain ⟨ad197, e197, hx197_0⟩ := Kd.at_int HR0.out 0 p197 q197
              cases e197
              have qi197 : (0 < l0.length) = True := eq_true (by omega)
              (try rw [show ((0 : Int)).toNat = 0 from rfl] at hx197_0)
              (try rw [Addr.add_zero'] at hx197_0)
              replace p197 := eq_true p197
              replace q197 := eq_true q197
              go_wp2
              go_ret
              exact ⟨by first | rfl | (simp; done) | (simp [*]; done), by repeat (first | exact Drawn0.refl _ | apply Drawn0.step)⟩
            · rw [if_neg c9] at H
              have c9b0 : ((rd l0 0) == 4) = false := beq_eq_false_iff_ne.mpr c9
              have c9b1 : ((rd l0 0) != 4) = true := bne_iff_ne.mpr c9
              obtain rfl := Option.some.inj H
              have p197 : 0 ≤ (0 : Int) := (by omega)
              have q197 : 0 < (l0.length : Int) := of_decide_eq_true (by first | (with_reducible assumption) | assumption)
              obtain ⟨ad197, e197, hx197_0⟩ := Kd.at_int HR0.out 0 p197 q197
              cases e197
              have qi197 : (0 < l0.length) = True := eq_true (by omega)
              (try rw [show ((0 : Int)).toNat = 0 from rfl] at hx197_0)
              (try rw [Addr.add_zero'] at hx197_0)
              replace p197 := eq_true p197
              replace q197 := eq_true q197
              go_wp2
              go_ret
              exact ⟨by first | rfl | (simp; done) | (simp [*]; done), by repeat (first | exact Drawn0.refl _ | apply Drawn0.step)⟩
          · rw [if_neg c8] at H
            exact absurd H (by simp)
        · rw [if_neg c7] at H
          have c7b0 : ((l0.length : Int) == 65) = false := beq_eq_false_iff_ne.mpr c7
          have c7b1 : ((l0.length : Int) != 65) = true := bne_iff_ne.mpr c7
          obtain rfl := Option.some.inj H
          go_wp2
          go_ret
          exact ⟨by first | rfl | (simp; done) | (simp [*]; done), by repeat (first | exact Drawn0.refl _ | apply Drawn0.step)⟩

end Go.Proofs.Ytfbkjkihcajmdac.QFnClasses
