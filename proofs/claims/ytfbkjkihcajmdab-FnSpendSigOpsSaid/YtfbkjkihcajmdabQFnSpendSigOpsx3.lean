-- Made by a turned print (own tool turnprint.py over the kit print).
import Derived.Test.YtfbkjkihcajmdabQFnSpendSigOpsx0
import Derived.Test.YtfbkjkihcajmdabQFnSpendSigOpsx1
import Derived.Test.YtfbkjkihcajmdabQFnSpendSigOpsx2
namespace Go.Proofs.Ytfbkjkihcajmdab.QFnSpendSigOps
open Go.RowKit Go.Proofs.YtfbkjkihcajmdabW.PrintWords Go.Proofs.YtfbkjkihcajmdabW.PrintLast Go.Proofs.YtfbkjkihcajmdabW.PrintMore
attribute [local go_sem] nn_mod256 nn_mod65536 nn_mod32 max2_int min2_int max_two min_two max_three min_three max_four min_four   -- for this text's walks alone
set_option linter.unusedVariables false
set_option linter.unusedSimpArgs false

/-! ### spec_SigOps: function 19 -/
mutual
def spec_SigOps.l0 : Nat → Bool → List (S34) → Int → Int → Option (Int)
  | 0, _, _, _, _ => none
  | k + 1, x1, x5, x7, x8 => if x8 < (x5.length : Int) then (if 0 ≤ x8 then (if ((rd_T34 x5 x8).f0) = 172 then (spec_SigOps.j1 k x1 x5 x7 x8 ((rd_T34 x5 x8).f0) (((rd_T34 x5 x8).f0) == 172)) else (spec_SigOps.j1 k x1 x5 x7 x8 ((rd_T34 x5 x8).f0) (((rd_T34 x5 x8).f0) == 173))) else (none)) else (some x7)
def spec_SigOps.j1 : Nat → Bool → List (S34) → Int → Int → Int → Bool → Option (Int)
  | 0, _, _, _, _, _, _ => none
  | k + 1, x1, x5, x7, x8, x25, x26 => if x26 = true then (spec_SigOps.l0 k x1 x5 (wrap64 (x7 + 1)) (wrap64 (x8 + 1))) else (if x25 = 174 then (spec_SigOps.j2 k x1 x5 x7 x8 (x25 == 174)) else (spec_SigOps.j2 k x1 x5 x7 x8 (x25 == 175)))
def spec_SigOps.j2 : Nat → Bool → List (S34) → Int → Int → Bool → Option (Int)
  | 0, _, _, _, _, _ => none
  | k + 1, x1, x5, x7, x8, x31 => if x31 = true then (if x1 = true then (if x8 > 0 then (if 0 ≤ (wrap64 (x8 - 1)) then (if (wrap64 (x8 - 1)) < (x5.length : Int) then (if ((rd_T34 x5 (wrap64 (x8 - 1))).f0) ≥ 81 then (if ((rd_T34 x5 (wrap64 (x8 - 1))).f0) ≤ 96 then (spec_SigOps.l0 k x1 x5 (wrap64 (x7 + (wrap64 ((wrap64 (((rd_T34 x5 (wrap64 (x8 - 1))).f0) - 81)) + 1)))) (wrap64 (x8 + 1))) else (spec_SigOps.l0 k x1 x5 (wrap64 (x7 + 20)) (wrap64 (x8 + 1)))) else (spec_SigOps.l0 k x1 x5 (wrap64 (x7 + 20)) (wrap64 (x8 + 1)))) else (none)) else (none)) else (spec_SigOps.l0 k x1 x5 (wrap64 (x7 + 20)) (wrap64 (x8 + 1)))) else (spec_SigOps.l0 k x1 x5 (wrap64 (x7 + 20)) (wrap64 (x8 + 1)))) else (spec_SigOps.l0 k x1 x5 x7 (wrap64 (x8 + 1)))
end
def spec_SigOps.f (k : Nat) (l0 : List Int) (a1 : Bool) : Option (Int) := (spec_Tokens.f k l0).bind fun bt145 => (spec_SigOps.l0 k a1 bt145.1 0 0)
theorem spec_SigOps.mono_l : ∀ k, (∀ y0 y1 y2 y3, LeO (spec_SigOps.l0 k y0 y1 y2 y3) (spec_SigOps.l0 (k + 1) y0 y1 y2 y3)) ∧ (∀ y0 y1 y2 y3 y4 y5, LeO (spec_SigOps.j1 k y0 y1 y2 y3 y4 y5) (spec_SigOps.j1 (k + 1) y0 y1 y2 y3 y4 y5)) ∧ (∀ y0 y1 y2 y3 y4, LeO (spec_SigOps.j2 k y0 y1 y2 y3 y4) (spec_SigOps.j2 (k + 1) y0 y1 y2 y3 y4))
  | 0 => ⟨fun _ _ _ _ r h => by simp [spec_SigOps.l0] at h, fun _ _ _ _ _ _ r h => by simp [spec_SigOps.j1] at h, fun _ _ _ _ _ r h => by simp [spec_SigOps.j2] at h⟩
  | k + 1 => by
    obtain ⟨ih0, ih1, ih2⟩ := spec_SigOps.mono_l k
    refine ⟨?_, ?_, ?_⟩
    · intro y0 y1 y2 y3
      unfold spec_SigOps.l0
      repeat' first
      | (with_reducible exact ih0 _ _ _ _)
      | (with_reducible exact ih1 _ _ _ _ _ _)
      | (with_reducible exact ih2 _ _ _ _ _)
      | (with_reducible exact spec_Tokens.mono _ _)
      | (with_reducible exact LeO.refl _)
      | (with_reducible exact LeO.none _)
      | (with_reducible refine LeO.ite ?_ ?_)
      | (with_reducible refine LeO.bind ?_ (fun _ => ?_))
      | exact ih0 _ _ _ _
      | exact ih1 _ _ _ _ _ _
      | exact ih2 _ _ _ _ _
      | exact spec_Tokens.mono _ _
      | exact LeO.none _
      | refine LeO.ite ?_ ?_
      | refine LeO.bind ?_ (fun _ => ?_)
    · intro y0 y1 y2 y3 y4 y5
      unfold spec_SigOps.j1
      repeat' first
      | (with_reducible exact ih0 _ _ _ _)
      | (with_reducible exact ih1 _ _ _ _ _ _)
      | (with_reducible exact ih2 _ _ _ _ _)
      | (with_reducible exact spec_Tokens.mono _ _)
      | (with_reducible exact LeO.refl _)
      | (with_reducible exact LeO.none _)
      | (with_reducible refine LeO.ite ?_ ?_)
      | (with_reducible refine LeO.bind ?_ (fun _ => ?_))
      | exact ih0 _ _ _ _
      | exact ih1 _ _ _ _ _ _
      | exact ih2 _ _ _ _ _
      | exact spec_Tokens.mono _ _
      | exact LeO.none _
      | refine LeO.ite ?_ ?_
      | refine LeO.bind ?_ (fun _ => ?_)
    · intro y0 y1 y2 y3 y4
      unfold spec_SigOps.j2
      repeat' first
      | (with_reducible exact ih0 _ _ _ _)
      | (with_reducible exact ih1 _ _ _ _ _ _)
      | (with_reducible exact ih2 _ _ _ _ _)
      | (with_reducible exact spec_Tokens.mono _ _)
      | (with_reducible exact LeO.refl _)
      | (with_reducible exact LeO.none _)
      | (with_reducible refine LeO.ite ?_ ?_)
      | (with_reducible refine LeO.bind ?_ (fun _ => ?_))
      | exact ih0 _ _ _ _
      | exact ih1 _ _ _ _ _ _
      | exact ih2 _ _ _ _ _
      | exact spec_Tokens.mono _ _
      | exact LeO.none _
      | refine LeO.ite ?_ ?_
      | refine LeO.bind ?_ (fun _ => ?_)
theorem spec_SigOps.mono : ∀ a0 a1 k, LeO (spec_SigOps.f k a0 a1) (spec_SigOps.f (k + 1) a0 a1) := by
  intro a0 a1 k
  obtain ⟨ih0, ih1, ih2⟩ := spec_SigOps.mono_l k
  unfold spec_SigOps.f
  repeat' first
      | (with_reducible exact ih0 _ _ _ _)
      | (with_reducible exact ih1 _ _ _ _ _ _)
      | (with_reducible exact ih2 _ _ _ _ _)
      | (with_reducible exact spec_Tokens.mono _ _)
      | (with_reducible exact LeO.refl _)
      | (with_reducible exact LeO.none _)
      | (with_reducible refine LeO.ite ?_ ?_)
      | (with_reducible refine LeO.bind ?_ (fun _ => ?_))
      | exact ih0 _ _ _ _
      | exact ih1 _ _ _ _ _ _
      | exact ih2 _ _ _ _ _
      | exact spec_Tokens.mono _ _
      | exact LeO.none _
      | refine LeO.ite ?_ ?_
      | refine LeO.bind ?_ (fun _ => ?_)
set_option maxHeartbeats 8000000 in
set_option maxRecDepth 100000 in
theorem spec_SigOps.calls (k : Nat) (A0 : Option Addr) (c0 : Nat) (l0 : List Int) (a1 : Bool) (r : Int) (w : World) (hr0 : Kd.C (Kd.int .u8) w A0 l0.length l0) (hc0 : l0.length ≤ c0) (h : spec_SigOps.f k l0 a1 = some r) :
    Calls Try.prog 19 #[.slice A0 l0.length c0, .bool a1] w fun e w' => e = .returned (.int .i64 r) ∧ Below w.heap.size w w' := by
  have HR0 := Aside0.mk hr0
  have HC0 := Aside0.mk hc0
  clear hr0 hc0
  have HB := Aside0.mk (Below.refl w.heap.size w)
  have H : ((spec_Tokens.f k l0).bind fun bt145 => (spec_SigOps.l0 k a1 bt145.1 0 0)) = some r := h
  clear h
  replace H := Option.bind_eq_some_iff.mp H
  obtain ⟨⟨t145, t148⟩, A30, H⟩ := H
  replace H : (spec_SigOps.l0 k a1 t145 0 0) = some r := H
  have A3 := Aside0.mk A30
  clear A30
  have H' := Aside0.mk H
  clear H
  go_enter Try.func19, Try.ntmps19
  go_wp2_with (first | ((with_reducible refine gate_callee (f := 11) rfl ?_); refine goesL_ (some 12) rfl rfl Try.func11 (by kernel_rfl) rfl #[.slice A0 l0.length c0] rfl (by (try simp only [List.map_toArray, List.map_cons, List.map_nil]); first | done | rfl | (simp only [List.length_drop, List.length_take]; rfl)) ?_; (with_reducible refine (spec_Tokens.calls k (fun k_ => k_ < w.heap.size) _ _ l0 t145 t148 _ ?side1 A3.out).mono ?_); (case side1 => exact Kd.V_mk HC0.out (Kd.F_below (Kd.C_F (Kd.heap_int .u8) HR0.out) (by repeat (first | (with_reducible first | exact HB.out | apply below_alloc | apply pw_below_drewN | apply below_drew1) | exact HB.out)))); rintro e w4 ⟨v146, rfl, ho0, hb⟩; refine ⟨_, rfl, ?_⟩; have n0_ := Aside0.mk (Kd.N_lower (Kd.N_mono (ok' := fun k_ => True) ho0 (fun k_ hk_ => trivial)) (below_size (by repeat (first | (with_reducible first | exact HB.out | apply below_alloc | apply pw_below_drewN | apply below_drew1) | exact HB.out)))); have n1_ := Aside0.mk (below_step (by repeat (first | (with_reducible first | exact HB.out | apply below_alloc | apply pw_below_drewN | apply below_drew1) | exact HB.out)) hb); clear HB; have HO147 := n0_; have HB := n1_; clear n0_ n1_; (try clear hb); (try clear hb2); (try clear hk); (try clear hi); (try clear ho0)))
  go_loopg [7, 8] k (fun kq v7 v8 w' => ∃ (x7_1 : Int) (x8_1 : Int), v7 = .int .i64 x7_1 ∧ v8 = .int .i64 x8_1 ∧ Aside0 (spec_SigOps.l0 kq a1 t145 x7_1 x8_1 = some r) ∧ Aside0 (kq ≤ k) ∧ Aside0 (Kd.N k34 34 w' w.heap.size (fun _ => True) v146 t145) ∧ Aside0 (Below w.heap.size w w'))
  case atStart => exact ⟨(0), (0), (by first | rfl | (simp; done) | (simp [*]; done) | (simp [show wrap64 1 = 1 by unfold wrap64; decide, *]; done)), (by first | rfl | (simp; done) | (simp [*]; done) | (simp [show wrap64 1 = 1 by unfold wrap64; decide, *]; done)), H', ⟨Nat.le_refl _⟩, ⟨by (with_reducible repeat (first | apply Kd.N_alloc | apply Kd.N_drewN | apply Kd.N_drew)); exact HO147.out⟩, ⟨by repeat (first | (with_reducible first | exact HB.out | apply below_alloc | apply pw_below_drewN | apply below_drew1) | exact HB.out)⟩⟩
  case round =>
    clear H'
    try clear c1
    try clear p2
    obtain ⟨x7_1, x8_1, rfl, rfl, HA, HK1, HO_5, HB⟩ := hrel
    cases gk with
    | zero => exact absurd HA.out (by simp [spec_SigOps.l0])
    | succ k1 =>
      have H := HA.out
      clear HA
      simp only [spec_SigOps.l0] at H
      by_cases c5 : x8_1 < (t145.length : Int)
      · rw [if_pos c5] at H
        have c5b0 : decide (x8_1 < (t145.length : Int)) = true := decide_eq_true c5
        clear c5
        by_cases c6 : 0 ≤ x8_1
        · rw [if_pos c6] at H
          have c6b0 : decide (0 ≤ x8_1) = true := decide_eq_true c6
          clear c6
          have HC7 := Aside0.mk H
          clear H
          obtain ⟨Ao8, co8, eo8⟩ := Kd.N_slice HO_5.out
          subst eo8
          have p149 : 0 ≤ (x8_1 : Int) := of_decide_eq_true (by first | (with_reducible assumption) | assumption)
          have q149 : x8_1 < (t145.length : Int) := of_decide_eq_true (by first | (with_reducible assumption) | assumption)
          obtain ⟨ad149, A149_1, c149_1, e149, hx149_0, hx149_1, hx149_2, hl149_1, hi149_1⟩ := at_T34 (Kd.N_reads' HO_5.out).2.2 x8_1 p149 q149
          cases e149
          obtain ⟨ce149, hce149, hMe149, hcc149⟩ := Kd.N_get HO_5.out z34 x8_1 p149 (by first | exact q149 | exact of_decide_eq_true (by first | (with_reducible assumption) | assumption) | (have e_ := (Kd.N_reads' HO_5.out).1; omega))
          obtain ⟨ua149_1, uc149_1, rfl, ul149_1, ge149_1⟩ := k34_openF hMe149
          have hv149_1 := hcc149 1 _ rfl
          rw [add_field _ _ 1 (by omega)] at hv149_1
          replace hv149_1 := Option.some.inj (hv149_1.symm.trans hx149_1)
          injection hv149_1 with hva_ hvn_ hvc_
          rw [hva_] at ge149_1
          rw [hvc_] at ul149_1
          have HL149_1 := Aside0.mk (show Kd.V (Kd.int .u8) 5 _ w.heap.size _ _ ((rd_T34 t145 x8_1).f1) from Kd.V_mk ul149_1 ge149_1)
          clear hva_ hvn_ hvc_ ge149_1 ul149_1
          clear hcc149 hce149
          have HR149_1 := Aside0.mk hi149_1
          have HC149_1 := Aside0.mk hl149_1
          clear hi149_1 hl149_1
          replace p149 := eq_true p149
          replace q149 := eq_true q149
          go_upto_if 26 with (fail)
          go_cut [26] (fun v26 wc => ∃ (kq : Nat) (x26_6 : Bool), v26 = .bool x26_6 ∧ Aside0 (spec_SigOps.j1 kq a1 t145 x7_1 x8_1 ((rd_T34 t145 x8_1).f0) x26_6 = some r) ∧ Aside0 (kq ≤ k1) ∧ Aside0 (Kd.N k34 34 wc w.heap.size (fun _ => True) (.slice (some ad149) t145.length co8) t145) ∧ Aside0 (Kd.C (Kd.int .u8) wc A149_1 ((rd_T34 t145 x8_1).f1).length ((rd_T34 t145 x8_1).f1)) ∧ Aside0 (Below w.heap.size w wc))
          case first =>
            have H := HC7.out
            clear HC7
            by_cases c9 : ((rd_T34 t145 x8_1).f0) = 172
            · rw [if_pos c9] at H
              have c9b0 : (((rd_T34 t145 x8_1).f0) == 172) = true := beq_iff_eq.mpr c9
              have c9b1 : (((rd_T34 t145 x8_1).f0) != 172) = false := bne_eq_false_iff_eq.mpr c9
              clear c9
              (first | rw [c9b0] | (simp only [i64_w, i32_w]; rw [c9b0]) | skip)
              have H' := Aside0.mk H
              clear H
              go_wp2
              go_meet
              case rel => exact ⟨_, ((((rd_T34 t145 x8_1).f0) == 172)), (by first | rfl | (simp; done) | (simp [*]; done) | (simp [show wrap64 1 = 1 by unfold wrap64; decide, *]; done)), (by first | exact H' | (subst_vars; exact H')), ⟨by have := HK1.out; first | omega | exact Nat.le_refl _⟩, ⟨by (with_reducible repeat (first | apply Kd.N_alloc | apply Kd.N_drewN | apply Kd.N_drew)); exact HO_5.out⟩, ⟨by repeat (first | (with_reducible exact HR149_1.out) | (with_reducible refine Kd.C_alloc ?_ _) | (with_reducible refine Kd.C_drewN ?_ _) | (with_reducible refine Kd.C_drew ?_) | exact HR149_1.out)⟩, ⟨by repeat (first | (with_reducible first | exact HB.out | apply below_alloc | apply pw_below_drewN | apply below_drew1) | exact HB.out)⟩⟩
            · rw [if_neg c9] at H
              have c9b0 : (((rd_T34 t145 x8_1).f0) == 172) = false := beq_eq_false_iff_ne.mpr c9
              have c9b1 : (((rd_T34 t145 x8_1).f0) != 172) = true := bne_iff_ne.mpr c9
              (first | rw [c9b0] | (simp only [i64_w, i32_w]; rw [c9b0]) | skip)
              have H' := Aside0.mk H
              clear H
              go_wp2
              go_meet
              case rel => exact ⟨_, ((((rd_T34 t145 x8_1).f0) == 173)), (by first | rfl | (simp; done) | (simp [*]; done) | (simp [show wrap64 1 = 1 by unfold wrap64; decide, *]; done)), (by first | exact H' | (subst_vars; exact H')), ⟨by have := HK1.out; first | omega | exact Nat.le_refl _⟩, ⟨by (with_reducible repeat (first | apply Kd.N_alloc | apply Kd.N_drewN | apply Kd.N_drew)); exact HO_5.out⟩, ⟨by repeat (first | (with_reducible exact HR149_1.out) | (with_reducible refine Kd.C_alloc ?_ _) | (with_reducible refine Kd.C_drewN ?_ _) | (with_reducible refine Kd.C_drew ?_) | exact HR149_1.out)⟩, ⟨by repeat (first | (with_reducible first | exact HB.out | apply below_alloc | apply pw_below_drewN | apply below_drew1) | exact HB.out)⟩⟩
          case rest =>
            clear HC7
            try clear c1
            try clear p1
            try clear q1
            try clear hx1
            try clear p2
            try clear c5
            try clear c5b0
            try clear c6
            try clear c6b0
            try clear c9
            try clear c9b0
            try clear c9b1
            try clear hx149_0
            try clear hx149_1
            try clear hx149_2
            try clear p149
            try clear p2
            try clear q149
            obtain ⟨kq, x26_6, rfl, HA, HJ6, HO_5, HR149_1, HB⟩ := hcut
            cases kq with
            | zero => exact absurd HA.out (by simp [spec_SigOps.j1])
            | succ kj6 =>
              have H := HA.out
              clear HA
              simp only [spec_SigOps.j1] at H
              by_cases c10 : x26_6 = true
              · subst c10
                have H1 : (spec_SigOps.l0 kj6 a1 t145 (wrap64 (x7_1 + 1)) (wrap64 (x8_1 + 1))) = some r := by rw [if_pos rfl] at H; exact H
                clear H
                have H := H1
                clear H1
                have H' := Aside0.mk H
                clear H
                go_wp2
                go_roundg kj6
                case measure => have := HK1.out; have := HJ6.out; omega
                case rel => exact ⟨(wrap64 (x7_1 + 1)), (wrap64 (x8_1 + 1)), (by first | rfl | (simp; done) | (simp [*]; done) | (simp [show wrap64 1 = 1 by unfold wrap64; decide, *]; done)), (by first | rfl | (simp; done) | (simp [*]; done) | (simp [show wrap64 1 = 1 by unfold wrap64; decide, *]; done)), (by first | exact H' | (subst_vars; exact H')), ⟨by have := HK1.out; have := HJ6.out; omega⟩, ⟨by (with_reducible repeat (first | apply Kd.N_alloc | apply Kd.N_drewN | apply Kd.N_drew)); exact HO_5.out⟩, ⟨by repeat (first | (with_reducible first | exact HB.out | apply below_alloc | apply pw_below_drewN | apply below_drew1) | exact HB.out)⟩⟩
              · replace c10 := Bool.eq_false_iff.mpr c10
                subst c10
                have H1 : (if ((rd_T34 t145 x8_1).f0) = 174 then (spec_SigOps.j2 kj6 a1 t145 x7_1 x8_1 (((rd_T34 t145 x8_1).f0) == 174)) else (spec_SigOps.j2 kj6 a1 t145 x7_1 x8_1 (((rd_T34 t145 x8_1).f0) == 175))) = some r := by rw [if_neg (show ¬ (false = true) by decide)] at H; exact H
                clear H
                have H := H1
                clear H1
                have HC11 := Aside0.mk H
                clear H
                go_upto_if 31 with (fail)
                go_cut [31] (fun v31 wc => ∃ (kq : Nat) (x31_10 : Bool), v31 = .bool x31_10 ∧ Aside0 (spec_SigOps.j2 kq a1 t145 x7_1 x8_1 x31_10 = some r) ∧ Aside0 (kq ≤ kj6) ∧ Aside0 (Kd.N k34 34 wc w.heap.size (fun _ => True) (.slice (some ad149) t145.length co8) t145) ∧ Aside0 (Kd.C (Kd.int .u8) wc A149_1 ((rd_T34 t145 x8_1).f1).length ((rd_T34 t145 x8_1).f1)) ∧ Aside0 (Below w.heap.size w wc))
                case first =>
                  have H := HC11.out
                  clear HC11
                  by_cases c12 : ((rd_T34 t145 x8_1).f0) = 174
                  · rw [if_pos c12] at H
                    have c12b0 : (((rd_T34 t145 x8_1).f0) == 174) = true := beq_iff_eq.mpr c12
                    have c12b1 : (((rd_T34 t145 x8_1).f0) != 174) = false := bne_eq_false_iff_eq.mpr c12
                    clear c12
                    (first | rw [c12b0] | (simp only [i64_w, i32_w]; rw [c12b0]) | skip)
                    have H' := Aside0.mk H
                    clear H
                    go_wp2
                    go_meet
                    case rel => exact ⟨_, ((((rd_T34 t145 x8_1).f0) == 174)), (by first | rfl | (simp; done) | (simp [*]; done) | (simp [show wrap64 1 = 1 by unfold wrap64; decide, *]; done)), (by first | exact H' | (subst_vars; exact H')), ⟨by have := HK1.out; have := HJ6.out; first | omega | exact Nat.le_refl _⟩, ⟨by (with_reducible repeat (first | apply Kd.N_alloc | apply Kd.N_drewN | apply Kd.N_drew)); exact HO_5.out⟩, ⟨by repeat (first | (with_reducible exact HR149_1.out) | (with_reducible refine Kd.C_alloc ?_ _) | (with_reducible refine Kd.C_drewN ?_ _) | (with_reducible refine Kd.C_drew ?_) | exact HR149_1.out)⟩, ⟨by repeat (first | (with_reducible first | exact HB.out | apply below_alloc | apply pw_below_drewN | apply below_drew1) | exact HB.out)⟩⟩
                  · rw [if_neg c12] at H
                    have c12b0 : (((rd_T34 t145 x8_1).f0) == 174) = false := beq_eq_false_iff_ne.mpr c12
                    have c12b1 : (((rd_T34 t145 x8_1).f0) != 174) = true := bne_iff_ne.mpr c12
                    (first | rw [c12b0] | (simp only [i64_w, i32_w]; rw [c12b0]) | skip)
                    have H' := Aside0.mk H
                    clear H
                    go_wp2
                    go_meet
                    case rel => exact ⟨_, ((((rd_T34 t145 x8_1).f0) == 175)), (by first | rfl | (simp; done) | (simp [*]; done) | (simp [show wrap64 1 = 1 by unfold wrap64; decide, *]; done)), (by first | exact H' | (subst_vars; exact H')), ⟨by have := HK1.out; have := HJ6.out; first | omega | exact Nat.le_refl _⟩, ⟨by (with_reducible repeat (first | apply Kd.N_alloc | apply Kd.N_drewN | apply Kd.N_drew)); exact HO_5.out⟩, ⟨by repeat (first | (with_reducible exact HR149_1.out) | (with_reducible refine Kd.C_alloc ?_ _) | (with_reducible refine Kd.C_drewN ?_ _) | (with_reducible refine Kd.C_drew ?_) | exact HR149_1.out)⟩, ⟨by repeat (first | (with_reducible first | exact HB.out | apply below_alloc | apply pw_below_drewN | apply below_drew1) | exact HB.out)⟩⟩
                case rest =>
                  clear HC11
                  try clear c1
                  try clear p1
                  try clear q1
                  try clear hx1
                  try clear p2
                  try clear c5
                  try clear c5b0
                  try clear c6
                  try clear c6b0
                  try clear p6
                  try clear c9
                  try clear c9b0
                  try clear c9b1
                  try clear c10
                  try clear c11
                  try clear c12
                  try clear c12b0
                  try clear c12b1
                  try clear hx149_0
                  try clear hx149_1
                  try clear hx149_2
                  try clear p1
                  try clear p149
                  try clear p2
                  try clear q1
                  try clear q149
                  obtain ⟨kq, x31_10, rfl, HA, HJ10, HO_5, HR149_1, HB⟩ := hcut
                  cases kq with
                  | zero => exact absurd HA.out (by simp [spec_SigOps.j2])
                  | succ kj10 =>
                    have H := HA.out
                    clear HA
                    simp only [spec_SigOps.j2] at H
                    by_cases c13 : x31_10 = true
                    · subst c13
                      have H1 : (if a1 = true then (if x8_1 > 0 then (if 0 ≤ (wrap64 (x8_1 - 1)) then (if (wrap64 (x8_1 - 1)) < (t145.length : Int) then (if ((rd_T34 t145 (wrap64 (x8_1 - 1))).f0) ≥ 81 then (if ((rd_T34 t145 (wrap64 (x8_1 - 1))).f0) ≤ 96 then (spec_SigOps.l0 kj10 a1 t145 (wrap64 (x7_1 + (wrap64 ((wrap64 (((rd_T34 t145 (wrap64 (x8_1 - 1))).f0) - 81)) + 1)))) (wrap64 (x8_1 + 1))) else (spec_SigOps.l0 kj10 a1 t145 (wrap64 (x7_1 + 20)) (wrap64 (x8_1 + 1)))) else (spec_SigOps.l0 kj10 a1 t145 (wrap64 (x7_1 + 20)) (wrap64 (x8_1 + 1)))) else (none)) else (none)) else (spec_SigOps.l0 kj10 a1 t145 (wrap64 (x7_1 + 20)) (wrap64 (x8_1 + 1)))) else (spec_SigOps.l0 kj10 a1 t145 (wrap64 (x7_1 + 20)) (wrap64 (x8_1 + 1)))) = some r := by rw [if_pos rfl] at H; exact H
                      clear H
                      have H := H1
                      clear H1
                      by_cases c14 : a1 = true
                      · subst c14
                        have H1 : (if x8_1 > 0 then (if 0 ≤ (wrap64 (x8_1 - 1)) then (if (wrap64 (x8_1 - 1)) < (t145.length : Int) then (if ((rd_T34 t145 (wrap64 (x8_1 - 1))).f0) ≥ 81 then (if ((rd_T34 t145 (wrap64 (x8_1 - 1))).f0) ≤ 96 then (spec_SigOps.l0 kj10 true t145 (wrap64 (x7_1 + (wrap64 ((wrap64 (((rd_T34 t145 (wrap64 (x8_1 - 1))).f0) - 81)) + 1)))) (wrap64 (x8_1 + 1))) else (spec_SigOps.l0 kj10 true t145 (wrap64 (x7_1 + 20)) (wrap64 (x8_1 + 1)))) else (spec_SigOps.l0 kj10 true t145 (wrap64 (x7_1 + 20)) (wrap64 (x8_1 + 1)))) else (none)) else (none)) else (spec_SigOps.l0 kj10 true t145 (wrap64 (x7_1 + 20)) (wrap64 (x8_1 + 1)))) = some r := by rw [if_pos rfl] at H; exact H
                        clear H
                        have H := H1
                        clear H1
                        by_cases c15 : x8_1 > 0
                        · rw [if_pos c15] at H
                          have c15b0 : decide (0 < x8_1) = true := decide_eq_true c15
                          clear c15
                          obtain ⟨ji16, hji16⟩ : ∃ j_ : Int, (wrap64 (x8_1 - 1)) = j_ := ⟨_, rfl⟩
                          replace H : (if 0 ≤ (ji16) then (if (ji16) < (t145.length : Int) then (if ((rd_T34 t145 (ji16)).f0) ≥ 81 then (if ((rd_T34 t145 (ji16)).f0) ≤ 96 then (spec_SigOps.l0 kj10 true t145 (wrap64 (x7_1 + (wrap64 ((wrap64 (((rd_T34 t145 (ji16)).f0) - 81)) + 1)))) (wrap64 (x8_1 + 1))) else (spec_SigOps.l0 kj10 true t145 (wrap64 (x7_1 + 20)) (wrap64 (x8_1 + 1)))) else (spec_SigOps.l0 kj10 true t145 (wrap64 (x7_1 + 20)) (wrap64 (x8_1 + 1)))) else (none)) else (none)) = some r := by first | (rw [hji16] at H; exact H) | (simp only [hji16] at H ⊢; exact H)
                          have hji16w : (IntKind.i64.wrap (x8_1 - 1)) = ji16 := (i64_w _).trans hji16
                          by_cases c17 : 0 ≤ (ji16)
                          · rw [if_pos c17] at H
                            have c17b0 : decide (0 ≤ (ji16)) = true := decide_eq_true c17
                            clear c17
                            by_cases c18 : (ji16) < (t145.length : Int)
                            · rw [if_pos c18] at H
                              have c18b0 : decide ((ji16) < (t145.length : Int)) = true := decide_eq_true c18
                              clear c18
                              by_cases c19 : ((rd_T34 t145 (ji16)).f0) ≥ 81
                              · rw [if_pos c19] at H
                                have c19b0 : decide (81 ≤ ((rd_T34 t145 (ji16)).f0)) = true := decide_eq_true c19
                                clear c19
                                by_cases c20 : ((rd_T34 t145 (ji16)).f0) ≤ 96
                                · rw [if_pos c20] at H
                                  have c20b0 : decide (((rd_T34 t145 (ji16)).f0) ≤ 96) = true := decide_eq_true c20
                                  clear c20
                                  have H' := Aside0.mk H
                                  clear H
                                  have p150 : 0 ≤ ((ji16) : Int) := of_decide_eq_true (by first | (with_reducible assumption) | assumption)
                                  have q150 : (ji16) < (t145.length : Int) := of_decide_eq_true (by first | (with_reducible assumption) | assumption)
                                  obtain ⟨ad150, A150_1, c150_1, e150, hx150_0, hx150_1, hx150_2, hl150_1, hi150_1⟩ := at_T34 (Kd.N_reads' HO_5.out).2.2 (ji16) p150 q150
                                  obtain rfl : ad149 = ad150 := (by injection e150)
                                  obtain ⟨ce150, hce150, hMe150, hcc150⟩ := Kd.N_get HO_5.out z34 (ji16) p150 (by first | exact q150 | exact of_decide_eq_true (by first | (with_reducible assumption) | assumption) | (have e_ := (Kd.N_reads' HO_5.out).1; omega))
                                  obtain ⟨ua150_1, uc150_1, rfl, ul150_1, ge150_1⟩ := k34_openF hMe150
                                  have hv150_1 := hcc150 1 _ rfl
                                  rw [add_field _ _ 1 (by omega)] at hv150_1
                                  replace hv150_1 := Option.some.inj (hv150_1.symm.trans hx150_1)
                                  injection hv150_1 with hva_ hvn_ hvc_
                                  rw [hva_] at ge150_1
                                  rw [hvc_] at ul150_1
                                  have HL150_1 := Aside0.mk (show Kd.V (Kd.int .u8) 5 _ w.heap.size _ _ ((rd_T34 t145 (ji16)).f1) from Kd.V_mk ul150_1 ge150_1)
                                  clear hva_ hvn_ hvc_ ge150_1 ul150_1
                                  clear hcc150 hce150
                                  have HR150_1 := Aside0.mk hi150_1
                                  have HC150_1 := Aside0.mk hl150_1
                                  clear hi150_1 hl150_1
                                  replace p150 := eq_true p150
                                  replace q150 := eq_true q150
                                  have p151 : 0 ≤ ((ji16) : Int) := of_decide_eq_true (by first | (with_reducible assumption) | assumption)
                                  have q151 : (ji16) < (t145.length : Int) := of_decide_eq_true (by first | (with_reducible assumption) | assumption)
                                  obtain ⟨ad151, A151_1, c151_1, e151, hx151_0, hx151_1, hx151_2, hl151_1, hi151_1⟩ := at_T34 (Kd.N_reads' HO_5.out).2.2 (ji16) p151 q151
                                  obtain rfl : ad149 = ad151 := (by injection e151)
                                  obtain ⟨ce151, hce151, hMe151, hcc151⟩ := Kd.N_get HO_5.out z34 (ji16) p151 (by first | exact q151 | exact of_decide_eq_true (by first | (with_reducible assumption) | assumption) | (have e_ := (Kd.N_reads' HO_5.out).1; omega))
                                  obtain ⟨ua151_1, uc151_1, rfl, ul151_1, ge151_1⟩ := k34_openF hMe151
                                  have hv151_1 := hcc151 1 _ rfl
                                  rw [add_field _ _ 1 (by omega)] at hv151_1
                                  replace hv151_1 := Option.some.inj (hv151_1.symm.trans hx151_1)
                                  injection hv151_1 with hva_ hvn_ hvc_
                                  rw [hva_] at ge151_1
                                  rw [hvc_] at ul151_1
                                  have HL151_1 := Aside0.mk (show Kd.V (Kd.int .u8) 5 _ w.heap.size _ _ ((rd_T34 t145 (ji16)).f1) from Kd.V_mk ul151_1 ge151_1)
                                  clear hva_ hvn_ hvc_ ge151_1 ul151_1
                                  clear hcc151 hce151
                                  have HR151_1 := Aside0.mk hi151_1
                                  have HC151_1 := Aside0.mk hl151_1
                                  clear hi151_1 hl151_1
                                  replace p151 := eq_true p151
                                  replace q151 := eq_true q151
                                  have ea_ := Option.some.inj (hx150_1.symm.trans hx151_1)
                                  injection ea_ with ea_ en_ ec_
                                  subst ea_
                                  subst ec_
                                  clear en_
                                  have p152 : 0 ≤ ((ji16) : Int) := of_decide_eq_true (by first | (with_reducible assumption) | assumption)
                                  have q152 : (ji16) < (t145.length : Int) := of_decide_eq_true (by first | (with_reducible assumption) | assumption)
                                  obtain ⟨ad152, A152_1, c152_1, e152, hx152_0, hx152_1, hx152_2, hl152_1, hi152_1⟩ := at_T34 (Kd.N_reads' HO_5.out).2.2 (ji16) p152 q152
                                  obtain rfl : ad149 = ad152 := (by injection e152)
                                  obtain ⟨ce152, hce152, hMe152, hcc152⟩ := Kd.N_get HO_5.out z34 (ji16) p152 (by first | exact q152 | exact of_decide_eq_true (by first | (with_reducible assumption) | assumption) | (have e_ := (Kd.N_reads' HO_5.out).1; omega))
                                  obtain ⟨ua152_1, uc152_1, rfl, ul152_1, ge152_1⟩ := k34_openF hMe152
                                  have hv152_1 := hcc152 1 _ rfl
                                  rw [add_field _ _ 1 (by omega)] at hv152_1
                                  replace hv152_1 := Option.some.inj (hv152_1.symm.trans hx152_1)
                                  injection hv152_1 with hva_ hvn_ hvc_
                                  rw [hva_] at ge152_1
                                  rw [hvc_] at ul152_1
                                  have HL152_1 := Aside0.mk (show Kd.V (Kd.int .u8) 5 _ w.heap.size _ _ ((rd_T34 t145 (ji16)).f1) from Kd.V_mk ul152_1 ge152_1)
                                  clear hva_ hvn_ hvc_ ge152_1 ul152_1
                                  clear hcc152 hce152
                                  have HR152_1 := Aside0.mk hi152_1
                                  have HC152_1 := Aside0.mk hl152_1
                                  clear hi152_1 hl152_1
                                  replace p152 := eq_true p152
                                  replace q152 := eq_true q152
                                  have ea_ := Option.some.inj (hx150_1.symm.trans hx152_1)
                                  injection ea_ with ea_ en_ ec_
                                  subst ea_
                                  subst ec_
                                  clear en_
                                  go_wp2
                                  go_roundg kj10
                                  case measure => have := HK1.out; have := HJ6.out; have := HJ10.out; omega
                                  case rel => exact ⟨(wrap64 (x7_1 + (wrap64 ((wrap64 (((rd_T34 t145 (ji16)).f0) - 81)) + 1)))), (wrap64 (x8_1 + 1)), (by first | rfl | (simp; done) | (simp only [← hji16] <;> (first | rfl | simp)) | (simp [*]; done)), (by first | rfl | (simp; done) | (simp [*]; done) | (simp [show wrap64 1 = 1 by unfold wrap64; decide, *]; done)), (by first | exact H' | (subst_vars; exact H')), ⟨by have := HK1.out; have := HJ6.out; have := HJ10.out; omega⟩, ⟨by (with_reducible repeat (first | apply Kd.N_alloc | apply Kd.N_drewN | apply Kd.N_drew)); exact HO_5.out⟩, ⟨by repeat (first | (with_reducible first | exact HB.out | apply below_alloc | apply pw_below_drewN | apply below_drew1) | exact HB.out)⟩⟩
                                · rw [if_neg c20] at H
                                  have c20b0 : decide (((rd_T34 t145 (ji16)).f0) ≤ 96) = false := decide_eq_false c20
                                  clear c20
                                  have H' := Aside0.mk H
                                  clear H
                                  have p150 : 0 ≤ ((ji16) : Int) := of_decide_eq_true (by first | (with_reducible assumption) | assumption)
                                  have q150 : (ji16) < (t145.length : Int) := of_decide_eq_true (by first | (with_reducible assumption) | assumption)
                                  obtain ⟨ad150, A150_1, c150_1, e150, hx150_0, hx150_1, hx150_2, hl150_1, hi150_1⟩ := at_T34 (Kd.N_reads' HO_5.out).2.2 (ji16) p150 q150
                                  obtain rfl : ad149 = ad150 := (by injection e150)
                                  obtain ⟨ce150, hce150, hMe150, hcc150⟩ := Kd.N_get HO_5.out z34 (ji16) p150 (by first | exact q150 | exact of_decide_eq_true (by first | (with_reducible assumption) | assumption) | (have e_ := (Kd.N_reads' HO_5.out).1; omega))
                                  obtain ⟨ua150_1, uc150_1, rfl, ul150_1, ge150_1⟩ := k34_openF hMe150
                                  have hv150_1 := hcc150 1 _ rfl
                                  rw [add_field _ _ 1 (by omega)] at hv150_1
                                  replace hv150_1 := Option.some.inj (hv150_1.symm.trans hx150_1)
                                  injection hv150_1 with hva_ hvn_ hvc_
                                  rw [hva_] at ge150_1
                                  rw [hvc_] at ul150_1
                                  have HL150_1 := Aside0.mk (show Kd.V (Kd.int .u8) 5 _ w.heap.size _ _ ((rd_T34 t145 (ji16)).f1) from Kd.V_mk ul150_1 ge150_1)
                                  clear hva_ hvn_ hvc_ ge150_1 ul150_1
                                  clear hcc150 hce150
                                  have HR150_1 := Aside0.mk hi150_1
                                  have HC150_1 := Aside0.mk hl150_1
                                  clear hi150_1 hl150_1
                                  replace p150 := eq_true p150
                                  replace q150 := eq_true q150
                                  have p151 : 0 ≤ ((ji16) : Int) := of_decide_eq_true (by first | (with_reducible assumption) | assumption)
                                  have q151 : (ji16) < (t145.length : Int) := of_decide_eq_true (by first | (with_reducible assumption) | assumption)
                                  obtain ⟨ad151, A151_1, c151_1, e151, hx151_0, hx151_1, hx151_2, hl151_1, hi151_1⟩ := at_T34 (Kd.N_reads' HO_5.out).2.2 (ji16) p151 q151
                                  obtain rfl : ad149 = ad151 := (by injection e151)
                                  obtain ⟨ce151, hce151, hMe151, hcc151⟩ := Kd.N_get HO_5.out z34 (ji16) p151 (by first | exact q151 | exact of_decide_eq_true (by first | (with_reducible assumption) | assumption) | (have e_ := (Kd.N_reads' HO_5.out).1; omega))
                                  obtain ⟨ua151_1, uc151_1, rfl, ul151_1, ge151_1⟩ := k34_openF hMe151
                                  have hv151_1 := hcc151 1 _ rfl
                                  rw [add_field _ _ 1 (by omega)] at hv151_1
                                  replace hv151_1 := Option.some.inj (hv151_1.symm.trans hx151_1)
                                  injection hv151_1 with hva_ hvn_ hvc_
                                  rw [hva_] at ge151_1
                                  rw [hvc_] at ul151_1
                                  have HL151_1 := Aside0.mk (show Kd.V (Kd.int .u8) 5 _ w.heap.size _ _ ((rd_T34 t145 (ji16)).f1) from Kd.V_mk ul151_1 ge151_1)
                                  clear hva_ hvn_ hvc_ ge151_1 ul151_1
                                  clear hcc151 hce151
                                  have HR151_1 := Aside0.mk hi151_1
                                  have HC151_1 := Aside0.mk hl151_1
                                  clear hi151_1 hl151_1
                                  replace p151 := eq_true p151
                                  replace q151 := eq_true q151
                                  have ea_ := Option.some.inj (hx150_1.symm.trans hx151_1)
                                  injection ea_ with ea_ en_ ec_
                                  subst ea_
                                  subst ec_
                                  clear en_
                                  go_wp2
                                  go_roundg kj10
                                  case measure => have := HK1.out; have := HJ6.out; have := HJ10.out; omega
                                  case rel => exact ⟨(wrap64 (x7_1 + 20)), (wrap64 (x8_1 + 1)), (by first | rfl | (simp; done) | (simp [*]; done) | (simp [show wrap64 1 = 1 by unfold wrap64; decide, *]; done)), (by first | rfl | (simp; done) | (simp [*]; done) | (simp [show wrap64 1 = 1 by unfold wrap64; decide, *]; done)), (by first | exact H' | (subst_vars; exact H')), ⟨by have := HK1.out; have := HJ6.out; have := HJ10.out; omega⟩, ⟨by (with_reducible repeat (first | apply Kd.N_alloc | apply Kd.N_drewN | apply Kd.N_drew)); exact HO_5.out⟩, ⟨by repeat (first | (with_reducible first | exact HB.out | apply below_alloc | apply pw_below_drewN | apply below_drew1) | exact HB.out)⟩⟩
                              · rw [if_neg c19] at H
                                have c19b0 : decide (81 ≤ ((rd_T34 t145 (ji16)).f0)) = false := decide_eq_false c19
                                clear c19
                                have H' := Aside0.mk H
                                clear H
                                have p150 : 0 ≤ ((ji16) : Int) := of_decide_eq_true (by first | (with_reducible assumption) | assumption)
                                have q150 : (ji16) < (t145.length : Int) := of_decide_eq_true (by first | (with_reducible assumption) | assumption)
                                obtain ⟨ad150, A150_1, c150_1, e150, hx150_0, hx150_1, hx150_2, hl150_1, hi150_1⟩ := at_T34 (Kd.N_reads' HO_5.out).2.2 (ji16) p150 q150
                                obtain rfl : ad149 = ad150 := (by injection e150)
                                obtain ⟨ce150, hce150, hMe150, hcc150⟩ := Kd.N_get HO_5.out z34 (ji16) p150 (by first | exact q150 | exact of_decide_eq_true (by first | (with_reducible assumption) | assumption) | (have e_ := (Kd.N_reads' HO_5.out).1; omega))
                                obtain ⟨ua150_1, uc150_1, rfl, ul150_1, ge150_1⟩ := k34_openF hMe150
                                have hv150_1 := hcc150 1 _ rfl
                                rw [add_field _ _ 1 (by omega)] at hv150_1
                                replace hv150_1 := Option.some.inj (hv150_1.symm.trans hx150_1)
                                injection hv150_1 with hva_ hvn_ hvc_
                                rw [hva_] at ge150_1
                                rw [hvc_] at ul150_1
                                have HL150_1 := Aside0.mk (show Kd.V (Kd.int .u8) 5 _ w.heap.size _ _ ((rd_T34 t145 (ji16)).f1) from Kd.V_mk ul150_1 ge150_1)
                                clear hva_ hvn_ hvc_ ge150_1 ul150_1
                                clear hcc150 hce150
                                have HR150_1 := Aside0.mk hi150_1
                                have HC150_1 := Aside0.mk hl150_1
                                clear hi150_1 hl150_1
                                replace p150 := eq_true p150
                                replace q150 := eq_true q150
                                go_wp2
                                go_roundg kj10
                                case measure => have := HK1.out; have := HJ6.out; have := HJ10.out; omega
                                case rel => exact ⟨(wrap64 (x7_1 + 20)), (wrap64 (x8_1 + 1)), (by first | rfl | (simp; done) | (simp [*]; done) | (simp [show wrap64 1 = 1 by unfold wrap64; decide, *]; done)), (by first | rfl | (simp; done) | (simp [*]; done) | (simp [show wrap64 1 = 1 by unfold wrap64; decide, *]; done)), (by first | exact H' | (subst_vars; exact H')), ⟨by have := HK1.out; have := HJ6.out; have := HJ10.out; omega⟩, ⟨by (with_reducible repeat (first | apply Kd.N_alloc | apply Kd.N_drewN | apply Kd.N_drew)); exact HO_5.out⟩, ⟨by repeat (first | (with_reducible first | exact HB.out | apply below_alloc | apply pw_below_drewN | apply below_drew1) | exact HB.out)⟩⟩
                            · rw [if_neg c18] at H
                              exact absurd H (by simp)
                          · rw [if_neg c17] at H
                            exact absurd H (by simp)
                        · rw [if_neg c15] at H
                          have c15b0 : decide (0 < x8_1) = false := decide_eq_false c15
                          clear c15
                          have H' := Aside0.mk H
                          clear H
                          go_wp2
                          go_roundg kj10
                          case measure => have := HK1.out; have := HJ6.out; have := HJ10.out; omega
                          case rel => exact ⟨(wrap64 (x7_1 + 20)), (wrap64 (x8_1 + 1)), (by first | rfl | (simp; done) | (simp [*]; done) | (simp [show wrap64 1 = 1 by unfold wrap64; decide, *]; done)), (by first | rfl | (simp; done) | (simp [*]; done) | (simp [show wrap64 1 = 1 by unfold wrap64; decide, *]; done)), (by first | exact H' | (subst_vars; exact H')), ⟨by have := HK1.out; have := HJ6.out; have := HJ10.out; omega⟩, ⟨by (with_reducible repeat (first | apply Kd.N_alloc | apply Kd.N_drewN | apply Kd.N_drew)); exact HO_5.out⟩, ⟨by repeat (first | (with_reducible first | exact HB.out | apply below_alloc | apply pw_below_drewN | apply below_drew1) | exact HB.out)⟩⟩
                      · replace c14 := Bool.eq_false_iff.mpr c14
                        subst c14
                        have H1 : (spec_SigOps.l0 kj10 false t145 (wrap64 (x7_1 + 20)) (wrap64 (x8_1 + 1))) = some r := by rw [if_neg (show ¬ (false = true) by decide)] at H; exact H
                        clear H
                        have H := H1
                        clear H1
                        have H' := Aside0.mk H
                        clear H
                        go_wp2
                        go_roundg kj10
                        case measure => have := HK1.out; have := HJ6.out; have := HJ10.out; omega
                        case rel => exact ⟨(wrap64 (x7_1 + 20)), (wrap64 (x8_1 + 1)), (by first | rfl | (simp; done) | (simp [*]; done) | (simp [show wrap64 1 = 1 by unfold wrap64; decide, *]; done)), (by first | rfl | (simp; done) | (simp [*]; done) | (simp [show wrap64 1 = 1 by unfold wrap64; decide, *]; done)), (by first | exact H' | (subst_vars; exact H')), ⟨by have := HK1.out; have := HJ6.out; have := HJ10.out; omega⟩, ⟨by (with_reducible repeat (first | apply Kd.N_alloc | apply Kd.N_drewN | apply Kd.N_drew)); exact HO_5.out⟩, ⟨by repeat (first | (with_reducible first | exact HB.out | apply below_alloc | apply pw_below_drewN | apply below_drew1) | exact HB.out)⟩⟩
                    · replace c13 := Bool.eq_false_iff.mpr c13
                      subst c13
                      have H1 : (spec_SigOps.l0 kj10 a1 t145 x7_1 (wrap64 (x8_1 + 1))) = some r := by rw [if_neg (show ¬ (false = true) by decide)] at H; exact H
                      clear H
                      have H := H1
                      clear H1
                      have H' := Aside0.mk H
                      clear H
                      go_wp2
                      go_roundg kj10
                      case measure => have := HK1.out; have := HJ6.out; have := HJ10.out; omega
                      case rel => exact ⟨(x7_1), (wrap64 (x8_1 + 1)), (by first | rfl | (simp; done) | (simp [*]; done) | (simp [show wrap64 1 = 1 by unfold wrap64; decide, *]; done)), (by first | rfl | (simp; done) | (simp [*]; done) | (simp [show wrap64 1 = 1 by unfold wrap64; decide, *]; done)), (by first | exact H' | (subst_vars; exact H')), ⟨by have := HK1.out; have := HJ6.out; have := HJ10.out; omega⟩, ⟨by (with_reducible repeat (first | apply Kd.N_alloc | apply Kd.N_drewN | apply Kd.N_drew)); exact HO_5.out⟩, ⟨by repeat (first | (with_reducible first | exact HB.out | apply below_alloc | apply pw_below_drewN | apply below_drew1) | exact HB.out)⟩⟩
        · rw [if_neg c6] at H
          exact absurd H (by simp)
      · rw [if_neg c5] at H
        have c5b0 : decide (x8_1 < (t145.length : Int)) = false := decide_eq_false c5
        clear c5
        obtain rfl := Option.some.inj H
        obtain ⟨Ao21, co21, eo21⟩ := Kd.N_slice HO_5.out
        subst eo21
        go_wp2
        go_ret
        exact ⟨by first | rfl | (simp [errW_none, errW_some] <;> rfl) | (simp [*, errW_none, errW_some] <;> rfl), by repeat (first | (with_reducible first | exact HB.out | apply below_alloc | apply pw_below_drewN | apply below_drew1) | exact HB.out)⟩

/-! ### spec_Pushes: function 40 -/
def spec_Pushes.f (a0_0 : Int) (l0_1 : List Int) (a0_2 : Int) : Option (Bool) := some (decide (a0_0 ≤ 96))
set_option maxHeartbeats 8000000 in
set_option maxRecDepth 100000 in
theorem spec_Pushes.calls (a0_0 : Int) (A0_1 : Option Addr) (c0_1 : Nat) (l0_1 : List Int) (a0_2 : Int) (r : Bool) (w : World) (hr0_1 : Kd.C (Kd.int .u8) w A0_1 l0_1.length l0_1) (hc0_1 : l0_1.length ≤ c0_1) (h : spec_Pushes.f a0_0 l0_1 a0_2 = some r) :
    Calls Try.prog 40 #[.agg #[.int .i64 a0_0, .slice A0_1 l0_1.length c0_1, .int .i64 a0_2]] w fun e w' => e = .returned (.bool r) ∧ Below w.heap.size w w' := by
  have hu34 := Try.underlying34
  have HR0_1 := Aside0.mk hr0_1
  have HC0_1 := Aside0.mk hc0_1
  clear hr0_1 hc0_1
  have HB := Aside0.mk (Below.refl w.heap.size w)
  have H : (some (decide (a0_0 ≤ 96))) = some r := h
  clear h
  obtain rfl := Option.some.inj H
  go_enter Try.func40, Try.ntmps40
  go_wp2_with (first | ((with_reducible refine gate_dst (N := 1) rfl ?_); refine box_event ?hg (N := 1) ?hd (cs := #[.int .i64 a0_0, .slice A0_1 l0_1.length c0_1, .int .i64 a0_2]) (t := 34) ?hr ?_; (case hd => rfl); (case hg => rfl); (case hr => first | (go_simp; done) | (go_simp; rfl)); intro gb153 hg w2 hbox hb; have n0_ := Aside0.mk (below_step (by repeat (first | (with_reducible first | exact HB.out | apply below_alloc | apply pw_below_drewN | apply below_drew1) | exact HB.out)) hb); have n1_ := Aside0.mk (hbox); have n2_ := Aside0.mk ((by rw [hg]; exact (below_size (by repeat (first | (with_reducible first | exact HB.out | apply below_alloc | apply pw_below_drewN | apply below_drew1) | exact HB.out))) : w.heap.size ≤ gb153)); have n3_ := Aside0.mk ((by rw [hg]; exact (below_size (by repeat (first | (with_reducible first | exact HB.out | apply below_alloc | apply pw_below_drewN | apply below_drew1) | exact HB.out))) : w.heap.size ≤ gb153)); clear HB; have HB := n0_; have BK153 := n1_; have GW153 := n2_; have GE153 := n3_; clear n0_ n1_ n2_ n3_; clear hb hbox hg; have hcz3_0 : w2.cell? ⟨gb153, 0, none⟩ = some (.int .i64 a0_0) := (blk_cell BK153.out 0).trans rfl; have hcz3_1 : w2.cell? ⟨gb153, 1, none⟩ = some (.slice A0_1 l0_1.length c0_1) := (blk_cell BK153.out 1).trans rfl; have hcz3_2 : w2.cell? ⟨gb153, 2, none⟩ = some (.int .i64 a0_2) := (blk_cell BK153.out 2).trans rfl; have hfz3_0 := blk_frozen BK153.out 0; have hfz3_1 := blk_frozen BK153.out 1; have hfz3_2 := blk_frozen BK153.out 2))
  go_ret
  exact ⟨by first | rfl | (simp [errW_none, errW_some] <;> rfl) | (simp [*, errW_none, errW_some] <;> rfl), by repeat (first | (with_reducible first | exact HB.out | apply below_alloc | apply pw_below_drewN | apply below_drew1 | refine below_set ?_ GE153.out) | exact HB.out)⟩

/-! ### spec_PushOnly: function 29 -/
def spec_PushOnly.l0 : Nat → List (S34) → Int → Int → Option (Bool)
  | 0, _, _, _ => none
  | k + 1, x3, x4, x5 => if x5 < (x3.length : Int) then (if 0 ≤ x5 then ((spec_Pushes.f ((rd_T34 x3 x5).f0) ((rd_T34 x3 x5).f1) ((rd_T34 x3 x5).f2)).bind fun t159 => (if t159 = true then (spec_PushOnly.l0 k x3 x4 (wrap64 (x5 + 1))) else (some false))) else (none)) else (some (decide (x4 < 0)))
def spec_PushOnly.f (k : Nat) (l0 : List Int) : Option (Bool) := (spec_Tokens.f k l0).bind fun bt154 => (spec_PushOnly.l0 k bt154.1 bt154.2 0)
theorem spec_PushOnly.mono_l : ∀ k, (∀ y0 y1 y2, LeO (spec_PushOnly.l0 k y0 y1 y2) (spec_PushOnly.l0 (k + 1) y0 y1 y2))
  | 0 => fun _ _ _ r h => by simp [spec_PushOnly.l0] at h
  | k + 1 => by
    have ih0 := spec_PushOnly.mono_l k
    · intro y0 y1 y2
      unfold spec_PushOnly.l0
      repeat' first
      | (with_reducible exact ih0 _ _ _)
      | (with_reducible exact spec_Tokens.mono _ _)
      | (with_reducible exact LeO.refl _)
      | (with_reducible exact LeO.none _)
      | (with_reducible refine LeO.ite ?_ ?_)
      | (with_reducible refine LeO.bind ?_ (fun _ => ?_))
      | exact ih0 _ _ _
      | exact spec_Tokens.mono _ _
      | exact LeO.none _
      | refine LeO.ite ?_ ?_
      | refine LeO.bind ?_ (fun _ => ?_)
theorem spec_PushOnly.mono : ∀ a0 k, LeO (spec_PushOnly.f k a0) (spec_PushOnly.f (k + 1) a0) := by
  intro a0 k
  have ih0 := spec_PushOnly.mono_l k
  unfold spec_PushOnly.f
  repeat' first
      | (with_reducible exact ih0 _ _ _)
      | (with_reducible exact spec_Tokens.mono _ _)
      | (with_reducible exact LeO.refl _)
      | (with_reducible exact LeO.none _)
      | (with_reducible refine LeO.ite ?_ ?_)
      | (with_reducible refine LeO.bind ?_ (fun _ => ?_))
      | exact ih0 _ _ _
      | exact spec_Tokens.mono _ _
      | exact LeO.none _
      | refine LeO.ite ?_ ?_
      | refine LeO.bind ?_ (fun _ => ?_)
set_option maxHeartbeats 8000000 in
set_option maxRecDepth 100000 in
theorem spec_PushOnly.calls (k : Nat) (A0 : Option Addr) (c0 : Nat) (l0 : List Int) (r : Bool) (w : World) (hr0 : Kd.C (Kd.int .u8) w A0 l0.length l0) (hc0 : l0.length ≤ c0) (h : spec_PushOnly.f k l0 = some r) :
    Calls Try.prog 29 #[.slice A0 l0.length c0] w fun e w' => e = .returned (.bool r) ∧ Below w.heap.size w w' := by
  have hu34 := Try.underlying34
  have HR0 := Aside0.mk hr0
  have HC0 := Aside0.mk hc0
  clear hr0 hc0
  have HB := Aside0.mk (Below.refl w.heap.size w)
  have H : ((spec_Tokens.f k l0).bind fun bt154 => (spec_PushOnly.l0 k bt154.1 bt154.2 0)) = some r := h
  clear h
  replace H := Option.bind_eq_some_iff.mp H
  obtain ⟨⟨t154, t157⟩, A20, H⟩ := H
  replace H : (spec_PushOnly.l0 k t154 t157 0) = some r := H
  have A2 := Aside0.mk A20
  clear A20
  have H' := Aside0.mk H
  clear H
  go_enter Try.func29, Try.ntmps29
  go_wp2_with (first | ((with_reducible refine gate_callee (f := 11) rfl ?_); refine goesL_ (some 8) rfl rfl Try.func11 (by kernel_rfl) rfl #[.slice A0 l0.length c0] rfl (by (try simp only [List.map_toArray, List.map_cons, List.map_nil]); first | done | rfl | (simp only [List.length_drop, List.length_take]; rfl)) ?_; (with_reducible refine (spec_Tokens.calls k (fun k_ => k_ < w.heap.size) _ _ l0 t154 t157 _ ?side1 A2.out).mono ?_); (case side1 => exact Kd.V_mk HC0.out (Kd.F_below (Kd.C_F (Kd.heap_int .u8) HR0.out) (by repeat (first | (with_reducible first | exact HB.out | apply below_alloc | apply pw_below_drewN | apply below_drew1) | exact HB.out)))); rintro e w3 ⟨v155, rfl, ho0, hb⟩; refine ⟨_, rfl, ?_⟩; have n0_ := Aside0.mk (Kd.N_lower (Kd.N_mono (ok' := fun k_ => True) ho0 (fun k_ hk_ => trivial)) (below_size (by repeat (first | (with_reducible first | exact HB.out | apply below_alloc | apply pw_below_drewN | apply below_drew1) | exact HB.out)))); have n1_ := Aside0.mk (below_step (by repeat (first | (with_reducible first | exact HB.out | apply below_alloc | apply pw_below_drewN | apply below_drew1) | exact HB.out)) hb); clear HB; have HO156 := n0_; have HB := n1_; clear n0_ n1_; (try clear hb); (try clear hb2); (try clear hk); (try clear hi); (try clear ho0)))
  go_loopg [5] k (fun kq v5 w' => ∃ (x5_1 : Int), v5 = .int .i64 x5_1 ∧ Aside0 (spec_PushOnly.l0 kq t154 t157 x5_1 = some r) ∧ Aside0 (kq ≤ k) ∧ Aside0 (Kd.N k34 34 w' w.heap.size (fun _ => True) v155 t154) ∧ Aside0 (Below w.heap.size w w'))
  case atStart => exact ⟨(0), (by first | rfl | (simp; done) | (simp [*]; done) | (simp [show wrap64 1 = 1 by unfold wrap64; decide, *]; done)), H', ⟨Nat.le_refl _⟩, ⟨by (with_reducible repeat (first | apply Kd.N_alloc | apply Kd.N_drewN | apply Kd.N_drew)); exact HO156.out⟩, ⟨by repeat (first | (with_reducible first | exact HB.out | apply below_alloc | apply pw_below_drewN | apply below_drew1) | exact HB.out)⟩⟩
  case round =>
    clear H'
    try clear c1
    try clear c2
    try clear p2
    obtain ⟨x5_1, rfl, HA, HK1, HO_3, HB⟩ := hrel
    cases gk with
    | zero => exact absurd HA.out (by simp [spec_PushOnly.l0])
    | succ k1 =>
      have H := HA.out
      clear HA
      simp only [spec_PushOnly.l0] at H
      by_cases c4 : x5_1 < (t154.length : Int)
      · rw [if_pos c4] at H
        have c4b0 : decide (x5_1 < (t154.length : Int)) = true := decide_eq_true c4
        clear c4
        by_cases c5 : 0 ≤ x5_1
        · rw [if_pos c5] at H
          have c5b0 : decide (0 ≤ x5_1) = true := decide_eq_true c5
          clear c5
          replace H := Option.bind_eq_some_iff.mp H
          obtain ⟨t159, A60, H⟩ := H
          replace H : (if t159 = true then (spec_PushOnly.l0 k1 t154 t157 (wrap64 (x5_1 + 1))) else (some false)) = some r := H
          have A6 := Aside0.mk A60
          clear A60
          by_cases c7 : t159 = true
          · subst c7
            have H1 : (spec_PushOnly.l0 k1 t154 t157 (wrap64 (x5_1 + 1))) = some r := by rw [if_pos rfl] at H; exact H
            clear H
            have H := H1
            clear H1
            have H' := Aside0.mk H
            clear H
            obtain ⟨Ao8, co8, eo8⟩ := Kd.N_slice HO_3.out
            subst eo8
            have p158 : 0 ≤ (x5_1 : Int) := of_decide_eq_true (by first | (with_reducible assumption) | assumption)
            have q158 : x5_1 < (t154.length : Int) := of_decide_eq_true (by first | (with_reducible assumption) | assumption)
            obtain ⟨ad158, A158_1, c158_1, e158, hx158_0, hx158_1, hx158_2, hl158_1, hi158_1⟩ := at_T34 (Kd.N_reads' HO_3.out).2.2 x5_1 p158 q158
            cases e158
            obtain ⟨ce158, hce158, hMe158, hcc158⟩ := Kd.N_get HO_3.out z34 x5_1 p158 (by first | exact q158 | exact of_decide_eq_true (by first | (with_reducible assumption) | assumption) | (have e_ := (Kd.N_reads' HO_3.out).1; omega))
            obtain ⟨ua158_1, uc158_1, rfl, ul158_1, ge158_1⟩ := k34_openF hMe158
            have hv158_1 := hcc158 1 _ rfl
            rw [add_field _ _ 1 (by omega)] at hv158_1
            replace hv158_1 := Option.some.inj (hv158_1.symm.trans hx158_1)
            injection hv158_1 with hva_ hvn_ hvc_
            rw [hva_] at ge158_1
            rw [hvc_] at ul158_1
            have HL158_1 := Aside0.mk (show Kd.V (Kd.int .u8) 5 _ w.heap.size _ _ ((rd_T34 t154 x5_1).f1) from Kd.V_mk ul158_1 ge158_1)
            clear hva_ hvn_ hvc_ ge158_1 ul158_1
            clear hcc158 hce158
            have HR158_1 := Aside0.mk hi158_1
            have HC158_1 := Aside0.mk hl158_1
            clear hi158_1 hl158_1
            replace p158 := eq_true p158
            replace q158 := eq_true q158
            go_wp2_with (first | ((with_reducible refine gate_callee (f := 40) rfl ?_); refine goesL_ (some 21) rfl rfl Try.func40 (by kernel_rfl) rfl #[.agg #[.int .i64 ((rd_T34 t154 x5_1).f0), .slice A158_1 ((rd_T34 t154 x5_1).f1).length c158_1, .int .i64 ((rd_T34 t154 x5_1).f2)]] rfl (by (try simp only [List.map_toArray, List.map_cons, List.map_nil]); first | done | rfl | (simp only [List.length_drop, List.length_take]; rfl)) ?_; (with_reducible refine (spec_Pushes.calls ((rd_T34 t154 x5_1).f0) _ _ ((rd_T34 t154 x5_1).f1) ((rd_T34 t154 x5_1).f2) true _ ?side1 ?side2 A6.out).mono ?_); (case side1 => repeat (first | exact (by repeat (first | (with_reducible exact HR158_1.out) | (with_reducible refine Kd.C_alloc ?_ _) | (with_reducible refine Kd.C_drewN ?_ _) | (with_reducible refine Kd.C_drew ?_) | exact HR158_1.out)) | (with_reducible refine Kd.C_alloc ?_ _) | (with_reducible refine Kd.C_drewN ?_ _) | (with_reducible refine Kd.C_drew ?_))); (case side2 => exact HC158_1.out); rintro e w9 ⟨rfl, hb⟩; refine ⟨_, rfl, ?_⟩; have n0_ := Aside0.mk (Kd.N_below (by (with_reducible repeat (first | apply Kd.N_alloc | apply Kd.N_drewN | apply Kd.N_drew)); exact HO_3.out) hb); have n1_ := Aside0.mk (Kd.V_below (by (with_reducible repeat (first | apply Kd.V_alloc | apply Kd.V_drewN | apply Kd.V_drew)); exact HL158_1.out) hb); have n2_ := Aside0.mk (Kd.C_below (by repeat (first | (with_reducible exact HR158_1.out) | (with_reducible refine Kd.C_alloc ?_ _) | (with_reducible refine Kd.C_drewN ?_ _) | (with_reducible refine Kd.C_drew ?_) | exact HR158_1.out)) hb); have n3_ := Aside0.mk (below_step (by repeat (first | (with_reducible first | exact HB.out | apply below_alloc | apply pw_below_drewN | apply below_drew1) | exact HB.out)) hb); clear HO_3; clear HL158_1; clear HR158_1; clear HB; have HO_3 := n0_; have HL158_1 := n1_; have HR158_1 := n2_; have HB := n3_; clear n0_ n1_ n2_ n3_; (try clear hb); (try clear hb2); (try clear hk); (try clear hi)))
            go_roundg k1
            case measure => have := HK1.out; omega
            case rel => exact ⟨(wrap64 (x5_1 + 1)), (by first | rfl | (simp; done) | (simp [*]; done) | (simp [show wrap64 1 = 1 by unfold wrap64; decide, *]; done)), (by first | exact H' | (subst_vars; exact H')), ⟨by have := HK1.out; omega⟩, ⟨by (with_reducible repeat (first | apply Kd.N_alloc | apply Kd.N_drewN | apply Kd.N_drew)); exact HO_3.out⟩, ⟨by repeat (first | (with_reducible first | exact HB.out | apply below_alloc | apply pw_below_drewN | apply below_drew1) | exact HB.out)⟩⟩
          · replace c7 := Bool.eq_false_iff.mpr c7
            subst c7
            have H1 : (some false) = some r := by rw [if_neg (show ¬ (false = true) by decide)] at H; exact H
            clear H
            have H := H1
            clear H1
            obtain rfl := Option.some.inj H
            obtain ⟨Ao10, co10, eo10⟩ := Kd.N_slice HO_3.out
            subst eo10
            have p158 : 0 ≤ (x5_1 : Int) := of_decide_eq_true (by first | (with_reducible assumption) | assumption)
            have q158 : x5_1 < (t154.length : Int) := of_decide_eq_true (by first | (with_reducible assumption) | assumption)
            obtain ⟨ad158, A158_1, c158_1, e158, hx158_0, hx158_1, hx158_2, hl158_1, hi158_1⟩ := at_T34 (Kd.N_reads' HO_3.out).2.2 x5_1 p158 q158
            cases e158
            obtain ⟨ce158, hce158, hMe158, hcc158⟩ := Kd.N_get HO_3.out z34 x5_1 p158 (by first | exact q158 | exact of_decide_eq_true (by first | (with_reducible assumption) | assumption) | (have e_ := (Kd.N_reads' HO_3.out).1; omega))
            obtain ⟨ua158_1, uc158_1, rfl, ul158_1, ge158_1⟩ := k34_openF hMe158
            have hv158_1 := hcc158 1 _ rfl
            rw [add_field _ _ 1 (by omega)] at hv158_1
            replace hv158_1 := Option.some.inj (hv158_1.symm.trans hx158_1)
            injection hv158_1 with hva_ hvn_ hvc_
            rw [hva_] at ge158_1
            rw [hvc_] at ul158_1
            have HL158_1 := Aside0.mk (show Kd.V (Kd.int .u8) 5 _ w.heap.size _ _ ((rd_T34 t154 x5_1).f1) from Kd.V_mk ul158_1 ge158_1)
            clear hva_ hvn_ hvc_ ge158_1 ul158_1
            clear hcc158 hce158
            have HR158_1 := Aside0.mk hi158_1
            have HC158_1 := Aside0.mk hl158_1
            clear hi158_1 hl158_1
            replace p158 := eq_true p158
            replace q158 := eq_true q158
            go_wp2_with (first | ((with_reducible refine gate_callee (f := 40) rfl ?_); refine goesL_ (some 21) rfl rfl Try.func40 (by kernel_rfl) rfl #[.agg #[.int .i64 ((rd_T34 t154 x5_1).f0), .slice A158_1 ((rd_T34 t154 x5_1).f1).length c158_1, .int .i64 ((rd_T34 t154 x5_1).f2)]] rfl (by (try simp only [List.map_toArray, List.map_cons, List.map_nil]); first | done | rfl | (simp only [List.length_drop, List.length_take]; rfl)) ?_; (with_reducible refine (spec_Pushes.calls ((rd_T34 t154 x5_1).f0) _ _ ((rd_T34 t154 x5_1).f1) ((rd_T34 t154 x5_1).f2) false _ ?side1 ?side2 A6.out).mono ?_); (case side1 => repeat (first | exact (by repeat (first | (with_reducible exact HR158_1.out) | (with_reducible refine Kd.C_alloc ?_ _) | (with_reducible refine Kd.C_drewN ?_ _) | (with_reducible refine Kd.C_drew ?_) | exact HR158_1.out)) | (with_reducible refine Kd.C_alloc ?_ _) | (with_reducible refine Kd.C_drewN ?_ _) | (with_reducible refine Kd.C_drew ?_))); (case side2 => exact HC158_1.out); rintro e w11 ⟨rfl, hb⟩; refine ⟨_, rfl, ?_⟩; have n0_ := Aside0.mk (Kd.N_below (by (with_reducible repeat (first | apply Kd.N_alloc | apply Kd.N_drewN | apply Kd.N_drew)); exact HO_3.out) hb); have n1_ := Aside0.mk (Kd.V_below (by (with_reducible repeat (first | apply Kd.V_alloc | apply Kd.V_drewN | apply Kd.V_drew)); exact HL158_1.out) hb); have n2_ := Aside0.mk (Kd.C_below (by repeat (first | (with_reducible exact HR158_1.out) | (with_reducible refine Kd.C_alloc ?_ _) | (with_reducible refine Kd.C_drewN ?_ _) | (with_reducible refine Kd.C_drew ?_) | exact HR158_1.out)) hb); have n3_ := Aside0.mk (below_step (by repeat (first | (with_reducible first | exact HB.out | apply below_alloc | apply pw_below_drewN | apply below_drew1) | exact HB.out)) hb); clear HO_3; clear HL158_1; clear HR158_1; clear HB; have HO_3 := n0_; have HL158_1 := n1_; have HR158_1 := n2_; have HB := n3_; clear n0_ n1_ n2_ n3_; (try clear hb); (try clear hb2); (try clear hk); (try clear hi)))
            go_ret
            exact ⟨by first | rfl | (simp [errW_none, errW_some] <;> rfl) | (simp [*, errW_none, errW_some] <;> rfl), by repeat (first | (with_reducible first | exact HB.out | apply below_alloc | apply pw_below_drewN | apply below_drew1) | exact HB.out)⟩
        · rw [if_neg c5] at H
          exact absurd H (by simp)
      · rw [if_neg c4] at H
        have c4b0 : decide (x5_1 < (t154.length : Int)) = false := decide_eq_false c4
        clear c4
        obtain rfl := Option.some.inj H
        obtain ⟨Ao12, co12, eo12⟩ := Kd.N_slice HO_3.out
        subst eo12
        go_wp2
        go_ret
        exact ⟨by first | rfl | (simp [errW_none, errW_some] <;> rfl) | (simp [*, errW_none, errW_some] <;> rfl), by repeat (first | (with_reducible first | exact HB.out | apply below_alloc | apply pw_below_drewN | apply below_drew1) | exact HB.out)⟩

/-! ### spec_lastPush: function 20 -/
def spec_lastPush.f (k : Nat) (l0 : List Int) : Option (List Int × Bool) := (spec_Tokens.f k l0).bind fun bt160 => ((spec_PushOnly.f k l0).bind fun t164 => (if t164 = true then (if (bt160.1.length : Int) = 0 then (some (([] : List Int), false)) else (if 0 ≤ (wrap64 ((bt160.1.length : Int) - 1)) then (if (wrap64 ((bt160.1.length : Int) - 1)) < (bt160.1.length : Int) then (some ((rd_T34 bt160.1 (wrap64 ((bt160.1.length : Int) - 1))).f1, true)) else (none)) else (none))) else (some (([] : List Int), false))))
theorem spec_lastPush.mono : ∀ a0 k, LeO (spec_lastPush.f k a0) (spec_lastPush.f (k + 1) a0) := by
  intro a0 k
  unfold spec_lastPush.f
  repeat' first
      | (with_reducible exact spec_PushOnly.mono _ _)
      | (with_reducible exact spec_Tokens.mono _ _)
      | (with_reducible exact LeO.refl _)
      | (with_reducible exact LeO.none _)
      | (with_reducible refine LeO.ite ?_ ?_)
      | (with_reducible refine LeO.bind ?_ (fun _ => ?_))
      | exact spec_PushOnly.mono _ _
      | exact spec_Tokens.mono _ _
      | exact LeO.none _
      | refine LeO.ite ?_ ?_
      | refine LeO.bind ?_ (fun _ => ?_)
set_option maxHeartbeats 8000000 in
set_option maxRecDepth 100000 in
theorem spec_lastPush.calls (k : Nat) (P0_ : Nat → Prop) (A0 : Option Addr) (c0 : Nat) (l0 : List Int) (r1 : List Int) (r2 : Bool) (w : World) (hs0 : Kd.V (Kd.int .u8) 5 w w.heap.size (fun k_ => P0_ k_) (.slice A0 l0.length c0) l0) (h : spec_lastPush.f k l0 = some (r1, r2)) :
    Calls Try.prog 20 #[.slice A0 l0.length c0] w fun e w' => ∃ v0_ : Value, e = .returned (.tuple #[v0_, .bool r2]) ∧ Kd.V (Kd.int .u8) 5 w' w.heap.size (fun k_ => (P0_ k_ ∨ w.heap.size ≤ k_)) v0_ r1 ∧ Below w.heap.size w w' := by
  have HO0 := Aside0.mk (show Kd.V (Kd.int .u8) 5 w w.heap.size (fun k_ => (P0_ k_ ∨ w.heap.size ≤ k_)) (.slice A0 l0.length c0) l0 from Kd.V_mono hs0 (fun k_ hk => .inl hk))
  have HB := Aside0.mk (Below.refl w.heap.size w)
  have H : ((spec_Tokens.f k l0).bind fun bt160 => ((spec_PushOnly.f k l0).bind fun t164 => (if t164 = true then (if (bt160.1.length : Int) = 0 then (some (([] : List Int), false)) else (if 0 ≤ (wrap64 ((bt160.1.length : Int) - 1)) then (if (wrap64 ((bt160.1.length : Int) - 1)) < (bt160.1.length : Int) then (some ((rd_T34 bt160.1 (wrap64 ((bt160.1.length : Int) - 1))).f1, true)) else (none)) else (none))) else (some (([] : List Int), false))))) = some (r1, r2) := h
  clear h
  replace H := Option.bind_eq_some_iff.mp H
  obtain ⟨⟨t160, t163⟩, A20, H⟩ := H
  replace H : ((spec_PushOnly.f k l0).bind fun t164 => (if t164 = true then (if (t160.length : Int) = 0 then (some (([] : List Int), false)) else (if 0 ≤ (wrap64 ((t160.length : Int) - 1)) then (if (wrap64 ((t160.length : Int) - 1)) < (t160.length : Int) then (some ((rd_T34 t160 (wrap64 ((t160.length : Int) - 1))).f1, true)) else (none)) else (none))) else (some (([] : List Int), false)))) = some (r1, r2) := H
  have A2 := Aside0.mk A20
  clear A20
  replace H := Option.bind_eq_some_iff.mp H
  obtain ⟨t164, A30, H⟩ := H
  replace H : (if t164 = true then (if (t160.length : Int) = 0 then (some (([] : List Int), false)) else (if 0 ≤ (wrap64 ((t160.length : Int) - 1)) then (if (wrap64 ((t160.length : Int) - 1)) < (t160.length : Int) then (some ((rd_T34 t160 (wrap64 ((t160.length : Int) - 1))).f1, true)) else (none)) else (none))) else (some (([] : List Int), false))) = some (r1, r2) := H
  have A3 := Aside0.mk A30
  clear A30
  by_cases c4 : t164 = true
  · subst c4
    have H1 : (if (t160.length : Int) = 0 then (some (([] : List Int), false)) else (if 0 ≤ (wrap64 ((t160.length : Int) - 1)) then (if (wrap64 ((t160.length : Int) - 1)) < (t160.length : Int) then (some ((rd_T34 t160 (wrap64 ((t160.length : Int) - 1))).f1, true)) else (none)) else (none))) = some (r1, r2) := by rw [if_pos rfl] at H; exact H
    clear H
    have H := H1
    clear H1
    by_cases c5 : (t160.length : Int) = 0
    · rw [if_pos c5] at H
      have c5b0 : ((t160.length : Int) == 0) = true := beq_iff_eq.mpr c5
      have c5b1 : ((t160.length : Int) != 0) = false := bne_eq_false_iff_eq.mpr c5
      clear c5
      simp only [Option.some.injEq, Prod.mk.injEq] at H
      obtain ⟨rfl, rfl⟩ := H
      go_enter Try.func20, Try.ntmps20
      go_wp2_with (first | ((with_reducible refine gate_callee (f := 11) rfl ?_); refine goesL_ (some 8) rfl rfl Try.func11 (by kernel_rfl) rfl #[.slice A0 l0.length c0] rfl (by (try simp only [List.map_toArray, List.map_cons, List.map_nil]); first | done | rfl | (simp only [List.length_drop, List.length_take]; rfl)) ?_; (with_reducible refine (spec_Tokens.calls k (fun k_ => (P0_ k_ ∨ w.heap.size ≤ k_)) _ _ l0 t160 t163 _ ?side1 A2.out).mono ?_); (case side1 => exact HO0.out); rintro e w6 ⟨v161, rfl, ho0, hb⟩; refine ⟨_, rfl, ?_⟩; have n0_ := Aside0.mk (Kd.V_elder' (by (with_reducible repeat (first | apply Kd.V_alloc | apply Kd.V_drewN | apply Kd.V_drew)); exact HO0.out) (Kd.N_base ho0) hb); have n1_ := Aside0.mk (Kd.N_lower (Kd.N_mono (ok' := fun k_ => (P0_ k_ ∨ w.heap.size ≤ k_)) ho0 (fun k_ hk_ => Or.elim hk_ (fun hs_ => hs_) (fun hn_ => (.inr (Nat.le_trans (below_size (by repeat (first | (with_reducible first | exact HB.out | apply below_alloc | apply pw_below_drewN | apply below_drew1) | exact HB.out))) hn_))))) (below_size (by repeat (first | (with_reducible first | exact HB.out | apply below_alloc | apply pw_below_drewN | apply below_drew1) | exact HB.out)))); have n2_ := Aside0.mk (below_step (by repeat (first | (with_reducible first | exact HB.out | apply below_alloc | apply pw_below_drewN | apply below_drew1) | exact HB.out)) hb); clear HO0; clear HB; have HO0 := n0_; have HO162 := n1_; have HB := n2_; clear n0_ n1_ n2_; (try clear hb); (try clear hb2); (try clear hk); (try clear hi); (try clear ho0)) | ((with_reducible refine gate_callee (f := 29) rfl ?_); refine goesL_ (some 12) rfl rfl Try.func29 (by kernel_rfl) rfl #[.slice A0 l0.length c0] rfl (by (try simp only [List.map_toArray, List.map_cons, List.map_nil]); first | done | rfl | (simp only [List.length_drop, List.length_take]; rfl)) ?_; (with_reducible refine (spec_PushOnly.calls k _ _ l0 true _ ?side1 ?side2 A3.out).mono ?_); (case side1 => repeat (first | exact (Kd.V_reads' HO0.out).2.2 | (with_reducible refine Kd.C_alloc ?_ _) | (with_reducible refine Kd.C_drewN ?_ _) | (with_reducible refine Kd.C_drew ?_))); (case side2 => exact (Kd.V_reads' HO0.out).2.1); rintro e w7 ⟨rfl, hb⟩; refine ⟨_, rfl, ?_⟩; have n0_ := Aside0.mk (Kd.V_below (by (with_reducible repeat (first | apply Kd.V_alloc | apply Kd.V_drewN | apply Kd.V_drew)); exact HO0.out) hb); have n1_ := Aside0.mk (Kd.N_below (by (with_reducible repeat (first | apply Kd.N_alloc | apply Kd.N_drewN | apply Kd.N_drew)); exact HO162.out) hb); have n2_ := Aside0.mk (below_step (by repeat (first | (with_reducible first | exact HB.out | apply below_alloc | apply pw_below_drewN | apply below_drew1) | exact HB.out)) hb); clear HO0; clear HO162; clear HB; have HO0 := n0_; have HO162 := n1_; have HB := n2_; clear n0_ n1_ n2_; (try clear hb); (try clear hb2); (try clear hk); (try clear hi); obtain ⟨Ao8, co8, eo8⟩ := Kd.N_slice HO162.out; subst eo8))
      go_ret2
      exact ⟨_, by first | rfl | (simp [errW_none, errW_some] <;> rfl) | (simp [*, errW_none, errW_some] <;> rfl), Kd.V_nil _ _ _ _ _, by repeat (first | (with_reducible first | exact HB.out | apply below_alloc | apply pw_below_drewN | apply below_drew1) | exact HB.out)⟩
    · rw [if_neg c5] at H
      have c5b0 : ((t160.length : Int) == 0) = false := beq_eq_false_iff_ne.mpr c5
      have c5b1 : ((t160.length : Int) != 0) = true := bne_iff_ne.mpr c5
      have c5b2 : ¬ (t160 = []) := fun h_ => c5 (by rw [h_]; rfl)
      obtain ⟨ji9, hji9⟩ : ∃ j_ : Int, (wrap64 ((t160.length : Int) - 1)) = j_ := ⟨_, rfl⟩
      replace H : (if 0 ≤ (ji9) then (if (ji9) < (t160.length : Int) then (some ((rd_T34 t160 (ji9)).f1, true)) else (none)) else (none)) = some (r1, r2) := by first | (rw [hji9] at H; exact H) | (simp only [hji9] at H ⊢; exact H)
      (try rw [hji9] at A2)
      (try rw [hji9] at A3)
      have hji9w : (IntKind.i64.wrap ((t160.length : Int) - 1)) = ji9 := (i64_w _).trans hji9
      by_cases c10 : 0 ≤ (ji9)
      · rw [if_pos c10] at H
        have c10b0 : decide (0 ≤ (ji9)) = true := decide_eq_true c10
        clear c10
        by_cases c11 : (ji9) < (t160.length : Int)
        · rw [if_pos c11] at H
          have c11b0 : decide ((ji9) < (t160.length : Int)) = true := decide_eq_true c11
          clear c11
          simp only [Option.some.injEq, Prod.mk.injEq] at H
          obtain ⟨rfl, rfl⟩ := H
          go_enter Try.func20, Try.ntmps20
          go_wp2_with (first | ((with_reducible refine gate_callee (f := 11) rfl ?_); refine goesL_ (some 8) rfl rfl Try.func11 (by kernel_rfl) rfl #[.slice A0 l0.length c0] rfl (by (try simp only [List.map_toArray, List.map_cons, List.map_nil]); first | done | rfl | (simp only [List.length_drop, List.length_take]; rfl)) ?_; (with_reducible refine (spec_Tokens.calls k (fun k_ => (P0_ k_ ∨ w.heap.size ≤ k_)) _ _ l0 t160 t163 _ ?side1 A2.out).mono ?_); (case side1 => exact HO0.out); rintro e w12 ⟨v161, rfl, ho0, hb⟩; refine ⟨_, rfl, ?_⟩; have n0_ := Aside0.mk (Kd.V_elder' (by (with_reducible repeat (first | apply Kd.V_alloc | apply Kd.V_drewN | apply Kd.V_drew)); exact HO0.out) (Kd.N_base ho0) hb); have n1_ := Aside0.mk (Kd.N_lower (Kd.N_mono (ok' := fun k_ => (P0_ k_ ∨ w.heap.size ≤ k_)) ho0 (fun k_ hk_ => Or.elim hk_ (fun hs_ => hs_) (fun hn_ => (.inr (Nat.le_trans (below_size (by repeat (first | (with_reducible first | exact HB.out | apply below_alloc | apply pw_below_drewN | apply below_drew1) | exact HB.out))) hn_))))) (below_size (by repeat (first | (with_reducible first | exact HB.out | apply below_alloc | apply pw_below_drewN | apply below_drew1) | exact HB.out)))); have n2_ := Aside0.mk (below_step (by repeat (first | (with_reducible first | exact HB.out | apply below_alloc | apply pw_below_drewN | apply below_drew1) | exact HB.out)) hb); clear HO0; clear HB; have HO0 := n0_; have HO162 := n1_; have HB := n2_; clear n0_ n1_ n2_; (try clear hb); (try clear hb2); (try clear hk); (try clear hi); (try clear ho0)) | ((with_reducible refine gate_callee (f := 29) rfl ?_); refine goesL_ (some 12) rfl rfl Try.func29 (by kernel_rfl) rfl #[.slice A0 l0.length c0] rfl (by (try simp only [List.map_toArray, List.map_cons, List.map_nil]); first | done | rfl | (simp only [List.length_drop, List.length_take]; rfl)) ?_; (with_reducible refine (spec_PushOnly.calls k _ _ l0 true _ ?side1 ?side2 A3.out).mono ?_); (case side1 => repeat (first | exact (Kd.V_reads' HO0.out).2.2 | (with_reducible refine Kd.C_alloc ?_ _) | (with_reducible refine Kd.C_drewN ?_ _) | (with_reducible refine Kd.C_drew ?_))); (case side2 => exact (Kd.V_reads' HO0.out).2.1); rintro e w13 ⟨rfl, hb⟩; refine ⟨_, rfl, ?_⟩; have n0_ := Aside0.mk (Kd.V_below (by (with_reducible repeat (first | apply Kd.V_alloc | apply Kd.V_drewN | apply Kd.V_drew)); exact HO0.out) hb); have n1_ := Aside0.mk (Kd.N_below (by (with_reducible repeat (first | apply Kd.N_alloc | apply Kd.N_drewN | apply Kd.N_drew)); exact HO162.out) hb); have n2_ := Aside0.mk (below_step (by repeat (first | (with_reducible first | exact HB.out | apply below_alloc | apply pw_below_drewN | apply below_drew1) | exact HB.out)) hb); clear HO0; clear HO162; clear HB; have HO0 := n0_; have HO162 := n1_; have HB := n2_; clear n0_ n1_ n2_; (try clear hb); (try clear hb2); (try clear hk); (try clear hi); obtain ⟨Ao14, co14, eo14⟩ := Kd.N_slice HO162.out; subst eo14; have p165 : 0 ≤ ((ji9) : Int) := of_decide_eq_true (by first | (with_reducible assumption) | assumption); have q165 : (ji9) < (t160.length : Int) := of_decide_eq_true (by first | (with_reducible assumption) | assumption); obtain ⟨ad165, A165_1, c165_1, e165, hx165_0, hx165_1, hx165_2, hl165_1, hi165_1⟩ := at_T34 (Kd.N_reads' HO162.out).2.2 (ji9) p165 q165; cases e165; obtain ⟨ce165, hce165, hMe165, hcc165⟩ := Kd.N_get HO162.out z34 (ji9) p165 (by first | exact q165 | exact of_decide_eq_true (by first | (with_reducible assumption) | assumption) | (have e_ := (Kd.N_reads' HO162.out).1; omega)); obtain ⟨ua165_1, uc165_1, rfl, ul165_1, ge165_1⟩ := k34_openF hMe165; have hv165_1 := hcc165 1 _ rfl; rw [add_field _ _ 1 (by omega)] at hv165_1; replace hv165_1 := Option.some.inj (hv165_1.symm.trans hx165_1); injection hv165_1 with hva_ hvn_ hvc_; rw [hva_] at ge165_1; rw [hvc_] at ul165_1; have HL165_1 := Aside0.mk (show Kd.V (Kd.int .u8) 5 _ w.heap.size _ _ ((rd_T34 t160 (ji9)).f1) from Kd.V_mk ul165_1 ge165_1); clear hva_ hvn_ hvc_ ge165_1 ul165_1; clear hcc165 hce165; have HR165_1 := Aside0.mk hi165_1; have HC165_1 := Aside0.mk hl165_1; clear hi165_1 hl165_1; replace p165 := eq_true p165; replace q165 := eq_true q165))
          go_ret2
          exact ⟨_, by first | rfl | (simp [errW_none, errW_some] <;> rfl) | (simp only [← hji9]; first | rfl | (simp [errW_none, errW_some] <;> rfl)) | (simp [*, errW_none, errW_some] <;> rfl), by (with_reducible repeat (first | apply Kd.V_alloc | apply Kd.V_drewN | apply Kd.V_drew)); exact Kd.V_mono HL165_1.out (fun _ hk => hk.1), by repeat (first | (with_reducible first | exact HB.out | apply below_alloc | apply pw_below_drewN | apply below_drew1) | exact HB.out)⟩
        · rw [if_neg c11] at H
          exact absurd H (by simp)
      · rw [if_neg c10] at H
        exact absurd H (by simp)
  · replace c4 := Bool.eq_false_iff.mpr c4
    subst c4
    have H1 : (some (([] : List Int), false)) = some (r1, r2) := by rw [if_neg (show ¬ (false = true) by decide)] at H; exact H
    clear H
    have H := H1
    clear H1
    simp only [Option.some.injEq, Prod.mk.injEq] at H
    obtain ⟨rfl, rfl⟩ := H
    go_enter Try.func20, Try.ntmps20
    go_wp2_with (first | ((with_reducible refine gate_callee (f := 11) rfl ?_); refine goesL_ (some 8) rfl rfl Try.func11 (by kernel_rfl) rfl #[.slice A0 l0.length c0] rfl (by (try simp only [List.map_toArray, List.map_cons, List.map_nil]); first | done | rfl | (simp only [List.length_drop, List.length_take]; rfl)) ?_; (with_reducible refine (spec_Tokens.calls k (fun k_ => (P0_ k_ ∨ w.heap.size ≤ k_)) _ _ l0 t160 t163 _ ?side1 A2.out).mono ?_); (case side1 => exact HO0.out); rintro e w15 ⟨v161, rfl, ho0, hb⟩; refine ⟨_, rfl, ?_⟩; have n0_ := Aside0.mk (Kd.V_elder' (by (with_reducible repeat (first | apply Kd.V_alloc | apply Kd.V_drewN | apply Kd.V_drew)); exact HO0.out) (Kd.N_base ho0) hb); have n1_ := Aside0.mk (Kd.N_lower (Kd.N_mono (ok' := fun k_ => (P0_ k_ ∨ w.heap.size ≤ k_)) ho0 (fun k_ hk_ => Or.elim hk_ (fun hs_ => hs_) (fun hn_ => (.inr (Nat.le_trans (below_size (by repeat (first | (with_reducible first | exact HB.out | apply below_alloc | apply pw_below_drewN | apply below_drew1) | exact HB.out))) hn_))))) (below_size (by repeat (first | (with_reducible first | exact HB.out | apply below_alloc | apply pw_below_drewN | apply below_drew1) | exact HB.out)))); have n2_ := Aside0.mk (below_step (by repeat (first | (with_reducible first | exact HB.out | apply below_alloc | apply pw_below_drewN | apply below_drew1) | exact HB.out)) hb); clear HO0; clear HB; have HO0 := n0_; have HO162 := n1_; have HB := n2_; clear n0_ n1_ n2_; (try clear hb); (try clear hb2); (try clear hk); (try clear hi); (try clear ho0)) | ((with_reducible refine gate_callee (f := 29) rfl ?_); refine goesL_ (some 12) rfl rfl Try.func29 (by kernel_rfl) rfl #[.slice A0 l0.length c0] rfl (by (try simp only [List.map_toArray, List.map_cons, List.map_nil]); first | done | rfl | (simp only [List.length_drop, List.length_take]; rfl)) ?_; (with_reducible refine (spec_PushOnly.calls k _ _ l0 false _ ?side1 ?side2 A3.out).mono ?_); (case side1 => repeat (first | exact (Kd.V_reads' HO0.out).2.2 | (with_reducible refine Kd.C_alloc ?_ _) | (with_reducible refine Kd.C_drewN ?_ _) | (with_reducible refine Kd.C_drew ?_))); (case side2 => exact (Kd.V_reads' HO0.out).2.1); rintro e w16 ⟨rfl, hb⟩; refine ⟨_, rfl, ?_⟩; have n0_ := Aside0.mk (Kd.V_below (by (with_reducible repeat (first | apply Kd.V_alloc | apply Kd.V_drewN | apply Kd.V_drew)); exact HO0.out) hb); have n1_ := Aside0.mk (Kd.N_below (by (with_reducible repeat (first | apply Kd.N_alloc | apply Kd.N_drewN | apply Kd.N_drew)); exact HO162.out) hb); have n2_ := Aside0.mk (below_step (by repeat (first | (with_reducible first | exact HB.out | apply below_alloc | apply pw_below_drewN | apply below_drew1) | exact HB.out)) hb); clear HO0; clear HO162; clear HB; have HO0 := n0_; have HO162 := n1_; have HB := n2_; clear n0_ n1_ n2_; (try clear hb); (try clear hb2); (try clear hk); (try clear hi)))
    go_ret2
    exact ⟨_, by first | rfl | (simp [errW_none, errW_some] <;> rfl) | (simp [*, errW_none, errW_some] <;> rfl), Kd.V_nil _ _ _ _ _, by repeat (first | (with_reducible first | exact HB.out | apply below_alloc | apply pw_below_drewN | apply below_drew1) | exact HB.out)⟩

/-! ### spec_SpendSigOps: function 10 -/
def spec_SpendSigOps.f (k : Nat) (l0 : List Int) (l1 : List Int) : Option (Int) := (spec_PaysScript.f l1).bind fun t166 => (if t166 = true then ((spec_lastPush.f k l0).bind fun bt168 => (if bt168.2 = true then ((spec_SigOps.f k bt168.1 true).bind fun t172 => (some t172)) else (some 0))) else ((spec_SigOps.f k l1 true).bind fun t167 => (some t167)))
theorem spec_SpendSigOps.mono : ∀ a0 a1 k, LeO (spec_SpendSigOps.f k a0 a1) (spec_SpendSigOps.f (k + 1) a0 a1) := by
  intro a0 a1 k
  unfold spec_SpendSigOps.f
  repeat' first
      | (with_reducible exact spec_SigOps.mono _ _ _)
      | (with_reducible exact spec_lastPush.mono _ _)
      | (with_reducible exact LeO.refl _)
      | (with_reducible exact LeO.none _)
      | (with_reducible refine LeO.ite ?_ ?_)
      | (with_reducible refine LeO.bind ?_ (fun _ => ?_))
      | exact spec_SigOps.mono _ _ _
      | exact spec_lastPush.mono _ _
      | exact LeO.none _
      | refine LeO.ite ?_ ?_
      | refine LeO.bind ?_ (fun _ => ?_)
set_option maxHeartbeats 8000000 in
set_option maxRecDepth 100000 in
theorem spec_SpendSigOps.calls (k : Nat) (A0 : Option Addr) (c0 : Nat) (l0 : List Int) (A1 : Option Addr) (c1 : Nat) (l1 : List Int) (r : Int) (w : World) (hr0 : Kd.C (Kd.int .u8) w A0 l0.length l0) (hc0 : l0.length ≤ c0) (hr1 : Kd.C (Kd.int .u8) w A1 l1.length l1) (hc1 : l1.length ≤ c1) (h : spec_SpendSigOps.f k l0 l1 = some r) :
    Calls Try.prog 10 #[.slice A0 l0.length c0, .slice A1 l1.length c1] w fun e w' => e = .returned (.int .i64 r) ∧ Below w.heap.size w w' := by
  have HR0 := Aside0.mk hr0
  have HC0 := Aside0.mk hc0
  clear hr0 hc0
  have HR1 := Aside0.mk hr1
  have HC1 := Aside0.mk hc1
  clear hr1 hc1
  have HB := Aside0.mk (Below.refl w.heap.size w)
  have H : ((spec_PaysScript.f l1).bind fun t166 => (if t166 = true then ((spec_lastPush.f k l0).bind fun bt168 => (if bt168.2 = true then ((spec_SigOps.f k bt168.1 true).bind fun t172 => (some t172)) else (some 0))) else ((spec_SigOps.f k l1 true).bind fun t167 => (some t167)))) = some r := h
  clear h
  replace H := Option.bind_eq_some_iff.mp H
  obtain ⟨t166, A30, H⟩ := H
  replace H : (if t166 = true then ((spec_lastPush.f k l0).bind fun bt168 => (if bt168.2 = true then ((spec_SigOps.f k bt168.1 true).bind fun t172 => (some t172)) else (some 0))) else ((spec_SigOps.f k l1 true).bind fun t167 => (some t167))) = some r := H
  have A3 := Aside0.mk A30
  clear A30
  by_cases c4 : t166 = true
  · subst c4
    have H1 : ((spec_lastPush.f k l0).bind fun bt168 => (if bt168.2 = true then ((spec_SigOps.f k bt168.1 true).bind fun t172 => (some t172)) else (some 0))) = some r := by rw [if_pos rfl] at H; exact H
    clear H
    have H := H1
    clear H1
    replace H := Option.bind_eq_some_iff.mp H
    obtain ⟨⟨t168, t171⟩, A50, H⟩ := H
    replace H : (if t171 = true then ((spec_SigOps.f k t168 true).bind fun t172 => (some t172)) else (some 0)) = some r := H
    have A5 := Aside0.mk A50
    clear A50
    by_cases c6 : t171 = true
    · subst c6
      have H1 : ((spec_SigOps.f k t168 true).bind fun t172 => (some t172)) = some r := by rw [if_pos rfl] at H; exact H
      clear H
      have H := H1
      clear H1
      replace H := Option.bind_eq_some_iff.mp H
      obtain ⟨t172, A70, H⟩ := H
      replace H : (some t172) = some r := H
      have A7 := Aside0.mk A70
      clear A70
      obtain rfl := Option.some.inj H
      go_enter Try.func10, Try.ntmps10
      go_wp2_with (first | ((with_reducible refine gate_callee (f := 18) rfl ?_); refine goesL_ (some 8) rfl rfl Try.func18 (by kernel_rfl) rfl #[.slice A1 l1.length c1] rfl (by (try simp only [List.map_toArray, List.map_cons, List.map_nil]); first | done | rfl | (simp only [List.length_drop, List.length_take]; rfl)) ?_; (with_reducible refine (spec_PaysScript.calls _ _ l1 true _ ?side1 ?side2 A3.out).mono ?_); (case side1 => repeat (first | exact HR1.out | (with_reducible refine Kd.C_alloc ?_ _) | (with_reducible refine Kd.C_drewN ?_ _) | (with_reducible refine Kd.C_drew ?_))); (case side2 => exact HC1.out); rintro e w' ⟨rfl, ⟨nd, rfl⟩⟩; refine ⟨_, rfl, ?_⟩) | ((with_reducible refine gate_callee (f := 20) rfl ?_); refine goesL_ (some 14) rfl rfl Try.func20 (by kernel_rfl) rfl #[.slice A0 l0.length c0] rfl (by (try simp only [List.map_toArray, List.map_cons, List.map_nil]); first | done | rfl | (simp only [List.length_drop, List.length_take]; rfl)) ?_; (with_reducible refine (spec_lastPush.calls k (fun k_ => k_ < w.heap.size) _ _ l0 t168 true _ ?side1 A5.out).mono ?_); (case side1 => exact Kd.V_mk HC0.out (Kd.F_below (Kd.C_F (Kd.heap_int .u8) HR0.out) (by repeat (first | (with_reducible first | exact HB.out | apply below_alloc | apply pw_below_drewN | apply below_drew1) | exact HB.out)))); rintro e w8 ⟨v169, rfl, ho0, hb⟩; refine ⟨_, rfl, ?_⟩; have n0_ := Aside0.mk (Kd.V_lower (Kd.V_mono (ok' := fun k_ => True) ho0 (fun k_ hk_ => trivial)) (below_size (by repeat (first | (with_reducible first | exact HB.out | apply below_alloc | apply pw_below_drewN | apply below_drew1) | exact HB.out)))); have n1_ := Aside0.mk (below_step (by repeat (first | (with_reducible first | exact HB.out | apply below_alloc | apply pw_below_drewN | apply below_drew1) | exact HB.out)) hb); clear HB; have HO170 := n0_; have HB := n1_; clear n0_ n1_; (try clear hb); (try clear hb2); (try clear hk); (try clear hi); (try clear ho0); obtain ⟨Ao9, co9, eo9⟩ := Kd.V_slice HO170.out; subst eo9) | ((with_reducible refine gate_callee (f := 19) rfl ?_); refine goesL_ (some 20) rfl rfl Try.func19 (by kernel_rfl) rfl #[.slice Ao9 t168.length co9, .bool true] rfl (by (try simp only [List.map_toArray, List.map_cons, List.map_nil]); first | done | rfl | (simp only [List.length_drop, List.length_take]; rfl)) ?_; (with_reducible refine (spec_SigOps.calls k _ _ t168 true t172 _ ?side1 ?side2 A7.out).mono ?_); (case side1 => repeat (first | exact (Kd.V_reads' HO170.out).2.2 | (with_reducible refine Kd.C_alloc ?_ _) | (with_reducible refine Kd.C_drewN ?_ _) | (with_reducible refine Kd.C_drew ?_))); (case side2 => exact (Kd.V_reads' HO170.out).2.1); rintro e w10 ⟨rfl, hb⟩; refine ⟨_, rfl, ?_⟩; have n0_ := Aside0.mk (Kd.V_below (by (with_reducible repeat (first | apply Kd.V_alloc | apply Kd.V_drewN | apply Kd.V_drew)); exact HO170.out) hb); have n1_ := Aside0.mk (below_step (by repeat (first | (with_reducible first | exact HB.out | apply below_alloc | apply pw_below_drewN | apply below_drew1) | exact HB.out)) hb); clear HO170; clear HB; have HO170 := n0_; have HB := n1_; clear n0_ n1_; (try clear hb); (try clear hb2); (try clear hk); (try clear hi)))
      go_ret
      exact ⟨by first | rfl | (simp [errW_none, errW_some] <;> rfl) | (simp [*, errW_none, errW_some] <;> rfl), by repeat (first | (with_reducible first | exact HB.out | apply below_alloc | apply pw_below_drewN | apply below_drew1) | exact HB.out)⟩
    · replace c6 := Bool.eq_false_iff.mpr c6
      subst c6
      have H1 : (some 0) = some r := by rw [if_neg (show ¬ (false = true) by decide)] at H; exact H
      clear H
      have H := H1
      clear H1
      obtain rfl := Option.some.inj H
      go_enter Try.func10, Try.ntmps10
      go_wp2_with (first | ((with_reducible refine gate_callee (f := 18) rfl ?_); refine goesL_ (some 8) rfl rfl Try.func18 (by kernel_rfl) rfl #[.slice A1 l1.length c1] rfl (by (try simp only [List.map_toArray, List.map_cons, List.map_nil]); first | done | rfl | (simp only [List.length_drop, List.length_take]; rfl)) ?_; (with_reducible refine (spec_PaysScript.calls _ _ l1 true _ ?side1 ?side2 A3.out).mono ?_); (case side1 => repeat (first | exact HR1.out | (with_reducible refine Kd.C_alloc ?_ _) | (with_reducible refine Kd.C_drewN ?_ _) | (with_reducible refine Kd.C_drew ?_))); (case side2 => exact HC1.out); rintro e w' ⟨rfl, ⟨nd, rfl⟩⟩; refine ⟨_, rfl, ?_⟩) | ((with_reducible refine gate_callee (f := 20) rfl ?_); refine goesL_ (some 14) rfl rfl Try.func20 (by kernel_rfl) rfl #[.slice A0 l0.length c0] rfl (by (try simp only [List.map_toArray, List.map_cons, List.map_nil]); first | done | rfl | (simp only [List.length_drop, List.length_take]; rfl)) ?_; (with_reducible refine (spec_lastPush.calls k (fun k_ => k_ < w.heap.size) _ _ l0 t168 false _ ?side1 A5.out).mono ?_); (case side1 => exact Kd.V_mk HC0.out (Kd.F_below (Kd.C_F (Kd.heap_int .u8) HR0.out) (by repeat (first | (with_reducible first | exact HB.out | apply below_alloc | apply pw_below_drewN | apply below_drew1) | exact HB.out)))); rintro e w11 ⟨v169, rfl, ho0, hb⟩; refine ⟨_, rfl, ?_⟩; have n0_ := Aside0.mk (Kd.V_lower (Kd.V_mono (ok' := fun k_ => True) ho0 (fun k_ hk_ => trivial)) (below_size (by repeat (first | (with_reducible first | exact HB.out | apply below_alloc | apply pw_below_drewN | apply below_drew1) | exact HB.out)))); have n1_ := Aside0.mk (below_step (by repeat (first | (with_reducible first | exact HB.out | apply below_alloc | apply pw_below_drewN | apply below_drew1) | exact HB.out)) hb); clear HB; have HO170 := n0_; have HB := n1_; clear n0_ n1_; (try clear hb); (try clear hb2); (try clear hk); (try clear hi); (try clear ho0)))
      go_ret
      exact ⟨by first | rfl | (simp [errW_none, errW_some] <;> rfl) | (simp [*, errW_none, errW_some] <;> rfl), by repeat (first | (with_reducible first | exact HB.out | apply below_alloc | apply pw_below_drewN | apply below_drew1) | exact HB.out)⟩
  · replace c4 := Bool.eq_false_iff.mpr c4
    subst c4
    have H1 : ((spec_SigOps.f k l1 true).bind fun t167 => (some t167)) = some r := by rw [if_neg (show ¬ (false = true) by decide)] at H; exact H
    clear H
    have H := H1
    clear H1
    replace H := Option.bind_eq_some_iff.mp H
    obtain ⟨t167, A120, H⟩ := H
    replace H : (some t167) = some r := H
    have A12 := Aside0.mk A120
    clear A120
    obtain rfl := Option.some.inj H
    go_enter Try.func10, Try.ntmps10
    go_wp2_with (first | ((with_reducible refine gate_callee (f := 18) rfl ?_); refine goesL_ (some 8) rfl rfl Try.func18 (by kernel_rfl) rfl #[.slice A1 l1.length c1] rfl (by (try simp only [List.map_toArray, List.map_cons, List.map_nil]); first | done | rfl | (simp only [List.length_drop, List.length_take]; rfl)) ?_; (with_reducible refine (spec_PaysScript.calls _ _ l1 false _ ?side1 ?side2 A3.out).mono ?_); (case side1 => repeat (first | exact HR1.out | (with_reducible refine Kd.C_alloc ?_ _) | (with_reducible refine Kd.C_drewN ?_ _) | (with_reducible refine Kd.C_drew ?_))); (case side2 => exact HC1.out); rintro e w' ⟨rfl, ⟨nd, rfl⟩⟩; refine ⟨_, rfl, ?_⟩) | ((with_reducible refine gate_callee (f := 19) rfl ?_); refine goesL_ (some 11) rfl rfl Try.func19 (by kernel_rfl) rfl #[.slice A1 l1.length c1, .bool true] rfl (by (try simp only [List.map_toArray, List.map_cons, List.map_nil]); first | done | rfl | (simp only [List.length_drop, List.length_take]; rfl)) ?_; (with_reducible refine (spec_SigOps.calls k _ _ l1 true t167 _ ?side1 ?side2 A12.out).mono ?_); (case side1 => repeat (first | exact HR1.out | (with_reducible refine Kd.C_alloc ?_ _) | (with_reducible refine Kd.C_drewN ?_ _) | (with_reducible refine Kd.C_drew ?_))); (case side2 => exact HC1.out); rintro e w13 ⟨rfl, hb⟩; refine ⟨_, rfl, ?_⟩; have n0_ := Aside0.mk (below_step (by repeat (first | (with_reducible first | exact HB.out | apply below_alloc | apply pw_below_drewN | apply below_drew1) | exact HB.out)) hb); clear HB; have HB := n0_; clear n0_; (try clear hb); (try clear hb2); (try clear hk); (try clear hi)))
    go_ret
    exact ⟨by first | rfl | (simp [errW_none, errW_some] <;> rfl) | (simp [*, errW_none, errW_some] <;> rfl), by repeat (first | (with_reducible first | exact HB.out | apply below_alloc | apply pw_below_drewN | apply below_drew1) | exact HB.out)⟩

-- NOT PRINTED: function 4 (laws_FnSpendSigOps)

end Go.Proofs.Ytfbkjkihcajmdab.QFnSpendSigOps
