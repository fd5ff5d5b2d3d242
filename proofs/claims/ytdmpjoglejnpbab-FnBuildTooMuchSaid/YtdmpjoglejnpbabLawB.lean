/- Printed functions over a contract that was proved by hand. -/
import Derived.Test.YtdmpjoglejnpbabBd8
namespace Go.Proofs.Ytdmpjoglejnpbab.QFnBuilt
open Go.RowKit Go.Proofs.YtdmpjoglejnpbabW.PrintWords Go.Proofs.YtdmpjoglejnpbabW.PrintLast Go.Proofs.YtdmpjoglejnpbabW.PrintMore
attribute [local go_sem] nn_mod256 nn_mod65536 nn_mod32 max2_int min2_int max_two min_two max_three min_three max_four min_four   -- for this text's walks alone
set_option linter.unusedVariables false
set_option linter.unusedSimpArgs false
/-! ### laws_FnBuilt: function 4 -/
mutual
def laws_FnBuilt.l0 : Nat → List (S27) → Int → Int → Option (Bool)
  | 0, _, _, _ => none
  | k + 1, x0, x3, x4 => if x4 < (x0.length : Int) then (if 0 ≤ x4 then ((laws_more.f x3 (((rd_T27 x0 x4).f2).length : Int)).bind fun t200 => (if ((rd_T27 x0 x4).f1) = (-9223372036854775808) then (laws_FnBuilt.j1 k x0 t200 x4 true) else (if t200 > 100000 then (laws_FnBuilt.j1 k x0 t200 x4 true) else (if ((rd_T27 x0 x4).f0) = 1 then ((laws_zero.f ((rd_T27 x0 x4).f2)).bind fun t204 => (laws_FnBuilt.j1 k x0 t200 x4 t204)) else (laws_FnBuilt.j1 k x0 t200 x4 false))))) else (none)) else ((spec_Built.f k x0).bind fun bt190 => ((impl_Build.f x0).bind fun bt194 => (if (bt194.2 == bt190.2) = true then (if bt190.2 = true then ((laws_same.f k bt194.1 bt190.1).bind fun t198 => (some t198)) else (some true)) else (some false))))
def laws_FnBuilt.j1 : Nat → List (S27) → Int → Int → Bool → Option (Bool)
  | 0, _, _, _, _ => none
  | k + 1, x0, x3, x4, x56 => if x56 = true then (some true) else (if 0 ≤ x4 then (if x4 ≤ (x0.length : Int) then ((spec_Built.f k (x0.take (x4 : Int).toNat)).bind fun bt209 => (if bt209.2 = true then (laws_FnBuilt.l0 k x0 x3 (wrap64 (x4 + 1))) else (if x4 < (x0.length : Int) then (if ((rd_T27 x0 x4).f0) < 0 then (some true) else (if ((rd_T27 x0 x4).f0) > 3 then (some true) else (laws_FnBuilt.l0 k x0 x3 (wrap64 (x4 + 1))))) else (none)))) else (none)) else (none))
end
def laws_FnBuilt.f (k : Nat) (l0 : List (S27)) : Option (Bool) := (laws_zzFits18.f k l0).bind fun t189 => (if t189 = true then (if (l0.length : Int) > 300 then (some true) else (laws_FnBuilt.l0 k l0 0 0)) else (some true))
theorem laws_FnBuilt.mono_l : ∀ k, (∀ y0 y1 y2, LeO (laws_FnBuilt.l0 k y0 y1 y2) (laws_FnBuilt.l0 (k + 1) y0 y1 y2)) ∧ (∀ y0 y1 y2 y3, LeO (laws_FnBuilt.j1 k y0 y1 y2 y3) (laws_FnBuilt.j1 (k + 1) y0 y1 y2 y3))
  | 0 => ⟨fun _ _ _ r h => by simp [laws_FnBuilt.l0] at h, fun _ _ _ _ r h => by simp [laws_FnBuilt.j1] at h⟩
  | k + 1 => by
    obtain ⟨ih0, ih1⟩ := laws_FnBuilt.mono_l k
    refine ⟨?_, ?_⟩
    · intro y0 y1 y2
      unfold laws_FnBuilt.l0
      repeat' first
      | (with_reducible exact ih0 _ _ _)
      | (with_reducible exact ih1 _ _ _ _)
      | (with_reducible exact laws_same.mono _ _ _)
      | (with_reducible exact laws_zzFits18.mono _ _)
      | (with_reducible exact spec_Built.mono _ _)
      | (with_reducible exact LeO.refl _)
      | (with_reducible exact LeO.none _)
      | (with_reducible refine LeO.ite ?_ ?_)
      | (with_reducible refine LeO.bind ?_ (fun _ => ?_))
      | exact ih0 _ _ _
      | exact ih1 _ _ _ _
      | exact laws_same.mono _ _ _
      | exact laws_zzFits18.mono _ _
      | exact spec_Built.mono _ _
      | exact LeO.none _
      | refine LeO.ite ?_ ?_
      | refine LeO.bind ?_ (fun _ => ?_)
    · intro y0 y1 y2 y3
      unfold laws_FnBuilt.j1
      repeat' first
      | (with_reducible exact ih0 _ _ _)
      | (with_reducible exact ih1 _ _ _ _)
      | (with_reducible exact laws_same.mono _ _ _)
      | (with_reducible exact laws_zzFits18.mono _ _)
      | (with_reducible exact spec_Built.mono _ _)
      | (with_reducible exact LeO.refl _)
      | (with_reducible exact LeO.none _)
      | (with_reducible refine LeO.ite ?_ ?_)
      | (with_reducible refine LeO.bind ?_ (fun _ => ?_))
      | exact ih0 _ _ _
      | exact ih1 _ _ _ _
      | exact laws_same.mono _ _ _
      | exact laws_zzFits18.mono _ _
      | exact spec_Built.mono _ _
      | exact LeO.none _
      | refine LeO.ite ?_ ?_
      | refine LeO.bind ?_ (fun _ => ?_)
theorem laws_FnBuilt.mono : ∀ a0 k, LeO (laws_FnBuilt.f k a0) (laws_FnBuilt.f (k + 1) a0) := by
  intro a0 k
  obtain ⟨ih0, ih1⟩ := laws_FnBuilt.mono_l k
  unfold laws_FnBuilt.f
  repeat' first
      | (with_reducible exact ih0 _ _ _)
      | (with_reducible exact ih1 _ _ _ _)
      | (with_reducible exact laws_same.mono _ _ _)
      | (with_reducible exact laws_zzFits18.mono _ _)
      | (with_reducible exact spec_Built.mono _ _)
      | (with_reducible exact LeO.refl _)
      | (with_reducible exact LeO.none _)
      | (with_reducible refine LeO.ite ?_ ?_)
      | (with_reducible refine LeO.bind ?_ (fun _ => ?_))
      | exact ih0 _ _ _
      | exact ih1 _ _ _ _
      | exact laws_same.mono _ _ _
      | exact laws_zzFits18.mono _ _
      | exact spec_Built.mono _ _
      | exact LeO.none _
      | refine LeO.ite ?_ ?_
      | refine LeO.bind ?_ (fun _ => ?_)
set_option maxHeartbeats 8000000 in
set_option maxRecDepth 100000 in
theorem laws_FnBuilt.calls (k : Nat) (A0 : Option Addr) (c0 : Nat) (l0 : List (S27)) (r : Bool) (w : World) (hr0 : Kd.C k27 w A0 l0.length l0) (hc0 : l0.length ≤ c0) (h : laws_FnBuilt.f k l0 = some r) :
    Calls Try.prog 4 #[.slice A0 l0.length c0] w fun e w' => e = .returned (.bool r) ∧ Below w.heap.size w w' := by
  have HR0 := Aside0.mk hr0
  have HC0 := Aside0.mk hc0
  clear hr0 hc0
  have HB := Aside0.mk (Below.refl w.heap.size w)
  have H : ((laws_zzFits18.f k l0).bind fun t189 => (if t189 = true then (if (l0.length : Int) > 300 then (some true) else (laws_FnBuilt.l0 k l0 0 0)) else (some true))) = some r := h
  clear h
  replace H := Option.bind_eq_some_iff.mp H
  obtain ⟨t189, A20, H⟩ := H
  replace H : (if t189 = true then (if (l0.length : Int) > 300 then (some true) else (laws_FnBuilt.l0 k l0 0 0)) else (some true)) = some r := H
  have A2 := Aside0.mk A20
  clear A20
  by_cases c3 : t189 = true
  · subst c3
    have H1 : (if (l0.length : Int) > 300 then (some true) else (laws_FnBuilt.l0 k l0 0 0)) = some r := by rw [if_pos rfl] at H; exact H
    clear H
    have H := H1
    clear H1
    by_cases c4 : (l0.length : Int) > 300
    · rw [if_pos c4] at H
      have c4b0 : decide (300 < (l0.length : Int)) = true := decide_eq_true c4
      have c4b1 : decide (300 < l0.length) = true := decide_eq_true (by omega)
      clear c4
      obtain rfl := Option.some.inj H
      go_enter Try.func4, Try.ntmps4
      go_wp2_with (first | ((with_reducible refine gate_callee (f := 5) rfl ?_); refine goesL_ (some 12) rfl rfl Try.func5 (by kernel_rfl) rfl #[.slice A0 l0.length c0] rfl (by (try simp only [List.map_toArray, List.map_cons, List.map_nil]); first | done | rfl | (simp only [List.length_drop, List.length_take]; rfl)) ?_; (with_reducible refine (laws_zzFits18.calls k _ _ l0 true _ ?side1 ?side2 A2.out).mono ?_); (case side1 => repeat (first | exact HR0.out | (with_reducible refine Kd.C_alloc ?_ _) | (with_reducible refine Kd.C_drewN ?_ _) | (with_reducible refine Kd.C_drew ?_))); (case side2 => exact HC0.out); rintro e w5 ⟨rfl, hb⟩; refine ⟨_, rfl, ?_⟩; have n0_ := Aside0.mk (below_step (by repeat (first | (with_reducible first | exact HB.out | apply below_alloc | apply pw_below_drewN | apply below_drew1) | exact HB.out)) hb); clear HB; have HB := n0_; clear n0_; (try clear hb); (try clear hb2); (try clear hk); (try clear hi)))
      go_ret
      exact ⟨by first | rfl | (simp [errW_none, errW_some] <;> rfl) | (simp [*, errW_none, errW_some] <;> rfl), by repeat (first | (with_reducible first | exact HB.out | apply below_alloc | apply pw_below_drewN | apply below_drew1) | exact HB.out)⟩
    · rw [if_neg c4] at H
      have c4b0 : decide (300 < (l0.length : Int)) = false := decide_eq_false c4
      have c4b1 : decide (300 < l0.length) = false := decide_eq_false (by omega)
      clear c4
      have H' := Aside0.mk H
      clear H
      go_enter Try.func4, Try.ntmps4
      go_wp2_with (first | ((with_reducible refine gate_callee (f := 5) rfl ?_); refine goesL_ (some 12) rfl rfl Try.func5 (by kernel_rfl) rfl #[.slice A0 l0.length c0] rfl (by (try simp only [List.map_toArray, List.map_cons, List.map_nil]); first | done | rfl | (simp only [List.length_drop, List.length_take]; rfl)) ?_; (with_reducible refine (laws_zzFits18.calls k _ _ l0 true _ ?side1 ?side2 A2.out).mono ?_); (case side1 => repeat (first | exact HR0.out | (with_reducible refine Kd.C_alloc ?_ _) | (with_reducible refine Kd.C_drewN ?_ _) | (with_reducible refine Kd.C_drew ?_))); (case side2 => exact HC0.out); rintro e w6 ⟨rfl, hb⟩; refine ⟨_, rfl, ?_⟩; have n0_ := Aside0.mk (below_step (by repeat (first | (with_reducible first | exact HB.out | apply below_alloc | apply pw_below_drewN | apply below_drew1) | exact HB.out)) hb); clear HB; have HB := n0_; clear n0_; (try clear hb); (try clear hb2); (try clear hk); (try clear hi)))
      go_loopg [3, 4] k (fun kq v3 v4 w' => ∃ (x3_1 : Int) (x4_1 : Int), v3 = .int .i64 x3_1 ∧ v4 = .int .i64 x4_1 ∧ Aside0 (laws_FnBuilt.l0 kq l0 x3_1 x4_1 = some r) ∧ Aside0 (kq ≤ k) ∧ Aside0 (Below w.heap.size w w'))
      case atStart => exact ⟨(0), (0), (by first | rfl | (simp; done) | (simp [*]; done)), (by first | rfl | (simp; done) | (simp [*]; done)), H', ⟨Nat.le_refl _⟩, ⟨by repeat (first | (with_reducible first | exact HB.out | apply below_alloc | apply pw_below_drewN | apply below_drew1) | exact HB.out)⟩⟩
      case round =>
        clear H'
        try clear p2
        try clear c3
        try clear c4
        try clear c4b0
        try clear c4b1
        try clear c5
        obtain ⟨x3_1, x4_1, rfl, rfl, HA, HK1, HB⟩ := hrel
        cases gk with
        | zero => exact absurd HA.out (by simp [laws_FnBuilt.l0])
        | succ k1 =>
          have H := HA.out
          clear HA
          simp only [laws_FnBuilt.l0] at H
          by_cases c7 : x4_1 < (l0.length : Int)
          · rw [if_pos c7] at H
            have c7b0 : decide (x4_1 < (l0.length : Int)) = true := decide_eq_true c7
            clear c7
            by_cases c8 : 0 ≤ x4_1
            · rw [if_pos c8] at H
              have c8b0 : decide (0 ≤ x4_1) = true := decide_eq_true c8
              clear c8
              replace H := Option.bind_eq_some_iff.mp H
              obtain ⟨t200, A90, H⟩ := H
              replace H : (if ((rd_T27 l0 x4_1).f1) = (-9223372036854775808) then (laws_FnBuilt.j1 k1 l0 t200 x4_1 true) else (if t200 > 100000 then (laws_FnBuilt.j1 k1 l0 t200 x4_1 true) else (if ((rd_T27 l0 x4_1).f0) = 1 then ((laws_zero.f ((rd_T27 l0 x4_1).f2)).bind fun t204 => (laws_FnBuilt.j1 k1 l0 t200 x4_1 t204)) else (laws_FnBuilt.j1 k1 l0 t200 x4_1 false)))) = some r := H
              have A9 := Aside0.mk A90
              clear A90
              have HC10 := Aside0.mk H
              clear H
              have p199 : 0 ≤ (x4_1 : Int) := of_decide_eq_true (by first | (with_reducible assumption) | assumption)
              have q199 : x4_1 < (l0.length : Int) := of_decide_eq_true (by first | (with_reducible assumption) | assumption)
              obtain ⟨ad199, A199_2, c199_2, e199, hx199_0, hx199_1, hx199_2, hl199_2, hi199_2⟩ := at_T27 HR0.out x4_1 p199 q199
              cases e199
              replace hx199_0 := (HB.out.cell (World.block_lt_of_cell? w _ hx199_0)).trans hx199_0
              replace hx199_1 := (HB.out.cell (World.block_lt_of_cell? w _ hx199_1)).trans hx199_1
              replace hx199_2 := (HB.out.cell (World.block_lt_of_cell? w _ hx199_2)).trans hx199_2
              have HR199_2 := Aside0.mk hi199_2
              have HC199_2 := Aside0.mk hl199_2
              clear hi199_2 hl199_2
              replace p199 := eq_true p199
              replace q199 := eq_true q199
              go_upto_region 10 with (first | ((with_reducible refine gate_callee (f := 8) rfl ?_); refine goesL_ (some 30) rfl rfl Try.func8 (by kernel_rfl) rfl #[.int .i64 x3_1, .int .i64 (((rd_T27 l0 x4_1).f2).length : Int)] rfl (by (try simp only [List.map_toArray, List.map_cons, List.map_nil]); first | done | rfl | (simp only [List.length_drop, List.length_take]; rfl)) ?_; (with_reducible refine (laws_more.calls x3_1 (((rd_T27 l0 x4_1).f2).length : Int) t200 _ A9.out).mono ?_); rintro e w' ⟨rfl, ⟨nd, rfl⟩⟩; refine ⟨_, rfl, ?_⟩))
              (try simp only [Act.put, List.setIfInBounds_toArray, List.set_cons_zero, List.set_cons_succ])
              go_cut [56] (fun v56 wc => ∃ (kq : Nat) (x56_9 : Bool), v56 = .bool x56_9 ∧ Aside0 (laws_FnBuilt.j1 kq l0 t200 x4_1 x56_9 = some r) ∧ Aside0 (kq ≤ k1) ∧ Aside0 (Below w.heap.size w wc))
              case first =>
                have H := HC10.out
                clear HC10
                by_cases c11 : ((rd_T27 l0 x4_1).f1) = (-9223372036854775808)
                · rw [if_pos c11] at H
                  have c11b0 : (((rd_T27 l0 x4_1).f1) == (-9223372036854775808)) = true := beq_iff_eq.mpr c11
                  have c11b1 : (((rd_T27 l0 x4_1).f1) != (-9223372036854775808)) = false := bne_eq_false_iff_eq.mpr c11
                  clear c11
                  (first | rw [c11b0] | (simp only [i64_w, i32_w]; rw [c11b0]) | skip)
                  have H' := Aside0.mk H
                  clear H
                  have p201 : 0 ≤ (x4_1 : Int) := of_decide_eq_true (by first | (with_reducible assumption) | assumption)
                  have q201 : x4_1 < (l0.length : Int) := of_decide_eq_true (by first | (with_reducible assumption) | assumption)
                  obtain ⟨ad201, A201_2, c201_2, e201, hx201_0, hx201_1, hx201_2, hl201_2, hi201_2⟩ := at_T27 HR0.out x4_1 p201 q201
                  obtain rfl : ad199 = ad201 := (by injection e201)
                  replace hx201_0 := (HB.out.cell (World.block_lt_of_cell? w _ hx201_0)).trans hx201_0
                  replace hx201_1 := (HB.out.cell (World.block_lt_of_cell? w _ hx201_1)).trans hx201_1
                  replace hx201_2 := (HB.out.cell (World.block_lt_of_cell? w _ hx201_2)).trans hx201_2
                  have HR201_2 := Aside0.mk hi201_2
                  have HC201_2 := Aside0.mk hl201_2
                  clear hi201_2 hl201_2
                  replace p201 := eq_true p201
                  replace q201 := eq_true q201
                  go_wp2
                  go_meet
                  case rel => exact ⟨_, (true), (by first | rfl | (simp; done) | (simp [*]; done)), (by first | exact H' | (subst_vars; exact H')), ⟨by have := HK1.out; first | omega | exact Nat.le_refl _⟩, ⟨by repeat (first | (with_reducible first | exact HB.out | apply below_alloc | apply pw_below_drewN | apply below_drew1) | exact HB.out)⟩⟩
                · rw [if_neg c11] at H
                  have c11b0 : (((rd_T27 l0 x4_1).f1) == (-9223372036854775808)) = false := beq_eq_false_iff_ne.mpr c11
                  have c11b1 : (((rd_T27 l0 x4_1).f1) != (-9223372036854775808)) = true := bne_iff_ne.mpr c11
                  (first | rw [c11b0] | (simp only [i64_w, i32_w]; rw [c11b0]) | skip)
                  by_cases c12 : t200 > 100000
                  · rw [if_pos c12] at H
                    have c12b0 : decide (100000 < t200) = true := decide_eq_true c12
                    clear c12
                    have H' := Aside0.mk H
                    clear H
                    have p201 : 0 ≤ (x4_1 : Int) := of_decide_eq_true (by first | (with_reducible assumption) | assumption)
                    have q201 : x4_1 < (l0.length : Int) := of_decide_eq_true (by first | (with_reducible assumption) | assumption)
                    obtain ⟨ad201, A201_2, c201_2, e201, hx201_0, hx201_1, hx201_2, hl201_2, hi201_2⟩ := at_T27 HR0.out x4_1 p201 q201
                    obtain rfl : ad199 = ad201 := (by injection e201)
                    replace hx201_0 := (HB.out.cell (World.block_lt_of_cell? w _ hx201_0)).trans hx201_0
                    replace hx201_1 := (HB.out.cell (World.block_lt_of_cell? w _ hx201_1)).trans hx201_1
                    replace hx201_2 := (HB.out.cell (World.block_lt_of_cell? w _ hx201_2)).trans hx201_2
                    have HR201_2 := Aside0.mk hi201_2
                    have HC201_2 := Aside0.mk hl201_2
                    clear hi201_2 hl201_2
                    replace p201 := eq_true p201
                    replace q201 := eq_true q201
                    go_wp2
                    go_meet
                    case rel => exact ⟨_, (true), (by first | rfl | (simp; done) | (simp [*]; done)), (by first | exact H' | (subst_vars; exact H')), ⟨by have := HK1.out; first | omega | exact Nat.le_refl _⟩, ⟨by repeat (first | (with_reducible first | exact HB.out | apply below_alloc | apply pw_below_drewN | apply below_drew1) | exact HB.out)⟩⟩
                  · rw [if_neg c12] at H
                    have c12b0 : decide (100000 < t200) = false := decide_eq_false c12
                    clear c12
                    by_cases c13 : ((rd_T27 l0 x4_1).f0) = 1
                    · rw [if_pos c13] at H
                      have c13b0 : (((rd_T27 l0 x4_1).f0) == 1) = true := beq_iff_eq.mpr c13
                      have c13b1 : (((rd_T27 l0 x4_1).f0) != 1) = false := bne_eq_false_iff_eq.mpr c13
                      clear c13
                      replace H := Option.bind_eq_some_iff.mp H
                      obtain ⟨t204, A140, H⟩ := H
                      replace H : (laws_FnBuilt.j1 k1 l0 t200 x4_1 t204) = some r := H
                      have A14 := Aside0.mk A140
                      clear A140
                      have H' := Aside0.mk H
                      clear H
                      have p201 : 0 ≤ (x4_1 : Int) := of_decide_eq_true (by first | (with_reducible assumption) | assumption)
                      have q201 : x4_1 < (l0.length : Int) := of_decide_eq_true (by first | (with_reducible assumption) | assumption)
                      obtain ⟨ad201, A201_2, c201_2, e201, hx201_0, hx201_1, hx201_2, hl201_2, hi201_2⟩ := at_T27 HR0.out x4_1 p201 q201
                      obtain rfl : ad199 = ad201 := (by injection e201)
                      replace hx201_0 := (HB.out.cell (World.block_lt_of_cell? w _ hx201_0)).trans hx201_0
                      replace hx201_1 := (HB.out.cell (World.block_lt_of_cell? w _ hx201_1)).trans hx201_1
                      replace hx201_2 := (HB.out.cell (World.block_lt_of_cell? w _ hx201_2)).trans hx201_2
                      have HR201_2 := Aside0.mk hi201_2
                      have HC201_2 := Aside0.mk hl201_2
                      clear hi201_2 hl201_2
                      replace p201 := eq_true p201
                      replace q201 := eq_true q201
                      have p202 : 0 ≤ (x4_1 : Int) := of_decide_eq_true (by first | (with_reducible assumption) | assumption)
                      have q202 : x4_1 < (l0.length : Int) := of_decide_eq_true (by first | (with_reducible assumption) | assumption)
                      obtain ⟨ad202, A202_2, c202_2, e202, hx202_0, hx202_1, hx202_2, hl202_2, hi202_2⟩ := at_T27 HR0.out x4_1 p202 q202
                      obtain rfl : ad199 = ad202 := (by injection e202)
                      replace hx202_0 := (HB.out.cell (World.block_lt_of_cell? w _ hx202_0)).trans hx202_0
                      replace hx202_1 := (HB.out.cell (World.block_lt_of_cell? w _ hx202_1)).trans hx202_1
                      replace hx202_2 := (HB.out.cell (World.block_lt_of_cell? w _ hx202_2)).trans hx202_2
                      have HR202_2 := Aside0.mk hi202_2
                      have HC202_2 := Aside0.mk hl202_2
                      clear hi202_2 hl202_2
                      replace p202 := eq_true p202
                      replace q202 := eq_true q202
                      have ea_ := Option.some.inj (hx201_2.symm.trans hx202_2)
                      injection ea_ with ea_ en_ ec_
                      subst ea_
                      subst ec_
                      clear en_
                      have p203 : 0 ≤ (x4_1 : Int) := of_decide_eq_true (by first | (with_reducible assumption) | assumption)
                      have q203 : x4_1 < (l0.length : Int) := of_decide_eq_true (by first | (with_reducible assumption) | assumption)
                      obtain ⟨ad203, A203_2, c203_2, e203, hx203_0, hx203_1, hx203_2, hl203_2, hi203_2⟩ := at_T27 HR0.out x4_1 p203 q203
                      obtain rfl : ad199 = ad203 := (by injection e203)
                      replace hx203_0 := (HB.out.cell (World.block_lt_of_cell? w _ hx203_0)).trans hx203_0
                      replace hx203_1 := (HB.out.cell (World.block_lt_of_cell? w _ hx203_1)).trans hx203_1
                      replace hx203_2 := (HB.out.cell (World.block_lt_of_cell? w _ hx203_2)).trans hx203_2
                      have HR203_2 := Aside0.mk hi203_2
                      have HC203_2 := Aside0.mk hl203_2
                      clear hi203_2 hl203_2
                      replace p203 := eq_true p203
                      replace q203 := eq_true q203
                      have ea_ := Option.some.inj (hx201_2.symm.trans hx203_2)
                      injection ea_ with ea_ en_ ec_
                      subst ea_
                      subst ec_
                      clear en_
                      have eb_ := Option.some.inj (hx199_2.symm.trans hx203_2)
                      injection eb_ with eb_ en_ ec_
                      subst eb_
                      subst ec_
                      clear en_
                      go_wp2_with (first | (go_at_call 9; (with_reducible refine (laws_zero.calls _ _ ((rd_T27 l0 x4_1).f2) t204 _ ?side1 ?side2 A14.out).mono ?_); (case side1 => repeat (first | exact (Kd.C_below HR203_2.out HB.out) | (with_reducible refine Kd.C_alloc ?_ _) | (with_reducible refine Kd.C_drewN ?_ _) | (with_reducible refine Kd.C_drew ?_))); (case side2 => exact HC203_2.out); rintro e w' ⟨rfl, ⟨nd, rfl⟩⟩))
                      go_meet
                      case rel => exact ⟨_, (t204), (by first | rfl | (simp; done) | (simp [*]; done)), (by first | exact H' | (subst_vars; exact H')), ⟨by have := HK1.out; first | omega | exact Nat.le_refl _⟩, ⟨by repeat (first | (with_reducible first | exact HB.out | apply below_alloc | apply pw_below_drewN | apply below_drew1) | exact HB.out)⟩⟩
                    · rw [if_neg c13] at H
                      have c13b0 : (((rd_T27 l0 x4_1).f0) == 1) = false := beq_eq_false_iff_ne.mpr c13
                      have c13b1 : (((rd_T27 l0 x4_1).f0) != 1) = true := bne_iff_ne.mpr c13
                      have H' := Aside0.mk H
                      clear H
                      have p201 : 0 ≤ (x4_1 : Int) := of_decide_eq_true (by first | (with_reducible assumption) | assumption)
                      have q201 : x4_1 < (l0.length : Int) := of_decide_eq_true (by first | (with_reducible assumption) | assumption)
                      obtain ⟨ad201, A201_2, c201_2, e201, hx201_0, hx201_1, hx201_2, hl201_2, hi201_2⟩ := at_T27 HR0.out x4_1 p201 q201
                      obtain rfl : ad199 = ad201 := (by injection e201)
                      replace hx201_0 := (HB.out.cell (World.block_lt_of_cell? w _ hx201_0)).trans hx201_0
                      replace hx201_1 := (HB.out.cell (World.block_lt_of_cell? w _ hx201_1)).trans hx201_1
                      replace hx201_2 := (HB.out.cell (World.block_lt_of_cell? w _ hx201_2)).trans hx201_2
                      have HR201_2 := Aside0.mk hi201_2
                      have HC201_2 := Aside0.mk hl201_2
                      clear hi201_2 hl201_2
                      replace p201 := eq_true p201
                      replace q201 := eq_true q201
                      have p202 : 0 ≤ (x4_1 : Int) := of_decide_eq_true (by first | (with_reducible assumption) | assumption)
                      have q202 : x4_1 < (l0.length : Int) := of_decide_eq_true (by first | (with_reducible assumption) | assumption)
                      obtain ⟨ad202, A202_2, c202_2, e202, hx202_0, hx202_1, hx202_2, hl202_2, hi202_2⟩ := at_T27 HR0.out x4_1 p202 q202
                      obtain rfl : ad199 = ad202 := (by injection e202)
                      replace hx202_0 := (HB.out.cell (World.block_lt_of_cell? w _ hx202_0)).trans hx202_0
                      replace hx202_1 := (HB.out.cell (World.block_lt_of_cell? w _ hx202_1)).trans hx202_1
                      replace hx202_2 := (HB.out.cell (World.block_lt_of_cell? w _ hx202_2)).trans hx202_2
                      have HR202_2 := Aside0.mk hi202_2
                      have HC202_2 := Aside0.mk hl202_2
                      clear hi202_2 hl202_2
                      replace p202 := eq_true p202
                      replace q202 := eq_true q202
                      have ea_ := Option.some.inj (hx201_2.symm.trans hx202_2)
                      injection ea_ with ea_ en_ ec_
                      subst ea_
                      subst ec_
                      clear en_
                      go_wp2
                      go_meet
                      case rel => exact ⟨_, (false), (by first | rfl | (simp; done) | (simp [*]; done)), (by first | exact H' | (subst_vars; exact H')), ⟨by have := HK1.out; first | omega | exact Nat.le_refl _⟩, ⟨by repeat (first | (with_reducible first | exact HB.out | apply below_alloc | apply pw_below_drewN | apply below_drew1) | exact HB.out)⟩⟩
              case rest =>
                clear HC10
                try clear c1
                try clear p1
                try clear q1
                try clear hx1
                try clear c2
                try clear p2
                try clear q2
                try clear hx2
                try clear c3
                try clear c4
                try clear c4b0
                try clear c4b1
                try clear c5
                try clear c7
                try clear c7b0
                try clear c8
                try clear c8b0
                try clear c11
                try clear c11b0
                try clear c11b1
                try clear c12
                try clear c12b0
                try clear c13
                try clear c13b0
                try clear c13b1
                try clear hx199_0
                try clear hx199_1
                try clear hx199_2
                try clear hx201_0
                try clear hx201_1
                try clear hx201_2
                try clear hx202_0
                try clear hx202_1
                try clear hx202_2
                try clear hx203_0
                try clear hx203_1
                try clear hx203_2
                try clear p199
                try clear p2
                try clear p201
                try clear p202
                try clear p203
                try clear q199
                try clear q201
                try clear q202
                try clear q203
                obtain ⟨kq, x56_9, rfl, HA, HJ9, HB⟩ := hcut
                cases kq with
                | zero => exact absurd HA.out (by simp [laws_FnBuilt.j1])
                | succ kj9 =>
                  have H := HA.out
                  clear HA
                  simp only [laws_FnBuilt.j1] at H
                  by_cases c15 : x56_9 = true
                  · subst c15
                    have H1 : (some true) = some r := by rw [if_pos rfl] at H; exact H
                    clear H
                    have H := H1
                    clear H1
                    obtain rfl := Option.some.inj H
                    go_wp2
                    go_ret
                    exact ⟨by first | rfl | (simp [errW_none, errW_some] <;> rfl) | (simp [*, errW_none, errW_some] <;> rfl), by repeat (first | (with_reducible first | exact HB.out | apply below_alloc | apply pw_below_drewN | apply below_drew1) | exact HB.out)⟩
                  · replace c15 := Bool.eq_false_iff.mpr c15
                    subst c15
                    have H1 : (if 0 ≤ x4_1 then (if x4_1 ≤ (l0.length : Int) then ((spec_Built.f kj9 (l0.take (x4_1 : Int).toNat)).bind fun bt209 => (if bt209.2 = true then (laws_FnBuilt.l0 kj9 l0 t200 (wrap64 (x4_1 + 1))) else (if x4_1 < (l0.length : Int) then (if ((rd_T27 l0 x4_1).f0) < 0 then (some true) else (if ((rd_T27 l0 x4_1).f0) > 3 then (some true) else (laws_FnBuilt.l0 kj9 l0 t200 (wrap64 (x4_1 + 1))))) else (none)))) else (none)) else (none)) = some r := by rw [if_neg (show ¬ (false = true) by decide)] at H; exact H
                    clear H
                    have H := H1
                    clear H1
                    by_cases c16 : 0 ≤ x4_1
                    · rw [if_pos c16] at H
                      have c16b0 := eq_true c16
                      have c16b1 : decide (0 ≤ x4_1) = true := decide_eq_true c16
                      clear c16
                      by_cases c17 : x4_1 ≤ (l0.length : Int)
                      · rw [if_pos c17] at H
                        have c17b0 := eq_true c17
                        have c17b1 : decide (x4_1 ≤ (l0.length : Int)) = true := decide_eq_true c17
                        clear c17
                        obtain ⟨y205, hy205⟩ : ∃ y_ : List (S27), y_ = (l0.take (x4_1 : Int).toNat) := ⟨_, rfl⟩
                        replace H : ((spec_Built.f kj9 y205).bind fun bt209 => (if bt209.2 = true then (laws_FnBuilt.l0 kj9 l0 t200 (wrap64 (x4_1 + 1))) else (if x4_1 < (l0.length : Int) then (if ((rd_T27 l0 x4_1).f0) < 0 then (some true) else (if ((rd_T27 l0 x4_1).f0) > 3 then (some true) else (laws_FnBuilt.l0 kj9 l0 t200 (wrap64 (x4_1 + 1))))) else (none)))) = some r := by first | (rw [hy205]; with_reducible exact H) | (have H2_ := (Option.bind_some _ _).symm.trans H; rw [hy205]; with_reducible exact H2_) | (have H2_ := (Option.bind_some _ _).symm.trans H; with_reducible exact H2_) | with_reducible exact H | (rw [hy205]; exact H) | exact H
                        have Ny205 := Aside0.mk hy205
                        clear hy205
                        replace H := Option.bind_eq_some_iff.mp H
                        obtain ⟨⟨t209, t210⟩, A180, H⟩ := H
                        replace H : (if t210 = true then (laws_FnBuilt.l0 kj9 l0 t200 (wrap64 (x4_1 + 1))) else (if x4_1 < (l0.length : Int) then (if ((rd_T27 l0 x4_1).f0) < 0 then (some true) else (if ((rd_T27 l0 x4_1).f0) > 3 then (some true) else (laws_FnBuilt.l0 kj9 l0 t200 (wrap64 (x4_1 + 1))))) else (none))) = some r := H
                        have A18 := Aside0.mk A180
                        clear A180
                        by_cases c19 : t210 = true
                        · subst c19
                          have H1 : (laws_FnBuilt.l0 kj9 l0 t200 (wrap64 (x4_1 + 1))) = some r := by rw [if_pos rfl] at H; exact H
                          clear H
                          have H := H1
                          clear H1
                          have H' := Aside0.mk H
                          clear H
                          have q20 : (x4_1 : Int) ≤ ((l0.length : Int) : Int) := of_decide_eq_true (by first | (with_reducible assumption) | assumption)
                          obtain ⟨i020, hi020, _, hsz20, _⟩ := info_parts info27
                          have hroom20 : l0.length ≤ c0 := HC0.out
                          have hC20 : Kd.C k27 _ (some ad199) l0.length l0 := HR0.out
                          have hcut20 := cut_to (P := Try.prog) 22 27 .i64 Try.underlying22 hi020 (some ad199) l0.length c0 x4_1 (of_decide_eq_true (by first | (with_reducible assumption) | assumption)) q20 hroom20
                          have hr20 := Kd.C_take (m := (x4_1 : Int).toNat) hC20 (by omega)
                          have hy20 : y205.length = (x4_1 : Int).toNat := (by rw [Ny205.out, List.length_take]; omega)
                          rw [← Ny205.out] at hr20
                          rw [← hy20] at hcut20
                          have HR208 := Aside0.mk hr20
                          have HC208 := Aside0.mk (show y205.length ≤ c0 from by omega)
                          clear hr20 hC20 hroom20 hi020 hsz20
                          have KY20 := Aside0.mk hy20
                          clear hy20
                          replace q20 := eq_true q20
                          go_wp2_with (first | ((with_reducible refine gate_callee (f := 10) rfl ?_); refine goesL_ (some 61) rfl rfl Try.func10 (by kernel_rfl) rfl #[.slice (some ad199) y205.length c0] rfl (by (try simp only [List.map_toArray, List.map_cons, List.map_nil]); first | done | rfl | (simp only [List.length_drop, List.length_take]; rfl)) ?_; (with_reducible refine (spec_Built.calls kj9 _ _ y205 t209 true _ ?side1 ?side2 A18.out).mono ?_); (case side1 => repeat (first | exact (Kd.C_below HR208.out HB.out) | (with_reducible refine Kd.C_alloc ?_ _) | (with_reducible refine Kd.C_drewN ?_ _) | (with_reducible refine Kd.C_drew ?_))); (case side2 => exact HC208.out); rintro e w21 ⟨v211, rfl, ho0, hb⟩; refine ⟨_, rfl, ?_⟩; have n0_ := Aside0.mk (Kd.R_lower ho0 (below_size (by repeat (first | (with_reducible first | exact HB.out | apply below_alloc | apply pw_below_drewN | apply below_drew1) | exact HB.out)))); have n1_ := Aside0.mk (below_step (by repeat (first | (with_reducible first | exact HB.out | apply below_alloc | apply pw_below_drewN | apply below_drew1) | exact HB.out)) hb); clear HB; have HO212 := n0_; have HB := n1_; clear n0_ n1_; (try clear hb); (try clear hb2); (try clear hk); (try clear hi); (try clear ho0)))
                          go_roundg kj9
                          case measure => have := HK1.out; have := HJ9.out; omega
                          case rel => exact ⟨(t200), (wrap64 (x4_1 + 1)), (by first | rfl | (simp; done) | (simp [*]; done)), (by first | rfl | (simp; done) | (simp [*]; done)), (by first | exact H' | (subst_vars; exact H')), ⟨by have := HK1.out; have := HJ9.out; omega⟩, ⟨by repeat (first | (with_reducible first | exact HB.out | apply below_alloc | apply pw_below_drewN | apply below_drew1) | exact HB.out)⟩⟩
                        · replace c19 := Bool.eq_false_iff.mpr c19
                          subst c19
                          have H1 : (if x4_1 < (l0.length : Int) then (if ((rd_T27 l0 x4_1).f0) < 0 then (some true) else (if ((rd_T27 l0 x4_1).f0) > 3 then (some true) else (laws_FnBuilt.l0 kj9 l0 t200 (wrap64 (x4_1 + 1))))) else (none)) = some r := by rw [if_neg (show ¬ (false = true) by decide)] at H; exact H
                          clear H
                          have H := H1
                          clear H1
                          by_cases c22 : x4_1 < (l0.length : Int)
                          · rw [if_pos c22] at H
                            have c22b0 : decide (x4_1 < (l0.length : Int)) = true := decide_eq_true c22
                            clear c22
                            by_cases c23 : ((rd_T27 l0 x4_1).f0) < 0
                            · rw [if_pos c23] at H
                              have c23b0 : decide (((rd_T27 l0 x4_1).f0) < 0) = true := decide_eq_true c23
                              clear c23
                              obtain rfl := Option.some.inj H
                              have q24 : (x4_1 : Int) ≤ ((l0.length : Int) : Int) := of_decide_eq_true (by first | (with_reducible assumption) | assumption)
                              obtain ⟨i024, hi024, _, hsz24, _⟩ := info_parts info27
                              have hroom24 : l0.length ≤ c0 := HC0.out
                              have hC24 : Kd.C k27 _ (some ad199) l0.length l0 := HR0.out
                              have hcut24 := cut_to (P := Try.prog) 22 27 .i64 Try.underlying22 hi024 (some ad199) l0.length c0 x4_1 (of_decide_eq_true (by first | (with_reducible assumption) | assumption)) q24 hroom24
                              have hr24 := Kd.C_take (m := (x4_1 : Int).toNat) hC24 (by omega)
                              have hy24 : y205.length = (x4_1 : Int).toNat := (by rw [Ny205.out, List.length_take]; omega)
                              rw [← Ny205.out] at hr24
                              rw [← hy24] at hcut24
                              have HR208 := Aside0.mk hr24
                              have HC208 := Aside0.mk (show y205.length ≤ c0 from by omega)
                              clear hr24 hC24 hroom24 hi024 hsz24
                              have KY24 := Aside0.mk hy24
                              clear hy24
                              replace q24 := eq_true q24
                              go_wp2_with (first | ((with_reducible refine gate_callee (f := 10) rfl ?_); refine goesL_ (some 61) rfl rfl Try.func10 (by kernel_rfl) rfl #[.slice (some ad199) y205.length c0] rfl (by (try simp only [List.map_toArray, List.map_cons, List.map_nil]); first | done | rfl | (simp only [List.length_drop, List.length_take]; rfl)) ?_; (with_reducible refine (spec_Built.calls kj9 _ _ y205 t209 false _ ?side1 ?side2 A18.out).mono ?_); (case side1 => repeat (first | exact (Kd.C_below HR208.out HB.out) | (with_reducible refine Kd.C_alloc ?_ _) | (with_reducible refine Kd.C_drewN ?_ _) | (with_reducible refine Kd.C_drew ?_))); (case side2 => exact HC208.out); rintro e w25 ⟨v211, rfl, ho0, hb⟩; refine ⟨_, rfl, ?_⟩; have n0_ := Aside0.mk (Kd.R_lower ho0 (below_size (by repeat (first | (with_reducible first | exact HB.out | apply below_alloc | apply pw_below_drewN | apply below_drew1) | exact HB.out)))); have n1_ := Aside0.mk (below_step (by repeat (first | (with_reducible first | exact HB.out | apply below_alloc | apply pw_below_drewN | apply below_drew1) | exact HB.out)) hb); clear HB; have HO212 := n0_; have HB := n1_; clear n0_ n1_; (try clear hb); (try clear hb2); (try clear hk); (try clear hi); (try clear ho0); have p213 : 0 ≤ (x4_1 : Int) := of_decide_eq_true (by first | (with_reducible assumption) | assumption); have q213 : x4_1 < (l0.length : Int) := of_decide_eq_true (by first | (with_reducible assumption) | assumption); obtain ⟨ad213, A213_2, c213_2, e213, hx213_0, hx213_1, hx213_2, hl213_2, hi213_2⟩ := at_T27 HR0.out x4_1 p213 q213; obtain rfl : ad199 = ad213 := (by injection e213); replace hx213_0 := (HB.out.cell (World.block_lt_of_cell? w _ hx213_0)).trans hx213_0; replace hx213_1 := (HB.out.cell (World.block_lt_of_cell? w _ hx213_1)).trans hx213_1; replace hx213_2 := (HB.out.cell (World.block_lt_of_cell? w _ hx213_2)).trans hx213_2; have HR213_2 := Aside0.mk hi213_2; have HC213_2 := Aside0.mk hl213_2; clear hi213_2 hl213_2; replace p213 := eq_true p213; replace q213 := eq_true q213))
                              go_ret
                              exact ⟨by first | rfl | (simp [errW_none, errW_some] <;> rfl) | (simp [*, errW_none, errW_some] <;> rfl), by repeat (first | (with_reducible first | exact HB.out | apply below_alloc | apply pw_below_drewN | apply below_drew1) | exact HB.out)⟩
                            · rw [if_neg c23] at H
                              have c23b0 : decide (((rd_T27 l0 x4_1).f0) < 0) = false := decide_eq_false c23
                              clear c23
                              by_cases c26 : ((rd_T27 l0 x4_1).f0) > 3
                              · rw [if_pos c26] at H
                                have c26b0 : decide (3 < ((rd_T27 l0 x4_1).f0)) = true := decide_eq_true c26
                                clear c26
                                obtain rfl := Option.some.inj H
                                have q27 : (x4_1 : Int) ≤ ((l0.length : Int) : Int) := of_decide_eq_true (by first | (with_reducible assumption) | assumption)
                                obtain ⟨i027, hi027, _, hsz27, _⟩ := info_parts info27
                                have hroom27 : l0.length ≤ c0 := HC0.out
                                have hC27 : Kd.C k27 _ (some ad199) l0.length l0 := HR0.out
                                have hcut27 := cut_to (P := Try.prog) 22 27 .i64 Try.underlying22 hi027 (some ad199) l0.length c0 x4_1 (of_decide_eq_true (by first | (with_reducible assumption) | assumption)) q27 hroom27
                                have hr27 := Kd.C_take (m := (x4_1 : Int).toNat) hC27 (by omega)
                                have hy27 : y205.length = (x4_1 : Int).toNat := (by rw [Ny205.out, List.length_take]; omega)
                                rw [← Ny205.out] at hr27
                                rw [← hy27] at hcut27
                                have HR208 := Aside0.mk hr27
                                have HC208 := Aside0.mk (show y205.length ≤ c0 from by omega)
                                clear hr27 hC27 hroom27 hi027 hsz27
                                have KY27 := Aside0.mk hy27
                                clear hy27
                                replace q27 := eq_true q27
                                go_wp2_with (first | ((with_reducible refine gate_callee (f := 10) rfl ?_); refine goesL_ (some 61) rfl rfl Try.func10 (by kernel_rfl) rfl #[.slice (some ad199) y205.length c0] rfl (by (try simp only [List.map_toArray, List.map_cons, List.map_nil]); first | done | rfl | (simp only [List.length_drop, List.length_take]; rfl)) ?_; (with_reducible refine (spec_Built.calls kj9 _ _ y205 t209 false _ ?side1 ?side2 A18.out).mono ?_); (case side1 => repeat (first | exact (Kd.C_below HR208.out HB.out) | (with_reducible refine Kd.C_alloc ?_ _) | (with_reducible refine Kd.C_drewN ?_ _) | (with_reducible refine Kd.C_drew ?_))); (case side2 => exact HC208.out); rintro e w28 ⟨v211, rfl, ho0, hb⟩; refine ⟨_, rfl, ?_⟩; have n0_ := Aside0.mk (Kd.R_lower ho0 (below_size (by repeat (first | (with_reducible first | exact HB.out | apply below_alloc | apply pw_below_drewN | apply below_drew1) | exact HB.out)))); have n1_ := Aside0.mk (below_step (by repeat (first | (with_reducible first | exact HB.out | apply below_alloc | apply pw_below_drewN | apply below_drew1) | exact HB.out)) hb); clear HB; have HO212 := n0_; have HB := n1_; clear n0_ n1_; (try clear hb); (try clear hb2); (try clear hk); (try clear hi); (try clear ho0); have p213 : 0 ≤ (x4_1 : Int) := of_decide_eq_true (by first | (with_reducible assumption) | assumption); have q213 : x4_1 < (l0.length : Int) := of_decide_eq_true (by first | (with_reducible assumption) | assumption); obtain ⟨ad213, A213_2, c213_2, e213, hx213_0, hx213_1, hx213_2, hl213_2, hi213_2⟩ := at_T27 HR0.out x4_1 p213 q213; obtain rfl : ad199 = ad213 := (by injection e213); replace hx213_0 := (HB.out.cell (World.block_lt_of_cell? w _ hx213_0)).trans hx213_0; replace hx213_1 := (HB.out.cell (World.block_lt_of_cell? w _ hx213_1)).trans hx213_1; replace hx213_2 := (HB.out.cell (World.block_lt_of_cell? w _ hx213_2)).trans hx213_2; have HR213_2 := Aside0.mk hi213_2; have HC213_2 := Aside0.mk hl213_2; clear hi213_2 hl213_2; replace p213 := eq_true p213; replace q213 := eq_true q213; have p214 : 0 ≤ (x4_1 : Int) := of_decide_eq_true (by first | (with_reducible assumption) | assumption); have q214 : x4_1 < (l0.length : Int) := of_decide_eq_true (by first | (with_reducible assumption) | assumption); obtain ⟨ad214, A214_2, c214_2, e214, hx214_0, hx214_1, hx214_2, hl214_2, hi214_2⟩ := at_T27 HR0.out x4_1 p214 q214; obtain rfl : ad199 = ad214 := (by injection e214); replace hx214_0 := (HB.out.cell (World.block_lt_of_cell? w _ hx214_0)).trans hx214_0; replace hx214_1 := (HB.out.cell (World.block_lt_of_cell? w _ hx214_1)).trans hx214_1; replace hx214_2 := (HB.out.cell (World.block_lt_of_cell? w _ hx214_2)).trans hx214_2; have HR214_2 := Aside0.mk hi214_2; have HC214_2 := Aside0.mk hl214_2; clear hi214_2 hl214_2; replace p214 := eq_true p214; replace q214 := eq_true q214; have ea_ := Option.some.inj (hx213_2.symm.trans hx214_2); injection ea_ with ea_ en_ ec_; subst ea_; subst ec_; clear en_))
                                go_ret
                                exact ⟨by first | rfl | (simp [errW_none, errW_some] <;> rfl) | (simp [*, errW_none, errW_some] <;> rfl), by repeat (first | (with_reducible first | exact HB.out | apply below_alloc | apply pw_below_drewN | apply below_drew1) | exact HB.out)⟩
                              · rw [if_neg c26] at H
                                have c26b0 : decide (3 < ((rd_T27 l0 x4_1).f0)) = false := decide_eq_false c26
                                clear c26
                                have H' := Aside0.mk H
                                clear H
                                have q29 : (x4_1 : Int) ≤ ((l0.length : Int) : Int) := of_decide_eq_true (by first | (with_reducible assumption) | assumption)
                                obtain ⟨i029, hi029, _, hsz29, _⟩ := info_parts info27
                                have hroom29 : l0.length ≤ c0 := HC0.out
                                have hC29 : Kd.C k27 _ (some ad199) l0.length l0 := HR0.out
                                have hcut29 := cut_to (P := Try.prog) 22 27 .i64 Try.underlying22 hi029 (some ad199) l0.length c0 x4_1 (of_decide_eq_true (by first | (with_reducible assumption) | assumption)) q29 hroom29
                                have hr29 := Kd.C_take (m := (x4_1 : Int).toNat) hC29 (by omega)
                                have hy29 : y205.length = (x4_1 : Int).toNat := (by rw [Ny205.out, List.length_take]; omega)
                                rw [← Ny205.out] at hr29
                                rw [← hy29] at hcut29
                                have HR208 := Aside0.mk hr29
                                have HC208 := Aside0.mk (show y205.length ≤ c0 from by omega)
                                clear hr29 hC29 hroom29 hi029 hsz29
                                have KY29 := Aside0.mk hy29
                                clear hy29
                                replace q29 := eq_true q29
                                go_wp2_with (first | ((with_reducible refine gate_callee (f := 10) rfl ?_); refine goesL_ (some 61) rfl rfl Try.func10 (by kernel_rfl) rfl #[.slice (some ad199) y205.length c0] rfl (by (try simp only [List.map_toArray, List.map_cons, List.map_nil]); first | done | rfl | (simp only [List.length_drop, List.length_take]; rfl)) ?_; (with_reducible refine (spec_Built.calls kj9 _ _ y205 t209 false _ ?side1 ?side2 A18.out).mono ?_); (case side1 => repeat (first | exact (Kd.C_below HR208.out HB.out) | (with_reducible refine Kd.C_alloc ?_ _) | (with_reducible refine Kd.C_drewN ?_ _) | (with_reducible refine Kd.C_drew ?_))); (case side2 => exact HC208.out); rintro e w30 ⟨v211, rfl, ho0, hb⟩; refine ⟨_, rfl, ?_⟩; have n0_ := Aside0.mk (Kd.R_lower ho0 (below_size (by repeat (first | (with_reducible first | exact HB.out | apply below_alloc | apply pw_below_drewN | apply below_drew1) | exact HB.out)))); have n1_ := Aside0.mk (below_step (by repeat (first | (with_reducible first | exact HB.out | apply below_alloc | apply pw_below_drewN | apply below_drew1) | exact HB.out)) hb); clear HB; have HO212 := n0_; have HB := n1_; clear n0_ n1_; (try clear hb); (try clear hb2); (try clear hk); (try clear hi); (try clear ho0); have p213 : 0 ≤ (x4_1 : Int) := of_decide_eq_true (by first | (with_reducible assumption) | assumption); have q213 : x4_1 < (l0.length : Int) := of_decide_eq_true (by first | (with_reducible assumption) | assumption); obtain ⟨ad213, A213_2, c213_2, e213, hx213_0, hx213_1, hx213_2, hl213_2, hi213_2⟩ := at_T27 HR0.out x4_1 p213 q213; obtain rfl : ad199 = ad213 := (by injection e213); replace hx213_0 := (HB.out.cell (World.block_lt_of_cell? w _ hx213_0)).trans hx213_0; replace hx213_1 := (HB.out.cell (World.block_lt_of_cell? w _ hx213_1)).trans hx213_1; replace hx213_2 := (HB.out.cell (World.block_lt_of_cell? w _ hx213_2)).trans hx213_2; have HR213_2 := Aside0.mk hi213_2; have HC213_2 := Aside0.mk hl213_2; clear hi213_2 hl213_2; replace p213 := eq_true p213; replace q213 := eq_true q213; have p214 : 0 ≤ (x4_1 : Int) := of_decide_eq_true (by first | (with_reducible assumption) | assumption); have q214 : x4_1 < (l0.length : Int) := of_decide_eq_true (by first | (with_reducible assumption) | assumption); obtain ⟨ad214, A214_2, c214_2, e214, hx214_0, hx214_1, hx214_2, hl214_2, hi214_2⟩ := at_T27 HR0.out x4_1 p214 q214; obtain rfl : ad199 = ad214 := (by injection e214); replace hx214_0 := (HB.out.cell (World.block_lt_of_cell? w _ hx214_0)).trans hx214_0; replace hx214_1 := (HB.out.cell (World.block_lt_of_cell? w _ hx214_1)).trans hx214_1; replace hx214_2 := (HB.out.cell (World.block_lt_of_cell? w _ hx214_2)).trans hx214_2; have HR214_2 := Aside0.mk hi214_2; have HC214_2 := Aside0.mk hl214_2; clear hi214_2 hl214_2; replace p214 := eq_true p214; replace q214 := eq_true q214; have ea_ := Option.some.inj (hx213_2.symm.trans hx214_2); injection ea_ with ea_ en_ ec_; subst ea_; subst ec_; clear en_))
                                go_roundg kj9
                                case measure => have := HK1.out; have := HJ9.out; omega
                                case rel => exact ⟨(t200), (wrap64 (x4_1 + 1)), (by first | rfl | (simp; done) | (simp [*]; done)), (by first | rfl | (simp; done) | (simp [*]; done)), (by first | exact H' | (subst_vars; exact H')), ⟨by have := HK1.out; have := HJ9.out; omega⟩, ⟨by repeat (first | (with_reducible first | exact HB.out | apply below_alloc | apply pw_below_drewN | apply below_drew1) | exact HB.out)⟩⟩
                          · rw [if_neg c22] at H
                            exact absurd H (by simp)
                      · rw [if_neg c17] at H
                        exact absurd H (by simp)
                    · rw [if_neg c16] at H
                      exact absurd H (by simp)
            · rw [if_neg c8] at H
              exact absurd H (by simp)
          · rw [if_neg c7] at H
            have c7b0 : decide (x4_1 < (l0.length : Int)) = false := decide_eq_false c7
            clear c7
            replace H := Option.bind_eq_some_iff.mp H
            obtain ⟨⟨t190, t191⟩, A310, H⟩ := H
            replace H : ((impl_Build.f l0).bind fun bt194 => (if (bt194.2 == t191) = true then (if t191 = true then ((laws_same.f k1 bt194.1 t190).bind fun t198 => (some t198)) else (some true)) else (some false))) = some r := H
            have A31 := Aside0.mk A310
            clear A310
            replace H := Option.bind_eq_some_iff.mp H
            obtain ⟨⟨t194, t195⟩, A320, H⟩ := H
            replace H : (if (t195 == t191) = true then (if t191 = true then ((laws_same.f k1 t194 t190).bind fun t198 => (some t198)) else (some true)) else (some false)) = some r := H
            have A32 := Aside0.mk A320
            clear A320
            by_cases c33 : (t195 == t191) = true
            · rw [if_pos c33] at H
              have c33b0 : (t195 == t191) = true := c33
              (try (have c33b1 : decide (t195 = t191) = true := by simpa using c33))
              (try (have c33b2 : (t195 == t191) = true := by simpa using c33))
              clear c33
              by_cases c34 : t191 = true
              · subst c34
                have H1 : ((laws_same.f k1 t194 t190).bind fun t198 => (some t198)) = some r := by rw [if_pos rfl] at H; exact H
                clear H
                have H := H1
                clear H1
                replace H := Option.bind_eq_some_iff.mp H
                obtain ⟨t198, A350, H⟩ := H
                replace H : (some t198) = some r := H
                have A35 := Aside0.mk A350
                clear A350
                obtain rfl := Option.some.inj H
                go_wp2_with (first | ((with_reducible refine gate_callee (f := 10) rfl ?_); refine goesL_ (some 84) rfl rfl Try.func10 (by kernel_rfl) rfl #[.slice A0 l0.length c0] rfl (by (try simp only [List.map_toArray, List.map_cons, List.map_nil]); first | done | rfl | (simp only [List.length_drop, List.length_take]; rfl)) ?_; (with_reducible refine (spec_Built.calls k1 _ _ l0 t190 true _ ?side1 ?side2 A31.out).mono ?_); (case side1 => repeat (first | exact (Kd.C_below HR0.out HB.out) | (with_reducible refine Kd.C_alloc ?_ _) | (with_reducible refine Kd.C_drewN ?_ _) | (with_reducible refine Kd.C_drew ?_))); (case side2 => exact HC0.out); rintro e w36 ⟨v192, rfl, ho0, hb⟩; refine ⟨_, rfl, ?_⟩; have n0_ := Aside0.mk (Kd.R_lower ho0 (below_size (by repeat (first | (with_reducible first | exact HB.out | apply below_alloc | apply pw_below_drewN | apply below_drew1) | exact HB.out)))); have n1_ := Aside0.mk (below_step (by repeat (first | (with_reducible first | exact HB.out | apply below_alloc | apply pw_below_drewN | apply below_drew1) | exact HB.out)) hb); clear HB; have HO193 := n0_; have HB := n1_; clear n0_ n1_; (try clear hb); (try clear hb2); (try clear hk); (try clear hi); (try clear ho0)) | ((with_reducible refine gate_callee (f := 7) rfl ?_); refine goesL_ (some 89) rfl rfl Try.func7 (by kernel_rfl) rfl #[.slice A0 l0.length c0] rfl (by (try simp only [List.map_toArray, List.map_cons, List.map_nil]); first | done | rfl | (simp only [List.length_drop, List.length_take]; rfl)) ?_; (with_reducible refine (impl_Build.calls _ _ l0 t194 t195 _ ?side1 ?side2 A32.out).mono ?_); (case side1 => repeat (first | exact (Kd.C_below HR0.out HB.out) | (with_reducible refine Kd.C_alloc ?_ _) | (with_reducible refine Kd.C_drewN ?_ _) | (with_reducible refine Kd.C_drew ?_))); (case side2 => exact HC0.out); rintro e w37 ⟨v196, rfl, ho0, hb⟩; refine ⟨_, rfl, ?_⟩; have n0_ := Aside0.mk (Kd.R_elder' (by (with_reducible repeat (first | apply Kd.R_alloc | apply Kd.R_drewN | apply Kd.R_drew)); exact HO193.out) (Kd.R_base ho0) hb); have n1_ := Aside0.mk (Kd.R_lower (Kd.R_new' ho0 (Kd.R_lt (by (with_reducible repeat (first | apply Kd.R_alloc | apply Kd.R_drewN | apply Kd.R_drew)); exact HO193.out))) (below_size (by repeat (first | (with_reducible first | exact HB.out | apply below_alloc | apply pw_below_drewN | apply below_drew1) | exact HB.out)))); have n2_ := Aside0.mk (below_step (by repeat (first | (with_reducible first | exact HB.out | apply below_alloc | apply pw_below_drewN | apply below_drew1) | exact HB.out)) hb); clear HO193; clear HB; have HO193 := n0_; have HO197 := n1_; have HB := n2_; clear n0_ n1_ n2_; (try clear hb); (try clear hb2); (try clear hk); (try clear hi); (try clear ho0); obtain ⟨Ao38, co38, eo38⟩ := Kd.R_slice HO197.out; subst eo38; obtain ⟨Ao39, co39, eo39⟩ := Kd.R_slice HO193.out; subst eo39) | (go_at_call 11; (with_reducible refine (laws_same.calls k1 _ _ t194 _ _ t190 t198 _ ?side1 ?side2 ?side3 ?side4 A35.out).mono ?_); (case side1 => repeat (first | exact (Kd.R_reads' HO197.out).2.2 | (with_reducible refine Kd.C_alloc ?_ _) | (with_reducible refine Kd.C_drewN ?_ _) | (with_reducible refine Kd.C_drew ?_))); (case side2 => exact (Kd.R_reads' HO197.out).2.1); (case side3 => repeat (first | exact (Kd.R_reads' HO193.out).2.2 | (with_reducible refine Kd.C_alloc ?_ _) | (with_reducible refine Kd.C_drewN ?_ _) | (with_reducible refine Kd.C_drew ?_))); (case side4 => exact (Kd.R_reads' HO193.out).2.1); rintro e w' ⟨rfl, ⟨nd, rfl⟩⟩))
                go_ret
                exact ⟨by first | rfl | (simp [errW_none, errW_some] <;> rfl) | (simp [*, errW_none, errW_some] <;> rfl), by repeat (first | (with_reducible first | exact HB.out | apply below_alloc | apply pw_below_drewN | apply below_drew1) | exact HB.out)⟩
              · replace c34 := Bool.eq_false_iff.mpr c34
                subst c34
                have H1 : (some true) = some r := by rw [if_neg (show ¬ (false = true) by decide)] at H; exact H
                clear H
                have H := H1
                clear H1
                obtain rfl := Option.some.inj H
                go_wp2_with (first | ((with_reducible refine gate_callee (f := 10) rfl ?_); refine goesL_ (some 84) rfl rfl Try.func10 (by kernel_rfl) rfl #[.slice A0 l0.length c0] rfl (by (try simp only [List.map_toArray, List.map_cons, List.map_nil]); first | done | rfl | (simp only [List.length_drop, List.length_take]; rfl)) ?_; (with_reducible refine (spec_Built.calls k1 _ _ l0 t190 false _ ?side1 ?side2 A31.out).mono ?_); (case side1 => repeat (first | exact (Kd.C_below HR0.out HB.out) | (with_reducible refine Kd.C_alloc ?_ _) | (with_reducible refine Kd.C_drewN ?_ _) | (with_reducible refine Kd.C_drew ?_))); (case side2 => exact HC0.out); rintro e w40 ⟨v192, rfl, ho0, hb⟩; refine ⟨_, rfl, ?_⟩; have n0_ := Aside0.mk (Kd.R_lower ho0 (below_size (by repeat (first | (with_reducible first | exact HB.out | apply below_alloc | apply pw_below_drewN | apply below_drew1) | exact HB.out)))); have n1_ := Aside0.mk (below_step (by repeat (first | (with_reducible first | exact HB.out | apply below_alloc | apply pw_below_drewN | apply below_drew1) | exact HB.out)) hb); clear HB; have HO193 := n0_; have HB := n1_; clear n0_ n1_; (try clear hb); (try clear hb2); (try clear hk); (try clear hi); (try clear ho0)) | ((with_reducible refine gate_callee (f := 7) rfl ?_); refine goesL_ (some 89) rfl rfl Try.func7 (by kernel_rfl) rfl #[.slice A0 l0.length c0] rfl (by (try simp only [List.map_toArray, List.map_cons, List.map_nil]); first | done | rfl | (simp only [List.length_drop, List.length_take]; rfl)) ?_; (with_reducible refine (impl_Build.calls _ _ l0 t194 t195 _ ?side1 ?side2 A32.out).mono ?_); (case side1 => repeat (first | exact (Kd.C_below HR0.out HB.out) | (with_reducible refine Kd.C_alloc ?_ _) | (with_reducible refine Kd.C_drewN ?_ _) | (with_reducible refine Kd.C_drew ?_))); (case side2 => exact HC0.out); rintro e w41 ⟨v196, rfl, ho0, hb⟩; refine ⟨_, rfl, ?_⟩; have n0_ := Aside0.mk (Kd.R_elder' (by (with_reducible repeat (first | apply Kd.R_alloc | apply Kd.R_drewN | apply Kd.R_drew)); exact HO193.out) (Kd.R_base ho0) hb); have n1_ := Aside0.mk (Kd.R_lower (Kd.R_new' ho0 (Kd.R_lt (by (with_reducible repeat (first | apply Kd.R_alloc | apply Kd.R_drewN | apply Kd.R_drew)); exact HO193.out))) (below_size (by repeat (first | (with_reducible first | exact HB.out | apply below_alloc | apply pw_below_drewN | apply below_drew1) | exact HB.out)))); have n2_ := Aside0.mk (below_step (by repeat (first | (with_reducible first | exact HB.out | apply below_alloc | apply pw_below_drewN | apply below_drew1) | exact HB.out)) hb); clear HO193; clear HB; have HO193 := n0_; have HO197 := n1_; have HB := n2_; clear n0_ n1_ n2_; (try clear hb); (try clear hb2); (try clear hk); (try clear hi); (try clear ho0)))
                go_ret
                exact ⟨by first | rfl | (simp [errW_none, errW_some] <;> rfl) | (simp [*, errW_none, errW_some] <;> rfl), by repeat (first | (with_reducible first | exact HB.out | apply below_alloc | apply pw_below_drewN | apply below_drew1) | exact HB.out)⟩
            · rw [if_neg c33] at H
              have c33b0 : (t195 == t191) = false := by simpa using c33
              (try (have c33b1 : decide (t195 = t191) = false := by simpa using c33))
              (try (have c33b2 : (t195 == t191) = false := by simpa using c33))
              (try (have c33b3 : ¬ (t195 = t191) := by simpa using c33))
              clear c33
              obtain rfl := Option.some.inj H
              go_wp2_with (first | ((with_reducible refine gate_callee (f := 10) rfl ?_); refine goesL_ (some 84) rfl rfl Try.func10 (by kernel_rfl) rfl #[.slice A0 l0.length c0] rfl (by (try simp only [List.map_toArray, List.map_cons, List.map_nil]); first | done | rfl | (simp only [List.length_drop, List.length_take]; rfl)) ?_; (with_reducible refine (spec_Built.calls k1 _ _ l0 t190 t191 _ ?side1 ?side2 A31.out).mono ?_); (case side1 => repeat (first | exact (Kd.C_below HR0.out HB.out) | (with_reducible refine Kd.C_alloc ?_ _) | (with_reducible refine Kd.C_drewN ?_ _) | (with_reducible refine Kd.C_drew ?_))); (case side2 => exact HC0.out); rintro e w42 ⟨v192, rfl, ho0, hb⟩; refine ⟨_, rfl, ?_⟩; have n0_ := Aside0.mk (Kd.R_lower ho0 (below_size (by repeat (first | (with_reducible first | exact HB.out | apply below_alloc | apply pw_below_drewN | apply below_drew1) | exact HB.out)))); have n1_ := Aside0.mk (below_step (by repeat (first | (with_reducible first | exact HB.out | apply below_alloc | apply pw_below_drewN | apply below_drew1) | exact HB.out)) hb); clear HB; have HO193 := n0_; have HB := n1_; clear n0_ n1_; (try clear hb); (try clear hb2); (try clear hk); (try clear hi); (try clear ho0)) | ((with_reducible refine gate_callee (f := 7) rfl ?_); refine goesL_ (some 89) rfl rfl Try.func7 (by kernel_rfl) rfl #[.slice A0 l0.length c0] rfl (by (try simp only [List.map_toArray, List.map_cons, List.map_nil]); first | done | rfl | (simp only [List.length_drop, List.length_take]; rfl)) ?_; (with_reducible refine (impl_Build.calls _ _ l0 t194 t195 _ ?side1 ?side2 A32.out).mono ?_); (case side1 => repeat (first | exact (Kd.C_below HR0.out HB.out) | (with_reducible refine Kd.C_alloc ?_ _) | (with_reducible refine Kd.C_drewN ?_ _) | (with_reducible refine Kd.C_drew ?_))); (case side2 => exact HC0.out); rintro e w43 ⟨v196, rfl, ho0, hb⟩; refine ⟨_, rfl, ?_⟩; have n0_ := Aside0.mk (Kd.R_elder' (by (with_reducible repeat (first | apply Kd.R_alloc | apply Kd.R_drewN | apply Kd.R_drew)); exact HO193.out) (Kd.R_base ho0) hb); have n1_ := Aside0.mk (Kd.R_lower (Kd.R_new' ho0 (Kd.R_lt (by (with_reducible repeat (first | apply Kd.R_alloc | apply Kd.R_drewN | apply Kd.R_drew)); exact HO193.out))) (below_size (by repeat (first | (with_reducible first | exact HB.out | apply below_alloc | apply pw_below_drewN | apply below_drew1) | exact HB.out)))); have n2_ := Aside0.mk (below_step (by repeat (first | (with_reducible first | exact HB.out | apply below_alloc | apply pw_below_drewN | apply below_drew1) | exact HB.out)) hb); clear HO193; clear HB; have HO193 := n0_; have HO197 := n1_; have HB := n2_; clear n0_ n1_ n2_; (try clear hb); (try clear hb2); (try clear hk); (try clear hi); (try clear ho0)))
              go_ret
              exact ⟨by first | rfl | (simp [errW_none, errW_some] <;> rfl) | (simp [*, errW_none, errW_some] <;> rfl), by repeat (first | (with_reducible first | exact HB.out | apply below_alloc | apply pw_below_drewN | apply below_drew1) | exact HB.out)⟩
  · replace c3 := Bool.eq_false_iff.mpr c3
    subst c3
    have H1 : (some true) = some r := by rw [if_neg (show ¬ (false = true) by decide)] at H; exact H
    clear H
    have H := H1
    clear H1
    obtain rfl := Option.some.inj H
    go_enter Try.func4, Try.ntmps4
    go_wp2_with (first | ((with_reducible refine gate_callee (f := 5) rfl ?_); refine goesL_ (some 12) rfl rfl Try.func5 (by kernel_rfl) rfl #[.slice A0 l0.length c0] rfl (by (try simp only [List.map_toArray, List.map_cons, List.map_nil]); first | done | rfl | (simp only [List.length_drop, List.length_take]; rfl)) ?_; (with_reducible refine (laws_zzFits18.calls k _ _ l0 false _ ?side1 ?side2 A2.out).mono ?_); (case side1 => repeat (first | exact HR0.out | (with_reducible refine Kd.C_alloc ?_ _) | (with_reducible refine Kd.C_drewN ?_ _) | (with_reducible refine Kd.C_drew ?_))); (case side2 => exact HC0.out); rintro e w44 ⟨rfl, hb⟩; refine ⟨_, rfl, ?_⟩; have n0_ := Aside0.mk (below_step (by repeat (first | (with_reducible first | exact HB.out | apply below_alloc | apply pw_below_drewN | apply below_drew1) | exact HB.out)) hb); clear HB; have HB := n0_; clear n0_; (try clear hb); (try clear hb2); (try clear hk); (try clear hi)))
    go_ret
    exact ⟨by first | rfl | (simp [errW_none, errW_some] <;> rfl) | (simp [*, errW_none, errW_some] <;> rfl), by repeat (first | (with_reducible first | exact HB.out | apply below_alloc | apply pw_below_drewN | apply below_drew1) | exact HB.out)⟩

end Go.Proofs.Ytdmpjoglejnpbab.QFnBuilt
