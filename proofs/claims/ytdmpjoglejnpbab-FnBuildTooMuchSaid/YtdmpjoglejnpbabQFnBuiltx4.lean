-- Made by a turned print (own tool turnprint.py over the kit print).
import Derived.Test.YtdmpjoglejnpbabQFnBuiltx0
import Derived.Test.YtdmpjoglejnpbabQFnBuiltx3
namespace Go.Proofs.Ytdmpjoglejnpbab.QFnBuilt
open Go.RowKit Go.Proofs.YtdmpjoglejnpbabW.PrintWords Go.Proofs.YtdmpjoglejnpbabW.PrintLast Go.Proofs.YtdmpjoglejnpbabW.PrintMore
attribute [local go_sem] nn_mod256 nn_mod65536 nn_mod32 max2_int min2_int max_two min_two max_three min_three max_four min_four   -- for this text's walks alone
set_option linter.unusedVariables false
set_option linter.unusedSimpArgs false

/-! ### spec_Built: function 10 -/
def spec_Built.l0 : Nat → List (S27) → List Int → Int → Option (List Int × Bool)
  | 0, _, _, _ => none
  | k + 1, x0, x4, x5 => if x5 < (x0.length : Int) then (if 0 ≤ x5 then (if ((rd_T27 x0 x5).f0) = 0 then ((some (([((rd_T27 x0 x5).f1) % 256] : List Int) : List Int)).bind fun y160 => (if (wrap64 ((x4.length : Int) + (y160.length : Int))) > 10000 then (some (x4, false)) else (if x4.length + y160.length < 140737488355328 then (spec_Built.l0 k x0 (x4 ++ y160) (wrap64 (x5 + 1))) else (none)))) else (if ((rd_T27 x0 x5).f0) = 1 then (if (((rd_T27 x0 x5).f2).length : Int) > 520 then (some (x4, false)) else ((spec_Push.f k ((rd_T27 x0 x5).f2)).bind fun t166 => (if (wrap64 ((x4.length : Int) + (t166.length : Int))) > 10000 then (some (x4, false)) else (if x4.length + t166.length < 140737488355328 then (spec_Built.l0 k x0 (x4 ++ t166) (wrap64 (x5 + 1))) else (none))))) else (if ((rd_T27 x0 x5).f0) = 2 then ((spec_NumberBytes.f k ((rd_T27 x0 x5).f1)).bind fun t172 => ((spec_Push.f k t172).bind fun t175 => (if (wrap64 ((x4.length : Int) + (t175.length : Int))) > 10000 then (some (x4, false)) else (if x4.length + t175.length < 140737488355328 then (spec_Built.l0 k x0 (x4 ++ t175) (wrap64 (x5 + 1))) else (none))))) else (if ((rd_T27 x0 x5).f0) = 3 then (if (wrap64 ((x4.length : Int) + (((rd_T27 x0 x5).f2).length : Int))) > 10000 then (some (x4, false)) else (if x4.length + ((rd_T27 x0 x5).f2).length < 140737488355328 then (spec_Built.l0 k x0 (x4 ++ ((rd_T27 x0 x5).f2)) (wrap64 (x5 + 1))) else (none))) else (spec_Built.l0 k x0 ([] : List Int) (wrap64 (x5 + 1))))))) else (none)) else (some (x4, true))
def spec_Built.f (k : Nat) (l0 : List (S27)) : Option (List Int × Bool) := spec_Built.l0 k l0 ([] : List Int) 0
theorem spec_Built.mono_l : ∀ k, (∀ y0 y1 y2, LeO (spec_Built.l0 k y0 y1 y2) (spec_Built.l0 (k + 1) y0 y1 y2))
  | 0 => fun _ _ _ r h => by simp [spec_Built.l0] at h
  | k + 1 => by
    have ih0 := spec_Built.mono_l k
    · intro y0 y1 y2
      unfold spec_Built.l0
      repeat' first
      | (with_reducible exact ih0 _ _ _)
      | (with_reducible exact spec_NumberBytes.mono _ _)
      | (with_reducible exact spec_Push.mono _ _)
      | (with_reducible exact LeO.refl _)
      | (with_reducible exact LeO.none _)
      | (with_reducible refine LeO.ite ?_ ?_)
      | (with_reducible refine LeO.bind ?_ (fun _ => ?_))
      | exact ih0 _ _ _
      | exact spec_NumberBytes.mono _ _
      | exact spec_Push.mono _ _
      | exact LeO.none _
      | refine LeO.ite ?_ ?_
      | refine LeO.bind ?_ (fun _ => ?_)
theorem spec_Built.mono : ∀ a0 k, LeO (spec_Built.f k a0) (spec_Built.f (k + 1) a0) := by
  intro a0 k
  have ih0 := spec_Built.mono_l k
  unfold spec_Built.f
  repeat' first
      | (with_reducible exact ih0 _ _ _)
      | (with_reducible exact spec_NumberBytes.mono _ _)
      | (with_reducible exact spec_Push.mono _ _)
      | (with_reducible exact LeO.refl _)
      | (with_reducible exact LeO.none _)
      | (with_reducible refine LeO.ite ?_ ?_)
      | (with_reducible refine LeO.bind ?_ (fun _ => ?_))
      | exact ih0 _ _ _
      | exact spec_NumberBytes.mono _ _
      | exact spec_Push.mono _ _
      | exact LeO.none _
      | refine LeO.ite ?_ ?_
      | refine LeO.bind ?_ (fun _ => ?_)
set_option maxHeartbeats 8000000 in
set_option maxRecDepth 100000 in
theorem spec_Built.calls (k : Nat) (A0 : Option Addr) (c0 : Nat) (l0 : List (S27)) (r1 : List Int) (r2 : Bool) (w : World) (hr0 : Kd.C k27 w A0 l0.length l0) (hc0 : l0.length ≤ c0) (h : spec_Built.f k l0 = some (r1, r2)) :
    Calls Try.prog 10 #[.slice A0 l0.length c0] w fun e w' => ∃ v0_ : Value, e = .returned (.tuple #[v0_, .bool r2]) ∧ Kd.R (Kd.int .u8) 5 w' w.heap.size (fun _ => True) v0_ r1 ∧ Below w.heap.size w w' := by
  have hu27 := Try.underlying27
  have HR0 := Aside0.mk hr0
  have HC0 := Aside0.mk hc0
  clear hr0 hc0
  have HB := Aside0.mk (Below.refl w.heap.size w)
  have H : (spec_Built.l0 k l0 ([] : List Int) 0) = some (r1, r2) := h
  clear h
  have H' := Aside0.mk H
  clear H
  go_enter Try.func10, Try.ntmps10
  go_wp2
  go_loopg [4, 5] k (fun kq v4 v5 w' => ∃ (x4_1 : List Int) (x5_1 : Int), v5 = .int .i64 x5_1 ∧ Aside0 (spec_Built.l0 kq l0 x4_1 x5_1 = some (r1, r2)) ∧ Aside0 (kq ≤ k) ∧ Aside0 (Kd.R (Kd.int .u8) 5 w' w.heap.size (fun _ => True) v4 x4_1) ∧ Aside0 (Below w.heap.size w w'))
  case atStart => exact ⟨(([] : List Int)), (0), (by first | rfl | (simp; done) | (simp [*]; done)), H', ⟨Nat.le_refl _⟩, ⟨by first | exact Kd.R_nil _ _ _ _ _ | exact Kd.N_nil _ _ _ _ _ | exact Kd.V_nil _ _ _ _ _ | exact Kd.Q_nil _ _ _ _ _ | exact Kd.S_nil _ _ _ _ _⟩, ⟨by repeat (first | (with_reducible first | exact HB.out | apply below_alloc | apply pw_below_drewN | apply below_drew1) | exact HB.out)⟩⟩
  case round =>
    clear H'
    try clear c1
    obtain ⟨x4_1, x5_1, rfl, HA, HK1, HO_4, HB⟩ := hrel
    cases gk with
    | zero => exact absurd HA.out (by simp [spec_Built.l0])
    | succ k1 =>
      have H := HA.out
      clear HA
      simp only [spec_Built.l0] at H
      by_cases c2 : x5_1 < (l0.length : Int)
      · rw [if_pos c2] at H
        have c2b0 : decide (x5_1 < (l0.length : Int)) = true := decide_eq_true c2
        clear c2
        by_cases c3 : 0 ≤ x5_1
        · rw [if_pos c3] at H
          have c3b0 : decide (0 ≤ x5_1) = true := decide_eq_true c3
          clear c3
          by_cases c4 : ((rd_T27 l0 x5_1).f0) = 0
          · rw [if_pos c4] at H
            have c4b0 : (((rd_T27 l0 x5_1).f0) == 0) = true := beq_iff_eq.mpr c4
            have c4b1 : (((rd_T27 l0 x5_1).f0) != 0) = false := bne_eq_false_iff_eq.mpr c4
            clear c4
            obtain ⟨y160, hy160⟩ : ∃ y_ : List Int, y_ = (([((rd_T27 l0 x5_1).f1) % 256] : List Int)) := ⟨_, rfl⟩
            replace H : (if (wrap64 ((x4_1.length : Int) + (y160.length : Int))) > 10000 then (some (x4_1, false)) else (if x4_1.length + y160.length < 140737488355328 then (spec_Built.l0 k1 l0 (x4_1 ++ y160) (wrap64 (x5_1 + 1))) else (none))) = some (r1, r2) := by first | (rw [hy160]; with_reducible exact H) | (have H2_ := (Option.bind_some _ _).symm.trans H; rw [hy160]; with_reducible exact H2_) | (have H2_ := (Option.bind_some _ _).symm.trans H; with_reducible exact H2_) | with_reducible exact H | (rw [hy160]; exact H) | exact H
            have Ny160 := Aside0.mk hy160
            clear hy160
            by_cases c5 : (wrap64 ((x4_1.length : Int) + (y160.length : Int))) > 10000
            · rw [if_pos c5] at H
              have c5b0 : decide (10000 < (wrap64 ((x4_1.length : Int) + (y160.length : Int)))) = true := decide_eq_true c5
              clear c5
              simp only [Option.some.injEq, Prod.mk.injEq] at H
              obtain ⟨rfl, rfl⟩ := H
              have p158 : 0 ≤ (x5_1 : Int) := of_decide_eq_true (by first | (with_reducible assumption) | assumption)
              have q158 : x5_1 < (l0.length : Int) := of_decide_eq_true (by first | (with_reducible assumption) | assumption)
              obtain ⟨ad158, A158_2, c158_2, e158, hx158_0, hx158_1, hx158_2, hl158_2, hi158_2⟩ := at_T27 HR0.out x5_1 p158 q158
              cases e158
              replace hx158_0 := (HB.out.cell (World.block_lt_of_cell? w _ hx158_0)).trans hx158_0
              replace hx158_1 := (HB.out.cell (World.block_lt_of_cell? w _ hx158_1)).trans hx158_1
              replace hx158_2 := (HB.out.cell (World.block_lt_of_cell? w _ hx158_2)).trans hx158_2
              have HR158_2 := Aside0.mk hi158_2
              have HC158_2 := Aside0.mk hl158_2
              clear hi158_2 hl158_2
              replace p158 := eq_true p158
              replace q158 := eq_true q158
              go_wp2_with (first | ((with_reducible refine gate_dst (N := 7) rfl ?_); refine box_event ?hg (N := 7) ?hd (cs := #[.int .i64 0, .int .i64 0, .slice none 0 0]) (t := 27) ?hr ?_; (case hd => rfl); (case hg => rfl); (case hr => first | (go_simp; done) | (go_simp; rfl)); intro gb159 hg w6 hbox hb; have n0_ := Aside0.mk (Kd.R_below (by (with_reducible repeat (first | apply Kd.R_alloc | apply Kd.R_drewN | apply Kd.R_drew)); exact HO_4.out) hb); have n1_ := Aside0.mk (below_step (by repeat (first | (with_reducible first | exact HB.out | apply below_alloc | apply pw_below_drewN | apply below_drew1) | exact HB.out)) hb); have n2_ := Aside0.mk (hbox); have n3_ := Aside0.mk ((by rw [hg]; exact (below_size (by repeat (first | (with_reducible first | exact HB.out | apply below_alloc | apply pw_below_drewN | apply below_drew1) | exact HB.out))) : w.heap.size ≤ gb159)); have n4_ := Aside0.mk ((by rw [hg]; exact (below_size (by repeat (first | (with_reducible first | exact HB.out | apply below_alloc | apply pw_below_drewN | apply below_drew1) | exact HB.out))) : w.heap.size ≤ gb159)); clear HO_4; clear HB; have HO_4 := n0_; have HB := n1_; have BK159 := n2_; have GW159 := n3_; have GE159 := n4_; clear n0_ n1_ n2_ n3_ n4_; clear hb hbox hg; have hcz7_0 : w6.cell? ⟨gb159, 0, none⟩ = some (.int .i64 0) := (blk_cell BK159.out 0).trans rfl; have hcz7_1 : w6.cell? ⟨gb159, 1, none⟩ = some (.int .i64 0) := (blk_cell BK159.out 1).trans rfl; have hcz7_2 : w6.cell? ⟨gb159, 2, none⟩ = some (.slice none 0 0) := (blk_cell BK159.out 2).trans rfl; have hfz7_0 := blk_frozen BK159.out 0; have hfz7_1 := blk_frozen BK159.out 1; have hfz7_2 := blk_frozen BK159.out 2) | ((with_reducible refine gate_dst (N := 25) rfl ?_); refine Kd.R_lit (Kd.int .u8) _ 5 ?hg (N := 25) ?hd (xs := ([((rd_T27 l0 x5_1).f1) % 256] : List Int)) (inner := [.int .u8 (((rd_T27 l0 x5_1).f1) % 256)]) (ok := fun _ => True) (okp := fun _ => True) ?hr ?hp (fun _ hk => hk) trivial (Below.refl _ _) (Nat.le_refl _) (by simp) ?_; (case hd => rfl); (case hg => rfl); (case hr => first | (go_simp; done) | (go_simp; rfl)); (case hp => exact (Reps.one (show Kd.M (Kd.int .u8) _ _ _ (((rd_T27 l0 x5_1).f1) % 256) [.int .u8 (((rd_T27 l0 x5_1).f1) % 256)] from rfl) (Reps.none _ _))); intro v161 w8 ho9 hb hg_ hnew_; clear hg_ hnew_; (first | rw [← Ny160.out] at ho9 | (simp only [Int.reduceToNat] at ho9; rw [← Ny160.out] at ho9)); have n0_ := Aside0.mk (Kd.R_elder' (by (with_reducible repeat (first | apply Kd.R_alloc | apply Kd.R_drewN | apply Kd.R_drew)); exact (Kd.R_mono (Kd.R_far (p := ⟨gb159, 2, none⟩) (Kd.R_far (p := ⟨gb159, 1, none⟩) (Kd.R_far (p := ⟨gb159, 0, none⟩) (Kd.R_types HO_4.out BK159.out (by decide)) (fun _ hk => hk.2) (.int .i64 ((rd_T27 l0 x5_1).f0))) (fun _ hk => hk.2) (.int .i64 ((rd_T27 l0 x5_1).f1))) (fun _ hk => hk.2) (.slice A158_2 ((rd_T27 l0 x5_1).f2).length c158_2)) (fun _ h_ => h_.1))) (Kd.R_base ho9) hb); have n1_ := Aside0.mk (Kd.R_lower (Kd.R_new' ho9 (Kd.R_lt (by (with_reducible repeat (first | apply Kd.R_alloc | apply Kd.R_drewN | apply Kd.R_drew)); exact (Kd.R_mono (Kd.R_far (p := ⟨gb159, 2, none⟩) (Kd.R_far (p := ⟨gb159, 1, none⟩) (Kd.R_far (p := ⟨gb159, 0, none⟩) (Kd.R_types HO_4.out BK159.out (by decide)) (fun _ hk => hk.2) (.int .i64 ((rd_T27 l0 x5_1).f0))) (fun _ hk => hk.2) (.int .i64 ((rd_T27 l0 x5_1).f1))) (fun _ hk => hk.2) (.slice A158_2 ((rd_T27 l0 x5_1).f2).length c158_2)) (fun _ h_ => h_.1))))) (below_size (by repeat (first | (with_reducible first | exact HB.out | apply below_alloc | apply pw_below_drewN | apply below_drew1 | refine below_set ?_ GE159.out) | exact HB.out)))); have n2_ := Aside0.mk (blk_below (g := gb159) (o := .cells #[.int .i64 ((rd_T27 l0 x5_1).f0), .int .i64 ((rd_T27 l0 x5_1).f1), .slice A158_2 ((rd_T27 l0 x5_1).f2).length c158_2] 27 (0, 0)) (by (with_reducible repeat (first | refine blk_drewN ?_ _ | refine blk_drew ?_ | refine blk_alloc ?_ _)); refine blk_put (cs := #[.int .i64 ((rd_T27 l0 x5_1).f0), .int .i64 ((rd_T27 l0 x5_1).f1), .slice none 0 0]) ?_ 2 _ rfl; (with_reducible repeat (first | refine blk_drewN ?_ _ | refine blk_drew ?_ | refine blk_alloc ?_ _)); refine blk_put (cs := #[.int .i64 ((rd_T27 l0 x5_1).f0), .int .i64 0, .slice none 0 0]) ?_ 1 _ rfl; (with_reducible repeat (first | refine blk_drewN ?_ _ | refine blk_drew ?_ | refine blk_alloc ?_ _)); refine blk_put (cs := #[.int .i64 0, .int .i64 0, .slice none 0 0]) ?_ 0 _ rfl; (with_reducible repeat (first | refine blk_drewN ?_ _ | refine blk_drew ?_ | refine blk_alloc ?_ _)); exact BK159.out) hb); have n3_ := Aside0.mk (below_step (by repeat (first | (with_reducible first | exact HB.out | apply below_alloc | apply pw_below_drewN | apply below_drew1 | refine below_set ?_ GE159.out) | exact HB.out)) hb); clear HO_4; clear BK159; clear HB; have HO_4 := n0_; have HO162 := n1_; have BK159 := n2_; have HB := n3_; clear n0_ n1_ n2_ n3_; clear hb ho9; obtain ⟨Ao10, co10, eo10⟩ := Kd.R_slice HO_4.out; subst eo10; obtain ⟨Ao11, co11, eo11⟩ := Kd.R_slice HO162.out; subst eo11))
              go_ret2
              exact ⟨_, by first | rfl | (simp [errW_none, errW_some] <;> rfl) | (simp [*, errW_none, errW_some] <;> rfl), by (with_reducible repeat (first | apply Kd.R_alloc | apply Kd.R_drewN | apply Kd.R_drew)); exact Kd.R_mono HO_4.out (fun _ hk => trivial), by repeat (first | (with_reducible first | exact HB.out | apply below_alloc | apply pw_below_drewN | apply below_drew1 | refine below_set ?_ GE159.out) | exact HB.out)⟩
            · rw [if_neg c5] at H
              have c5b0 : decide (10000 < (wrap64 ((x4_1.length : Int) + (y160.length : Int)))) = false := decide_eq_false c5
              clear c5
              by_cases c12 : x4_1.length + y160.length < 140737488355328
              · rw [if_pos c12] at H
                have LMc12 := Aside0.mk c12
                clear c12
                obtain ⟨y163, hy163⟩ : ∃ y_ : List Int, y_ = (x4_1 ++ y160) := ⟨_, rfl⟩
                replace H : (spec_Built.l0 k1 l0 y163 (wrap64 (x5_1 + 1))) = some (r1, r2) := by first | (rw [hy163]; with_reducible exact H) | (have H2_ := (Option.bind_some _ _).symm.trans H; rw [hy163]; with_reducible exact H2_) | (have H2_ := (Option.bind_some _ _).symm.trans H; with_reducible exact H2_) | with_reducible exact H | (rw [hy163]; exact H) | exact H
                have Ny163 := Aside0.mk hy163
                clear hy163
                have H' := Aside0.mk H
                clear H
                have p158 : 0 ≤ (x5_1 : Int) := of_decide_eq_true (by first | (with_reducible assumption) | assumption)
                have q158 : x5_1 < (l0.length : Int) := of_decide_eq_true (by first | (with_reducible assumption) | assumption)
                obtain ⟨ad158, A158_2, c158_2, e158, hx158_0, hx158_1, hx158_2, hl158_2, hi158_2⟩ := at_T27 HR0.out x5_1 p158 q158
                cases e158
                replace hx158_0 := (HB.out.cell (World.block_lt_of_cell? w _ hx158_0)).trans hx158_0
                replace hx158_1 := (HB.out.cell (World.block_lt_of_cell? w _ hx158_1)).trans hx158_1
                replace hx158_2 := (HB.out.cell (World.block_lt_of_cell? w _ hx158_2)).trans hx158_2
                have HR158_2 := Aside0.mk hi158_2
                have HC158_2 := Aside0.mk hl158_2
                clear hi158_2 hl158_2
                replace p158 := eq_true p158
                replace q158 := eq_true q158
                go_wp2_with (first | ((with_reducible refine gate_dst (N := 7) rfl ?_); refine box_event ?hg (N := 7) ?hd (cs := #[.int .i64 0, .int .i64 0, .slice none 0 0]) (t := 27) ?hr ?_; (case hd => rfl); (case hg => rfl); (case hr => first | (go_simp; done) | (go_simp; rfl)); intro gb159 hg w13 hbox hb; have n0_ := Aside0.mk (Kd.R_below (by (with_reducible repeat (first | apply Kd.R_alloc | apply Kd.R_drewN | apply Kd.R_drew)); exact HO_4.out) hb); have n1_ := Aside0.mk (below_step (by repeat (first | (with_reducible first | exact HB.out | apply below_alloc | apply pw_below_drewN | apply below_drew1) | exact HB.out)) hb); have n2_ := Aside0.mk (hbox); have n3_ := Aside0.mk ((by rw [hg]; exact (below_size (by repeat (first | (with_reducible first | exact HB.out | apply below_alloc | apply pw_below_drewN | apply below_drew1) | exact HB.out))) : w.heap.size ≤ gb159)); have n4_ := Aside0.mk ((by rw [hg]; exact (below_size (by repeat (first | (with_reducible first | exact HB.out | apply below_alloc | apply pw_below_drewN | apply below_drew1) | exact HB.out))) : w.heap.size ≤ gb159)); clear HO_4; clear HB; have HO_4 := n0_; have HB := n1_; have BK159 := n2_; have GW159 := n3_; have GE159 := n4_; clear n0_ n1_ n2_ n3_ n4_; clear hb hbox hg; have hcz14_0 : w13.cell? ⟨gb159, 0, none⟩ = some (.int .i64 0) := (blk_cell BK159.out 0).trans rfl; have hcz14_1 : w13.cell? ⟨gb159, 1, none⟩ = some (.int .i64 0) := (blk_cell BK159.out 1).trans rfl; have hcz14_2 : w13.cell? ⟨gb159, 2, none⟩ = some (.slice none 0 0) := (blk_cell BK159.out 2).trans rfl; have hfz14_0 := blk_frozen BK159.out 0; have hfz14_1 := blk_frozen BK159.out 1; have hfz14_2 := blk_frozen BK159.out 2) | ((with_reducible refine gate_dst (N := 25) rfl ?_); refine Kd.R_lit (Kd.int .u8) _ 5 ?hg (N := 25) ?hd (xs := ([((rd_T27 l0 x5_1).f1) % 256] : List Int)) (inner := [.int .u8 (((rd_T27 l0 x5_1).f1) % 256)]) (ok := fun _ => True) (okp := fun _ => True) ?hr ?hp (fun _ hk => hk) trivial (Below.refl _ _) (Nat.le_refl _) (by simp) ?_; (case hd => rfl); (case hg => rfl); (case hr => first | (go_simp; done) | (go_simp; rfl)); (case hp => exact (Reps.one (show Kd.M (Kd.int .u8) _ _ _ (((rd_T27 l0 x5_1).f1) % 256) [.int .u8 (((rd_T27 l0 x5_1).f1) % 256)] from rfl) (Reps.none _ _))); intro v161 w15 ho16 hb hg_ hnew_; clear hg_ hnew_; (first | rw [← Ny160.out] at ho16 | (simp only [Int.reduceToNat] at ho16; rw [← Ny160.out] at ho16)); have n0_ := Aside0.mk (Kd.R_elder' (by (with_reducible repeat (first | apply Kd.R_alloc | apply Kd.R_drewN | apply Kd.R_drew)); exact (Kd.R_mono (Kd.R_far (p := ⟨gb159, 2, none⟩) (Kd.R_far (p := ⟨gb159, 1, none⟩) (Kd.R_far (p := ⟨gb159, 0, none⟩) (Kd.R_types HO_4.out BK159.out (by decide)) (fun _ hk => hk.2) (.int .i64 ((rd_T27 l0 x5_1).f0))) (fun _ hk => hk.2) (.int .i64 ((rd_T27 l0 x5_1).f1))) (fun _ hk => hk.2) (.slice A158_2 ((rd_T27 l0 x5_1).f2).length c158_2)) (fun _ h_ => h_.1))) (Kd.R_base ho16) hb); have n1_ := Aside0.mk (Kd.R_lower (Kd.R_new' ho16 (Kd.R_lt (by (with_reducible repeat (first | apply Kd.R_alloc | apply Kd.R_drewN | apply Kd.R_drew)); exact (Kd.R_mono (Kd.R_far (p := ⟨gb159, 2, none⟩) (Kd.R_far (p := ⟨gb159, 1, none⟩) (Kd.R_far (p := ⟨gb159, 0, none⟩) (Kd.R_types HO_4.out BK159.out (by decide)) (fun _ hk => hk.2) (.int .i64 ((rd_T27 l0 x5_1).f0))) (fun _ hk => hk.2) (.int .i64 ((rd_T27 l0 x5_1).f1))) (fun _ hk => hk.2) (.slice A158_2 ((rd_T27 l0 x5_1).f2).length c158_2)) (fun _ h_ => h_.1))))) (below_size (by repeat (first | (with_reducible first | exact HB.out | apply below_alloc | apply pw_below_drewN | apply below_drew1 | refine below_set ?_ GE159.out) | exact HB.out)))); have n2_ := Aside0.mk (blk_below (g := gb159) (o := .cells #[.int .i64 ((rd_T27 l0 x5_1).f0), .int .i64 ((rd_T27 l0 x5_1).f1), .slice A158_2 ((rd_T27 l0 x5_1).f2).length c158_2] 27 (0, 0)) (by (with_reducible repeat (first | refine blk_drewN ?_ _ | refine blk_drew ?_ | refine blk_alloc ?_ _)); refine blk_put (cs := #[.int .i64 ((rd_T27 l0 x5_1).f0), .int .i64 ((rd_T27 l0 x5_1).f1), .slice none 0 0]) ?_ 2 _ rfl; (with_reducible repeat (first | refine blk_drewN ?_ _ | refine blk_drew ?_ | refine blk_alloc ?_ _)); refine blk_put (cs := #[.int .i64 ((rd_T27 l0 x5_1).f0), .int .i64 0, .slice none 0 0]) ?_ 1 _ rfl; (with_reducible repeat (first | refine blk_drewN ?_ _ | refine blk_drew ?_ | refine blk_alloc ?_ _)); refine blk_put (cs := #[.int .i64 0, .int .i64 0, .slice none 0 0]) ?_ 0 _ rfl; (with_reducible repeat (first | refine blk_drewN ?_ _ | refine blk_drew ?_ | refine blk_alloc ?_ _)); exact BK159.out) hb); have n3_ := Aside0.mk (below_step (by repeat (first | (with_reducible first | exact HB.out | apply below_alloc | apply pw_below_drewN | apply below_drew1 | refine below_set ?_ GE159.out) | exact HB.out)) hb); clear HO_4; clear BK159; clear HB; have HO_4 := n0_; have HO162 := n1_; have BK159 := n2_; have HB := n3_; clear n0_ n1_ n2_ n3_; clear hb ho16; obtain ⟨Ao17, co17, eo17⟩ := Kd.R_slice HO_4.out; subst eo17; obtain ⟨Ao18, co18, eo18⟩ := Kd.R_slice HO162.out; subst eo18) | ((with_reducible refine gate_builtin (b := .append) (xs := #[.tmp 53, .tmp 54]) rfl ?_); at_builtin; refine Kd.R_append_rows (Kd.int .u8) (w0 := w) w.heap.size rfl (.tmp 53) (.tmp 54) 23 5 (.int .u8 0) 1 rfl Try.underlying23 info5 rfl (by decide) (by omega) (.slice Ao17 x4_1.length co17) x4_1 y160 _ _ _ (fun k_ => some k_ ≠ (.slice Ao18 y160.length co18 : Value).ownBlock) (fun _ => False) rfl rfl ?aO ?aR (fun _ _ h => h) (fun _ h => h.elim) ?aF ?aB ?aS ?aL ?_; (case aR => repeat (first | exact (Kd.R_reads' HO162.out).2.2 | (with_reducible refine Kd.C_alloc ?_ _) | (with_reducible refine Kd.C_drewN ?_ _) | (with_reducible refine Kd.C_drew ?_))); (case aB => exact (by repeat (first | (with_reducible first | exact HB.out | apply below_alloc | apply pw_below_drewN | apply below_drew1 | refine below_set ?_ GE159.out) | exact HB.out))); (case aF => exact (fun k_ hk => Kd.fresh' (Kd.R_lt (by (with_reducible repeat (first | apply Kd.R_alloc | apply Kd.R_drewN | apply Kd.R_drew)); exact HO162.out)) k_ hk)); (case aO => exact (by (with_reducible repeat (first | apply Kd.R_alloc | apply Kd.R_drewN | apply Kd.R_drew)); exact Kd.R_mono HO_4.out (fun _ hk => hk.2))); (case aS => exact (below_size (by repeat (first | (with_reducible first | exact HB.out | apply below_alloc | apply pw_below_drewN | apply below_drew1 | refine below_set ?_ GE159.out) | exact HB.out)))); (case aL => have := LMc12.out; omega); intro v164 w19 ho hb hg hat; rw [← Ny163.out] at ho; have n0_ := Aside0.mk (blk_grown (g := gb159) (o := .cells #[.int .i64 ((rd_T27 l0 x5_1).f0), .int .i64 ((rd_T27 l0 x5_1).f1), .slice A158_2 ((rd_T27 l0 x5_1).f2).length c158_2] 27 (0, 0)) (by (with_reducible repeat (first | refine blk_drewN ?_ _ | refine blk_drew ?_ | refine blk_alloc ?_ _)); exact BK159.out) hg (Kd.R_ne HO_4.out BK159.out (by decide))); have n1_ := Aside0.mk (Kd.R_after (ok := (fun _ => True)) (by (with_reducible repeat (first | apply Kd.R_alloc | apply Kd.R_drewN | apply Kd.R_drew)); exact HO162.out) hg hat); have n2_ := Aside0.mk (hb); have n3_ := Aside0.mk (ho); clear BK159; clear HO162; clear HB; clear HO_4; have BK159 := n0_; have HO162 := n1_; have HB := n2_; have HO165 := n3_; clear n0_ n1_ n2_ n3_; clear ho hb hg hat))
                go_roundg k1
                case measure => have := HK1.out; omega
                case rel => exact ⟨(y163), (wrap64 (x5_1 + 1)), (by first | rfl | (simp; done) | (simp [*]; done)), (by first | exact H' | (subst_vars; exact H')), ⟨by have := HK1.out; omega⟩, ⟨by (with_reducible repeat (first | apply Kd.R_alloc | apply Kd.R_drewN | apply Kd.R_drew)); exact Kd.R_mono HO165.out (fun _ hk => trivial)⟩, ⟨by repeat (first | (with_reducible first | exact HB.out | apply below_alloc | apply pw_below_drewN | apply below_drew1 | refine below_set ?_ GE159.out) | exact HB.out)⟩⟩
              · rw [if_neg c12] at H
                exact absurd H (by simp)
          · rw [if_neg c4] at H
            have c4b0 : (((rd_T27 l0 x5_1).f0) == 0) = false := beq_eq_false_iff_ne.mpr c4
            have c4b1 : (((rd_T27 l0 x5_1).f0) != 0) = true := bne_iff_ne.mpr c4
            by_cases c20 : ((rd_T27 l0 x5_1).f0) = 1
            · rw [if_pos c20] at H
              have c20b0 : (((rd_T27 l0 x5_1).f0) == 1) = true := beq_iff_eq.mpr c20
              have c20b1 : (((rd_T27 l0 x5_1).f0) != 1) = false := bne_eq_false_iff_eq.mpr c20
              clear c20
              by_cases c21 : (((rd_T27 l0 x5_1).f2).length : Int) > 520
              · rw [if_pos c21] at H
                have c21b0 : decide (520 < (((rd_T27 l0 x5_1).f2).length : Int)) = true := decide_eq_true c21
                have c21b1 : decide (520 < ((rd_T27 l0 x5_1).f2).length) = true := decide_eq_true (by omega)
                clear c21
                simp only [Option.some.injEq, Prod.mk.injEq] at H
                obtain ⟨rfl, rfl⟩ := H
                have p158 : 0 ≤ (x5_1 : Int) := of_decide_eq_true (by first | (with_reducible assumption) | assumption)
                have q158 : x5_1 < (l0.length : Int) := of_decide_eq_true (by first | (with_reducible assumption) | assumption)
                obtain ⟨ad158, A158_2, c158_2, e158, hx158_0, hx158_1, hx158_2, hl158_2, hi158_2⟩ := at_T27 HR0.out x5_1 p158 q158
                cases e158
                replace hx158_0 := (HB.out.cell (World.block_lt_of_cell? w _ hx158_0)).trans hx158_0
                replace hx158_1 := (HB.out.cell (World.block_lt_of_cell? w _ hx158_1)).trans hx158_1
                replace hx158_2 := (HB.out.cell (World.block_lt_of_cell? w _ hx158_2)).trans hx158_2
                have HR158_2 := Aside0.mk hi158_2
                have HC158_2 := Aside0.mk hl158_2
                clear hi158_2 hl158_2
                replace p158 := eq_true p158
                replace q158 := eq_true q158
                go_wp2_with (first | ((with_reducible refine gate_dst (N := 7) rfl ?_); refine box_event ?hg (N := 7) ?hd (cs := #[.int .i64 0, .int .i64 0, .slice none 0 0]) (t := 27) ?hr ?_; (case hd => rfl); (case hg => rfl); (case hr => first | (go_simp; done) | (go_simp; rfl)); intro gb159 hg w22 hbox hb; have n0_ := Aside0.mk (Kd.R_below (by (with_reducible repeat (first | apply Kd.R_alloc | apply Kd.R_drewN | apply Kd.R_drew)); exact HO_4.out) hb); have n1_ := Aside0.mk (below_step (by repeat (first | (with_reducible first | exact HB.out | apply below_alloc | apply pw_below_drewN | apply below_drew1) | exact HB.out)) hb); have n2_ := Aside0.mk (hbox); have n3_ := Aside0.mk ((by rw [hg]; exact (below_size (by repeat (first | (with_reducible first | exact HB.out | apply below_alloc | apply pw_below_drewN | apply below_drew1) | exact HB.out))) : w.heap.size ≤ gb159)); have n4_ := Aside0.mk ((by rw [hg]; exact (below_size (by repeat (first | (with_reducible first | exact HB.out | apply below_alloc | apply pw_below_drewN | apply below_drew1) | exact HB.out))) : w.heap.size ≤ gb159)); clear HO_4; clear HB; have HO_4 := n0_; have HB := n1_; have BK159 := n2_; have GW159 := n3_; have GE159 := n4_; clear n0_ n1_ n2_ n3_ n4_; clear hb hbox hg; have hcz23_0 : w22.cell? ⟨gb159, 0, none⟩ = some (.int .i64 0) := (blk_cell BK159.out 0).trans rfl; have hcz23_1 : w22.cell? ⟨gb159, 1, none⟩ = some (.int .i64 0) := (blk_cell BK159.out 1).trans rfl; have hcz23_2 : w22.cell? ⟨gb159, 2, none⟩ = some (.slice none 0 0) := (blk_cell BK159.out 2).trans rfl; have hfz23_0 := blk_frozen BK159.out 0; have hfz23_1 := blk_frozen BK159.out 1; have hfz23_2 := blk_frozen BK159.out 2))
                go_ret2
                exact ⟨_, by first | rfl | (simp [errW_none, errW_some] <;> rfl) | (simp [*, errW_none, errW_some] <;> rfl), by (with_reducible repeat (first | apply Kd.R_alloc | apply Kd.R_drewN | apply Kd.R_drew)); exact Kd.R_mono (Kd.R_far (p := ⟨gb159, 2, none⟩) (Kd.R_far (p := ⟨gb159, 1, none⟩) (Kd.R_far (p := ⟨gb159, 0, none⟩) (Kd.R_types HO_4.out BK159.out (by decide)) (fun _ hk => hk.2) (.int .i64 ((rd_T27 l0 x5_1).f0))) (fun _ hk => hk.2) (.int .i64 ((rd_T27 l0 x5_1).f1))) (fun _ hk => hk.2) (.slice A158_2 ((rd_T27 l0 x5_1).f2).length c158_2)) (fun _ hk => trivial), by repeat (first | (with_reducible first | exact HB.out | apply below_alloc | apply pw_below_drewN | apply below_drew1 | refine below_set ?_ GE159.out) | exact HB.out)⟩
              · rw [if_neg c21] at H
                have c21b0 : decide (520 < (((rd_T27 l0 x5_1).f2).length : Int)) = false := decide_eq_false c21
                have c21b1 : decide (520 < ((rd_T27 l0 x5_1).f2).length) = false := decide_eq_false (by omega)
                clear c21
                replace H := Option.bind_eq_some_iff.mp H
                obtain ⟨t166, A240, H⟩ := H
                replace H : (if (wrap64 ((x4_1.length : Int) + (t166.length : Int))) > 10000 then (some (x4_1, false)) else (if x4_1.length + t166.length < 140737488355328 then (spec_Built.l0 k1 l0 (x4_1 ++ t166) (wrap64 (x5_1 + 1))) else (none))) = some (r1, r2) := H
                have A24 := Aside0.mk A240
                clear A240
                by_cases c25 : (wrap64 ((x4_1.length : Int) + (t166.length : Int))) > 10000
                · rw [if_pos c25] at H
                  have c25b0 : decide (10000 < (wrap64 ((x4_1.length : Int) + (t166.length : Int)))) = true := decide_eq_true c25
                  clear c25
                  simp only [Option.some.injEq, Prod.mk.injEq] at H
                  obtain ⟨rfl, rfl⟩ := H
                  have p158 : 0 ≤ (x5_1 : Int) := of_decide_eq_true (by first | (with_reducible assumption) | assumption)
                  have q158 : x5_1 < (l0.length : Int) := of_decide_eq_true (by first | (with_reducible assumption) | assumption)
                  obtain ⟨ad158, A158_2, c158_2, e158, hx158_0, hx158_1, hx158_2, hl158_2, hi158_2⟩ := at_T27 HR0.out x5_1 p158 q158
                  cases e158
                  replace hx158_0 := (HB.out.cell (World.block_lt_of_cell? w _ hx158_0)).trans hx158_0
                  replace hx158_1 := (HB.out.cell (World.block_lt_of_cell? w _ hx158_1)).trans hx158_1
                  replace hx158_2 := (HB.out.cell (World.block_lt_of_cell? w _ hx158_2)).trans hx158_2
                  have HR158_2 := Aside0.mk hi158_2
                  have HC158_2 := Aside0.mk hl158_2
                  clear hi158_2 hl158_2
                  replace p158 := eq_true p158
                  replace q158 := eq_true q158
                  go_wp2_with (first | ((with_reducible refine gate_dst (N := 7) rfl ?_); refine box_event ?hg (N := 7) ?hd (cs := #[.int .i64 0, .int .i64 0, .slice none 0 0]) (t := 27) ?hr ?_; (case hd => rfl); (case hg => rfl); (case hr => first | (go_simp; done) | (go_simp; rfl)); intro gb159 hg w26 hbox hb; have n0_ := Aside0.mk (Kd.R_below (by (with_reducible repeat (first | apply Kd.R_alloc | apply Kd.R_drewN | apply Kd.R_drew)); exact HO_4.out) hb); have n1_ := Aside0.mk (below_step (by repeat (first | (with_reducible first | exact HB.out | apply below_alloc | apply pw_below_drewN | apply below_drew1) | exact HB.out)) hb); have n2_ := Aside0.mk (hbox); have n3_ := Aside0.mk ((by rw [hg]; exact (below_size (by repeat (first | (with_reducible first | exact HB.out | apply below_alloc | apply pw_below_drewN | apply below_drew1) | exact HB.out))) : w.heap.size ≤ gb159)); have n4_ := Aside0.mk ((by rw [hg]; exact (below_size (by repeat (first | (with_reducible first | exact HB.out | apply below_alloc | apply pw_below_drewN | apply below_drew1) | exact HB.out))) : w.heap.size ≤ gb159)); clear HO_4; clear HB; have HO_4 := n0_; have HB := n1_; have BK159 := n2_; have GW159 := n3_; have GE159 := n4_; clear n0_ n1_ n2_ n3_ n4_; clear hb hbox hg; have hcz27_0 : w26.cell? ⟨gb159, 0, none⟩ = some (.int .i64 0) := (blk_cell BK159.out 0).trans rfl; have hcz27_1 : w26.cell? ⟨gb159, 1, none⟩ = some (.int .i64 0) := (blk_cell BK159.out 1).trans rfl; have hcz27_2 : w26.cell? ⟨gb159, 2, none⟩ = some (.slice none 0 0) := (blk_cell BK159.out 2).trans rfl; have hfz27_0 := blk_frozen BK159.out 0; have hfz27_1 := blk_frozen BK159.out 1; have hfz27_2 := blk_frozen BK159.out 2) | ((with_reducible refine gate_callee (f := 21) rfl ?_); refine goesL_ (some 35) rfl rfl Try.func21 (by kernel_rfl) rfl #[.slice A158_2 ((rd_T27 l0 x5_1).f2).length c158_2] rfl (by (try simp only [List.map_toArray, List.map_cons, List.map_nil]); first | done | rfl | (simp only [List.length_drop, List.length_take]; rfl)) ?_; (with_reducible refine (spec_Push.calls k1 _ _ ((rd_T27 l0 x5_1).f2) t166 _ ?side1 ?side2 A24.out).mono ?_); (case side1 => exact Kd.C_below HR158_2.out (by repeat (first | (with_reducible first | exact HB.out | apply below_alloc | apply pw_below_drewN | apply below_drew1 | refine below_set ?_ GE159.out) | exact HB.out))); (case side2 => exact HC158_2.out); rintro e w28 ⟨v167, rfl, ho0, hb⟩; refine ⟨_, rfl, ?_⟩; have n0_ := Aside0.mk (Kd.R_elder' (by (with_reducible repeat (first | apply Kd.R_alloc | apply Kd.R_drewN | apply Kd.R_drew)); exact (Kd.R_mono (Kd.R_far (p := ⟨gb159, 2, none⟩) (Kd.R_far (p := ⟨gb159, 1, none⟩) (Kd.R_far (p := ⟨gb159, 0, none⟩) (Kd.R_types HO_4.out BK159.out (by decide)) (fun _ hk => hk.2) (.int .i64 ((rd_T27 l0 x5_1).f0))) (fun _ hk => hk.2) (.int .i64 ((rd_T27 l0 x5_1).f1))) (fun _ hk => hk.2) (.slice A158_2 ((rd_T27 l0 x5_1).f2).length c158_2)) (fun _ h_ => h_.1))) (Kd.R_base ho0) hb); have n1_ := Aside0.mk (Kd.R_lower (Kd.R_new' ho0 (Kd.R_lt (by (with_reducible repeat (first | apply Kd.R_alloc | apply Kd.R_drewN | apply Kd.R_drew)); exact (Kd.R_mono (Kd.R_far (p := ⟨gb159, 2, none⟩) (Kd.R_far (p := ⟨gb159, 1, none⟩) (Kd.R_far (p := ⟨gb159, 0, none⟩) (Kd.R_types HO_4.out BK159.out (by decide)) (fun _ hk => hk.2) (.int .i64 ((rd_T27 l0 x5_1).f0))) (fun _ hk => hk.2) (.int .i64 ((rd_T27 l0 x5_1).f1))) (fun _ hk => hk.2) (.slice A158_2 ((rd_T27 l0 x5_1).f2).length c158_2)) (fun _ h_ => h_.1))))) (below_size (by repeat (first | (with_reducible first | exact HB.out | apply below_alloc | apply pw_below_drewN | apply below_drew1 | refine below_set ?_ GE159.out) | exact HB.out)))); have n2_ := Aside0.mk (blk_below (g := gb159) (o := .cells #[.int .i64 ((rd_T27 l0 x5_1).f0), .int .i64 ((rd_T27 l0 x5_1).f1), .slice A158_2 ((rd_T27 l0 x5_1).f2).length c158_2] 27 (0, 0)) (by (with_reducible repeat (first | refine blk_drewN ?_ _ | refine blk_drew ?_ | refine blk_alloc ?_ _)); refine blk_put (cs := #[.int .i64 ((rd_T27 l0 x5_1).f0), .int .i64 ((rd_T27 l0 x5_1).f1), .slice none 0 0]) ?_ 2 _ rfl; (with_reducible repeat (first | refine blk_drewN ?_ _ | refine blk_drew ?_ | refine blk_alloc ?_ _)); refine blk_put (cs := #[.int .i64 ((rd_T27 l0 x5_1).f0), .int .i64 0, .slice none 0 0]) ?_ 1 _ rfl; (with_reducible repeat (first | refine blk_drewN ?_ _ | refine blk_drew ?_ | refine blk_alloc ?_ _)); refine blk_put (cs := #[.int .i64 0, .int .i64 0, .slice none 0 0]) ?_ 0 _ rfl; (with_reducible repeat (first | refine blk_drewN ?_ _ | refine blk_drew ?_ | refine blk_alloc ?_ _)); exact BK159.out) hb); have n3_ := Aside0.mk (below_step (by repeat (first | (with_reducible first | exact HB.out | apply below_alloc | apply pw_below_drewN | apply below_drew1 | refine below_set ?_ GE159.out) | exact HB.out)) hb); clear HO_4; clear BK159; clear HB; have HO_4 := n0_; have HO168 := n1_; have BK159 := n2_; have HB := n3_; clear n0_ n1_ n2_ n3_; (try clear hb); (try clear hb2); (try clear hk); (try clear hi); (try clear ho0); obtain ⟨Ao29, co29, eo29⟩ := Kd.R_slice HO_4.out; subst eo29; obtain ⟨Ao30, co30, eo30⟩ := Kd.R_slice HO168.out; subst eo30))
                  go_ret2
                  exact ⟨_, by first | rfl | (simp [errW_none, errW_some] <;> rfl) | (simp [*, errW_none, errW_some] <;> rfl), by (with_reducible repeat (first | apply Kd.R_alloc | apply Kd.R_drewN | apply Kd.R_drew)); exact Kd.R_mono HO_4.out (fun _ hk => trivial), by repeat (first | (with_reducible first | exact HB.out | apply below_alloc | apply pw_below_drewN | apply below_drew1 | refine below_set ?_ GE159.out) | exact HB.out)⟩
                · rw [if_neg c25] at H
                  have c25b0 : decide (10000 < (wrap64 ((x4_1.length : Int) + (t166.length : Int)))) = false := decide_eq_false c25
                  clear c25
                  by_cases c31 : x4_1.length + t166.length < 140737488355328
                  · rw [if_pos c31] at H
                    have LMc31 := Aside0.mk c31
                    clear c31
                    obtain ⟨y169, hy169⟩ : ∃ y_ : List Int, y_ = (x4_1 ++ t166) := ⟨_, rfl⟩
                    replace H : (spec_Built.l0 k1 l0 y169 (wrap64 (x5_1 + 1))) = some (r1, r2) := by first | (rw [hy169]; with_reducible exact H) | (have H2_ := (Option.bind_some _ _).symm.trans H; rw [hy169]; with_reducible exact H2_) | (have H2_ := (Option.bind_some _ _).symm.trans H; with_reducible exact H2_) | with_reducible exact H | (rw [hy169]; exact H) | exact H
                    have Ny169 := Aside0.mk hy169
                    clear hy169
                    have H' := Aside0.mk H
                    clear H
                    have p158 : 0 ≤ (x5_1 : Int) := of_decide_eq_true (by first | (with_reducible assumption) | assumption)
                    have q158 : x5_1 < (l0.length : Int) := of_decide_eq_true (by first | (with_reducible assumption) | assumption)
                    obtain ⟨ad158, A158_2, c158_2, e158, hx158_0, hx158_1, hx158_2, hl158_2, hi158_2⟩ := at_T27 HR0.out x5_1 p158 q158
                    cases e158
                    replace hx158_0 := (HB.out.cell (World.block_lt_of_cell? w _ hx158_0)).trans hx158_0
                    replace hx158_1 := (HB.out.cell (World.block_lt_of_cell? w _ hx158_1)).trans hx158_1
                    replace hx158_2 := (HB.out.cell (World.block_lt_of_cell? w _ hx158_2)).trans hx158_2
                    have HR158_2 := Aside0.mk hi158_2
                    have HC158_2 := Aside0.mk hl158_2
                    clear hi158_2 hl158_2
                    replace p158 := eq_true p158
                    replace q158 := eq_true q158
                    go_wp2_with (first | ((with_reducible refine gate_dst (N := 7) rfl ?_); refine box_event ?hg (N := 7) ?hd (cs := #[.int .i64 0, .int .i64 0, .slice none 0 0]) (t := 27) ?hr ?_; (case hd => rfl); (case hg => rfl); (case hr => first | (go_simp; done) | (go_simp; rfl)); intro gb159 hg w32 hbox hb; have n0_ := Aside0.mk (Kd.R_below (by (with_reducible repeat (first | apply Kd.R_alloc | apply Kd.R_drewN | apply Kd.R_drew)); exact HO_4.out) hb); have n1_ := Aside0.mk (below_step (by repeat (first | (with_reducible first | exact HB.out | apply below_alloc | apply pw_below_drewN | apply below_drew1) | exact HB.out)) hb); have n2_ := Aside0.mk (hbox); have n3_ := Aside0.mk ((by rw [hg]; exact (below_size (by repeat (first | (with_reducible first | exact HB.out | apply below_alloc | apply pw_below_drewN | apply below_drew1) | exact HB.out))) : w.heap.size ≤ gb159)); have n4_ := Aside0.mk ((by rw [hg]; exact (below_size (by repeat (first | (with_reducible first | exact HB.out | apply below_alloc | apply pw_below_drewN | apply below_drew1) | exact HB.out))) : w.heap.size ≤ gb159)); clear HO_4; clear HB; have HO_4 := n0_; have HB := n1_; have BK159 := n2_; have GW159 := n3_; have GE159 := n4_; clear n0_ n1_ n2_ n3_ n4_; clear hb hbox hg; have hcz33_0 : w32.cell? ⟨gb159, 0, none⟩ = some (.int .i64 0) := (blk_cell BK159.out 0).trans rfl; have hcz33_1 : w32.cell? ⟨gb159, 1, none⟩ = some (.int .i64 0) := (blk_cell BK159.out 1).trans rfl; have hcz33_2 : w32.cell? ⟨gb159, 2, none⟩ = some (.slice none 0 0) := (blk_cell BK159.out 2).trans rfl; have hfz33_0 := blk_frozen BK159.out 0; have hfz33_1 := blk_frozen BK159.out 1; have hfz33_2 := blk_frozen BK159.out 2) | ((with_reducible refine gate_callee (f := 21) rfl ?_); refine goesL_ (some 35) rfl rfl Try.func21 (by kernel_rfl) rfl #[.slice A158_2 ((rd_T27 l0 x5_1).f2).length c158_2] rfl (by (try simp only [List.map_toArray, List.map_cons, List.map_nil]); first | done | rfl | (simp only [List.length_drop, List.length_take]; rfl)) ?_; (with_reducible refine (spec_Push.calls k1 _ _ ((rd_T27 l0 x5_1).f2) t166 _ ?side1 ?side2 A24.out).mono ?_); (case side1 => exact Kd.C_below HR158_2.out (by repeat (first | (with_reducible first | exact HB.out | apply below_alloc | apply pw_below_drewN | apply below_drew1 | refine below_set ?_ GE159.out) | exact HB.out))); (case side2 => exact HC158_2.out); rintro e w34 ⟨v167, rfl, ho0, hb⟩; refine ⟨_, rfl, ?_⟩; have n0_ := Aside0.mk (Kd.R_elder' (by (with_reducible repeat (first | apply Kd.R_alloc | apply Kd.R_drewN | apply Kd.R_drew)); exact (Kd.R_mono (Kd.R_far (p := ⟨gb159, 2, none⟩) (Kd.R_far (p := ⟨gb159, 1, none⟩) (Kd.R_far (p := ⟨gb159, 0, none⟩) (Kd.R_types HO_4.out BK159.out (by decide)) (fun _ hk => hk.2) (.int .i64 ((rd_T27 l0 x5_1).f0))) (fun _ hk => hk.2) (.int .i64 ((rd_T27 l0 x5_1).f1))) (fun _ hk => hk.2) (.slice A158_2 ((rd_T27 l0 x5_1).f2).length c158_2)) (fun _ h_ => h_.1))) (Kd.R_base ho0) hb); have n1_ := Aside0.mk (Kd.R_lower (Kd.R_new' ho0 (Kd.R_lt (by (with_reducible repeat (first | apply Kd.R_alloc | apply Kd.R_drewN | apply Kd.R_drew)); exact (Kd.R_mono (Kd.R_far (p := ⟨gb159, 2, none⟩) (Kd.R_far (p := ⟨gb159, 1, none⟩) (Kd.R_far (p := ⟨gb159, 0, none⟩) (Kd.R_types HO_4.out BK159.out (by decide)) (fun _ hk => hk.2) (.int .i64 ((rd_T27 l0 x5_1).f0))) (fun _ hk => hk.2) (.int .i64 ((rd_T27 l0 x5_1).f1))) (fun _ hk => hk.2) (.slice A158_2 ((rd_T27 l0 x5_1).f2).length c158_2)) (fun _ h_ => h_.1))))) (below_size (by repeat (first | (with_reducible first | exact HB.out | apply below_alloc | apply pw_below_drewN | apply below_drew1 | refine below_set ?_ GE159.out) | exact HB.out)))); have n2_ := Aside0.mk (blk_below (g := gb159) (o := .cells #[.int .i64 ((rd_T27 l0 x5_1).f0), .int .i64 ((rd_T27 l0 x5_1).f1), .slice A158_2 ((rd_T27 l0 x5_1).f2).length c158_2] 27 (0, 0)) (by (with_reducible repeat (first | refine blk_drewN ?_ _ | refine blk_drew ?_ | refine blk_alloc ?_ _)); refine blk_put (cs := #[.int .i64 ((rd_T27 l0 x5_1).f0), .int .i64 ((rd_T27 l0 x5_1).f1), .slice none 0 0]) ?_ 2 _ rfl; (with_reducible repeat (first | refine blk_drewN ?_ _ | refine blk_drew ?_ | refine blk_alloc ?_ _)); refine blk_put (cs := #[.int .i64 ((rd_T27 l0 x5_1).f0), .int .i64 0, .slice none 0 0]) ?_ 1 _ rfl; (with_reducible repeat (first | refine blk_drewN ?_ _ | refine blk_drew ?_ | refine blk_alloc ?_ _)); refine blk_put (cs := #[.int .i64 0, .int .i64 0, .slice none 0 0]) ?_ 0 _ rfl; (with_reducible repeat (first | refine blk_drewN ?_ _ | refine blk_drew ?_ | refine blk_alloc ?_ _)); exact BK159.out) hb); have n3_ := Aside0.mk (below_step (by repeat (first | (with_reducible first | exact HB.out | apply below_alloc | apply pw_below_drewN | apply below_drew1 | refine below_set ?_ GE159.out) | exact HB.out)) hb); clear HO_4; clear BK159; clear HB; have HO_4 := n0_; have HO168 := n1_; have BK159 := n2_; have HB := n3_; clear n0_ n1_ n2_ n3_; (try clear hb); (try clear hb2); (try clear hk); (try clear hi); (try clear ho0); obtain ⟨Ao35, co35, eo35⟩ := Kd.R_slice HO_4.out; subst eo35; obtain ⟨Ao36, co36, eo36⟩ := Kd.R_slice HO168.out; subst eo36) | ((with_reducible refine gate_builtin (b := .append) (xs := #[.tmp 53, .tmp 54]) rfl ?_); at_builtin; refine Kd.R_append_rows (Kd.int .u8) (w0 := w) w.heap.size rfl (.tmp 53) (.tmp 54) 23 5 (.int .u8 0) 1 rfl Try.underlying23 info5 rfl (by decide) (by omega) (.slice Ao35 x4_1.length co35) x4_1 t166 _ _ _ (fun k_ => some k_ ≠ (.slice Ao36 t166.length co36 : Value).ownBlock) (fun _ => False) rfl rfl ?aO ?aR (fun _ _ h => h) (fun _ h => h.elim) ?aF ?aB ?aS ?aL ?_; (case aR => repeat (first | exact (Kd.R_reads' HO168.out).2.2 | (with_reducible refine Kd.C_alloc ?_ _) | (with_reducible refine Kd.C_drewN ?_ _) | (with_reducible refine Kd.C_drew ?_))); (case aB => exact (by repeat (first | (with_reducible first | exact HB.out | apply below_alloc | apply pw_below_drewN | apply below_drew1 | refine below_set ?_ GE159.out) | exact HB.out))); (case aF => exact (fun k_ hk => Kd.fresh' (Kd.R_lt (by (with_reducible repeat (first | apply Kd.R_alloc | apply Kd.R_drewN | apply Kd.R_drew)); exact HO168.out)) k_ hk)); (case aO => exact (by (with_reducible repeat (first | apply Kd.R_alloc | apply Kd.R_drewN | apply Kd.R_drew)); exact Kd.R_mono HO_4.out (fun _ hk => hk.2))); (case aS => exact (below_size (by repeat (first | (with_reducible first | exact HB.out | apply below_alloc | apply pw_below_drewN | apply below_drew1 | refine below_set ?_ GE159.out) | exact HB.out)))); (case aL => have := LMc31.out; omega); intro v170 w37 ho hb hg hat; rw [← Ny169.out] at ho; have n0_ := Aside0.mk (blk_grown (g := gb159) (o := .cells #[.int .i64 ((rd_T27 l0 x5_1).f0), .int .i64 ((rd_T27 l0 x5_1).f1), .slice A158_2 ((rd_T27 l0 x5_1).f2).length c158_2] 27 (0, 0)) (by (with_reducible repeat (first | refine blk_drewN ?_ _ | refine blk_drew ?_ | refine blk_alloc ?_ _)); exact BK159.out) hg (Kd.R_ne HO_4.out BK159.out (by decide))); have n1_ := Aside0.mk (Kd.R_after (ok := (fun _ => True)) (by (with_reducible repeat (first | apply Kd.R_alloc | apply Kd.R_drewN | apply Kd.R_drew)); exact HO168.out) hg hat); have n2_ := Aside0.mk (hb); have n3_ := Aside0.mk (ho); clear BK159; clear HO168; clear HB; clear HO_4; have BK159 := n0_; have HO168 := n1_; have HB := n2_; have HO171 := n3_; clear n0_ n1_ n2_ n3_; clear ho hb hg hat))
                    go_roundg k1
                    case measure => have := HK1.out; omega
                    case rel => exact ⟨(y169), (wrap64 (x5_1 + 1)), (by first | rfl | (simp; done) | (simp [*]; done)), (by first | exact H' | (subst_vars; exact H')), ⟨by have := HK1.out; omega⟩, ⟨by (with_reducible repeat (first | apply Kd.R_alloc | apply Kd.R_drewN | apply Kd.R_drew)); exact Kd.R_mono HO171.out (fun _ hk => trivial)⟩, ⟨by repeat (first | (with_reducible first | exact HB.out | apply below_alloc | apply pw_below_drewN | apply below_drew1 | refine below_set ?_ GE159.out) | exact HB.out)⟩⟩
                  · rw [if_neg c31] at H
                    exact absurd H (by simp)
            · rw [if_neg c20] at H
              have c20b0 : (((rd_T27 l0 x5_1).f0) == 1) = false := beq_eq_false_iff_ne.mpr c20
              have c20b1 : (((rd_T27 l0 x5_1).f0) != 1) = true := bne_iff_ne.mpr c20
              by_cases c38 : ((rd_T27 l0 x5_1).f0) = 2
              · rw [if_pos c38] at H
                have c38b0 : (((rd_T27 l0 x5_1).f0) == 2) = true := beq_iff_eq.mpr c38
                have c38b1 : (((rd_T27 l0 x5_1).f0) != 2) = false := bne_eq_false_iff_eq.mpr c38
                clear c38
                replace H := Option.bind_eq_some_iff.mp H
                obtain ⟨t172, A390, H⟩ := H
                replace H : ((spec_Push.f k1 t172).bind fun t175 => (if (wrap64 ((x4_1.length : Int) + (t175.length : Int))) > 10000 then (some (x4_1, false)) else (if x4_1.length + t175.length < 140737488355328 then (spec_Built.l0 k1 l0 (x4_1 ++ t175) (wrap64 (x5_1 + 1))) else (none)))) = some (r1, r2) := H
                have A39 := Aside0.mk A390
                clear A390
                replace H := Option.bind_eq_some_iff.mp H
                obtain ⟨t175, A400, H⟩ := H
                replace H : (if (wrap64 ((x4_1.length : Int) + (t175.length : Int))) > 10000 then (some (x4_1, false)) else (if x4_1.length + t175.length < 140737488355328 then (spec_Built.l0 k1 l0 (x4_1 ++ t175) (wrap64 (x5_1 + 1))) else (none))) = some (r1, r2) := H
                have A40 := Aside0.mk A400
                clear A400
                by_cases c41 : (wrap64 ((x4_1.length : Int) + (t175.length : Int))) > 10000
                · rw [if_pos c41] at H
                  have c41b0 : decide (10000 < (wrap64 ((x4_1.length : Int) + (t175.length : Int)))) = true := decide_eq_true c41
                  clear c41
                  simp only [Option.some.injEq, Prod.mk.injEq] at H
                  obtain ⟨rfl, rfl⟩ := H
                  have p158 : 0 ≤ (x5_1 : Int) := of_decide_eq_true (by first | (with_reducible assumption) | assumption)
                  have q158 : x5_1 < (l0.length : Int) := of_decide_eq_true (by first | (with_reducible assumption) | assumption)
                  obtain ⟨ad158, A158_2, c158_2, e158, hx158_0, hx158_1, hx158_2, hl158_2, hi158_2⟩ := at_T27 HR0.out x5_1 p158 q158
                  cases e158
                  replace hx158_0 := (HB.out.cell (World.block_lt_of_cell? w _ hx158_0)).trans hx158_0
                  replace hx158_1 := (HB.out.cell (World.block_lt_of_cell? w _ hx158_1)).trans hx158_1
                  replace hx158_2 := (HB.out.cell (World.block_lt_of_cell? w _ hx158_2)).trans hx158_2
                  have HR158_2 := Aside0.mk hi158_2
                  have HC158_2 := Aside0.mk hl158_2
                  clear hi158_2 hl158_2
                  replace p158 := eq_true p158
                  replace q158 := eq_true q158
                  go_wp2_with (first | ((with_reducible refine gate_dst (N := 7) rfl ?_); refine box_event ?hg (N := 7) ?hd (cs := #[.int .i64 0, .int .i64 0, .slice none 0 0]) (t := 27) ?hr ?_; (case hd => rfl); (case hg => rfl); (case hr => first | (go_simp; done) | (go_simp; rfl)); intro gb159 hg w42 hbox hb; have n0_ := Aside0.mk (Kd.R_below (by (with_reducible repeat (first | apply Kd.R_alloc | apply Kd.R_drewN | apply Kd.R_drew)); exact HO_4.out) hb); have n1_ := Aside0.mk (below_step (by repeat (first | (with_reducible first | exact HB.out | apply below_alloc | apply pw_below_drewN | apply below_drew1) | exact HB.out)) hb); have n2_ := Aside0.mk (hbox); have n3_ := Aside0.mk ((by rw [hg]; exact (below_size (by repeat (first | (with_reducible first | exact HB.out | apply below_alloc | apply pw_below_drewN | apply below_drew1) | exact HB.out))) : w.heap.size ≤ gb159)); have n4_ := Aside0.mk ((by rw [hg]; exact (below_size (by repeat (first | (with_reducible first | exact HB.out | apply below_alloc | apply pw_below_drewN | apply below_drew1) | exact HB.out))) : w.heap.size ≤ gb159)); clear HO_4; clear HB; have HO_4 := n0_; have HB := n1_; have BK159 := n2_; have GW159 := n3_; have GE159 := n4_; clear n0_ n1_ n2_ n3_ n4_; clear hb hbox hg; have hcz43_0 : w42.cell? ⟨gb159, 0, none⟩ = some (.int .i64 0) := (blk_cell BK159.out 0).trans rfl; have hcz43_1 : w42.cell? ⟨gb159, 1, none⟩ = some (.int .i64 0) := (blk_cell BK159.out 1).trans rfl; have hcz43_2 : w42.cell? ⟨gb159, 2, none⟩ = some (.slice none 0 0) := (blk_cell BK159.out 2).trans rfl; have hfz43_0 := blk_frozen BK159.out 0; have hfz43_1 := blk_frozen BK159.out 1; have hfz43_2 := blk_frozen BK159.out 2) | ((with_reducible refine gate_callee (f := 22) rfl ?_); refine goesL_ (some 40) rfl rfl Try.func22 (by kernel_rfl) rfl #[.int .i64 ((rd_T27 l0 x5_1).f1)] rfl (by (try simp only [List.map_toArray, List.map_cons, List.map_nil]); first | done | rfl | (simp only [List.length_drop, List.length_take]; rfl)) ?_; (with_reducible refine (spec_NumberBytes.calls k1 ((rd_T27 l0 x5_1).f1) t172 _ A39.out).mono ?_); rintro e w44 ⟨v173, rfl, ho0, hb⟩; refine ⟨_, rfl, ?_⟩; have n0_ := Aside0.mk (Kd.R_elder' (by (with_reducible repeat (first | apply Kd.R_alloc | apply Kd.R_drewN | apply Kd.R_drew)); exact (Kd.R_mono (Kd.R_far (p := ⟨gb159, 2, none⟩) (Kd.R_far (p := ⟨gb159, 1, none⟩) (Kd.R_far (p := ⟨gb159, 0, none⟩) (Kd.R_types HO_4.out BK159.out (by decide)) (fun _ hk => hk.2) (.int .i64 ((rd_T27 l0 x5_1).f0))) (fun _ hk => hk.2) (.int .i64 ((rd_T27 l0 x5_1).f1))) (fun _ hk => hk.2) (.slice A158_2 ((rd_T27 l0 x5_1).f2).length c158_2)) (fun _ h_ => h_.1))) (Kd.R_base ho0) hb); have n1_ := Aside0.mk (Kd.R_lower (Kd.R_new' ho0 (Kd.R_lt (by (with_reducible repeat (first | apply Kd.R_alloc | apply Kd.R_drewN | apply Kd.R_drew)); exact (Kd.R_mono (Kd.R_far (p := ⟨gb159, 2, none⟩) (Kd.R_far (p := ⟨gb159, 1, none⟩) (Kd.R_far (p := ⟨gb159, 0, none⟩) (Kd.R_types HO_4.out BK159.out (by decide)) (fun _ hk => hk.2) (.int .i64 ((rd_T27 l0 x5_1).f0))) (fun _ hk => hk.2) (.int .i64 ((rd_T27 l0 x5_1).f1))) (fun _ hk => hk.2) (.slice A158_2 ((rd_T27 l0 x5_1).f2).length c158_2)) (fun _ h_ => h_.1))))) (below_size (by repeat (first | (with_reducible first | exact HB.out | apply below_alloc | apply pw_below_drewN | apply below_drew1 | refine below_set ?_ GE159.out) | exact HB.out)))); have n2_ := Aside0.mk (blk_below (g := gb159) (o := .cells #[.int .i64 ((rd_T27 l0 x5_1).f0), .int .i64 ((rd_T27 l0 x5_1).f1), .slice A158_2 ((rd_T27 l0 x5_1).f2).length c158_2] 27 (0, 0)) (by (with_reducible repeat (first | refine blk_drewN ?_ _ | refine blk_drew ?_ | refine blk_alloc ?_ _)); refine blk_put (cs := #[.int .i64 ((rd_T27 l0 x5_1).f0), .int .i64 ((rd_T27 l0 x5_1).f1), .slice none 0 0]) ?_ 2 _ rfl; (with_reducible repeat (first | refine blk_drewN ?_ _ | refine blk_drew ?_ | refine blk_alloc ?_ _)); refine blk_put (cs := #[.int .i64 ((rd_T27 l0 x5_1).f0), .int .i64 0, .slice none 0 0]) ?_ 1 _ rfl; (with_reducible repeat (first | refine blk_drewN ?_ _ | refine blk_drew ?_ | refine blk_alloc ?_ _)); refine blk_put (cs := #[.int .i64 0, .int .i64 0, .slice none 0 0]) ?_ 0 _ rfl; (with_reducible repeat (first | refine blk_drewN ?_ _ | refine blk_drew ?_ | refine blk_alloc ?_ _)); exact BK159.out) hb); have n3_ := Aside0.mk (below_step (by repeat (first | (with_reducible first | exact HB.out | apply below_alloc | apply pw_below_drewN | apply below_drew1 | refine below_set ?_ GE159.out) | exact HB.out)) hb); clear HO_4; clear BK159; clear HB; have HO_4 := n0_; have HO174 := n1_; have BK159 := n2_; have HB := n3_; clear n0_ n1_ n2_ n3_; (try clear hb); (try clear hb2); (try clear hk); (try clear hi); (try clear ho0); obtain ⟨Ao45, co45, eo45⟩ := Kd.R_slice HO174.out; subst eo45) | ((with_reducible refine gate_callee (f := 21) rfl ?_); refine goesL_ (some 41) rfl rfl Try.func21 (by kernel_rfl) rfl #[.slice Ao45 t172.length co45] rfl (by (try simp only [List.map_toArray, List.map_cons, List.map_nil]); first | done | rfl | (simp only [List.length_drop, List.length_take]; rfl)) ?_; (with_reducible refine (spec_Push.calls k1 _ _ t172 t175 _ ?side1 ?side2 A40.out).mono ?_); (case side1 => repeat (first | exact (Kd.R_reads' HO174.out).2.2 | (with_reducible refine Kd.C_alloc ?_ _) | (with_reducible refine Kd.C_drewN ?_ _) | (with_reducible refine Kd.C_drew ?_))); (case side2 => exact (Kd.R_reads' HO174.out).2.1); rintro e w46 ⟨v176, rfl, ho0, hb⟩; refine ⟨_, rfl, ?_⟩; have n0_ := Aside0.mk (Kd.R_elder' (by (with_reducible repeat (first | apply Kd.R_alloc | apply Kd.R_drewN | apply Kd.R_drew)); exact HO_4.out) (Kd.R_base ho0) hb); have n1_ := Aside0.mk (Kd.R_elder' (by (with_reducible repeat (first | apply Kd.R_alloc | apply Kd.R_drewN | apply Kd.R_drew)); exact HO174.out) (Kd.R_base ho0) hb); have n2_ := Aside0.mk (Kd.R_lower (Kd.R_new' (Kd.R_new' ho0 (Kd.R_lt (by (with_reducible repeat (first | apply Kd.R_alloc | apply Kd.R_drewN | apply Kd.R_drew)); exact HO_4.out))) (Kd.R_lt (by (with_reducible repeat (first | apply Kd.R_alloc | apply Kd.R_drewN | apply Kd.R_drew)); exact HO174.out))) (below_size (by repeat (first | (with_reducible first | exact HB.out | apply below_alloc | apply pw_below_drewN | apply below_drew1 | refine below_set ?_ GE159.out) | exact HB.out)))); have n3_ := Aside0.mk (blk_below (g := gb159) (o := .cells #[.int .i64 ((rd_T27 l0 x5_1).f0), .int .i64 ((rd_T27 l0 x5_1).f1), .slice A158_2 ((rd_T27 l0 x5_1).f2).length c158_2] 27 (0, 0)) (by (with_reducible repeat (first | refine blk_drewN ?_ _ | refine blk_drew ?_ | refine blk_alloc ?_ _)); exact BK159.out) hb); have n4_ := Aside0.mk (below_step (by repeat (first | (with_reducible first | exact HB.out | apply below_alloc | apply pw_below_drewN | apply below_drew1 | refine below_set ?_ GE159.out) | exact HB.out)) hb); clear HO_4; clear HO174; clear BK159; clear HB; have HO_4 := n0_; have HO174 := n1_; have HO177 := n2_; have BK159 := n3_; have HB := n4_; clear n0_ n1_ n2_ n3_ n4_; (try clear hb); (try clear hb2); (try clear hk); (try clear hi); (try clear ho0); obtain ⟨Ao47, co47, eo47⟩ := Kd.R_slice HO_4.out; subst eo47; obtain ⟨Ao48, co48, eo48⟩ := Kd.R_slice HO177.out; subst eo48))
                  go_ret2
                  exact ⟨_, by first | rfl | (simp [errW_none, errW_some] <;> rfl) | (simp [*, errW_none, errW_some] <;> rfl), by (with_reducible repeat (first | apply Kd.R_alloc | apply Kd.R_drewN | apply Kd.R_drew)); exact Kd.R_mono HO_4.out (fun _ hk => trivial), by repeat (first | (with_reducible first | exact HB.out | apply below_alloc | apply pw_below_drewN | apply below_drew1 | refine below_set ?_ GE159.out) | exact HB.out)⟩
                · rw [if_neg c41] at H
                  have c41b0 : decide (10000 < (wrap64 ((x4_1.length : Int) + (t175.length : Int)))) = false := decide_eq_false c41
                  clear c41
                  by_cases c49 : x4_1.length + t175.length < 140737488355328
                  · rw [if_pos c49] at H
                    have LMc49 := Aside0.mk c49
                    clear c49
                    obtain ⟨y178, hy178⟩ : ∃ y_ : List Int, y_ = (x4_1 ++ t175) := ⟨_, rfl⟩
                    replace H : (spec_Built.l0 k1 l0 y178 (wrap64 (x5_1 + 1))) = some (r1, r2) := by first | (rw [hy178]; with_reducible exact H) | (have H2_ := (Option.bind_some _ _).symm.trans H; rw [hy178]; with_reducible exact H2_) | (have H2_ := (Option.bind_some _ _).symm.trans H; with_reducible exact H2_) | with_reducible exact H | (rw [hy178]; exact H) | exact H
                    have Ny178 := Aside0.mk hy178
                    clear hy178
                    have H' := Aside0.mk H
                    clear H
                    have p158 : 0 ≤ (x5_1 : Int) := of_decide_eq_true (by first | (with_reducible assumption) | assumption)
                    have q158 : x5_1 < (l0.length : Int) := of_decide_eq_true (by first | (with_reducible assumption) | assumption)
                    obtain ⟨ad158, A158_2, c158_2, e158, hx158_0, hx158_1, hx158_2, hl158_2, hi158_2⟩ := at_T27 HR0.out x5_1 p158 q158
                    cases e158
                    replace hx158_0 := (HB.out.cell (World.block_lt_of_cell? w _ hx158_0)).trans hx158_0
                    replace hx158_1 := (HB.out.cell (World.block_lt_of_cell? w _ hx158_1)).trans hx158_1
                    replace hx158_2 := (HB.out.cell (World.block_lt_of_cell? w _ hx158_2)).trans hx158_2
                    have HR158_2 := Aside0.mk hi158_2
                    have HC158_2 := Aside0.mk hl158_2
                    clear hi158_2 hl158_2
                    replace p158 := eq_true p158
                    replace q158 := eq_true q158
                    go_wp2_with (first | ((with_reducible refine gate_dst (N := 7) rfl ?_); refine box_event ?hg (N := 7) ?hd (cs := #[.int .i64 0, .int .i64 0, .slice none 0 0]) (t := 27) ?hr ?_; (case hd => rfl); (case hg => rfl); (case hr => first | (go_simp; done) | (go_simp; rfl)); intro gb159 hg w50 hbox hb; have n0_ := Aside0.mk (Kd.R_below (by (with_reducible repeat (first | apply Kd.R_alloc | apply Kd.R_drewN | apply Kd.R_drew)); exact HO_4.out) hb); have n1_ := Aside0.mk (below_step (by repeat (first | (with_reducible first | exact HB.out | apply below_alloc | apply pw_below_drewN | apply below_drew1) | exact HB.out)) hb); have n2_ := Aside0.mk (hbox); have n3_ := Aside0.mk ((by rw [hg]; exact (below_size (by repeat (first | (with_reducible first | exact HB.out | apply below_alloc | apply pw_below_drewN | apply below_drew1) | exact HB.out))) : w.heap.size ≤ gb159)); have n4_ := Aside0.mk ((by rw [hg]; exact (below_size (by repeat (first | (with_reducible first | exact HB.out | apply below_alloc | apply pw_below_drewN | apply below_drew1) | exact HB.out))) : w.heap.size ≤ gb159)); clear HO_4; clear HB; have HO_4 := n0_; have HB := n1_; have BK159 := n2_; have GW159 := n3_; have GE159 := n4_; clear n0_ n1_ n2_ n3_ n4_; clear hb hbox hg; have hcz51_0 : w50.cell? ⟨gb159, 0, none⟩ = some (.int .i64 0) := (blk_cell BK159.out 0).trans rfl; have hcz51_1 : w50.cell? ⟨gb159, 1, none⟩ = some (.int .i64 0) := (blk_cell BK159.out 1).trans rfl; have hcz51_2 : w50.cell? ⟨gb159, 2, none⟩ = some (.slice none 0 0) := (blk_cell BK159.out 2).trans rfl; have hfz51_0 := blk_frozen BK159.out 0; have hfz51_1 := blk_frozen BK159.out 1; have hfz51_2 := blk_frozen BK159.out 2) | ((with_reducible refine gate_callee (f := 22) rfl ?_); refine goesL_ (some 40) rfl rfl Try.func22 (by kernel_rfl) rfl #[.int .i64 ((rd_T27 l0 x5_1).f1)] rfl (by (try simp only [List.map_toArray, List.map_cons, List.map_nil]); first | done | rfl | (simp only [List.length_drop, List.length_take]; rfl)) ?_; (with_reducible refine (spec_NumberBytes.calls k1 ((rd_T27 l0 x5_1).f1) t172 _ A39.out).mono ?_); rintro e w52 ⟨v173, rfl, ho0, hb⟩; refine ⟨_, rfl, ?_⟩; have n0_ := Aside0.mk (Kd.R_elder' (by (with_reducible repeat (first | apply Kd.R_alloc | apply Kd.R_drewN | apply Kd.R_drew)); exact (Kd.R_mono (Kd.R_far (p := ⟨gb159, 2, none⟩) (Kd.R_far (p := ⟨gb159, 1, none⟩) (Kd.R_far (p := ⟨gb159, 0, none⟩) (Kd.R_types HO_4.out BK159.out (by decide)) (fun _ hk => hk.2) (.int .i64 ((rd_T27 l0 x5_1).f0))) (fun _ hk => hk.2) (.int .i64 ((rd_T27 l0 x5_1).f1))) (fun _ hk => hk.2) (.slice A158_2 ((rd_T27 l0 x5_1).f2).length c158_2)) (fun _ h_ => h_.1))) (Kd.R_base ho0) hb); have n1_ := Aside0.mk (Kd.R_lower (Kd.R_new' ho0 (Kd.R_lt (by (with_reducible repeat (first | apply Kd.R_alloc | apply Kd.R_drewN | apply Kd.R_drew)); exact (Kd.R_mono (Kd.R_far (p := ⟨gb159, 2, none⟩) (Kd.R_far (p := ⟨gb159, 1, none⟩) (Kd.R_far (p := ⟨gb159, 0, none⟩) (Kd.R_types HO_4.out BK159.out (by decide)) (fun _ hk => hk.2) (.int .i64 ((rd_T27 l0 x5_1).f0))) (fun _ hk => hk.2) (.int .i64 ((rd_T27 l0 x5_1).f1))) (fun _ hk => hk.2) (.slice A158_2 ((rd_T27 l0 x5_1).f2).length c158_2)) (fun _ h_ => h_.1))))) (below_size (by repeat (first | (with_reducible first | exact HB.out | apply below_alloc | apply pw_below_drewN | apply below_drew1 | refine below_set ?_ GE159.out) | exact HB.out)))); have n2_ := Aside0.mk (blk_below (g := gb159) (o := .cells #[.int .i64 ((rd_T27 l0 x5_1).f0), .int .i64 ((rd_T27 l0 x5_1).f1), .slice A158_2 ((rd_T27 l0 x5_1).f2).length c158_2] 27 (0, 0)) (by (with_reducible repeat (first | refine blk_drewN ?_ _ | refine blk_drew ?_ | refine blk_alloc ?_ _)); refine blk_put (cs := #[.int .i64 ((rd_T27 l0 x5_1).f0), .int .i64 ((rd_T27 l0 x5_1).f1), .slice none 0 0]) ?_ 2 _ rfl; (with_reducible repeat (first | refine blk_drewN ?_ _ | refine blk_drew ?_ | refine blk_alloc ?_ _)); refine blk_put (cs := #[.int .i64 ((rd_T27 l0 x5_1).f0), .int .i64 0, .slice none 0 0]) ?_ 1 _ rfl; (with_reducible repeat (first | refine blk_drewN ?_ _ | refine blk_drew ?_ | refine blk_alloc ?_ _)); refine blk_put (cs := #[.int .i64 0, .int .i64 0, .slice none 0 0]) ?_ 0 _ rfl; (with_reducible repeat (first | refine blk_drewN ?_ _ | refine blk_drew ?_ | refine blk_alloc ?_ _)); exact BK159.out) hb); have n3_ := Aside0.mk (below_step (by repeat (first | (with_reducible first | exact HB.out | apply below_alloc | apply pw_below_drewN | apply below_drew1 | refine below_set ?_ GE159.out) | exact HB.out)) hb); clear HO_4; clear BK159; clear HB; have HO_4 := n0_; have HO174 := n1_; have BK159 := n2_; have HB := n3_; clear n0_ n1_ n2_ n3_; (try clear hb); (try clear hb2); (try clear hk); (try clear hi); (try clear ho0); obtain ⟨Ao53, co53, eo53⟩ := Kd.R_slice HO174.out; subst eo53) | ((with_reducible refine gate_callee (f := 21) rfl ?_); refine goesL_ (some 41) rfl rfl Try.func21 (by kernel_rfl) rfl #[.slice Ao53 t172.length co53] rfl (by (try simp only [List.map_toArray, List.map_cons, List.map_nil]); first | done | rfl | (simp only [List.length_drop, List.length_take]; rfl)) ?_; (with_reducible refine (spec_Push.calls k1 _ _ t172 t175 _ ?side1 ?side2 A40.out).mono ?_); (case side1 => repeat (first | exact (Kd.R_reads' HO174.out).2.2 | (with_reducible refine Kd.C_alloc ?_ _) | (with_reducible refine Kd.C_drewN ?_ _) | (with_reducible refine Kd.C_drew ?_))); (case side2 => exact (Kd.R_reads' HO174.out).2.1); rintro e w54 ⟨v176, rfl, ho0, hb⟩; refine ⟨_, rfl, ?_⟩; have n0_ := Aside0.mk (Kd.R_elder' (by (with_reducible repeat (first | apply Kd.R_alloc | apply Kd.R_drewN | apply Kd.R_drew)); exact HO_4.out) (Kd.R_base ho0) hb); have n1_ := Aside0.mk (Kd.R_elder' (by (with_reducible repeat (first | apply Kd.R_alloc | apply Kd.R_drewN | apply Kd.R_drew)); exact HO174.out) (Kd.R_base ho0) hb); have n2_ := Aside0.mk (Kd.R_lower (Kd.R_new' (Kd.R_new' ho0 (Kd.R_lt (by (with_reducible repeat (first | apply Kd.R_alloc | apply Kd.R_drewN | apply Kd.R_drew)); exact HO_4.out))) (Kd.R_lt (by (with_reducible repeat (first | apply Kd.R_alloc | apply Kd.R_drewN | apply Kd.R_drew)); exact HO174.out))) (below_size (by repeat (first | (with_reducible first | exact HB.out | apply below_alloc | apply pw_below_drewN | apply below_drew1 | refine below_set ?_ GE159.out) | exact HB.out)))); have n3_ := Aside0.mk (blk_below (g := gb159) (o := .cells #[.int .i64 ((rd_T27 l0 x5_1).f0), .int .i64 ((rd_T27 l0 x5_1).f1), .slice A158_2 ((rd_T27 l0 x5_1).f2).length c158_2] 27 (0, 0)) (by (with_reducible repeat (first | refine blk_drewN ?_ _ | refine blk_drew ?_ | refine blk_alloc ?_ _)); exact BK159.out) hb); have n4_ := Aside0.mk (below_step (by repeat (first | (with_reducible first | exact HB.out | apply below_alloc | apply pw_below_drewN | apply below_drew1 | refine below_set ?_ GE159.out) | exact HB.out)) hb); clear HO_4; clear HO174; clear BK159; clear HB; have HO_4 := n0_; have HO174 := n1_; have HO177 := n2_; have BK159 := n3_; have HB := n4_; clear n0_ n1_ n2_ n3_ n4_; (try clear hb); (try clear hb2); (try clear hk); (try clear hi); (try clear ho0); obtain ⟨Ao55, co55, eo55⟩ := Kd.R_slice HO_4.out; subst eo55; obtain ⟨Ao56, co56, eo56⟩ := Kd.R_slice HO177.out; subst eo56) | ((with_reducible refine gate_builtin (b := .append) (xs := #[.tmp 53, .tmp 54]) rfl ?_); at_builtin; refine Kd.R_append_rows (Kd.int .u8) (w0 := w) w.heap.size rfl (.tmp 53) (.tmp 54) 23 5 (.int .u8 0) 1 rfl Try.underlying23 info5 rfl (by decide) (by omega) (.slice Ao55 x4_1.length co55) x4_1 t175 _ _ _ (fun k_ => some k_ ≠ (.slice Ao53 t172.length co53 : Value).ownBlock ∧ some k_ ≠ (.slice Ao56 t175.length co56 : Value).ownBlock) (fun _ => False) rfl rfl ?aO ?aR (fun _ _ h => h) (fun _ h => h.elim) ?aF ?aB ?aS ?aL ?_; (case aR => repeat (first | exact (Kd.R_reads' HO177.out).2.2 | (with_reducible refine Kd.C_alloc ?_ _) | (with_reducible refine Kd.C_drewN ?_ _) | (with_reducible refine Kd.C_drew ?_))); (case aB => exact (by repeat (first | (with_reducible first | exact HB.out | apply below_alloc | apply pw_below_drewN | apply below_drew1 | refine below_set ?_ GE159.out) | exact HB.out))); (case aF => exact (fun k_ hk => ⟨Kd.fresh' (Kd.R_lt (by (with_reducible repeat (first | apply Kd.R_alloc | apply Kd.R_drewN | apply Kd.R_drew)); exact HO174.out)) k_ hk, Kd.fresh' (Kd.R_lt (by (with_reducible repeat (first | apply Kd.R_alloc | apply Kd.R_drewN | apply Kd.R_drew)); exact HO177.out)) k_ hk⟩)); (case aO => exact (by (with_reducible repeat (first | apply Kd.R_alloc | apply Kd.R_drewN | apply Kd.R_drew)); exact Kd.R_mono HO_4.out (fun _ hk => ⟨hk.1.2, hk.2⟩))); (case aS => exact (below_size (by repeat (first | (with_reducible first | exact HB.out | apply below_alloc | apply pw_below_drewN | apply below_drew1 | refine below_set ?_ GE159.out) | exact HB.out)))); (case aL => have := LMc49.out; omega); intro v179 w57 ho hb hg hat; rw [← Ny178.out] at ho; have n0_ := Aside0.mk (blk_grown (g := gb159) (o := .cells #[.int .i64 ((rd_T27 l0 x5_1).f0), .int .i64 ((rd_T27 l0 x5_1).f1), .slice A158_2 ((rd_T27 l0 x5_1).f2).length c158_2] 27 (0, 0)) (by (with_reducible repeat (first | refine blk_drewN ?_ _ | refine blk_drew ?_ | refine blk_alloc ?_ _)); exact BK159.out) hg (Kd.R_ne HO_4.out BK159.out (by decide))); have n1_ := Aside0.mk (Kd.R_after (ok := (fun k_ => some k_ ≠ (.slice Ao56 t175.length co56 : Value).ownBlock)) (by (with_reducible repeat (first | apply Kd.R_alloc | apply Kd.R_drewN | apply Kd.R_drew)); exact Kd.R_mono HO174.out (fun _ hk => ⟨hk.2, hk.1.2⟩)) hg hat); have n2_ := Aside0.mk (Kd.R_after (ok := (fun k_ => some k_ ≠ (.slice Ao53 t172.length co53 : Value).ownBlock)) (by (with_reducible repeat (first | apply Kd.R_alloc | apply Kd.R_drewN | apply Kd.R_drew)); exact Kd.R_mono HO177.out (fun _ hk => ⟨hk.2, hk.1.2⟩)) hg hat); have n3_ := Aside0.mk (hb); have n4_ := Aside0.mk (ho); clear BK159; clear HO174; clear HO177; clear HB; clear HO_4; have BK159 := n0_; have HO174 := n1_; have HO177 := n2_; have HB := n3_; have HO180 := n4_; clear n0_ n1_ n2_ n3_ n4_; clear ho hb hg hat))
                    go_roundg k1
                    case measure => have := HK1.out; omega
                    case rel => exact ⟨(y178), (wrap64 (x5_1 + 1)), (by first | rfl | (simp; done) | (simp [*]; done)), (by first | exact H' | (subst_vars; exact H')), ⟨by have := HK1.out; omega⟩, ⟨by (with_reducible repeat (first | apply Kd.R_alloc | apply Kd.R_drewN | apply Kd.R_drew)); exact Kd.R_mono HO180.out (fun _ hk => trivial)⟩, ⟨by repeat (first | (with_reducible first | exact HB.out | apply below_alloc | apply pw_below_drewN | apply below_drew1 | refine below_set ?_ GE159.out) | exact HB.out)⟩⟩
                  · rw [if_neg c49] at H
                    exact absurd H (by simp)
              · rw [if_neg c38] at H
                have c38b0 : (((rd_T27 l0 x5_1).f0) == 2) = false := beq_eq_false_iff_ne.mpr c38
                have c38b1 : (((rd_T27 l0 x5_1).f0) != 2) = true := bne_iff_ne.mpr c38
                by_cases c58 : ((rd_T27 l0 x5_1).f0) = 3
                · rw [if_pos c58] at H
                  have c58b0 : (((rd_T27 l0 x5_1).f0) == 3) = true := beq_iff_eq.mpr c58
                  have c58b1 : (((rd_T27 l0 x5_1).f0) != 3) = false := bne_eq_false_iff_eq.mpr c58
                  clear c58
                  by_cases c59 : (wrap64 ((x4_1.length : Int) + (((rd_T27 l0 x5_1).f2).length : Int))) > 10000
                  · rw [if_pos c59] at H
                    have c59b0 : decide (10000 < (wrap64 ((x4_1.length : Int) + (((rd_T27 l0 x5_1).f2).length : Int)))) = true := decide_eq_true c59
                    clear c59
                    simp only [Option.some.injEq, Prod.mk.injEq] at H
                    obtain ⟨rfl, rfl⟩ := H
                    have p158 : 0 ≤ (x5_1 : Int) := of_decide_eq_true (by first | (with_reducible assumption) | assumption)
                    have q158 : x5_1 < (l0.length : Int) := of_decide_eq_true (by first | (with_reducible assumption) | assumption)
                    obtain ⟨ad158, A158_2, c158_2, e158, hx158_0, hx158_1, hx158_2, hl158_2, hi158_2⟩ := at_T27 HR0.out x5_1 p158 q158
                    cases e158
                    replace hx158_0 := (HB.out.cell (World.block_lt_of_cell? w _ hx158_0)).trans hx158_0
                    replace hx158_1 := (HB.out.cell (World.block_lt_of_cell? w _ hx158_1)).trans hx158_1
                    replace hx158_2 := (HB.out.cell (World.block_lt_of_cell? w _ hx158_2)).trans hx158_2
                    have HR158_2 := Aside0.mk hi158_2
                    have HC158_2 := Aside0.mk hl158_2
                    clear hi158_2 hl158_2
                    replace p158 := eq_true p158
                    replace q158 := eq_true q158
                    go_wp2_with (first | ((with_reducible refine gate_dst (N := 7) rfl ?_); refine box_event ?hg (N := 7) ?hd (cs := #[.int .i64 0, .int .i64 0, .slice none 0 0]) (t := 27) ?hr ?_; (case hd => rfl); (case hg => rfl); (case hr => first | (go_simp; done) | (go_simp; rfl)); intro gb159 hg w60 hbox hb; have n0_ := Aside0.mk (Kd.R_below (by (with_reducible repeat (first | apply Kd.R_alloc | apply Kd.R_drewN | apply Kd.R_drew)); exact HO_4.out) hb); have n1_ := Aside0.mk (below_step (by repeat (first | (with_reducible first | exact HB.out | apply below_alloc | apply pw_below_drewN | apply below_drew1) | exact HB.out)) hb); have n2_ := Aside0.mk (hbox); have n3_ := Aside0.mk ((by rw [hg]; exact (below_size (by repeat (first | (with_reducible first | exact HB.out | apply below_alloc | apply pw_below_drewN | apply below_drew1) | exact HB.out))) : w.heap.size ≤ gb159)); have n4_ := Aside0.mk ((by rw [hg]; exact (below_size (by repeat (first | (with_reducible first | exact HB.out | apply below_alloc | apply pw_below_drewN | apply below_drew1) | exact HB.out))) : w.heap.size ≤ gb159)); clear HO_4; clear HB; have HO_4 := n0_; have HB := n1_; have BK159 := n2_; have GW159 := n3_; have GE159 := n4_; clear n0_ n1_ n2_ n3_ n4_; clear hb hbox hg; have hcz61_0 : w60.cell? ⟨gb159, 0, none⟩ = some (.int .i64 0) := (blk_cell BK159.out 0).trans rfl; have hcz61_1 : w60.cell? ⟨gb159, 1, none⟩ = some (.int .i64 0) := (blk_cell BK159.out 1).trans rfl; have hcz61_2 : w60.cell? ⟨gb159, 2, none⟩ = some (.slice none 0 0) := (blk_cell BK159.out 2).trans rfl; have hfz61_0 := blk_frozen BK159.out 0; have hfz61_1 := blk_frozen BK159.out 1; have hfz61_2 := blk_frozen BK159.out 2; obtain ⟨Ao62, co62, eo62⟩ := Kd.R_slice HO_4.out; subst eo62))
                    go_ret2
                    exact ⟨_, by first | rfl | (simp [errW_none, errW_some] <;> rfl) | (simp [*, errW_none, errW_some] <;> rfl), by (with_reducible repeat (first | apply Kd.R_alloc | apply Kd.R_drewN | apply Kd.R_drew)); exact Kd.R_mono (Kd.R_far (p := ⟨gb159, 2, none⟩) (Kd.R_far (p := ⟨gb159, 1, none⟩) (Kd.R_far (p := ⟨gb159, 0, none⟩) (Kd.R_types HO_4.out BK159.out (by decide)) (fun _ hk => hk.2) (.int .i64 ((rd_T27 l0 x5_1).f0))) (fun _ hk => hk.2) (.int .i64 ((rd_T27 l0 x5_1).f1))) (fun _ hk => hk.2) (.slice A158_2 ((rd_T27 l0 x5_1).f2).length c158_2)) (fun _ hk => trivial), by repeat (first | (with_reducible first | exact HB.out | apply below_alloc | apply pw_below_drewN | apply below_drew1 | refine below_set ?_ GE159.out) | exact HB.out)⟩
                  · rw [if_neg c59] at H
                    have c59b0 : decide (10000 < (wrap64 ((x4_1.length : Int) + (((rd_T27 l0 x5_1).f2).length : Int)))) = false := decide_eq_false c59
                    clear c59
                    by_cases c63 : x4_1.length + ((rd_T27 l0 x5_1).f2).length < 140737488355328
                    · rw [if_pos c63] at H
                      have LMc63 := Aside0.mk c63
                      clear c63
                      obtain ⟨y181, hy181⟩ : ∃ y_ : List Int, y_ = (x4_1 ++ ((rd_T27 l0 x5_1).f2)) := ⟨_, rfl⟩
                      replace H : (spec_Built.l0 k1 l0 y181 (wrap64 (x5_1 + 1))) = some (r1, r2) := by first | (rw [hy181]; with_reducible exact H) | (have H2_ := (Option.bind_some _ _).symm.trans H; rw [hy181]; with_reducible exact H2_) | (have H2_ := (Option.bind_some _ _).symm.trans H; with_reducible exact H2_) | with_reducible exact H | (rw [hy181]; exact H) | exact H
                      have Ny181 := Aside0.mk hy181
                      clear hy181
                      have H' := Aside0.mk H
                      clear H
                      have p158 : 0 ≤ (x5_1 : Int) := of_decide_eq_true (by first | (with_reducible assumption) | assumption)
                      have q158 : x5_1 < (l0.length : Int) := of_decide_eq_true (by first | (with_reducible assumption) | assumption)
                      obtain ⟨ad158, A158_2, c158_2, e158, hx158_0, hx158_1, hx158_2, hl158_2, hi158_2⟩ := at_T27 HR0.out x5_1 p158 q158
                      cases e158
                      replace hx158_0 := (HB.out.cell (World.block_lt_of_cell? w _ hx158_0)).trans hx158_0
                      replace hx158_1 := (HB.out.cell (World.block_lt_of_cell? w _ hx158_1)).trans hx158_1
                      replace hx158_2 := (HB.out.cell (World.block_lt_of_cell? w _ hx158_2)).trans hx158_2
                      have HR158_2 := Aside0.mk hi158_2
                      have HC158_2 := Aside0.mk hl158_2
                      clear hi158_2 hl158_2
                      replace p158 := eq_true p158
                      replace q158 := eq_true q158
                      go_wp2_with (first | ((with_reducible refine gate_dst (N := 7) rfl ?_); refine box_event ?hg (N := 7) ?hd (cs := #[.int .i64 0, .int .i64 0, .slice none 0 0]) (t := 27) ?hr ?_; (case hd => rfl); (case hg => rfl); (case hr => first | (go_simp; done) | (go_simp; rfl)); intro gb159 hg w64 hbox hb; have n0_ := Aside0.mk (Kd.R_below (by (with_reducible repeat (first | apply Kd.R_alloc | apply Kd.R_drewN | apply Kd.R_drew)); exact HO_4.out) hb); have n1_ := Aside0.mk (below_step (by repeat (first | (with_reducible first | exact HB.out | apply below_alloc | apply pw_below_drewN | apply below_drew1) | exact HB.out)) hb); have n2_ := Aside0.mk (hbox); have n3_ := Aside0.mk ((by rw [hg]; exact (below_size (by repeat (first | (with_reducible first | exact HB.out | apply below_alloc | apply pw_below_drewN | apply below_drew1) | exact HB.out))) : w.heap.size ≤ gb159)); have n4_ := Aside0.mk ((by rw [hg]; exact (below_size (by repeat (first | (with_reducible first | exact HB.out | apply below_alloc | apply pw_below_drewN | apply below_drew1) | exact HB.out))) : w.heap.size ≤ gb159)); clear HO_4; clear HB; have HO_4 := n0_; have HB := n1_; have BK159 := n2_; have GW159 := n3_; have GE159 := n4_; clear n0_ n1_ n2_ n3_ n4_; clear hb hbox hg; have hcz65_0 : w64.cell? ⟨gb159, 0, none⟩ = some (.int .i64 0) := (blk_cell BK159.out 0).trans rfl; have hcz65_1 : w64.cell? ⟨gb159, 1, none⟩ = some (.int .i64 0) := (blk_cell BK159.out 1).trans rfl; have hcz65_2 : w64.cell? ⟨gb159, 2, none⟩ = some (.slice none 0 0) := (blk_cell BK159.out 2).trans rfl; have hfz65_0 := blk_frozen BK159.out 0; have hfz65_1 := blk_frozen BK159.out 1; have hfz65_2 := blk_frozen BK159.out 2; obtain ⟨Ao66, co66, eo66⟩ := Kd.R_slice HO_4.out; subst eo66) | ((with_reducible refine gate_builtin (b := .append) (xs := #[.tmp 53, .tmp 54]) rfl ?_); at_builtin; refine Kd.R_append_rows (Kd.int .u8) (w0 := w) w.heap.size rfl (.tmp 53) (.tmp 54) 23 5 (.int .u8 0) 1 rfl Try.underlying23 info5 rfl (by decide) (by omega) (.slice Ao66 x4_1.length co66) x4_1 ((rd_T27 l0 x5_1).f2) _ _ _ (fun _ => True) (fun _ => False) rfl rfl ?aO ?aR (fun _ _ h => h) (fun _ h => h.elim) ?aF ?aB ?aS ?aL ?_; (case aR => exact Kd.C_below HR158_2.out (by repeat (first | (with_reducible first | exact HB.out | apply below_alloc | apply pw_below_drewN | apply below_drew1 | refine below_set ?_ GE159.out) | exact HB.out))); (case aB => exact (by repeat (first | (with_reducible first | exact HB.out | apply below_alloc | apply pw_below_drewN | apply below_drew1 | refine below_set ?_ GE159.out) | exact HB.out))); (case aF => exact (fun _ _ => trivial)); (case aO => exact (by (with_reducible repeat (first | apply Kd.R_alloc | apply Kd.R_drewN | apply Kd.R_drew)); exact Kd.R_mono (Kd.R_far (p := ⟨gb159, 2, none⟩) (Kd.R_far (p := ⟨gb159, 1, none⟩) (Kd.R_far (p := ⟨gb159, 0, none⟩) (Kd.R_types HO_4.out BK159.out (by decide)) (fun _ hk => hk.2) (.int .i64 ((rd_T27 l0 x5_1).f0))) (fun _ hk => hk.2) (.int .i64 ((rd_T27 l0 x5_1).f1))) (fun _ hk => hk.2) (.slice A158_2 ((rd_T27 l0 x5_1).f2).length c158_2)) (fun _ hk => trivial))); (case aS => exact (below_size (by repeat (first | (with_reducible first | exact HB.out | apply below_alloc | apply pw_below_drewN | apply below_drew1 | refine below_set ?_ GE159.out) | exact HB.out)))); (case aL => have := LMc63.out; omega); intro v182 w67 ho hb hg hat; rw [← Ny181.out] at ho; have n0_ := Aside0.mk (blk_grown (g := gb159) (o := .cells #[.int .i64 ((rd_T27 l0 x5_1).f0), .int .i64 ((rd_T27 l0 x5_1).f1), .slice A158_2 ((rd_T27 l0 x5_1).f2).length c158_2] 27 (0, 0)) (by (with_reducible repeat (first | refine blk_drewN ?_ _ | refine blk_drew ?_ | refine blk_alloc ?_ _)); refine blk_put (cs := #[.int .i64 ((rd_T27 l0 x5_1).f0), .int .i64 ((rd_T27 l0 x5_1).f1), .slice none 0 0]) ?_ 2 _ rfl; (with_reducible repeat (first | refine blk_drewN ?_ _ | refine blk_drew ?_ | refine blk_alloc ?_ _)); refine blk_put (cs := #[.int .i64 ((rd_T27 l0 x5_1).f0), .int .i64 0, .slice none 0 0]) ?_ 1 _ rfl; (with_reducible repeat (first | refine blk_drewN ?_ _ | refine blk_drew ?_ | refine blk_alloc ?_ _)); refine blk_put (cs := #[.int .i64 0, .int .i64 0, .slice none 0 0]) ?_ 0 _ rfl; (with_reducible repeat (first | refine blk_drewN ?_ _ | refine blk_drew ?_ | refine blk_alloc ?_ _)); exact BK159.out) hg (Kd.R_ne HO_4.out BK159.out (by decide))); have n1_ := Aside0.mk (hb); have n2_ := Aside0.mk (ho); clear BK159; clear HB; clear HO_4; have BK159 := n0_; have HB := n1_; have HO183 := n2_; clear n0_ n1_ n2_; clear ho hb hg hat))
                      go_roundg k1
                      case measure => have := HK1.out; omega
                      case rel => exact ⟨(y181), (wrap64 (x5_1 + 1)), (by first | rfl | (simp; done) | (simp [*]; done)), (by first | exact H' | (subst_vars; exact H')), ⟨by have := HK1.out; omega⟩, ⟨by (with_reducible repeat (first | apply Kd.R_alloc | apply Kd.R_drewN | apply Kd.R_drew)); exact HO183.out⟩, ⟨by repeat (first | (with_reducible first | exact HB.out | apply below_alloc | apply pw_below_drewN | apply below_drew1 | refine below_set ?_ GE159.out) | exact HB.out)⟩⟩
                    · rw [if_neg c63] at H
                      exact absurd H (by simp)
                · rw [if_neg c58] at H
                  have c58b0 : (((rd_T27 l0 x5_1).f0) == 3) = false := beq_eq_false_iff_ne.mpr c58
                  have c58b1 : (((rd_T27 l0 x5_1).f0) != 3) = true := bne_iff_ne.mpr c58
                  have H' := Aside0.mk H
                  clear H
                  have p158 : 0 ≤ (x5_1 : Int) := of_decide_eq_true (by first | (with_reducible assumption) | assumption)
                  have q158 : x5_1 < (l0.length : Int) := of_decide_eq_true (by first | (with_reducible assumption) | assumption)
                  obtain ⟨ad158, A158_2, c158_2, e158, hx158_0, hx158_1, hx158_2, hl158_2, hi158_2⟩ := at_T27 HR0.out x5_1 p158 q158
                  cases e158
                  replace hx158_0 := (HB.out.cell (World.block_lt_of_cell? w _ hx158_0)).trans hx158_0
                  replace hx158_1 := (HB.out.cell (World.block_lt_of_cell? w _ hx158_1)).trans hx158_1
                  replace hx158_2 := (HB.out.cell (World.block_lt_of_cell? w _ hx158_2)).trans hx158_2
                  have HR158_2 := Aside0.mk hi158_2
                  have HC158_2 := Aside0.mk hl158_2
                  clear hi158_2 hl158_2
                  replace p158 := eq_true p158
                  replace q158 := eq_true q158
                  go_wp2_with (first | ((with_reducible refine gate_dst (N := 7) rfl ?_); refine box_event ?hg (N := 7) ?hd (cs := #[.int .i64 0, .int .i64 0, .slice none 0 0]) (t := 27) ?hr ?_; (case hd => rfl); (case hg => rfl); (case hr => first | (go_simp; done) | (go_simp; rfl)); intro gb159 hg w68 hbox hb; have n0_ := Aside0.mk (Kd.R_below (by (with_reducible repeat (first | apply Kd.R_alloc | apply Kd.R_drewN | apply Kd.R_drew)); exact HO_4.out) hb); have n1_ := Aside0.mk (below_step (by repeat (first | (with_reducible first | exact HB.out | apply below_alloc | apply pw_below_drewN | apply below_drew1) | exact HB.out)) hb); have n2_ := Aside0.mk (hbox); have n3_ := Aside0.mk ((by rw [hg]; exact (below_size (by repeat (first | (with_reducible first | exact HB.out | apply below_alloc | apply pw_below_drewN | apply below_drew1) | exact HB.out))) : w.heap.size ≤ gb159)); have n4_ := Aside0.mk ((by rw [hg]; exact (below_size (by repeat (first | (with_reducible first | exact HB.out | apply below_alloc | apply pw_below_drewN | apply below_drew1) | exact HB.out))) : w.heap.size ≤ gb159)); clear HO_4; clear HB; have HO_4 := n0_; have HB := n1_; have BK159 := n2_; have GW159 := n3_; have GE159 := n4_; clear n0_ n1_ n2_ n3_ n4_; clear hb hbox hg; have hcz69_0 : w68.cell? ⟨gb159, 0, none⟩ = some (.int .i64 0) := (blk_cell BK159.out 0).trans rfl; have hcz69_1 : w68.cell? ⟨gb159, 1, none⟩ = some (.int .i64 0) := (blk_cell BK159.out 1).trans rfl; have hcz69_2 : w68.cell? ⟨gb159, 2, none⟩ = some (.slice none 0 0) := (blk_cell BK159.out 2).trans rfl; have hfz69_0 := blk_frozen BK159.out 0; have hfz69_1 := blk_frozen BK159.out 1; have hfz69_2 := blk_frozen BK159.out 2))
                  go_roundg k1
                  case measure => have := HK1.out; omega
                  case rel => exact ⟨(([] : List Int)), (wrap64 (x5_1 + 1)), (by first | rfl | (simp; done) | (simp [*]; done)), (by first | exact H' | (subst_vars; exact H')), ⟨by have := HK1.out; omega⟩, ⟨by first | exact Kd.R_nil _ _ _ _ _ | exact Kd.N_nil _ _ _ _ _ | exact Kd.V_nil _ _ _ _ _ | exact Kd.Q_nil _ _ _ _ _ | exact Kd.S_nil _ _ _ _ _⟩, ⟨by repeat (first | (with_reducible first | exact HB.out | apply below_alloc | apply pw_below_drewN | apply below_drew1 | refine below_set ?_ GE159.out) | exact HB.out)⟩⟩
        · rw [if_neg c3] at H
          exact absurd H (by simp)
      · rw [if_neg c2] at H
        have c2b0 : decide (x5_1 < (l0.length : Int)) = false := decide_eq_false c2
        clear c2
        simp only [Option.some.injEq, Prod.mk.injEq] at H
        obtain ⟨rfl, rfl⟩ := H
        go_wp2
        go_ret2
        exact ⟨_, by first | rfl | (simp [errW_none, errW_some] <;> rfl) | (simp [*, errW_none, errW_some] <;> rfl), by (with_reducible repeat (first | apply Kd.R_alloc | apply Kd.R_drewN | apply Kd.R_drew)); exact HO_4.out, by repeat (first | (with_reducible first | exact HB.out | apply below_alloc | apply pw_below_drewN | apply below_drew1) | exact HB.out)⟩

/-! ### laws_same: function 11 -/
def laws_same.l0 : Nat → List Int → List Int → Int → Option (Bool)
  | 0, _, _, _ => none
  | k + 1, x0, x1, x5 => if x5 < (x0.length : Int) then (if 0 ≤ x5 then (if x5 < (x1.length : Int) then (if (rd x0 x5) = (rd x1 x5) then (laws_same.l0 k x0 x1 (wrap64 (x5 + 1))) else (some false)) else (none)) else (none)) else (some true)
def laws_same.f (k : Nat) (l0 : List Int) (l1 : List Int) : Option (Bool) := if (l0.length : Int) = (l1.length : Int) then (laws_same.l0 k l0 l1 0) else (some false)
theorem laws_same.mono_l : ∀ k, (∀ y0 y1 y2, LeO (laws_same.l0 k y0 y1 y2) (laws_same.l0 (k + 1) y0 y1 y2))
  | 0 => fun _ _ _ r h => by simp [laws_same.l0] at h
  | k + 1 => by
    have ih0 := laws_same.mono_l k
    · intro y0 y1 y2
      unfold laws_same.l0
      repeat' first
      | (with_reducible exact ih0 _ _ _)
      | (with_reducible exact LeO.refl _)
      | (with_reducible exact LeO.none _)
      | (with_reducible refine LeO.ite ?_ ?_)
      | (with_reducible refine LeO.bind ?_ (fun _ => ?_))
      | exact ih0 _ _ _
      | exact LeO.none _
      | refine LeO.ite ?_ ?_
      | refine LeO.bind ?_ (fun _ => ?_)
theorem laws_same.mono : ∀ a0 a1 k, LeO (laws_same.f k a0 a1) (laws_same.f (k + 1) a0 a1) := by
  intro a0 a1 k
  have ih0 := laws_same.mono_l k
  unfold laws_same.f
  repeat' first
      | (with_reducible exact ih0 _ _ _)
      | (with_reducible exact LeO.refl _)
      | (with_reducible exact LeO.none _)
      | (with_reducible refine LeO.ite ?_ ?_)
      | (with_reducible refine LeO.bind ?_ (fun _ => ?_))
      | exact ih0 _ _ _
      | exact LeO.none _
      | refine LeO.ite ?_ ?_
      | refine LeO.bind ?_ (fun _ => ?_)
set_option maxHeartbeats 8000000 in
set_option maxRecDepth 100000 in
theorem laws_same.calls (k : Nat) (A0 : Option Addr) (c0 : Nat) (l0 : List Int) (A1 : Option Addr) (c1 : Nat) (l1 : List Int) (r : Bool) (w : World) (hr0 : Kd.C (Kd.int .u8) w A0 l0.length l0) (hc0 : l0.length ≤ c0) (hr1 : Kd.C (Kd.int .u8) w A1 l1.length l1) (hc1 : l1.length ≤ c1) (h : laws_same.f k l0 l1 = some r) :
    Calls Try.prog 11 #[.slice A0 l0.length c0, .slice A1 l1.length c1] w fun e w' => e = .returned (.bool r) ∧ Drawn0 w w' := by
  have HR0 := Aside0.mk hr0
  have HC0 := Aside0.mk hc0
  clear hr0 hc0
  have HR1 := Aside0.mk hr1
  have HC1 := Aside0.mk hc1
  clear hr1 hc1
  have H : (if (l0.length : Int) = (l1.length : Int) then (laws_same.l0 k l0 l1 0) else (some false)) = some r := h
  clear h
  by_cases c3 : (l0.length : Int) = (l1.length : Int)
  · rw [if_pos c3] at H
    have c3b0 : ((l0.length : Int) == (l1.length : Int)) = true := beq_iff_eq.mpr c3
    have c3b1 : ((l0.length : Int) != (l1.length : Int)) = false := bne_eq_false_iff_eq.mpr c3
    have c3b2 : (l0.length == l1.length) = true := by first | simpa using c3 | (simp at c3 ⊢; omega)
    clear c3
    have H' := Aside0.mk H
    clear H
    go_enter Try.func11, Try.ntmps11
    go_wp2
    repeat (go_quiet (fail); try go_wp2)
    go_loopg [5] k (fun kq v5 w' => ∃ (x5_1 : Int), v5 = .int .i64 x5_1 ∧ Aside0 (laws_same.l0 kq l0 l1 x5_1 = some r) ∧ Aside0 (kq ≤ k) ∧ Drawn0 w w')
    case atStart => exact ⟨(0), (by first | rfl | (simp; done) | (simp [*]; done)), H', ⟨Nat.le_refl _⟩, by repeat (first | exact Drawn0.refl _ | apply Drawn0.step)⟩
    case round =>
      clear H'
      try clear c1
      try clear p2
      try clear c3
      try clear c3b0
      try clear c3b1
      try clear c3b2
      obtain ⟨x5_1, rfl, HA, HK1, ⟨m1, rfl⟩⟩ := hrel
      cases gk with
      | zero => exact absurd HA.out (by simp [laws_same.l0])
      | succ k1 =>
        have H := HA.out
        clear HA
        simp only [laws_same.l0] at H
        by_cases c4 : x5_1 < (l0.length : Int)
        · rw [if_pos c4] at H
          have c4b0 : decide (x5_1 < (l0.length : Int)) = true := decide_eq_true c4
          clear c4
          by_cases c5 : 0 ≤ x5_1
          · rw [if_pos c5] at H
            have c5b0 : decide (0 ≤ x5_1) = true := decide_eq_true c5
            clear c5
            by_cases c6 : x5_1 < (l1.length : Int)
            · rw [if_pos c6] at H
              have c6b0 : decide (x5_1 < (l1.length : Int)) = true := decide_eq_true c6
              clear c6
              by_cases c7 : (rd l0 x5_1) = (rd l1 x5_1)
              · rw [if_pos c7] at H
                have c7b0 : ((rd l0 x5_1) == (rd l1 x5_1)) = true := beq_iff_eq.mpr c7
                have c7b1 : ((rd l0 x5_1) != (rd l1 x5_1)) = false := bne_eq_false_iff_eq.mpr c7
                clear c7
                have H' := Aside0.mk H
                clear H
                have p184 : 0 ≤ (x5_1 : Int) := of_decide_eq_true (by first | (with_reducible assumption) | assumption)
                have q184 : x5_1 < (l0.length : Int) := of_decide_eq_true (by first | (with_reducible assumption) | assumption)
                obtain ⟨ad184, e184, hx184_0⟩ := Kd.at_int HR0.out x5_1 p184 q184
                cases e184
                replace p184 := eq_true p184
                replace q184 := eq_true q184
                have p185 : 0 ≤ (x5_1 : Int) := of_decide_eq_true (by first | (with_reducible assumption) | assumption)
                have q185 : x5_1 < (l1.length : Int) := of_decide_eq_true (by first | (with_reducible assumption) | assumption)
                obtain ⟨ad185, e185, hx185_0⟩ := Kd.at_int HR1.out x5_1 p185 q185
                cases e185
                replace p185 := eq_true p185
                replace q185 := eq_true q185
                go_wp2
                repeat (go_quiet (fail); try go_wp2)
                go_roundg k1
                case measure => have := HK1.out; omega
                case rel => exact ⟨(wrap64 (x5_1 + 1)), (by first | rfl | (simp; done) | (simp [*]; done)), (by first | exact H' | (subst_vars; exact H')), ⟨by have := HK1.out; omega⟩, by repeat (first | exact Drawn0.refl _ | apply Drawn0.step)⟩
              · rw [if_neg c7] at H
                have c7b0 : ((rd l0 x5_1) == (rd l1 x5_1)) = false := beq_eq_false_iff_ne.mpr c7
                have c7b1 : ((rd l0 x5_1) != (rd l1 x5_1)) = true := bne_iff_ne.mpr c7
                obtain rfl := Option.some.inj H
                have p184 : 0 ≤ (x5_1 : Int) := of_decide_eq_true (by first | (with_reducible assumption) | assumption)
                have q184 : x5_1 < (l0.length : Int) := of_decide_eq_true (by first | (with_reducible assumption) | assumption)
                obtain ⟨ad184, e184, hx184_0⟩ := Kd.at_int HR0.out x5_1 p184 q184
                cases e184
                replace p184 := eq_true p184
                replace q184 := eq_true q184
                have p185 : 0 ≤ (x5_1 : Int) := of_decide_eq_true (by first | (with_reducible assumption) | assumption)
                have q185 : x5_1 < (l1.length : Int) := of_decide_eq_true (by first | (with_reducible assumption) | assumption)
                obtain ⟨ad185, e185, hx185_0⟩ := Kd.at_int HR1.out x5_1 p185 q185
                cases e185
                replace p185 := eq_true p185
                replace q185 := eq_true q185
                go_wp2
                repeat (go_quiet (fail); try go_wp2)
                go_ret
                exact ⟨by first | rfl | (simp; done) | (simp [*]; done), by repeat (first | exact Drawn0.refl _ | apply Drawn0.step)⟩
            · rw [if_neg c6] at H
              exact absurd H (by simp)
          · rw [if_neg c5] at H
            exact absurd H (by simp)
        · rw [if_neg c4] at H
          have c4b0 : decide (x5_1 < (l0.length : Int)) = false := decide_eq_false c4
          clear c4
          obtain rfl := Option.some.inj H
          go_wp2
          repeat (go_quiet (fail); try go_wp2)
          go_ret
          exact ⟨by first | rfl | (simp; done) | (simp [*]; done), by repeat (first | exact Drawn0.refl _ | apply Drawn0.step)⟩
  · rw [if_neg c3] at H
    have c3b0 : ((l0.length : Int) == (l1.length : Int)) = false := beq_eq_false_iff_ne.mpr c3
    have c3b1 : ((l0.length : Int) != (l1.length : Int)) = true := bne_iff_ne.mpr c3
    have c3b2 : (l0.length == l1.length) = false := by first | simpa using c3 | (simp at c3 ⊢; omega)
    obtain rfl := Option.some.inj H
    go_enter Try.func11, Try.ntmps11
    go_wp2
    repeat (go_quiet (fail); try go_wp2)
    go_ret
    exact ⟨by first | rfl | (simp; done) | (simp [*]; done), by repeat (first | exact Drawn0.refl _ | apply Drawn0.step)⟩

-- NOT PRINTED: function 4 (laws_FnBuilt)

end Go.Proofs.Ytdmpjoglejnpbab.QFnBuilt
