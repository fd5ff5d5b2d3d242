/- Printed functions over contracts that were proved by hand. -/
import Derived.Test.YtbbeedclkfcmeaaBj3
import Derived.Test.YtbbeedclkfcmeaaBm4
namespace Go.Proofs.Ytbbeedclkfcmeaa.KFnBloom
open Go.RowKit Go.Proofs.YtbbeedclkfcmeaaW.PrintWords Go.Proofs.YtbbeedclkfcmeaaW.PrintLast Go.Proofs.YtbbeedclkfcmeaaW.PrintMore
attribute [local go_sem] nn_mod256 nn_mod65536 nn_mod32 max2_int min2_int max_two min_two max_three min_three max_four min_four   -- for this text's walks alone
set_option linter.unusedVariables false
set_option linter.unusedSimpArgs false
/-! ### laws_FnBloom: function 3 -/
mutual
def laws_FnBloom.j0 : Nat → List Int → List Int → Bool → List Int → Int → Int → Option (Bool)
  | 0, _, _, _, _, _, _ => none
  | k + 1, x1, x2, x20, x162000, x162001, x162002 => if x20 = true then (some true) else ((laws_bloom.f x162000 x162001 x162002).bind fun t163 => (if t163 = true then (laws_FnBloom.j1 k x1 x2 (decide ((wrap64 ((x1.length : Int) + (x2.length : Int))) > 100000)) x162000 x162001 x162002) else (laws_FnBloom.j1 k x1 x2 true x162000 x162001 x162002)))
def laws_FnBloom.j1 : Nat → List Int → List Int → Bool → List Int → Int → Int → Option (Bool)
  | 0, _, _, _, _, _, _ => none
  | k + 1, x1, x2, x31, x162000, x162001, x162002 => if x31 = true then (some true) else ((impl_BloomAdd.f x162000 x162001 x162002 x1).bind fun bt164 => ((spec_BloomAdd.f k x162000 x162001 x162002 x1).bind fun bt170 => ((laws_sameBloom.f k bt164.1 bt164.2.1 bt164.2.2 bt170.1 bt170.2.1 bt170.2.2).bind fun t175 => (if t175 = true then ((impl_BloomHas.f bt164.1 bt164.2.1 bt164.2.2 x1).bind fun t176 => (if t176 = true then ((impl_BloomHas.f bt164.1 bt164.2.1 bt164.2.2 x2).bind fun t177 => ((spec_BloomHas.f k bt164.1 bt164.2.1 bt164.2.2 x2).bind fun t178 => (if (t177 == t178) = true then ((impl_BloomHas.f x162000 x162001 x162002 x2).bind fun t179 => (if t179 = true then ((impl_BloomHas.f bt164.1 bt164.2.1 bt164.2.2 x2).bind fun t180 => (some t180)) else (some true))) else (some false)))) else (some false))) else (some false)))))
end
def laws_FnBloom.f (k : Nat) (l0_0 : List Int) (a0_1 : Int) (a0_2 : Int) (l1 : List Int) (l2 : List Int) : Option (Bool) := (laws_zzFits14.f l0_0 a0_1 a0_2).bind fun t162 => (if t162 = true then (if (l1.length : Int) > 2147483647 then (laws_FnBloom.j0 k l1 l2 true l0_0 a0_1 a0_2) else (laws_FnBloom.j0 k l1 l2 (decide ((l2.length : Int) > 2147483647)) l0_0 a0_1 a0_2)) else (laws_FnBloom.j0 k l1 l2 true l0_0 a0_1 a0_2))
theorem laws_FnBloom.mono_l : ∀ k, (∀ y0 y1 y2 y3 y4 y5, LeO (laws_FnBloom.j0 k y0 y1 y2 y3 y4 y5) (laws_FnBloom.j0 (k + 1) y0 y1 y2 y3 y4 y5)) ∧ (∀ y0 y1 y2 y3 y4 y5, LeO (laws_FnBloom.j1 k y0 y1 y2 y3 y4 y5) (laws_FnBloom.j1 (k + 1) y0 y1 y2 y3 y4 y5))
  | 0 => ⟨fun _ _ _ _ _ _ r h => by simp [laws_FnBloom.j0] at h, fun _ _ _ _ _ _ r h => by simp [laws_FnBloom.j1] at h⟩
  | k + 1 => by
    obtain ⟨ih0, ih1⟩ := laws_FnBloom.mono_l k
    refine ⟨?_, ?_⟩
    · intro y0 y1 y2 y3 y4 y5
      unfold laws_FnBloom.j0
      repeat' first
      | (with_reducible exact ih0 _ _ _ _ _ _)
      | (with_reducible exact ih1 _ _ _ _ _ _)
      | (with_reducible exact laws_sameBloom.mono _ _ _ _ _ _ _)
      | (with_reducible exact spec_BloomAdd.mono _ _ _ _ _)
      | (with_reducible exact spec_BloomHas.mono _ _ _ _ _)
      | (with_reducible exact LeO.refl _)
      | (with_reducible exact LeO.none _)
      | (with_reducible refine LeO.ite ?_ ?_)
      | (with_reducible refine LeO.bind ?_ (fun _ => ?_))
      | exact ih0 _ _ _ _ _ _
      | exact ih1 _ _ _ _ _ _
      | exact laws_sameBloom.mono _ _ _ _ _ _ _
      | exact spec_BloomAdd.mono _ _ _ _ _
      | exact spec_BloomHas.mono _ _ _ _ _
      | exact LeO.none _
      | refine LeO.ite ?_ ?_
      | refine LeO.bind ?_ (fun _ => ?_)
    · intro y0 y1 y2 y3 y4 y5
      unfold laws_FnBloom.j1
      repeat' first
      | (with_reducible exact ih0 _ _ _ _ _ _)
      | (with_reducible exact ih1 _ _ _ _ _ _)
      | (with_reducible exact laws_sameBloom.mono _ _ _ _ _ _ _)
      | (with_reducible exact spec_BloomAdd.mono _ _ _ _ _)
      | (with_reducible exact spec_BloomHas.mono _ _ _ _ _)
      | (with_reducible exact LeO.refl _)
      | (with_reducible exact LeO.none _)
      | (with_reducible refine LeO.ite ?_ ?_)
      | (with_reducible refine LeO.bind ?_ (fun _ => ?_))
      | exact ih0 _ _ _ _ _ _
      | exact ih1 _ _ _ _ _ _
      | exact laws_sameBloom.mono _ _ _ _ _ _ _
      | exact spec_BloomAdd.mono _ _ _ _ _
      | exact spec_BloomHas.mono _ _ _ _ _
      | exact LeO.none _
      | refine LeO.ite ?_ ?_
      | refine LeO.bind ?_ (fun _ => ?_)
theorem laws_FnBloom.mono : ∀ a0 a1 a2 a3 a4 k, LeO (laws_FnBloom.f k a0 a1 a2 a3 a4) (laws_FnBloom.f (k + 1) a0 a1 a2 a3 a4) := by
  intro a0 a1 a2 a3 a4 k
  obtain ⟨ih0, ih1⟩ := laws_FnBloom.mono_l k
  unfold laws_FnBloom.f
  repeat' first
      | (with_reducible exact ih0 _ _ _ _ _ _)
      | (with_reducible exact ih1 _ _ _ _ _ _)
      | (with_reducible exact laws_sameBloom.mono _ _ _ _ _ _ _)
      | (with_reducible exact spec_BloomAdd.mono _ _ _ _ _)
      | (with_reducible exact spec_BloomHas.mono _ _ _ _ _)
      | (with_reducible exact LeO.refl _)
      | (with_reducible exact LeO.none _)
      | (with_reducible refine LeO.ite ?_ ?_)
      | (with_reducible refine LeO.bind ?_ (fun _ => ?_))
      | exact ih0 _ _ _ _ _ _
      | exact ih1 _ _ _ _ _ _
      | exact laws_sameBloom.mono _ _ _ _ _ _ _
      | exact spec_BloomAdd.mono _ _ _ _ _
      | exact spec_BloomHas.mono _ _ _ _ _
      | exact LeO.none _
      | refine LeO.ite ?_ ?_
      | refine LeO.bind ?_ (fun _ => ?_)
def laws_FnBloom.T6 : Bool × List (List Nat × List Nat) := (true, [([], []), ([], []), ([], []), ([1, 2], [1, 2]), ([0, 3, 3], [0, 3]), ([4, 4], [4]), ([5], [5]), ([5], [5]), ([6, 7, 5, 5], [5, 6, 7]), ([5, 8], [5, 8]), ([9, 8], [9]), ([10], [10]), ([10], [10]), ([11, 12, 10, 10], [10, 11, 12]), ([10], [10]), ([10], [10]), ([14, 15, 13, 10], [10, 14, 15]), ([13, 16, 10], [10, 13, 16]), ([10, 17], [10, 17]), ([18, 16], [18]), ([19], [19]), ([19], [19]), ([20, 21, 19, 19], [19, 20, 21]), ([22, 19], [19, 22]), ([23, 22, 19], [19, 23]), ([24], [24]), ([24], [24]), ([25, 26, 24, 24], [24, 25, 26]), ([24, 27, 19], [19, 24, 27]), ([19, 28], [19, 28]), ([29, 27, 0, 1, 2, 3, 4, 5, 6, 7, 8, 9, 10, 11, 12, 13, 14, 15, 16, 17, 18, 19, 20, 21, 22, 23, 24, 25, 26, 27, 28, 29], [29])])
def laws_FnBloom.B6 : List Nat := [0, 0, 0, 6, 15, 31, 63, 63, 255, 511, 1023, 2047, 2047, 8191, 2047, 2047, 65535, 131071, 262143, 524287, 1048575, 1048575, 4194303, 8388607, 16777215, 33554431, 33554431, 134217727, 268435455, 536870911, 1073741823]
theorem laws_FnBloom.tab6 : rtab .any (opsOf Try.f3 6) = laws_FnBloom.T6 := by kernel_rfl
theorem laws_FnBloom.bits6 : waitsOk laws_FnBloom.T6.2 laws_FnBloom.B6 = true := by kernel_rfl
set_option maxHeartbeats 8000000 in
set_option maxRecDepth 100000 in
theorem laws_FnBloom.calls (k : Nat) (A0_0 : Option Addr) (c0_0 : Nat) (l0_0 : List Int) (a0_1 : Int) (a0_2 : Int) (A1 : Option Addr) (c1 : Nat) (l1 : List Int) (A2 : Option Addr) (c2 : Nat) (l2 : List Int) (r : Bool) (w : World) (hr0_0 : Kd.C (Kd.int .u8) w A0_0 l0_0.length l0_0) (hc0_0 : l0_0.length ≤ c0_0) (hr1 : Kd.C (Kd.int .u8) w A1 l1.length l1) (hc1 : l1.length ≤ c1) (hr2 : Kd.C (Kd.int .u8) w A2 l2.length l2) (hc2 : l2.length ≤ c2) (h : laws_FnBloom.f k l0_0 a0_1 a0_2 l1 l2 = some r) :
    Calls Try.prog 3 #[.agg #[.slice A0_0 l0_0.length c0_0, .int .u32 a0_1, .int .u32 a0_2], .slice A1 l1.length c1, .slice A2 l2.length c2] w fun e w' => e = .returned (.bool r) ∧ Below w.heap.size w w' := by
  have hu25 := Try.underlying25
  have HR0_0 := Aside0.mk hr0_0
  have HC0_0 := Aside0.mk hc0_0
  clear hr0_0 hc0_0
  have HR1 := Aside0.mk hr1
  have HC1 := Aside0.mk hc1
  clear hr1 hc1
  have HR2 := Aside0.mk hr2
  have HC2 := Aside0.mk hc2
  clear hr2 hc2
  have HB := Aside0.mk (Below.refl w.heap.size w)
  have H : ((laws_zzFits14.f l0_0 a0_1 a0_2).bind fun t162 => (if t162 = true then (if (l1.length : Int) > 2147483647 then (laws_FnBloom.j0 k l1 l2 true l0_0 a0_1 a0_2) else (laws_FnBloom.j0 k l1 l2 (decide ((l2.length : Int) > 2147483647)) l0_0 a0_1 a0_2)) else (laws_FnBloom.j0 k l1 l2 true l0_0 a0_1 a0_2))) = some r := h
  clear h
  have HC4 := Aside0.mk H
  clear H
  go_enter Try.func3, Try.ntmps3
  go_upto_region 1 with (first | ((with_reducible refine gate_dst (N := 3) rfl ?_); (try (refine gate_guard (by rfl) ?_; dsimp only)); refine box_event ?hg (N := 3) ?hd (cs := #[.slice A0_0 l0_0.length c0_0, .int .u32 a0_1, .int .u32 a0_2]) (t := 25) ?hr ?_; (case hd => rfl); (case hg => rfl); (case hr => first | (go_simp; done) | (go_simp; rfl)); intro gb161 hg w5 hbox hb; have n0_ := Aside0.mk (below_step (by repeat (first | (with_reducible first | exact HB.out | apply below_alloc | apply pw_below_drewN | apply below_drew1) | exact HB.out)) hb); have n1_ := Aside0.mk (hbox); have n2_ := Aside0.mk ((by rw [hg]; exact (below_size (by repeat (first | (with_reducible first | exact HB.out | apply below_alloc | apply pw_below_drewN | apply below_drew1) | exact HB.out))) : w.heap.size ≤ gb161)); have n3_ := Aside0.mk ((by rw [hg]; exact (below_size (by repeat (first | (with_reducible first | exact HB.out | apply below_alloc | apply pw_below_drewN | apply below_drew1) | exact HB.out))) : w.heap.size ≤ gb161)); clear HB; have HB := n0_; have BK161 := n1_; have GW161 := n2_; have GE161 := n3_; clear n0_ n1_ n2_ n3_; clear hb hbox hg))
  (try simp only [Act.put, List.setIfInBounds_toArray, List.set_cons_zero, List.set_cons_succ])
  go_cut [20] (fun v20 wc => ∃ (kq : Nat) (x20_3 : Bool), v20 = .bool x20_3 ∧ Aside0 (laws_FnBloom.j0 kq l1 l2 x20_3 l0_0 a0_1 a0_2 = some r) ∧ Aside0 (kq ≤ k) ∧ Aside0 (wc.heap[gb161]? = some (.cells #[(.slice A0_0 l0_0.length c0_0), .int .u32 a0_1, .int .u32 a0_2] 25 (0, 0))) ∧ Aside0 (Below w.heap.size w wc))
  case first =>
    have H := HC4.out
    clear HC4
    replace H := Option.bind_eq_some_iff.mp H
    obtain ⟨t162, A60, H⟩ := H
    replace H : (if t162 = true then (if (l1.length : Int) > 2147483647 then (laws_FnBloom.j0 k l1 l2 true l0_0 a0_1 a0_2) else (laws_FnBloom.j0 k l1 l2 (decide ((l2.length : Int) > 2147483647)) l0_0 a0_1 a0_2)) else (laws_FnBloom.j0 k l1 l2 true l0_0 a0_1 a0_2)) = some r := H
    have A6 := Aside0.mk A60
    clear A60
    by_cases c7 : t162 = true
    · subst c7
      have H1 : (if (l1.length : Int) > 2147483647 then (laws_FnBloom.j0 k l1 l2 true l0_0 a0_1 a0_2) else (laws_FnBloom.j0 k l1 l2 (decide ((l2.length : Int) > 2147483647)) l0_0 a0_1 a0_2)) = some r := by rw [if_pos rfl] at H; exact H
      clear H
      have H := H1
      clear H1
      by_cases c8 : (l1.length : Int) > 2147483647
      · rw [if_pos c8] at H
        have c8b0 : decide (2147483647 < (l1.length : Int)) = true := decide_eq_true c8
        have c8b1 : decide (2147483647 < l1.length) = true := decide_eq_true (by omega)
        clear c8
        (first | rw [c8b0] | (simp only [i64_w, i32_w]; rw [c8b0]) | skip)
        have H' := Aside0.mk H
        clear H
        have hcz9_0 : w5.cell? ⟨gb161, 0, none⟩ = some (.slice A0_0 l0_0.length c0_0) := (blk_cell BK161.out 0).trans rfl
        have hcz9_1 : w5.cell? ⟨gb161, 1, none⟩ = some (.int .u32 a0_1) := (blk_cell BK161.out 1).trans rfl
        have hcz9_2 : w5.cell? ⟨gb161, 2, none⟩ = some (.int .u32 a0_2) := (blk_cell BK161.out 2).trans rfl
        have hfz9_0 := blk_frozen BK161.out 0
        have hfz9_1 := blk_frozen BK161.out 1
        have hfz9_2 := blk_frozen BK161.out 2
        go_wp2_with (first | ((with_reducible refine gate_callee (f := 4) rfl ?_); refine goesL_ (some 9) rfl rfl Try.func4 (by kernel_rfl) rfl #[.agg #[.slice A0_0 l0_0.length c0_0, .int .u32 a0_1, .int .u32 a0_2]] rfl (by (try simp only [List.map_toArray, List.map_cons, List.map_nil]); first | done | rfl | (simp only [List.length_drop, List.length_take]; rfl)) ?_; (with_reducible refine (laws_zzFits14.calls _ _ l0_0 a0_1 a0_2 true _ ?side1 ?side2 A6.out).mono ?_); (case side1 => repeat (first | exact (Kd.C_below HR0_0.out HB.out) | (with_reducible refine Kd.C_alloc ?_ _) | (with_reducible refine Kd.C_drewN ?_ _) | (with_reducible refine Kd.C_drew ?_))); (case side2 => exact HC0_0.out); rintro e w10 ⟨rfl, hb⟩; refine ⟨_, rfl, ?_⟩; have n0_ := Aside0.mk (blk_below (g := gb161) (o := .cells #[.slice A0_0 l0_0.length c0_0, .int .u32 a0_1, .int .u32 a0_2] 25 (0, 0)) (by (with_reducible repeat (first | refine blk_drewN ?_ _ | refine blk_drew ?_ | refine blk_alloc ?_ _)); exact BK161.out) hb); have n1_ := Aside0.mk (below_step (by repeat (first | (with_reducible first | exact HB.out | apply below_alloc | apply pw_below_drewN | apply below_drew1 | refine below_set ?_ GE161.out) | exact HB.out)) hb); clear BK161; clear HB; have BK161 := n0_; have HB := n1_; clear n0_ n1_; (try clear hb); (try clear hb2); (try clear hk); (try clear hi)))
        go_meet
        case rel => exact ⟨_, (true), (by first | rfl | (simp; done) | (simp [*]; done)), (by first | exact H' | (subst_vars; exact H')), ⟨by first | omega | exact Nat.le_refl _⟩, ⟨by (with_reducible repeat (first | refine blk_drewN ?_ _ | refine blk_drew ?_ | refine blk_alloc ?_ _)); exact BK161.out⟩, ⟨by repeat (first | (with_reducible first | exact HB.out | apply below_alloc | apply pw_below_drewN | apply below_drew1 | refine below_set ?_ GE161.out) | exact HB.out)⟩⟩
      · rw [if_neg c8] at H
        have c8b0 : decide (2147483647 < (l1.length : Int)) = false := decide_eq_false c8
        have c8b1 : decide (2147483647 < l1.length) = false := decide_eq_false (by omega)
        clear c8
        (first | rw [c8b0] | (simp only [i64_w, i32_w]; rw [c8b0]) | skip)
        have H' := Aside0.mk H
        clear H
        have hcz11_0 : w5.cell? ⟨gb161, 0, none⟩ = some (.slice A0_0 l0_0.length c0_0) := (blk_cell BK161.out 0).trans rfl
        have hcz11_1 : w5.cell? ⟨gb161, 1, none⟩ = some (.int .u32 a0_1) := (blk_cell BK161.out 1).trans rfl
        have hcz11_2 : w5.cell? ⟨gb161, 2, none⟩ = some (.int .u32 a0_2) := (blk_cell BK161.out 2).trans rfl
        have hfz11_0 := blk_frozen BK161.out 0
        have hfz11_1 := blk_frozen BK161.out 1
        have hfz11_2 := blk_frozen BK161.out 2
        go_wp2_with (first | ((with_reducible refine gate_callee (f := 4) rfl ?_); refine goesL_ (some 9) rfl rfl Try.func4 (by kernel_rfl) rfl #[.agg #[.slice A0_0 l0_0.length c0_0, .int .u32 a0_1, .int .u32 a0_2]] rfl (by (try simp only [List.map_toArray, List.map_cons, List.map_nil]); first | done | rfl | (simp only [List.length_drop, List.length_take]; rfl)) ?_; (with_reducible refine (laws_zzFits14.calls _ _ l0_0 a0_1 a0_2 true _ ?side1 ?side2 A6.out).mono ?_); (case side1 => repeat (first | exact (Kd.C_below HR0_0.out HB.out) | (with_reducible refine Kd.C_alloc ?_ _) | (with_reducible refine Kd.C_drewN ?_ _) | (with_reducible refine Kd.C_drew ?_))); (case side2 => exact HC0_0.out); rintro e w12 ⟨rfl, hb⟩; refine ⟨_, rfl, ?_⟩; have n0_ := Aside0.mk (blk_below (g := gb161) (o := .cells #[.slice A0_0 l0_0.length c0_0, .int .u32 a0_1, .int .u32 a0_2] 25 (0, 0)) (by (with_reducible repeat (first | refine blk_drewN ?_ _ | refine blk_drew ?_ | refine blk_alloc ?_ _)); exact BK161.out) hb); have n1_ := Aside0.mk (below_step (by repeat (first | (with_reducible first | exact HB.out | apply below_alloc | apply pw_below_drewN | apply below_drew1 | refine below_set ?_ GE161.out) | exact HB.out)) hb); clear BK161; clear HB; have BK161 := n0_; have HB := n1_; clear n0_ n1_; (try clear hb); (try clear hb2); (try clear hk); (try clear hi)))
        go_meet
        case rel => exact ⟨_, (decide ((l2.length : Int) > 2147483647)), (by first | rfl | (simp; done) | (simp [*]; done)), (by first | exact H' | (subst_vars; exact H')), ⟨by first | omega | exact Nat.le_refl _⟩, ⟨by (with_reducible repeat (first | refine blk_drewN ?_ _ | refine blk_drew ?_ | refine blk_alloc ?_ _)); exact BK161.out⟩, ⟨by repeat (first | (with_reducible first | exact HB.out | apply below_alloc | apply pw_below_drewN | apply below_drew1 | refine below_set ?_ GE161.out) | exact HB.out)⟩⟩
    · replace c7 := Bool.eq_false_iff.mpr c7
      subst c7
      have H1 : (laws_FnBloom.j0 k l1 l2 true l0_0 a0_1 a0_2) = some r := by rw [if_neg (show ¬ (false = true) by decide)] at H; exact H
      clear H
      have H := H1
      clear H1
      have H' := Aside0.mk H
      clear H
      have hcz13_0 : w5.cell? ⟨gb161, 0, none⟩ = some (.slice A0_0 l0_0.length c0_0) := (blk_cell BK161.out 0).trans rfl
      have hcz13_1 : w5.cell? ⟨gb161, 1, none⟩ = some (.int .u32 a0_1) := (blk_cell BK161.out 1).trans rfl
      have hcz13_2 : w5.cell? ⟨gb161, 2, none⟩ = some (.int .u32 a0_2) := (blk_cell BK161.out 2).trans rfl
      have hfz13_0 := blk_frozen BK161.out 0
      have hfz13_1 := blk_frozen BK161.out 1
      have hfz13_2 := blk_frozen BK161.out 2
      go_wp2_with (first | ((with_reducible refine gate_callee (f := 4) rfl ?_); refine goesL_ (some 9) rfl rfl Try.func4 (by kernel_rfl) rfl #[.agg #[.slice A0_0 l0_0.length c0_0, .int .u32 a0_1, .int .u32 a0_2]] rfl (by (try simp only [List.map_toArray, List.map_cons, List.map_nil]); first | done | rfl | (simp only [List.length_drop, List.length_take]; rfl)) ?_; (with_reducible refine (laws_zzFits14.calls _ _ l0_0 a0_1 a0_2 false _ ?side1 ?side2 A6.out).mono ?_); (case side1 => repeat (first | exact (Kd.C_below HR0_0.out HB.out) | (with_reducible refine Kd.C_alloc ?_ _) | (with_reducible refine Kd.C_drewN ?_ _) | (with_reducible refine Kd.C_drew ?_))); (case side2 => exact HC0_0.out); rintro e w14 ⟨rfl, hb⟩; refine ⟨_, rfl, ?_⟩; have n0_ := Aside0.mk (blk_below (g := gb161) (o := .cells #[.slice A0_0 l0_0.length c0_0, .int .u32 a0_1, .int .u32 a0_2] 25 (0, 0)) (by (with_reducible repeat (first | refine blk_drewN ?_ _ | refine blk_drew ?_ | refine blk_alloc ?_ _)); exact BK161.out) hb); have n1_ := Aside0.mk (below_step (by repeat (first | (with_reducible first | exact HB.out | apply below_alloc | apply pw_below_drewN | apply below_drew1 | refine below_set ?_ GE161.out) | exact HB.out)) hb); clear BK161; clear HB; have BK161 := n0_; have HB := n1_; clear n0_ n1_; (try clear hb); (try clear hb2); (try clear hk); (try clear hi)))
      go_meet
      case rel => exact ⟨_, (true), (by first | rfl | (simp; done) | (simp [*]; done)), (by first | exact H' | (subst_vars; exact H')), ⟨by first | omega | exact Nat.le_refl _⟩, ⟨by (with_reducible repeat (first | refine blk_drewN ?_ _ | refine blk_drew ?_ | refine blk_alloc ?_ _)); exact BK161.out⟩, ⟨by repeat (first | (with_reducible first | exact HB.out | apply below_alloc | apply pw_below_drewN | apply below_drew1 | refine below_set ?_ GE161.out) | exact HB.out)⟩⟩
  case rest =>
    clear HC4
    try clear c1
    try clear c2
    try clear p2
    try clear c3
    try clear c4
    try clear c7
    try clear c8
    try clear c8b0
    try clear c8b1
    try clear hcz11_0
    try clear hcz11_1
    try clear hcz11_2
    try clear hcz13_0
    try clear hcz13_1
    try clear hcz13_2
    try clear hcz9_0
    try clear hcz9_1
    try clear hcz9_2
    try clear hfz11_0
    try clear hfz11_1
    try clear hfz11_2
    try clear hfz13_0
    try clear hfz13_1
    try clear hfz13_2
    try clear hfz9_0
    try clear hfz9_1
    try clear hfz9_2
    obtain ⟨kq, x20_3, rfl, HA, HJ3, BK161, HB⟩ := hcut
    cases kq with
    | zero => exact absurd HA.out (by simp [laws_FnBloom.j0])
    | succ kj3 =>
      have H := HA.out
      clear HA
      simp only [laws_FnBloom.j0] at H
      by_cases c15 : x20_3 = true
      · subst c15
        have H1 : (some true) = some r := by rw [if_pos rfl] at H; exact H
        clear H
        have H := H1
        clear H1
        obtain rfl := Option.some.inj H
        go_wp2
        go_ret
        exact ⟨by first | rfl | (simp [errW_none, errW_some] <;> rfl) | (simp [*, errW_none, errW_some] <;> rfl), by repeat (first | (with_reducible first | exact HB.out | apply below_alloc | apply pw_below_drewN | apply below_drew1 | refine below_set ?_ GE161.out) | exact HB.out)⟩
      · replace c15 := Bool.eq_false_iff.mpr c15
        subst c15
        have H1 : ((laws_bloom.f l0_0 a0_1 a0_2).bind fun t163 => (if t163 = true then (laws_FnBloom.j1 kj3 l1 l2 (decide ((wrap64 ((l1.length : Int) + (l2.length : Int))) > 100000)) l0_0 a0_1 a0_2) else (laws_FnBloom.j1 kj3 l1 l2 true l0_0 a0_1 a0_2))) = some r := by rw [if_neg (show ¬ (false = true) by decide)] at H; exact H
        clear H
        have H := H1
        clear H1
        have HC16 := Aside0.mk H
        clear H
        go_upto_region 3 with (fail)
        go_cut [31] (fun v31 wc => ∃ (kq : Nat) (x31_15 : Bool), v31 = .bool x31_15 ∧ Aside0 (laws_FnBloom.j1 kq l1 l2 x31_15 l0_0 a0_1 a0_2 = some r) ∧ Aside0 (kq ≤ kj3) ∧ Aside0 (wc.heap[gb161]? = some (.cells #[(.slice A0_0 l0_0.length c0_0), .int .u32 a0_1, .int .u32 a0_2] 25 (0, 0))) ∧ Aside0 (Below w.heap.size w wc))
        case first =>
          have H := HC16.out
          clear HC16
          replace H := Option.bind_eq_some_iff.mp H
          obtain ⟨t163, A170, H⟩ := H
          replace H : (if t163 = true then (laws_FnBloom.j1 kj3 l1 l2 (decide ((wrap64 ((l1.length : Int) + (l2.length : Int))) > 100000)) l0_0 a0_1 a0_2) else (laws_FnBloom.j1 kj3 l1 l2 true l0_0 a0_1 a0_2)) = some r := H
          have A17 := Aside0.mk A170
          clear A170
          by_cases c18 : t163 = true
          · subst c18
            have H1 : (laws_FnBloom.j1 kj3 l1 l2 (decide ((wrap64 ((l1.length : Int) + (l2.length : Int))) > 100000)) l0_0 a0_1 a0_2) = some r := by rw [if_pos rfl] at H; exact H
            clear H
            have H := H1
            clear H1
            have H' := Aside0.mk H
            clear H
            have hcz19_0 : wc.cell? ⟨gb161, 0, none⟩ = some (.slice A0_0 l0_0.length c0_0) := (blk_cell BK161.out 0).trans rfl
            have hcz19_1 : wc.cell? ⟨gb161, 1, none⟩ = some (.int .u32 a0_1) := (blk_cell BK161.out 1).trans rfl
            have hcz19_2 : wc.cell? ⟨gb161, 2, none⟩ = some (.int .u32 a0_2) := (blk_cell BK161.out 2).trans rfl
            have hfz19_0 := blk_frozen BK161.out 0
            have hfz19_1 := blk_frozen BK161.out 1
            have hfz19_2 := blk_frozen BK161.out 2
            go_wp2_with (first | ((with_reducible refine gate_callee (f := 5) rfl ?_); refine goesL_ (some 22) rfl rfl Try.func5 (by kernel_rfl) rfl #[.agg #[.slice A0_0 l0_0.length c0_0, .int .u32 a0_1, .int .u32 a0_2]] rfl (by (try simp only [List.map_toArray, List.map_cons, List.map_nil]); first | done | rfl | (simp only [List.length_drop, List.length_take]; rfl)) ?_; (with_reducible refine (laws_bloom.calls _ _ l0_0 a0_1 a0_2 true _ ?side1 ?side2 A17.out).mono ?_); (case side1 => repeat (first | exact (Kd.C_below HR0_0.out HB.out) | (with_reducible refine Kd.C_alloc ?_ _) | (with_reducible refine Kd.C_drewN ?_ _) | (with_reducible refine Kd.C_drew ?_))); (case side2 => exact HC0_0.out); rintro e w20 ⟨rfl, hb⟩; refine ⟨_, rfl, ?_⟩; have n0_ := Aside0.mk (blk_below (g := gb161) (o := .cells #[.slice A0_0 l0_0.length c0_0, .int .u32 a0_1, .int .u32 a0_2] 25 (0, 0)) (by (with_reducible repeat (first | refine blk_drewN ?_ _ | refine blk_drew ?_ | refine blk_alloc ?_ _)); exact BK161.out) hb); have n1_ := Aside0.mk (below_step (by repeat (first | (with_reducible first | exact HB.out | apply below_alloc | apply pw_below_drewN | apply below_drew1 | refine below_set ?_ GE161.out) | exact HB.out)) hb); clear BK161; clear HB; have BK161 := n0_; have HB := n1_; clear n0_ n1_; (try clear hb); (try clear hb2); (try clear hk); (try clear hi)))
            go_meet
            case rel => exact ⟨_, (decide ((wrap64 ((l1.length : Int) + (l2.length : Int))) > 100000)), (by first | rfl | (simp; done) | (simp [*]; done)), (by first | exact H' | (subst_vars; exact H')), ⟨by have := HJ3.out; first | omega | exact Nat.le_refl _⟩, ⟨by (with_reducible repeat (first | refine blk_drewN ?_ _ | refine blk_drew ?_ | refine blk_alloc ?_ _)); exact BK161.out⟩, ⟨by repeat (first | (with_reducible first | exact HB.out | apply below_alloc | apply pw_below_drewN | apply below_drew1 | refine below_set ?_ GE161.out) | exact HB.out)⟩⟩
          · replace c18 := Bool.eq_false_iff.mpr c18
            subst c18
            have H1 : (laws_FnBloom.j1 kj3 l1 l2 true l0_0 a0_1 a0_2) = some r := by rw [if_neg (show ¬ (false = true) by decide)] at H; exact H
            clear H
            have H := H1
            clear H1
            have H' := Aside0.mk H
            clear H
            have hcz21_0 : wc.cell? ⟨gb161, 0, none⟩ = some (.slice A0_0 l0_0.length c0_0) := (blk_cell BK161.out 0).trans rfl
            have hcz21_1 : wc.cell? ⟨gb161, 1, none⟩ = some (.int .u32 a0_1) := (blk_cell BK161.out 1).trans rfl
            have hcz21_2 : wc.cell? ⟨gb161, 2, none⟩ = some (.int .u32 a0_2) := (blk_cell BK161.out 2).trans rfl
            have hfz21_0 := blk_frozen BK161.out 0
            have hfz21_1 := blk_frozen BK161.out 1
            have hfz21_2 := blk_frozen BK161.out 2
            go_wp2_with (first | ((with_reducible refine gate_callee (f := 5) rfl ?_); refine goesL_ (some 22) rfl rfl Try.func5 (by kernel_rfl) rfl #[.agg #[.slice A0_0 l0_0.length c0_0, .int .u32 a0_1, .int .u32 a0_2]] rfl (by (try simp only [List.map_toArray, List.map_cons, List.map_nil]); first | done | rfl | (simp only [List.length_drop, List.length_take]; rfl)) ?_; (with_reducible refine (laws_bloom.calls _ _ l0_0 a0_1 a0_2 false _ ?side1 ?side2 A17.out).mono ?_); (case side1 => repeat (first | exact (Kd.C_below HR0_0.out HB.out) | (with_reducible refine Kd.C_alloc ?_ _) | (with_reducible refine Kd.C_drewN ?_ _) | (with_reducible refine Kd.C_drew ?_))); (case side2 => exact HC0_0.out); rintro e w22 ⟨rfl, hb⟩; refine ⟨_, rfl, ?_⟩; have n0_ := Aside0.mk (blk_below (g := gb161) (o := .cells #[.slice A0_0 l0_0.length c0_0, .int .u32 a0_1, .int .u32 a0_2] 25 (0, 0)) (by (with_reducible repeat (first | refine blk_drewN ?_ _ | refine blk_drew ?_ | refine blk_alloc ?_ _)); exact BK161.out) hb); have n1_ := Aside0.mk (below_step (by repeat (first | (with_reducible first | exact HB.out | apply below_alloc | apply pw_below_drewN | apply below_drew1 | refine below_set ?_ GE161.out) | exact HB.out)) hb); clear BK161; clear HB; have BK161 := n0_; have HB := n1_; clear n0_ n1_; (try clear hb); (try clear hb2); (try clear hk); (try clear hi)))
            go_meet
            case rel => exact ⟨_, (true), (by first | rfl | (simp; done) | (simp [*]; done)), (by first | exact H' | (subst_vars; exact H')), ⟨by have := HJ3.out; first | omega | exact Nat.le_refl _⟩, ⟨by (with_reducible repeat (first | refine blk_drewN ?_ _ | refine blk_drew ?_ | refine blk_alloc ?_ _)); exact BK161.out⟩, ⟨by repeat (first | (with_reducible first | exact HB.out | apply below_alloc | apply pw_below_drewN | apply below_drew1 | refine below_set ?_ GE161.out) | exact HB.out)⟩⟩
        case rest =>
          clear HC16
          try clear c1
          try clear c2
          try clear p2
          try clear c3
          try clear c4
          try clear c5
          try clear p6
          try clear c7
          try clear c8
          try clear c8b0
          try clear c8b1
          try clear c15
          try clear c18
          try clear hcz11_0
          try clear hcz11_1
          try clear hcz11_2
          try clear hcz13_0
          try clear hcz13_1
          try clear hcz13_2
          try clear hcz19_0
          try clear hcz19_1
          try clear hcz19_2
          try clear hcz21_0
          try clear hcz21_1
          try clear hcz21_2
          try clear hcz9_0
          try clear hcz9_1
          try clear hcz9_2
          try clear hfz11_0
          try clear hfz11_1
          try clear hfz11_2
          try clear hfz13_0
          try clear hfz13_1
          try clear hfz13_2
          try clear hfz19_0
          try clear hfz19_1
          try clear hfz19_2
          try clear hfz21_0
          try clear hfz21_1
          try clear hfz21_2
          try clear hfz9_0
          try clear hfz9_1
          try clear hfz9_2
          try clear p2
          obtain ⟨kq, x31_15, rfl, HA, HJ15, BK161, HB⟩ := hcut
          cases kq with
          | zero => exact absurd HA.out (by simp [laws_FnBloom.j1])
          | succ kj15 =>
            have H := HA.out
            clear HA
            simp only [laws_FnBloom.j1] at H
            by_cases c23 : x31_15 = true
            · subst c23
              have H1 : (some true) = some r := by rw [if_pos rfl] at H; exact H
              clear H
              have H := H1
              clear H1
              obtain rfl := Option.some.inj H
              go_wp2
              go_ret
              exact ⟨by first | rfl | (simp [errW_none, errW_some] <;> rfl) | (simp [*, errW_none, errW_some] <;> rfl), by repeat (first | (with_reducible first | exact HB.out | apply below_alloc | apply pw_below_drewN | apply below_drew1 | refine below_set ?_ GE161.out) | exact HB.out)⟩
            · replace c23 := Bool.eq_false_iff.mpr c23
              subst c23
              have H1 : ((impl_BloomAdd.f l0_0 a0_1 a0_2 l1).bind fun bt164 => ((spec_BloomAdd.f kj15 l0_0 a0_1 a0_2 l1).bind fun bt170 => ((laws_sameBloom.f kj15 bt164.1 bt164.2.1 bt164.2.2 bt170.1 bt170.2.1 bt170.2.2).bind fun t175 => (if t175 = true then ((impl_BloomHas.f bt164.1 bt164.2.1 bt164.2.2 l1).bind fun t176 => (if t176 = true then ((impl_BloomHas.f bt164.1 bt164.2.1 bt164.2.2 l2).bind fun t177 => ((spec_BloomHas.f kj15 bt164.1 bt164.2.1 bt164.2.2 l2).bind fun t178 => (if (t177 == t178) = true then ((impl_BloomHas.f l0_0 a0_1 a0_2 l2).bind fun t179 => (if t179 = true then ((impl_BloomHas.f bt164.1 bt164.2.1 bt164.2.2 l2).bind fun t180 => (some t180)) else (some true))) else (some false)))) else (some false))) else (some false))))) = some r := by rw [if_neg (show ¬ (false = true) by decide)] at H; exact H
              clear H
              have H := H1
              clear H1
              replace H := Option.bind_eq_some_iff.mp H
              obtain ⟨⟨t164, t167, t168⟩, A240, H⟩ := H
              replace H : ((spec_BloomAdd.f kj15 l0_0 a0_1 a0_2 l1).bind fun bt170 => ((laws_sameBloom.f kj15 t164 t167 t168 bt170.1 bt170.2.1 bt170.2.2).bind fun t175 => (if t175 = true then ((impl_BloomHas.f t164 t167 t168 l1).bind fun t176 => (if t176 = true then ((impl_BloomHas.f t164 t167 t168 l2).bind fun t177 => ((spec_BloomHas.f kj15 t164 t167 t168 l2).bind fun t178 => (if (t177 == t178) = true then ((impl_BloomHas.f l0_0 a0_1 a0_2 l2).bind fun t179 => (if t179 = true then ((impl_BloomHas.f t164 t167 t168 l2).bind fun t180 => (some t180)) else (some true))) else (some false)))) else (some false))) else (some false)))) = some r := H
              have A24 := Aside0.mk A240
              clear A240
              replace H := Option.bind_eq_some_iff.mp H
              obtain ⟨⟨t170, t173, t174⟩, A250, H⟩ := H
              replace H : ((laws_sameBloom.f kj15 t164 t167 t168 t170 t173 t174).bind fun t175 => (if t175 = true then ((impl_BloomHas.f t164 t167 t168 l1).bind fun t176 => (if t176 = true then ((impl_BloomHas.f t164 t167 t168 l2).bind fun t177 => ((spec_BloomHas.f kj15 t164 t167 t168 l2).bind fun t178 => (if (t177 == t178) = true then ((impl_BloomHas.f l0_0 a0_1 a0_2 l2).bind fun t179 => (if t179 = true then ((impl_BloomHas.f t164 t167 t168 l2).bind fun t180 => (some t180)) else (some true))) else (some false)))) else (some false))) else (some false))) = some r := H
              have A25 := Aside0.mk A250
              clear A250
              replace H := Option.bind_eq_some_iff.mp H
              obtain ⟨t175, A260, H⟩ := H
              replace H : (if t175 = true then ((impl_BloomHas.f t164 t167 t168 l1).bind fun t176 => (if t176 = true then ((impl_BloomHas.f t164 t167 t168 l2).bind fun t177 => ((spec_BloomHas.f kj15 t164 t167 t168 l2).bind fun t178 => (if (t177 == t178) = true then ((impl_BloomHas.f l0_0 a0_1 a0_2 l2).bind fun t179 => (if t179 = true then ((impl_BloomHas.f t164 t167 t168 l2).bind fun t180 => (some t180)) else (some true))) else (some false)))) else (some false))) else (some false)) = some r := H
              have A26 := Aside0.mk A260
              clear A260
              by_cases c27 : t175 = true
              · subst c27
                have H1 : ((impl_BloomHas.f t164 t167 t168 l1).bind fun t176 => (if t176 = true then ((impl_BloomHas.f t164 t167 t168 l2).bind fun t177 => ((spec_BloomHas.f kj15 t164 t167 t168 l2).bind fun t178 => (if (t177 == t178) = true then ((impl_BloomHas.f l0_0 a0_1 a0_2 l2).bind fun t179 => (if t179 = true then ((impl_BloomHas.f t164 t167 t168 l2).bind fun t180 => (some t180)) else (some true))) else (some false)))) else (some false))) = some r := by rw [if_pos rfl] at H; exact H
                clear H
                have H := H1
                clear H1
                replace H := Option.bind_eq_some_iff.mp H
                obtain ⟨t176, A280, H⟩ := H
                replace H : (if t176 = true then ((impl_BloomHas.f t164 t167 t168 l2).bind fun t177 => ((spec_BloomHas.f kj15 t164 t167 t168 l2).bind fun t178 => (if (t177 == t178) = true then ((impl_BloomHas.f l0_0 a0_1 a0_2 l2).bind fun t179 => (if t179 = true then ((impl_BloomHas.f t164 t167 t168 l2).bind fun t180 => (some t180)) else (some true))) else (some false)))) else (some false)) = some r := H
                have A28 := Aside0.mk A280
                clear A280
                by_cases c29 : t176 = true
                · subst c29
                  have H1 : ((impl_BloomHas.f t164 t167 t168 l2).bind fun t177 => ((spec_BloomHas.f kj15 t164 t167 t168 l2).bind fun t178 => (if (t177 == t178) = true then ((impl_BloomHas.f l0_0 a0_1 a0_2 l2).bind fun t179 => (if t179 = true then ((impl_BloomHas.f t164 t167 t168 l2).bind fun t180 => (some t180)) else (some true))) else (some false)))) = some r := by rw [if_pos rfl] at H; exact H
                  clear H
                  have H := H1
                  clear H1
                  replace H := Option.bind_eq_some_iff.mp H
                  obtain ⟨t177, A300, H⟩ := H
                  replace H : ((spec_BloomHas.f kj15 t164 t167 t168 l2).bind fun t178 => (if (t177 == t178) = true then ((impl_BloomHas.f l0_0 a0_1 a0_2 l2).bind fun t179 => (if t179 = true then ((impl_BloomHas.f t164 t167 t168 l2).bind fun t180 => (some t180)) else (some true))) else (some false))) = some r := H
                  have A30 := Aside0.mk A300
                  clear A300
                  replace H := Option.bind_eq_some_iff.mp H
                  obtain ⟨t178, A310, H⟩ := H
                  replace H : (if (t177 == t178) = true then ((impl_BloomHas.f l0_0 a0_1 a0_2 l2).bind fun t179 => (if t179 = true then ((impl_BloomHas.f t164 t167 t168 l2).bind fun t180 => (some t180)) else (some true))) else (some false)) = some r := H
                  have A31 := Aside0.mk A310
                  clear A310
                  by_cases c32 : (t177 == t178) = true
                  · rw [if_pos c32] at H
                    have c32b0 : (t177 == t178) = true := c32
                    (try (have c32b1 : decide (t177 = t178) = true := by simpa using c32))
                    (try (have c32b2 : (t177 == t178) = true := by simpa using c32))
                    clear c32
                    replace H := Option.bind_eq_some_iff.mp H
                    obtain ⟨t179, A330, H⟩ := H
                    replace H : (if t179 = true then ((impl_BloomHas.f t164 t167 t168 l2).bind fun t180 => (some t180)) else (some true)) = some r := H
                    have A33 := Aside0.mk A330
                    clear A330
                    by_cases c34 : t179 = true
                    · subst c34
                      have H1 : ((impl_BloomHas.f t164 t167 t168 l2).bind fun t180 => (some t180)) = some r := by rw [if_pos rfl] at H; exact H
                      clear H
                      have H := H1
                      clear H1
                      replace H := Option.bind_eq_some_iff.mp H
                      obtain ⟨t180, A350, H⟩ := H
                      replace H : (some t180) = some r := H
                      have A35 := Aside0.mk A350
                      clear A350
                      obtain rfl := Option.some.inj H
                      have hcz36_0 : wc.cell? ⟨gb161, 0, none⟩ = some (.slice A0_0 l0_0.length c0_0) := (blk_cell BK161.out 0).trans rfl
                      have hcz36_1 : wc.cell? ⟨gb161, 1, none⟩ = some (.int .u32 a0_1) := (blk_cell BK161.out 1).trans rfl
                      have hcz36_2 : wc.cell? ⟨gb161, 2, none⟩ = some (.int .u32 a0_2) := (blk_cell BK161.out 2).trans rfl
                      have hfz36_0 := blk_frozen BK161.out 0
                      have hfz36_1 := blk_frozen BK161.out 1
                      have hfz36_2 := blk_frozen BK161.out 2
                      try go_wp2_with (first | ((with_reducible refine gate_callee (f := 6) rfl ?_); refine goesL_ (some 34) rfl rfl Try.func6 (by kernel_rfl) rfl #[.agg #[.slice A0_0 l0_0.length c0_0, .int .u32 a0_1, .int .u32 a0_2], .slice A1 l1.length c1] rfl (by (try simp only [List.map_toArray, List.map_cons, List.map_nil]); first | done | rfl | (simp only [List.length_drop, List.length_take]; rfl)) ?_; (with_reducible refine (impl_BloomAdd.calls _ _ l0_0 a0_1 a0_2 _ _ l1 t164 t167 t168 _ ?side1 ?side2 ?side3 ?side4 A24.out).mono ?_); (case side1 => repeat (first | exact (Kd.C_below HR0_0.out HB.out) | (with_reducible refine Kd.C_alloc ?_ _) | (with_reducible refine Kd.C_drewN ?_ _) | (with_reducible refine Kd.C_drew ?_))); (case side2 => exact HC0_0.out); (case side3 => repeat (first | exact (Kd.C_below HR1.out HB.out) | (with_reducible refine Kd.C_alloc ?_ _) | (with_reducible refine Kd.C_drewN ?_ _) | (with_reducible refine Kd.C_drew ?_))); (case side4 => exact HC1.out); rintro e w37 ⟨v165, rfl, ho0, hb⟩; refine ⟨_, rfl, ?_⟩; have n0_ := Aside0.mk (Kd.R_lower ho0 (below_size (by repeat (first | (with_reducible first | exact HB.out | apply below_alloc | apply pw_below_drewN | apply below_drew1 | refine below_set ?_ GE161.out) | exact HB.out)))); have n1_ := Aside0.mk (blk_below (g := gb161) (o := .cells #[.slice A0_0 l0_0.length c0_0, .int .u32 a0_1, .int .u32 a0_2] 25 (0, 0)) (by (with_reducible repeat (first | refine blk_drewN ?_ _ | refine blk_drew ?_ | refine blk_alloc ?_ _)); exact BK161.out) hb); have n2_ := Aside0.mk (below_step (by repeat (first | (with_reducible first | exact HB.out | apply below_alloc | apply pw_below_drewN | apply below_drew1 | refine below_set ?_ GE161.out) | exact HB.out)) hb); clear BK161; clear HB; have HO166 := n0_; have BK161 := n1_; have HB := n2_; clear n0_ n1_ n2_; (try clear hb); (try clear hb2); (try clear hk); (try clear hi); (try clear ho0)) | ((with_reducible refine gate_dst (N := 7) rfl ?_); (try (refine gate_guard (by rfl) ?_; dsimp only)); refine box_event ?hg (N := 7) ?hd (cs := #[.slice none 0 0, .int .u32 0, .int .u32 0]) (t := 25) ?hr ?_; (case hd => rfl); (case hg => rfl); (case hr => first | (go_simp; done) | (go_simp; rfl)); intro gb169 hg w38 hbox hb; have n0_ := Aside0.mk (Kd.R_below (by (with_reducible repeat (first | apply Kd.R_alloc | apply Kd.R_drewN | apply Kd.R_drew)); exact HO166.out) hb); have n1_ := Aside0.mk (blk_below (g := gb161) (o := .cells #[.slice A0_0 l0_0.length c0_0, .int .u32 a0_1, .int .u32 a0_2] 25 (0, 0)) (by (with_reducible repeat (first | refine blk_drewN ?_ _ | refine blk_drew ?_ | refine blk_alloc ?_ _)); exact BK161.out) hb); have n2_ := Aside0.mk (below_step (by repeat (first | (with_reducible first | exact HB.out | apply below_alloc | apply pw_below_drewN | apply below_drew1 | refine below_set ?_ GE161.out) | exact HB.out)) hb); have n3_ := Aside0.mk (hbox); have n4_ := Aside0.mk ((by rw [hg]; exact (below_size (by repeat (first | (with_reducible first | exact HB.out | apply below_alloc | apply pw_below_drewN | apply below_drew1 | refine below_set ?_ GE161.out) | exact HB.out))) : w.heap.size ≤ gb169)); have n5_ := Aside0.mk ((by rw [hg]; exact (below_size (by repeat (first | (with_reducible first | exact HB.out | apply below_alloc | apply pw_below_drewN | apply below_drew1 | refine below_set ?_ GE161.out) | exact HB.out))) : w.heap.size ≤ gb169)); have n6_ := Aside0.mk ((by rw [hg]; exact Nat.ne_of_lt (blk_lt (g := gb161) (o := .cells #[.slice A0_0 l0_0.length c0_0, .int .u32 a0_1, .int .u32 a0_2] 25 (0, 0)) (by (with_reducible repeat (first | refine blk_drewN ?_ _ | refine blk_drew ?_ | refine blk_alloc ?_ _)); exact BK161.out)) : gb161 ≠ gb169)); have n7_ := Aside0.mk ((by rw [hg]; exact Nat.ne_of_gt (blk_lt (g := gb161) (o := .cells #[.slice A0_0 l0_0.length c0_0, .int .u32 a0_1, .int .u32 a0_2] 25 (0, 0)) (by (with_reducible repeat (first | refine blk_drewN ?_ _ | refine blk_drew ?_ | refine blk_alloc ?_ _)); exact BK161.out)) : gb169 ≠ gb161)); clear HO166; clear BK161; clear HB; have HO166 := n0_; have BK161 := n1_; have HB := n2_; have BK169 := n3_; have GW169 := n4_; have GE169 := n5_; have NB161_169 := n6_; have NB169_161 := n7_; clear n0_ n1_ n2_ n3_ n4_ n5_ n6_ n7_; clear hb hbox hg; obtain ⟨Ao39, co39, eo39⟩ := Kd.R_slice HO166.out; subst eo39; have hnb40 := NB169_161.out; have hnc40 := NB161_169.out; have hcz41_0 : w38.cell? ⟨gb169, 0, none⟩ = some (.slice none 0 0) := (blk_cell BK169.out 0).trans rfl; have hcz41_1 : w38.cell? ⟨gb169, 1, none⟩ = some (.int .u32 0) := (blk_cell BK169.out 1).trans rfl; have hcz41_2 : w38.cell? ⟨gb169, 2, none⟩ = some (.int .u32 0) := (blk_cell BK169.out 2).trans rfl; have hfz41_0 := blk_frozen BK169.out 0; have hfz41_1 := blk_frozen BK169.out 1; have hfz41_2 := blk_frozen BK169.out 2))
                      have n0_ : Aside0 (Kd.R (Kd.int .u8) 5 (((w38.setCell ⟨gb169, 0, none⟩ (.slice Ao39 t164.length co39)).setCell ⟨gb169, 1, none⟩ (.int .u32 t167)).setCell ⟨gb169, 2, none⟩ (.int .u32 t168)) w.heap.size (fun _ => True) (.slice Ao39 t164.length co39) t164) := ⟨by (with_reducible repeat (first | apply Kd.R_alloc | apply Kd.R_drewN | apply Kd.R_drew)); exact Kd.R_mono (Kd.R_far (p := ⟨gb169, 2, none⟩) (Kd.R_far (p := ⟨gb169, 1, none⟩) (Kd.R_far (p := ⟨gb169, 0, none⟩) (Kd.R_types HO166.out BK169.out (by decide)) (fun _ hk => hk.2) (.slice Ao39 t164.length co39)) (fun _ hk => hk.2) (.int .u32 t167)) (fun _ hk => hk.2) (.int .u32 t168)) (fun _ hk => trivial)⟩
                      have n1_ : Aside0 ((((w38.setCell ⟨gb169, 0, none⟩ (.slice Ao39 t164.length co39)).setCell ⟨gb169, 1, none⟩ (.int .u32 t167)).setCell ⟨gb169, 2, none⟩ (.int .u32 t168)).heap[gb161]? = some (.cells #[.slice A0_0 l0_0.length c0_0, .int .u32 a0_1, .int .u32 a0_2] 25 (0, 0))) := ⟨by (with_reducible repeat (first | refine blk_drewN ?_ _ | refine blk_drew ?_ | refine blk_alloc ?_ _)); refine blk_far ?_ NB161_169.out _; (with_reducible repeat (first | refine blk_drewN ?_ _ | refine blk_drew ?_ | refine blk_alloc ?_ _)); refine blk_far ?_ NB161_169.out _; (with_reducible repeat (first | refine blk_drewN ?_ _ | refine blk_drew ?_ | refine blk_alloc ?_ _)); refine blk_far ?_ NB161_169.out _; (with_reducible repeat (first | refine blk_drewN ?_ _ | refine blk_drew ?_ | refine blk_alloc ?_ _)); exact BK161.out⟩
                      have n2_ : Aside0 ((((w38.setCell ⟨gb169, 0, none⟩ (.slice Ao39 t164.length co39)).setCell ⟨gb169, 1, none⟩ (.int .u32 t167)).setCell ⟨gb169, 2, none⟩ (.int .u32 t168)).heap[gb169]? = some (.cells #[.slice Ao39 t164.length co39, .int .u32 t167, .int .u32 t168] 25 (0, 0))) := ⟨by (with_reducible repeat (first | refine blk_drewN ?_ _ | refine blk_drew ?_ | refine blk_alloc ?_ _)); refine blk_put (cs := #[.slice Ao39 t164.length co39, .int .u32 t167, .int .u32 0]) ?_ 2 _ rfl; (with_reducible repeat (first | refine blk_drewN ?_ _ | refine blk_drew ?_ | refine blk_alloc ?_ _)); refine blk_put (cs := #[.slice Ao39 t164.length co39, .int .u32 0, .int .u32 0]) ?_ 1 _ rfl; (with_reducible repeat (first | refine blk_drewN ?_ _ | refine blk_drew ?_ | refine blk_alloc ?_ _)); refine blk_put (cs := #[.slice none 0 0, .int .u32 0, .int .u32 0]) ?_ 0 _ rfl; (with_reducible repeat (first | refine blk_drewN ?_ _ | refine blk_drew ?_ | refine blk_alloc ?_ _)); exact BK169.out⟩
                      have n3_ : Aside0 (Below w.heap.size w (((w38.setCell ⟨gb169, 0, none⟩ (.slice Ao39 t164.length co39)).setCell ⟨gb169, 1, none⟩ (.int .u32 t167)).setCell ⟨gb169, 2, none⟩ (.int .u32 t168))) := ⟨by repeat (first | (with_reducible first | exact HB.out | apply below_alloc | apply pw_below_drewN | apply below_drew1 | refine below_set ?_ GE161.out | refine below_set ?_ GE169.out) | exact HB.out)⟩
                      (try clear HO166)
                      (try clear BK161)
                      (try clear BK169)
                      (try clear HB)
                      generalize (((w38.setCell ⟨gb169, 0, none⟩ (.slice Ao39 t164.length co39)).setCell ⟨gb169, 1, none⟩ (.int .u32 t167)).setCell ⟨gb169, 2, none⟩ (.int .u32 t168)) = w42 at n0_ n1_ n2_ n3_ ⊢
                      have HO166 := n0_
                      have BK161 := n1_
                      have BK169 := n2_
                      have HB := n3_
                      clear n0_ n1_ n2_ n3_
                      have n0_ := Aside0.mk (Kd.R_drew HO166.out)
                      have n1_ := Aside0.mk (blk_drew BK161.out)
                      have n2_ := Aside0.mk (blk_drew BK169.out)
                      have n3_ := Aside0.mk (below_drew1 HB.out)
                      clear HO166
                      clear BK161
                      clear BK169
                      clear HB
                      have HO166 := n0_
                      have BK161 := n1_
                      have BK169 := n2_
                      have HB := n3_
                      clear n0_ n1_ n2_ n3_
                      refine start_ (n := 31) (S := fun w' => w'.cell? ⟨gb169, 0, none⟩ = some (.slice Ao39 t164.length co39) ∧ w'.cell? ⟨gb169, 1, none⟩ = some (.int .u32 t167) ∧ w'.cell? ⟨gb169, 2, none⟩ = some (.int .u32 t168) ∧ w'.cell? ⟨gb161, 0, none⟩ = some (.slice A0_0 l0_0.length c0_0) ∧ w'.cell? ⟨gb161, 1, none⟩ = some (.int .u32 a0_1) ∧ w'.cell? ⟨gb161, 2, none⟩ = some (.int .u32 a0_2)) (ds := []) #[false, false, false, false, false, false, false, false, false, false, false, false, false, false, false, false, false, false, false, false, false, false, false, false, false, false, false, false, false, false, false] (by kernel_rfl) rfl rfl ⟨(blk_cell BK169.out 0).trans rfl, (blk_cell BK169.out 1).trans rfl, (blk_cell BK169.out 2).trans rfl, (blk_cell BK161.out 0).trans rfl, (blk_cell BK161.out 1).trans rfl, (blk_cell BK161.out 2).trans rfl⟩ (fun hHeld => ?_); refine with_tabW laws_FnBloom.tab6 laws_FnBloom.bits6 (fun HT_ HW_ => ?_)
                      generalize w42.drew = w43 at HO166 BK161 BK169 HB hHeld ⊢
                      refine pure_ (i := 2) (N := some 37) (v := ?_) (a' := ?_) #[false, false, true, false, false, false, false, false, false, false, false, false, false, false, false, false, false, false, false, false, false, false, false, false, false, false, false, false, false, false, false] rfl rfl (any_of HT_.out (by kernel_rfl)) (fun _ _ _ h => h) (Or.inl ⟨by rfl, ?_⟩) ?_ ?_
                      rotate_left
                      · intro w'
                        go_simp
                        with_reducible rfl
                      rotate_left
                      · simp only [Act.put, List.setIfInBounds_toArray, List.set_cons_zero, List.set_cons_succ, i64_w, i32_w]
                        rfl
                      refine take_ (i := 0) (N := some 35) (v := ?_) (a' := ?_) #[true, false, true, false, false, false, false, false, false, false, false, false, false, false, false, false, false, false, false, false, false, false, false, false, false, false, false, false, false, false, false] rfl rfl (take_ofW HT_.out HW_.out (by kernel_rfl)) (fun _ _ _ h => h) (Or.inl ⟨by rfl, ?_⟩) hHeld ?_ ?_
                      rotate_left
                      · rintro w' ⟨s0, s1, s2, s3, s4, s5⟩
                        go_simp
                        with_reducible rfl
                      rotate_left
                      · simp only [Act.put, List.setIfInBounds_toArray, List.set_cons_zero, List.set_cons_succ, i64_w, i32_w]
                        rfl
                      refine take_ (i := 1) (N := some 36) (v := ?_) (a' := ?_) #[true, true, true, false, false, false, false, false, false, false, false, false, false, false, false, false, false, false, false, false, false, false, false, false, false, false, false, false, false, false, false] rfl rfl (take_ofW HT_.out HW_.out (by kernel_rfl)) (fun _ _ _ h => h) (Or.inl ⟨by rfl, ?_⟩) hHeld ?_ ?_
                      rotate_left
                      · rintro w' ⟨s0, s1, s2, s3, s4, s5⟩
                        go_simp
                        with_reducible rfl
                      rotate_left
                      · simp only [Act.put, List.setIfInBounds_toArray, List.set_cons_zero, List.set_cons_succ, i64_w, i32_w]
                        rfl
                      refine one_ (i := 3) (N := some 38) #[true, true, true, true, false, false, false, false, false, false, false, false, false, false, false, false, false, false, false, false, false, false, false, false, false, false, false, false, false, false, false] rfl rfl (one_of HT_.out (by kernel_rfl)) (by decide) (fun K hK => ?_)
                      refine goes_ Try.func8 (by kernel_rfl) rfl #[.agg #[.slice A0_0 l0_0.length c0_0, .int .u32 a0_1, .int .u32 a0_2], .slice A1 l1.length c1] (by rfl) rfl rfl (by (try simp only [List.map_toArray, List.map_cons, List.map_nil]); first | done | rfl | (simp only [List.length_drop, List.length_take]; rfl)) ?_
                      with_reducible refine (spec_BloomAdd.calls kj15 _ _ l0_0 a0_1 a0_2 _ _ l1 t170 t173 t174 _ ?side1 ?side2 ?side3 ?side4 A25.out).mono ?_
                      (case side1 => repeat (first | exact (Kd.C_below HR0_0.out HB.out) | (with_reducible refine Kd.C_alloc ?_ _) | (with_reducible refine Kd.C_drewN ?_ _) | (with_reducible refine Kd.C_drew ?_)))
                      (case side2 => exact HC0_0.out)
                      (case side3 => repeat (first | exact (Kd.C_below HR1.out HB.out) | (with_reducible refine Kd.C_alloc ?_ _) | (with_reducible refine Kd.C_drewN ?_ _) | (with_reducible refine Kd.C_drew ?_)))
                      (case side4 => exact HC1.out)
                      rintro e w44 ⟨v171, rfl, ho0, hb⟩
                      refine ⟨_, rfl, ?_⟩
                      have n0_ := Aside0.mk (Kd.R_elder' (by (with_reducible repeat (first | apply Kd.R_alloc | apply Kd.R_drewN | apply Kd.R_drew)); exact HO166.out) (Kd.R_base ho0) hb)
                      have n1_ := Aside0.mk (Kd.R_lower (Kd.R_new' ho0 (Kd.R_lt (by (with_reducible repeat (first | apply Kd.R_alloc | apply Kd.R_drewN | apply Kd.R_drew)); exact HO166.out))) (below_size (by repeat (first | (with_reducible first | exact HB.out | apply below_alloc | apply pw_below_drewN | apply below_drew1 | refine below_set ?_ GE161.out | refine below_set ?_ GE169.out) | exact HB.out))))
                      have n2_ := Aside0.mk (blk_below (g := gb161) (o := .cells #[.slice A0_0 l0_0.length c0_0, .int .u32 a0_1, .int .u32 a0_2] 25 (0, 0)) (by (with_reducible repeat (first | refine blk_drewN ?_ _ | refine blk_drew ?_ | refine blk_alloc ?_ _)); exact BK161.out) hb)
                      have n3_ := Aside0.mk (blk_below (g := gb169) (o := .cells #[.slice Ao39 t164.length co39, .int .u32 t167, .int .u32 t168] 25 (0, 0)) (by (with_reducible repeat (first | refine blk_drewN ?_ _ | refine blk_drew ?_ | refine blk_alloc ?_ _)); exact BK169.out) hb)
                      have n4_ := Aside0.mk (below_step (by repeat (first | (with_reducible first | exact HB.out | apply below_alloc | apply pw_below_drewN | apply below_drew1 | refine below_set ?_ GE161.out | refine below_set ?_ GE169.out) | exact HB.out)) hb)
                      clear HO166
                      clear BK161
                      clear BK169
                      clear HB
                      have HO166 := n0_
                      have HO172 := n1_
                      have BK161 := n2_
                      have BK169 := n3_
                      have HB := n4_
                      clear n0_ n1_ n2_ n3_ n4_
                      (try clear hb)
                      (try clear hb2)
                      (try clear hk)
                      (try clear hi)
                      (try clear ho0)
                      obtain ⟨Ao45, co45, eo45⟩ := Kd.R_slice HO172.out
                      (first | subst eo45 | (injection eo45 with f1_ f2_ f3_; have f4_ := f1_.symm; have f5_ := f3_.symm; clear f1_ f2_ f3_; subst f4_; subst f5_))
                      refine hK.out _ _ ⟨(blk_cell BK169.out 0).trans rfl, (blk_cell BK169.out 1).trans rfl, (blk_cell BK169.out 2).trans rfl, (blk_cell BK161.out 0).trans rfl, (blk_cell BK161.out 1).trans rfl, (blk_cell BK161.out 2).trans rfl⟩ (fun hHeld => ?_)
                      clear hK K
                      refine norm_ (a' := ?_) ?_ ?_
                      rotate_left
                      · show Act.put _ (some 38) _ = _
                        simp only [Act.put, List.setIfInBounds_toArray, List.set_cons_zero, List.set_cons_succ, i64_w, i32_w]
                        rfl
                      refine one_ (i := 4) (N := some 39) #[true, true, true, true, true, false, false, false, false, false, false, false, false, false, false, false, false, false, false, false, false, false, false, false, false, false, false, false, false, false, false] rfl rfl (one_of HT_.out (by kernel_rfl)) (by decide) (fun K hK => ?_)
                      refine goes_ Try.func7 (by kernel_rfl) rfl #[.agg #[.slice Ao39 t164.length co39, .int .u32 t167, .int .u32 t168], .agg #[.slice Ao45 t170.length co45, .int .u32 t173, .int .u32 t174]] (by rfl) rfl rfl (by (try simp only [List.map_toArray, List.map_cons, List.map_nil]); first | done | rfl | (simp only [List.length_drop, List.length_take]; rfl)) ?_
                      with_reducible refine (laws_sameBloom.calls kj15 _ _ t164 t167 t168 _ _ t170 t173 t174 true _ ?side1 ?side2 ?side3 ?side4 A26.out).mono ?_
                      (case side1 => repeat (first | exact (Kd.R_reads' HO166.out).2.2 | (with_reducible refine Kd.C_alloc ?_ _) | (with_reducible refine Kd.C_drewN ?_ _) | (with_reducible refine Kd.C_drew ?_)))
                      (case side2 => exact (Kd.R_reads' HO166.out).2.1)
                      (case side3 => repeat (first | exact (Kd.R_reads' HO172.out).2.2 | (with_reducible refine Kd.C_alloc ?_ _) | (with_reducible refine Kd.C_drewN ?_ _) | (with_reducible refine Kd.C_drew ?_)))
                      (case side4 => exact (Kd.R_reads' HO172.out).2.1)
                      rintro e w46 ⟨rfl, hb⟩
                      refine ⟨_, rfl, ?_⟩
                      have n0_ := Aside0.mk (Kd.R_below (by (with_reducible repeat (first | apply Kd.R_alloc | apply Kd.R_drewN | apply Kd.R_drew)); exact HO166.out) hb)
                      have n1_ := Aside0.mk (Kd.R_below (by (with_reducible repeat (first | apply Kd.R_alloc | apply Kd.R_drewN | apply Kd.R_drew)); exact HO172.out) hb)
                      have n2_ := Aside0.mk (blk_below (g := gb161) (o := .cells #[.slice A0_0 l0_0.length c0_0, .int .u32 a0_1, .int .u32 a0_2] 25 (0, 0)) (by (with_reducible repeat (first | refine blk_drewN ?_ _ | refine blk_drew ?_ | refine blk_alloc ?_ _)); exact BK161.out) hb)
                      have n3_ := Aside0.mk (blk_below (g := gb169) (o := .cells #[.slice Ao39 t164.length co39, .int .u32 t167, .int .u32 t168] 25 (0, 0)) (by (with_reducible repeat (first | refine blk_drewN ?_ _ | refine blk_drew ?_ | refine blk_alloc ?_ _)); exact BK169.out) hb)
                      have n4_ := Aside0.mk (below_step (by repeat (first | (with_reducible first | exact HB.out | apply below_alloc | apply pw_below_drewN | apply below_drew1 | refine below_set ?_ GE161.out | refine below_set ?_ GE169.out) | exact HB.out)) hb)
                      clear HO166
                      clear HO172
                      clear BK161
                      clear BK169
                      clear HB
                      have HO166 := n0_
                      have HO172 := n1_
                      have BK161 := n2_
                      have BK169 := n3_
                      have HB := n4_
                      clear n0_ n1_ n2_ n3_ n4_
                      (try clear hb)
                      (try clear hb2)
                      (try clear hk)
                      (try clear hi)
                      refine hK.out _ _ ⟨(blk_cell BK169.out 0).trans rfl, (blk_cell BK169.out 1).trans rfl, (blk_cell BK169.out 2).trans rfl, (blk_cell BK161.out 0).trans rfl, (blk_cell BK161.out 1).trans rfl, (blk_cell BK161.out 2).trans rfl⟩ (fun hHeld => ?_)
                      clear hK K
                      refine norm_ (a' := ?_) ?_ ?_
                      rotate_left
                      · show Act.put _ (some 39) _ = _
                        simp only [Act.put, List.setIfInBounds_toArray, List.set_cons_zero, List.set_cons_succ, i64_w, i32_w]
                        rfl
                      refine pure_ (i := 5) (N := some 40) (v := ?_) (a' := ?_) #[true, true, true, true, true, true, false, false, false, false, false, false, false, false, false, false, false, false, false, false, false, false, false, false, false, false, false, false, false, false, false] rfl rfl (any_of HT_.out (by kernel_rfl)) (fun _ _ _ h => h) (Or.inl ⟨by rfl, ?_⟩) ?_ ?_
                      rotate_left
                      · intro w'
                        go_simp
                        with_reducible rfl
                      rotate_left
                      · simp only [Act.put, List.setIfInBounds_toArray, List.set_cons_zero, List.set_cons_succ, i64_w, i32_w]
                        rfl
                      refine pure_ (i := 7) (N := some 42) (v := ?_) (a' := ?_) #[true, true, true, true, true, true, false, true, false, false, false, false, false, false, false, false, false, false, false, false, false, false, false, false, false, false, false, false, false, false, false] rfl rfl (any_of HT_.out (by kernel_rfl)) (fun _ _ _ h => h) (Or.inl ⟨by rfl, ?_⟩) ?_ ?_
                      rotate_left
                      · intro w'
                        go_simp
                        with_reducible rfl
                      rotate_left
                      · simp only [Act.put, List.setIfInBounds_toArray, List.set_cons_zero, List.set_cons_succ, i64_w, i32_w]
                        rfl
                      refine take_ (i := 6) (N := some 41) (v := ?_) (a' := ?_) #[true, true, true, true, true, true, true, true, false, false, false, false, false, false, false, false, false, false, false, false, false, false, false, false, false, false, false, false, false, false, false] rfl rfl (take_ofW HT_.out HW_.out (by kernel_rfl)) (fun _ _ _ h => h) (Or.inl ⟨by rfl, ?_⟩) hHeld ?_ ?_
                      rotate_left
                      · rintro w' ⟨s0, s1, s2, s3, s4, s5⟩
                        go_simp
                        with_reducible rfl
                      rotate_left
                      · simp only [Act.put, List.setIfInBounds_toArray, List.set_cons_zero, List.set_cons_succ, i64_w, i32_w]
                        rfl
                      refine one_ (i := 8) (N := some 43) #[true, true, true, true, true, true, true, true, true, false, false, false, false, false, false, false, false, false, false, false, false, false, false, false, false, false, false, false, false, false, false] rfl rfl (one_of HT_.out (by kernel_rfl)) (by decide) (fun K hK => ?_)
                      refine goes_ Try.func9 (by kernel_rfl) rfl #[.agg #[.slice Ao39 t164.length co39, .int .u32 t167, .int .u32 t168], .slice A1 l1.length c1] (by rfl) rfl rfl (by (try simp only [List.map_toArray, List.map_cons, List.map_nil]); first | done | rfl | (simp only [List.length_drop, List.length_take]; rfl)) ?_
                      with_reducible refine (impl_BloomHas.calls _ _ t164 t167 t168 _ _ l1 true _ ?side1 ?side2 ?side3 ?side4 A28.out).mono ?_
                      (case side1 => repeat (first | exact (Kd.R_reads' HO166.out).2.2 | (with_reducible refine Kd.C_alloc ?_ _) | (with_reducible refine Kd.C_drewN ?_ _) | (with_reducible refine Kd.C_drew ?_)))
                      (case side2 => exact (Kd.R_reads' HO166.out).2.1)
                      (case side3 => repeat (first | exact (Kd.C_below HR1.out HB.out) | (with_reducible refine Kd.C_alloc ?_ _) | (with_reducible refine Kd.C_drewN ?_ _) | (with_reducible refine Kd.C_drew ?_)))
                      (case side4 => exact HC1.out)
                      rintro e w47 ⟨rfl, hb⟩
                      refine ⟨_, rfl, ?_⟩
                      have n0_ := Aside0.mk (Kd.R_below (by (with_reducible repeat (first | apply Kd.R_alloc | apply Kd.R_drewN | apply Kd.R_drew)); exact HO166.out) hb)
                      have n1_ := Aside0.mk (Kd.R_below (by (with_reducible repeat (first | apply Kd.R_alloc | apply Kd.R_drewN | apply Kd.R_drew)); exact HO172.out) hb)
                      have n2_ := Aside0.mk (blk_below (g := gb161) (o := .cells #[.slice A0_0 l0_0.length c0_0, .int .u32 a0_1, .int .u32 a0_2] 25 (0, 0)) (by (with_reducible repeat (first | refine blk_drewN ?_ _ | refine blk_drew ?_ | refine blk_alloc ?_ _)); exact BK161.out) hb)
                      have n3_ := Aside0.mk (blk_below (g := gb169) (o := .cells #[.slice Ao39 t164.length co39, .int .u32 t167, .int .u32 t168] 25 (0, 0)) (by (with_reducible repeat (first | refine blk_drewN ?_ _ | refine blk_drew ?_ | refine blk_alloc ?_ _)); exact BK169.out) hb)
                      have n4_ := Aside0.mk (below_step (by repeat (first | (with_reducible first | exact HB.out | apply below_alloc | apply pw_below_drewN | apply below_drew1 | refine below_set ?_ GE161.out | refine below_set ?_ GE169.out) | exact HB.out)) hb)
                      clear HO166
                      clear HO172
                      clear BK161
                      clear BK169
                      clear HB
                      have HO166 := n0_
                      have HO172 := n1_
                      have BK161 := n2_
                      have BK169 := n3_
                      have HB := n4_
                      clear n0_ n1_ n2_ n3_ n4_
                      (try clear hb)
                      (try clear hb2)
                      (try clear hk)
                      (try clear hi)
                      refine hK.out _ _ ⟨(blk_cell BK169.out 0).trans rfl, (blk_cell BK169.out 1).trans rfl, (blk_cell BK169.out 2).trans rfl, (blk_cell BK161.out 0).trans rfl, (blk_cell BK161.out 1).trans rfl, (blk_cell BK161.out 2).trans rfl⟩ (fun hHeld => ?_)
                      clear hK K
                      refine norm_ (a' := ?_) ?_ ?_
                      rotate_left
                      · show Act.put _ (some 43) _ = _
                        simp only [Act.put, List.setIfInBounds_toArray, List.set_cons_zero, List.set_cons_succ, i64_w, i32_w]
                        rfl
                      refine pure_ (i := 9) (N := some 44) (v := ?_) (a' := ?_) #[true, true, true, true, true, true, true, true, true, true, false, false, false, false, false, false, false, false, false, false, false, false, false, false, false, false, false, false, false, false, false] rfl rfl (any_of HT_.out (by kernel_rfl)) (fun _ _ _ h => h) (Or.inl ⟨by rfl, ?_⟩) ?_ ?_
                      rotate_left
                      · intro w'
                        go_simp
                        with_reducible rfl
                      rotate_left
                      · simp only [Act.put, List.setIfInBounds_toArray, List.set_cons_zero, List.set_cons_succ, i64_w, i32_w]
                        rfl
                      refine pure_ (i := 10) (N := some 45) (v := ?_) (a' := ?_) #[true, true, true, true, true, true, true, true, true, true, true, false, false, false, false, false, false, false, false, false, false, false, false, false, false, false, false, false, false, false, false] rfl rfl (any_of HT_.out (by kernel_rfl)) (fun _ _ _ h => h) (Or.inl ⟨by rfl, ?_⟩) ?_ ?_
                      rotate_left
                      · intro w'
                        go_simp
                        with_reducible rfl
                      rotate_left
                      · simp only [Act.put, List.setIfInBounds_toArray, List.set_cons_zero, List.set_cons_succ, i64_w, i32_w]
                        rfl
                      refine pure_ (i := 12) (N := some 47) (v := ?_) (a' := ?_) #[true, true, true, true, true, true, true, true, true, true, true, false, true, false, false, false, false, false, false, false, false, false, false, false, false, false, false, false, false, false, false] rfl rfl (any_of HT_.out (by kernel_rfl)) (fun _ _ _ h => h) (Or.inl ⟨by rfl, ?_⟩) ?_ ?_
                      rotate_left
                      · intro w'
                        go_simp
                        with_reducible rfl
                      rotate_left
                      · simp only [Act.put, List.setIfInBounds_toArray, List.set_cons_zero, List.set_cons_succ, i64_w, i32_w]
                        rfl
                      refine pure_ (i := 15) (N := some 50) (v := ?_) (a' := ?_) #[true, true, true, true, true, true, true, true, true, true, true, false, true, false, false, true, false, false, false, false, false, false, false, false, false, false, false, false, false, false, false] rfl rfl (any_of HT_.out (by kernel_rfl)) (fun _ _ _ h => h) (Or.inl ⟨by rfl, ?_⟩) ?_ ?_
                      rotate_left
                      · intro w'
                        go_simp
                        with_reducible rfl
                      rotate_left
                      · simp only [Act.put, List.setIfInBounds_toArray, List.set_cons_zero, List.set_cons_succ, i64_w, i32_w]
                        rfl
                      refine take_ (i := 11) (N := some 46) (v := ?_) (a' := ?_) #[true, true, true, true, true, true, true, true, true, true, true, true, true, false, false, true, false, false, false, false, false, false, false, false, false, false, false, false, false, false, false] rfl rfl (take_ofW HT_.out HW_.out (by kernel_rfl)) (fun _ _ _ h => h) (Or.inl ⟨by rfl, ?_⟩) hHeld ?_ ?_
                      rotate_left
                      · rintro w' ⟨s0, s1, s2, s3, s4, s5⟩
                        go_simp
                        with_reducible rfl
                      rotate_left
                      · simp only [Act.put, List.setIfInBounds_toArray, List.set_cons_zero, List.set_cons_succ, i64_w, i32_w]
                        rfl
                      refine take_ (i := 14) (N := some 49) (v := ?_) (a' := ?_) #[true, true, true, true, true, true, true, true, true, true, true, true, true, false, true, true, false, false, false, false, false, false, false, false, false, false, false, false, false, false, false] rfl rfl (take_ofW HT_.out HW_.out (by kernel_rfl)) (fun _ _ _ h => h) (Or.inl ⟨by rfl, ?_⟩) hHeld ?_ ?_
                      rotate_left
                      · rintro w' ⟨s0, s1, s2, s3, s4, s5⟩
                        go_simp
                        with_reducible rfl
                      rotate_left
                      · simp only [Act.put, List.setIfInBounds_toArray, List.set_cons_zero, List.set_cons_succ, i64_w, i32_w]
                        rfl
                      refine one_ (i := 13) (N := some 48) #[true, true, true, true, true, true, true, true, true, true, true, true, true, true, true, true, false, false, false, false, false, false, false, false, false, false, false, false, false, false, false] rfl rfl (one_of HT_.out (by kernel_rfl)) (by decide) (fun K hK => ?_)
                      refine goes_ Try.func9 (by kernel_rfl) rfl #[.agg #[.slice Ao39 t164.length co39, .int .u32 t167, .int .u32 t168], .slice A2 l2.length c2] (by rfl) rfl rfl (by (try simp only [List.map_toArray, List.map_cons, List.map_nil]); first | done | rfl | (simp only [List.length_drop, List.length_take]; rfl)) ?_
                      with_reducible refine (impl_BloomHas.calls _ _ t164 t167 t168 _ _ l2 t177 _ ?side1 ?side2 ?side3 ?side4 A30.out).mono ?_
                      (case side1 => repeat (first | exact (Kd.R_reads' HO166.out).2.2 | (with_reducible refine Kd.C_alloc ?_ _) | (with_reducible refine Kd.C_drewN ?_ _) | (with_reducible refine Kd.C_drew ?_)))
                      (case side2 => exact (Kd.R_reads' HO166.out).2.1)
                      (case side3 => repeat (first | exact (Kd.C_below HR2.out HB.out) | (with_reducible refine Kd.C_alloc ?_ _) | (with_reducible refine Kd.C_drewN ?_ _) | (with_reducible refine Kd.C_drew ?_)))
                      (case side4 => exact HC2.out)
                      rintro e w48 ⟨rfl, hb⟩
                      refine ⟨_, rfl, ?_⟩
                      have n0_ := Aside0.mk (Kd.R_below (by (with_reducible repeat (first | apply Kd.R_alloc | apply Kd.R_drewN | apply Kd.R_drew)); exact HO166.out) hb)
                      have n1_ := Aside0.mk (Kd.R_below (by (with_reducible repeat (first | apply Kd.R_alloc | apply Kd.R_drewN | apply Kd.R_drew)); exact HO172.out) hb)
                      have n2_ := Aside0.mk (blk_below (g := gb161) (o := .cells #[.slice A0_0 l0_0.length c0_0, .int .u32 a0_1, .int .u32 a0_2] 25 (0, 0)) (by (with_reducible repeat (first | refine blk_drewN ?_ _ | refine blk_drew ?_ | refine blk_alloc ?_ _)); exact BK161.out) hb)
                      have n3_ := Aside0.mk (blk_below (g := gb169) (o := .cells #[.slice Ao39 t164.length co39, .int .u32 t167, .int .u32 t168] 25 (0, 0)) (by (with_reducible repeat (first | refine blk_drewN ?_ _ | refine blk_drew ?_ | refine blk_alloc ?_ _)); exact BK169.out) hb)
                      have n4_ := Aside0.mk (below_step (by repeat (first | (with_reducible first | exact HB.out | apply below_alloc | apply pw_below_drewN | apply below_drew1 | refine below_set ?_ GE161.out | refine below_set ?_ GE169.out) | exact HB.out)) hb)
                      clear HO166
                      clear HO172
                      clear BK161
                      clear BK169
                      clear HB
                      have HO166 := n0_
                      have HO172 := n1_
                      have BK161 := n2_
                      have BK169 := n3_
                      have HB := n4_
                      clear n0_ n1_ n2_ n3_ n4_
                      (try clear hb)
                      (try clear hb2)
                      (try clear hk)
                      (try clear hi)
                      refine hK.out _ _ ⟨(blk_cell BK169.out 0).trans rfl, (blk_cell BK169.out 1).trans rfl, (blk_cell BK169.out 2).trans rfl, (blk_cell BK161.out 0).trans rfl, (blk_cell BK161.out 1).trans rfl, (blk_cell BK161.out 2).trans rfl⟩ (fun hHeld => ?_)
                      clear hK K
                      refine norm_ (a' := ?_) ?_ ?_
                      rotate_left
                      · show Act.put _ (some 48) _ = _
                        simp only [Act.put, List.setIfInBounds_toArray, List.set_cons_zero, List.set_cons_succ, i64_w, i32_w]
                        rfl
                      refine one_ (i := 16) (N := some 51) #[true, true, true, true, true, true, true, true, true, true, true, true, true, true, true, true, true, false, false, false, false, false, false, false, false, false, false, false, false, false, false] rfl rfl (one_of HT_.out (by kernel_rfl)) (by decide) (fun K hK => ?_)
                      refine goes_ Try.func10 (by kernel_rfl) rfl #[.agg #[.slice Ao39 t164.length co39, .int .u32 t167, .int .u32 t168], .slice A2 l2.length c2] (by rfl) rfl rfl (by (try simp only [List.map_toArray, List.map_cons, List.map_nil]); first | done | rfl | (simp only [List.length_drop, List.length_take]; rfl)) ?_
                      with_reducible refine (spec_BloomHas.calls kj15 _ _ t164 t167 t168 _ _ l2 t178 _ ?side1 ?side2 ?side3 ?side4 A31.out).mono ?_
                      (case side1 => repeat (first | exact (Kd.R_reads' HO166.out).2.2 | (with_reducible refine Kd.C_alloc ?_ _) | (with_reducible refine Kd.C_drewN ?_ _) | (with_reducible refine Kd.C_drew ?_)))
                      (case side2 => exact (Kd.R_reads' HO166.out).2.1)
                      (case side3 => repeat (first | exact (Kd.C_below HR2.out HB.out) | (with_reducible refine Kd.C_alloc ?_ _) | (with_reducible refine Kd.C_drewN ?_ _) | (with_reducible refine Kd.C_drew ?_)))
                      (case side4 => exact HC2.out)
                      rintro e w49 ⟨rfl, hb⟩
                      refine ⟨_, rfl, ?_⟩
                      have n0_ := Aside0.mk (Kd.R_below (by (with_reducible repeat (first | apply Kd.R_alloc | apply Kd.R_drewN | apply Kd.R_drew)); exact HO166.out) hb)
                      have n1_ := Aside0.mk (Kd.R_below (by (with_reducible repeat (first | apply Kd.R_alloc | apply Kd.R_drewN | apply Kd.R_drew)); exact HO172.out) hb)
                      have n2_ := Aside0.mk (blk_below (g := gb161) (o := .cells #[.slice A0_0 l0_0.length c0_0, .int .u32 a0_1, .int .u32 a0_2] 25 (0, 0)) (by (with_reducible repeat (first | refine blk_drewN ?_ _ | refine blk_drew ?_ | refine blk_alloc ?_ _)); exact BK161.out) hb)
                      have n3_ := Aside0.mk (blk_below (g := gb169) (o := .cells #[.slice Ao39 t164.length co39, .int .u32 t167, .int .u32 t168] 25 (0, 0)) (by (with_reducible repeat (first | refine blk_drewN ?_ _ | refine blk_drew ?_ | refine blk_alloc ?_ _)); exact BK169.out) hb)
                      have n4_ := Aside0.mk (below_step (by repeat (first | (with_reducible first | exact HB.out | apply below_alloc | apply pw_below_drewN | apply below_drew1 | refine below_set ?_ GE161.out | refine below_set ?_ GE169.out) | exact HB.out)) hb)
                      clear HO166
                      clear HO172
                      clear BK161
                      clear BK169
                      clear HB
                      have HO166 := n0_
                      have HO172 := n1_
                      have BK161 := n2_
                      have BK169 := n3_
                      have HB := n4_
                      clear n0_ n1_ n2_ n3_ n4_
                      (try clear hb)
                      (try clear hb2)
                      (try clear hk)
                      (try clear hi)
                      refine hK.out _ _ ⟨(blk_cell BK169.out 0).trans rfl, (blk_cell BK169.out 1).trans rfl, (blk_cell BK169.out 2).trans rfl, (blk_cell BK161.out 0).trans rfl, (blk_cell BK161.out 1).trans rfl, (blk_cell BK161.out 2).trans rfl⟩ (fun hHeld => ?_)
                      clear hK K
                      refine norm_ (a' := ?_) ?_ ?_
                      rotate_left
                      · show Act.put _ (some 51) _ = _
                        simp only [Act.put, List.setIfInBounds_toArray, List.set_cons_zero, List.set_cons_succ, i64_w, i32_w]
                        rfl
                      refine pure_ (i := 17) (N := some 52) (v := ?_) (a' := ?_) #[true, true, true, true, true, true, true, true, true, true, true, true, true, true, true, true, true, true, false, false, false, false, false, false, false, false, false, false, false, false, false] rfl rfl (any_of HT_.out (by kernel_rfl)) (fun _ _ _ h => h) (Or.inl ⟨by rfl, ?_⟩) ?_ ?_
                      rotate_left
                      · intro w'
                        go_simp
                        with_reducible rfl
                      rotate_left
                      · simp only [Act.put, List.setIfInBounds_toArray, List.set_cons_zero, List.set_cons_succ, i64_w, i32_w]
                        rfl
                      refine pure_ (i := 18) (N := some 53) (v := ?_) (a' := ?_) #[true, true, true, true, true, true, true, true, true, true, true, true, true, true, true, true, true, true, true, false, false, false, false, false, false, false, false, false, false, false, false] rfl rfl (any_of HT_.out (by kernel_rfl)) (fun _ _ _ h => h) (Or.inl ⟨by rfl, ?_⟩) ?_ ?_
                      rotate_left
                      · intro w'
                        go_simp
                        with_reducible rfl
                      rotate_left
                      · simp only [Act.put, List.setIfInBounds_toArray, List.set_cons_zero, List.set_cons_succ, i64_w, i32_w]
                        rfl
                      refine pure_ (i := 19) (N := some 54) (v := ?_) (a' := ?_) #[true, true, true, true, true, true, true, true, true, true, true, true, true, true, true, true, true, true, true, true, false, false, false, false, false, false, false, false, false, false, false] rfl rfl (any_of HT_.out (by kernel_rfl)) (fun _ _ _ h => h) (Or.inl ⟨by rfl, ?_⟩) ?_ ?_
                      rotate_left
                      · intro w'
                        go_simp
                        with_reducible rfl
                      rotate_left
                      · simp only [Act.put, List.setIfInBounds_toArray, List.set_cons_zero, List.set_cons_succ, i64_w, i32_w]
                        rfl
                      refine pure_ (i := 21) (N := some 56) (v := ?_) (a' := ?_) #[true, true, true, true, true, true, true, true, true, true, true, true, true, true, true, true, true, true, true, true, false, true, false, false, false, false, false, false, false, false, false] rfl rfl (any_of HT_.out (by kernel_rfl)) (fun _ _ _ h => h) (Or.inl ⟨by rfl, ?_⟩) ?_ ?_
                      rotate_left
                      · intro w'
                        go_simp
                        with_reducible rfl
                      rotate_left
                      · simp only [Act.put, List.setIfInBounds_toArray, List.set_cons_zero, List.set_cons_succ, i64_w, i32_w]
                        rfl
                      refine take_ (i := 20) (N := some 55) (v := ?_) (a' := ?_) #[true, true, true, true, true, true, true, true, true, true, true, true, true, true, true, true, true, true, true, true, true, true, false, false, false, false, false, false, false, false, false] rfl rfl (take_ofW HT_.out HW_.out (by kernel_rfl)) (fun _ _ _ h => h) (Or.inl ⟨by rfl, ?_⟩) hHeld ?_ ?_
                      rotate_left
                      · rintro w' ⟨s0, s1, s2, s3, s4, s5⟩
                        go_simp
                        with_reducible rfl
                      rotate_left
                      · simp only [Act.put, List.setIfInBounds_toArray, List.set_cons_zero, List.set_cons_succ, i64_w, i32_w]
                        rfl
                      refine one_ (i := 22) (N := some 57) #[true, true, true, true, true, true, true, true, true, true, true, true, true, true, true, true, true, true, true, true, true, true, true, false, false, false, false, false, false, false, false] rfl rfl (one_of HT_.out (by kernel_rfl)) (by decide) (fun K hK => ?_)
                      refine goes_ Try.func9 (by kernel_rfl) rfl #[.agg #[.slice A0_0 l0_0.length c0_0, .int .u32 a0_1, .int .u32 a0_2], .slice A2 l2.length c2] (by rfl) rfl rfl (by (try simp only [List.map_toArray, List.map_cons, List.map_nil]); first | done | rfl | (simp only [List.length_drop, List.length_take]; rfl)) ?_
                      with_reducible refine (impl_BloomHas.calls _ _ l0_0 a0_1 a0_2 _ _ l2 true _ ?side1 ?side2 ?side3 ?side4 A33.out).mono ?_
                      (case side1 => repeat (first | exact (Kd.C_below HR0_0.out HB.out) | (with_reducible refine Kd.C_alloc ?_ _) | (with_reducible refine Kd.C_drewN ?_ _) | (with_reducible refine Kd.C_drew ?_)))
                      (case side2 => exact HC0_0.out)
                      (case side3 => repeat (first | exact (Kd.C_below HR2.out HB.out) | (with_reducible refine Kd.C_alloc ?_ _) | (with_reducible refine Kd.C_drewN ?_ _) | (with_reducible refine Kd.C_drew ?_)))
                      (case side4 => exact HC2.out)
                      rintro e w50 ⟨rfl, hb⟩
                      refine ⟨_, rfl, ?_⟩
                      have n0_ := Aside0.mk (Kd.R_below (by (with_reducible repeat (first | apply Kd.R_alloc | apply Kd.R_drewN | apply Kd.R_drew)); exact HO166.out) hb)
                      have n1_ := Aside0.mk (Kd.R_below (by (with_reducible repeat (first | apply Kd.R_alloc | apply Kd.R_drewN | apply Kd.R_drew)); exact HO172.out) hb)
                      have n2_ := Aside0.mk (blk_below (g := gb161) (o := .cells #[.slice A0_0 l0_0.length c0_0, .int .u32 a0_1, .int .u32 a0_2] 25 (0, 0)) (by (with_reducible repeat (first | refine blk_drewN ?_ _ | refine blk_drew ?_ | refine blk_alloc ?_ _)); exact BK161.out) hb)
                      have n3_ := Aside0.mk (blk_below (g := gb169) (o := .cells #[.slice Ao39 t164.length co39, .int .u32 t167, .int .u32 t168] 25 (0, 0)) (by (with_reducible repeat (first | refine blk_drewN ?_ _ | refine blk_drew ?_ | refine blk_alloc ?_ _)); exact BK169.out) hb)
                      have n4_ := Aside0.mk (below_step (by repeat (first | (with_reducible first | exact HB.out | apply below_alloc | apply pw_below_drewN | apply below_drew1 | refine below_set ?_ GE161.out | refine below_set ?_ GE169.out) | exact HB.out)) hb)
                      clear HO166
                      clear HO172
                      clear BK161
                      clear BK169
                      clear HB
                      have HO166 := n0_
                      have HO172 := n1_
                      have BK161 := n2_
                      have BK169 := n3_
                      have HB := n4_
                      clear n0_ n1_ n2_ n3_ n4_
                      (try clear hb)
                      (try clear hb2)
                      (try clear hk)
                      (try clear hi)
                      refine hK.out _ _ ⟨(blk_cell BK169.out 0).trans rfl, (blk_cell BK169.out 1).trans rfl, (blk_cell BK169.out 2).trans rfl, (blk_cell BK161.out 0).trans rfl, (blk_cell BK161.out 1).trans rfl, (blk_cell BK161.out 2).trans rfl⟩ (fun hHeld => ?_)
                      clear hK K
                      refine norm_ (a' := ?_) ?_ ?_
                      rotate_left
                      · show Act.put _ (some 57) _ = _
                        simp only [Act.put, List.setIfInBounds_toArray, List.set_cons_zero, List.set_cons_succ, i64_w, i32_w]
                        rfl
                      refine pure_ (i := 23) (N := some 58) (v := ?_) (a' := ?_) #[true, true, true, true, true, true, true, true, true, true, true, true, true, true, true, true, true, true, true, true, true, true, true, true, false, false, false, false, false, false, false] rfl rfl (any_of HT_.out (by kernel_rfl)) (fun _ _ _ h => h) (Or.inl ⟨by rfl, ?_⟩) ?_ ?_
                      rotate_left
                      · intro w'
                        go_simp
                        with_reducible rfl
                      rotate_left
                      · simp only [Act.put, List.setIfInBounds_toArray, List.set_cons_zero, List.set_cons_succ, i64_w, i32_w]
                        rfl
                      refine pure_ (i := 24) (N := some 59) (v := ?_) (a' := ?_) #[true, true, true, true, true, true, true, true, true, true, true, true, true, true, true, true, true, true, true, true, true, true, true, true, true, false, false, false, false, false, false] rfl rfl (any_of HT_.out (by kernel_rfl)) (fun _ _ _ h => h) (Or.inl ⟨by rfl, ?_⟩) ?_ ?_
                      rotate_left
                      · intro w'
                        go_simp
                        with_reducible rfl
                      rotate_left
                      · simp only [Act.put, List.setIfInBounds_toArray, List.set_cons_zero, List.set_cons_succ, i64_w, i32_w]
                        rfl
                      refine pure_ (i := 26) (N := some 61) (v := ?_) (a' := ?_) #[true, true, true, true, true, true, true, true, true, true, true, true, true, true, true, true, true, true, true, true, true, true, true, true, true, false, true, false, false, false, false] rfl rfl (any_of HT_.out (by kernel_rfl)) (fun _ _ _ h => h) (Or.inl ⟨by rfl, ?_⟩) ?_ ?_
                      rotate_left
                      · intro w'
                        go_simp
                        with_reducible rfl
                      rotate_left
                      · simp only [Act.put, List.setIfInBounds_toArray, List.set_cons_zero, List.set_cons_succ, i64_w, i32_w]
                        rfl
                      refine take_ (i := 25) (N := some 60) (v := ?_) (a' := ?_) #[true, true, true, true, true, true, true, true, true, true, true, true, true, true, true, true, true, true, true, true, true, true, true, true, true, true, true, false, false, false, false] rfl rfl (take_ofW HT_.out HW_.out (by kernel_rfl)) (fun _ _ _ h => h) (Or.inl ⟨by rfl, ?_⟩) hHeld ?_ ?_
                      rotate_left
                      · rintro w' ⟨s0, s1, s2, s3, s4, s5⟩
                        go_simp
                        with_reducible rfl
                      rotate_left
                      · simp only [Act.put, List.setIfInBounds_toArray, List.set_cons_zero, List.set_cons_succ, i64_w, i32_w]
                        rfl
                      refine one_ (i := 27) (N := some 62) #[true, true, true, true, true, true, true, true, true, true, true, true, true, true, true, true, true, true, true, true, true, true, true, true, true, true, true, true, false, false, false] rfl rfl (one_of HT_.out (by kernel_rfl)) (by decide) (fun K hK => ?_)
                      refine goes_ Try.func9 (by kernel_rfl) rfl #[.agg #[.slice Ao39 t164.length co39, .int .u32 t167, .int .u32 t168], .slice A2 l2.length c2] (by rfl) rfl rfl (by (try simp only [List.map_toArray, List.map_cons, List.map_nil]); first | done | rfl | (simp only [List.length_drop, List.length_take]; rfl)) ?_
                      with_reducible refine (impl_BloomHas.calls _ _ t164 t167 t168 _ _ l2 t180 _ ?side1 ?side2 ?side3 ?side4 A35.out).mono ?_
                      (case side1 => repeat (first | exact (Kd.R_reads' HO166.out).2.2 | (with_reducible refine Kd.C_alloc ?_ _) | (with_reducible refine Kd.C_drewN ?_ _) | (with_reducible refine Kd.C_drew ?_)))
                      (case side2 => exact (Kd.R_reads' HO166.out).2.1)
                      (case side3 => repeat (first | exact (Kd.C_below HR2.out HB.out) | (with_reducible refine Kd.C_alloc ?_ _) | (with_reducible refine Kd.C_drewN ?_ _) | (with_reducible refine Kd.C_drew ?_)))
                      (case side4 => exact HC2.out)
                      rintro e w51 ⟨rfl, hb⟩
                      refine ⟨_, rfl, ?_⟩
                      have n0_ := Aside0.mk (Kd.R_below (by (with_reducible repeat (first | apply Kd.R_alloc | apply Kd.R_drewN | apply Kd.R_drew)); exact HO166.out) hb)
                      have n1_ := Aside0.mk (Kd.R_below (by (with_reducible repeat (first | apply Kd.R_alloc | apply Kd.R_drewN | apply Kd.R_drew)); exact HO172.out) hb)
                      have n2_ := Aside0.mk (blk_below (g := gb161) (o := .cells #[.slice A0_0 l0_0.length c0_0, .int .u32 a0_1, .int .u32 a0_2] 25 (0, 0)) (by (with_reducible repeat (first | refine blk_drewN ?_ _ | refine blk_drew ?_ | refine blk_alloc ?_ _)); exact BK161.out) hb)
                      have n3_ := Aside0.mk (blk_below (g := gb169) (o := .cells #[.slice Ao39 t164.length co39, .int .u32 t167, .int .u32 t168] 25 (0, 0)) (by (with_reducible repeat (first | refine blk_drewN ?_ _ | refine blk_drew ?_ | refine blk_alloc ?_ _)); exact BK169.out) hb)
                      have n4_ := Aside0.mk (below_step (by repeat (first | (with_reducible first | exact HB.out | apply below_alloc | apply pw_below_drewN | apply below_drew1 | refine below_set ?_ GE161.out | refine below_set ?_ GE169.out) | exact HB.out)) hb)
                      clear HO166
                      clear HO172
                      clear BK161
                      clear BK169
                      clear HB
                      have HO166 := n0_
                      have HO172 := n1_
                      have BK161 := n2_
                      have BK169 := n3_
                      have HB := n4_
                      clear n0_ n1_ n2_ n3_ n4_
                      (try clear hb)
                      (try clear hb2)
                      (try clear hk)
                      (try clear hi)
                      refine hK.out _ _ ⟨(blk_cell BK169.out 0).trans rfl, (blk_cell BK169.out 1).trans rfl, (blk_cell BK169.out 2).trans rfl, (blk_cell BK161.out 0).trans rfl, (blk_cell BK161.out 1).trans rfl, (blk_cell BK161.out 2).trans rfl⟩ (fun hHeld => ?_)
                      clear hK K
                      refine norm_ (a' := ?_) ?_ ?_
                      rotate_left
                      · show Act.put _ (some 62) _ = _
                        simp only [Act.put, List.setIfInBounds_toArray, List.set_cons_zero, List.set_cons_succ, i64_w, i32_w]
                        rfl
                      refine pure_ (i := 28) (N := some 63) (v := ?_) (a' := ?_) #[true, true, true, true, true, true, true, true, true, true, true, true, true, true, true, true, true, true, true, true, true, true, true, true, true, true, true, true, true, false, false] rfl rfl (any_of HT_.out (by kernel_rfl)) (fun _ _ _ h => h) (Or.inl ⟨by rfl, ?_⟩) ?_ ?_
                      rotate_left
                      · intro w'
                        go_simp
                        with_reducible rfl
                      rotate_left
                      · simp only [Act.put, List.setIfInBounds_toArray, List.set_cons_zero, List.set_cons_succ, i64_w, i32_w]
                        rfl
                      refine pure_ (i := 29) (N := some 64) (v := ?_) (a' := ?_) #[true, true, true, true, true, true, true, true, true, true, true, true, true, true, true, true, true, true, true, true, true, true, true, true, true, true, true, true, true, true, false] rfl rfl (any_of HT_.out (by kernel_rfl)) (fun _ _ _ h => h) (Or.inl ⟨by rfl, ?_⟩) ?_ ?_
                      rotate_left
                      · intro w'
                        go_simp
                        with_reducible rfl
                      rotate_left
                      · simp only [Act.put, List.setIfInBounds_toArray, List.set_cons_zero, List.set_cons_succ, i64_w, i32_w]
                        rfl
                      refine pure_ (i := 30) (N := some 6) (v := ?_) (a' := ?_) #[true, true, true, true, true, true, true, true, true, true, true, true, true, true, true, true, true, true, true, true, true, true, true, true, true, true, true, true, true, true, true] rfl rfl (any_of HT_.out (by kernel_rfl)) (fun _ _ _ h => h) (Or.inl ⟨by rfl, ?_⟩) ?_ ?_
                      rotate_left
                      · intro w'
                        go_simp
                        with_reducible rfl
                      rotate_left
                      · simp only [Act.put, List.setIfInBounds_toArray, List.set_cons_zero, List.set_cons_succ, i64_w, i32_w]
                        rfl
                      refine done_ (done_of HT_.out (by kernel_rfl)) ?_
                      try go_wp2
                      go_ret
                      exact ⟨by first | rfl | (simp [errW_none, errW_some] <;> rfl) | (simp [*, errW_none, errW_some] <;> rfl), by repeat (first | (with_reducible first | exact HB.out | apply below_alloc | apply pw_below_drewN | apply below_drew1 | refine below_set ?_ GE161.out | refine below_set ?_ GE169.out) | exact HB.out)⟩
                    · replace c34 := Bool.eq_false_iff.mpr c34
                      subst c34
                      have H1 : (some true) = some r := by rw [if_neg (show ¬ (false = true) by decide)] at H; exact H
                      clear H
                      have H := H1
                      clear H1
                      obtain rfl := Option.some.inj H
                      have hcz52_0 : wc.cell? ⟨gb161, 0, none⟩ = some (.slice A0_0 l0_0.length c0_0) := (blk_cell BK161.out 0).trans rfl
                      have hcz52_1 : wc.cell? ⟨gb161, 1, none⟩ = some (.int .u32 a0_1) := (blk_cell BK161.out 1).trans rfl
                      have hcz52_2 : wc.cell? ⟨gb161, 2, none⟩ = some (.int .u32 a0_2) := (blk_cell BK161.out 2).trans rfl
                      have hfz52_0 := blk_frozen BK161.out 0
                      have hfz52_1 := blk_frozen BK161.out 1
                      have hfz52_2 := blk_frozen BK161.out 2
                      try go_wp2_with (first | ((with_reducible refine gate_callee (f := 6) rfl ?_); refine goesL_ (some 34) rfl rfl Try.func6 (by kernel_rfl) rfl #[.agg #[.slice A0_0 l0_0.length c0_0, .int .u32 a0_1, .int .u32 a0_2], .slice A1 l1.length c1] rfl (by (try simp only [List.map_toArray, List.map_cons, List.map_nil]); first | done | rfl | (simp only [List.length_drop, List.length_take]; rfl)) ?_; (with_reducible refine (impl_BloomAdd.calls _ _ l0_0 a0_1 a0_2 _ _ l1 t164 t167 t168 _ ?side1 ?side2 ?side3 ?side4 A24.out).mono ?_); (case side1 => repeat (first | exact (Kd.C_below HR0_0.out HB.out) | (with_reducible refine Kd.C_alloc ?_ _) | (with_reducible refine Kd.C_drewN ?_ _) | (with_reducible refine Kd.C_drew ?_))); (case side2 => exact HC0_0.out); (case side3 => repeat (first | exact (Kd.C_below HR1.out HB.out) | (with_reducible refine Kd.C_alloc ?_ _) | (with_reducible refine Kd.C_drewN ?_ _) | (with_reducible refine Kd.C_drew ?_))); (case side4 => exact HC1.out); rintro e w53 ⟨v165, rfl, ho0, hb⟩; refine ⟨_, rfl, ?_⟩; have n0_ := Aside0.mk (Kd.R_lower ho0 (below_size (by repeat (first | (with_reducible first | exact HB.out | apply below_alloc | apply pw_below_drewN | apply below_drew1 | refine below_set ?_ GE161.out) | exact HB.out)))); have n1_ := Aside0.mk (blk_below (g := gb161) (o := .cells #[.slice A0_0 l0_0.length c0_0, .int .u32 a0_1, .int .u32 a0_2] 25 (0, 0)) (by (with_reducible repeat (first | refine blk_drewN ?_ _ | refine blk_drew ?_ | refine blk_alloc ?_ _)); exact BK161.out) hb); have n2_ := Aside0.mk (below_step (by repeat (first | (with_reducible first | exact HB.out | apply below_alloc | apply pw_below_drewN | apply below_drew1 | refine below_set ?_ GE161.out) | exact HB.out)) hb); clear BK161; clear HB; have HO166 := n0_; have BK161 := n1_; have HB := n2_; clear n0_ n1_ n2_; (try clear hb); (try clear hb2); (try clear hk); (try clear hi); (try clear ho0)) | ((with_reducible refine gate_dst (N := 7) rfl ?_); (try (refine gate_guard (by rfl) ?_; dsimp only)); refine box_event ?hg (N := 7) ?hd (cs := #[.slice none 0 0, .int .u32 0, .int .u32 0]) (t := 25) ?hr ?_; (case hd => rfl); (case hg => rfl); (case hr => first | (go_simp; done) | (go_simp; rfl)); intro gb169 hg w54 hbox hb; have n0_ := Aside0.mk (Kd.R_below (by (with_reducible repeat (first | apply Kd.R_alloc | apply Kd.R_drewN | apply Kd.R_drew)); exact HO166.out) hb); have n1_ := Aside0.mk (blk_below (g := gb161) (o := .cells #[.slice A0_0 l0_0.length c0_0, .int .u32 a0_1, .int .u32 a0_2] 25 (0, 0)) (by (with_reducible repeat (first | refine blk_drewN ?_ _ | refine blk_drew ?_ | refine blk_alloc ?_ _)); exact BK161.out) hb); have n2_ := Aside0.mk (below_step (by repeat (first | (with_reducible first | exact HB.out | apply below_alloc | apply pw_below_drewN | apply below_drew1 | refine below_set ?_ GE161.out) | exact HB.out)) hb); have n3_ := Aside0.mk (hbox); have n4_ := Aside0.mk ((by rw [hg]; exact (below_size (by repeat (first | (with_reducible first | exact HB.out | apply below_alloc | apply pw_below_drewN | apply below_drew1 | refine below_set ?_ GE161.out) | exact HB.out))) : w.heap.size ≤ gb169)); have n5_ := Aside0.mk ((by rw [hg]; exact (below_size (by repeat (first | (with_reducible first | exact HB.out | apply below_alloc | apply pw_below_drewN | apply below_drew1 | refine below_set ?_ GE161.out) | exact HB.out))) : w.heap.size ≤ gb169)); have n6_ := Aside0.mk ((by rw [hg]; exact Nat.ne_of_lt (blk_lt (g := gb161) (o := .cells #[.slice A0_0 l0_0.length c0_0, .int .u32 a0_1, .int .u32 a0_2] 25 (0, 0)) (by (with_reducible repeat (first | refine blk_drewN ?_ _ | refine blk_drew ?_ | refine blk_alloc ?_ _)); exact BK161.out)) : gb161 ≠ gb169)); have n7_ := Aside0.mk ((by rw [hg]; exact Nat.ne_of_gt (blk_lt (g := gb161) (o := .cells #[.slice A0_0 l0_0.length c0_0, .int .u32 a0_1, .int .u32 a0_2] 25 (0, 0)) (by (with_reducible repeat (first | refine blk_drewN ?_ _ | refine blk_drew ?_ | refine blk_alloc ?_ _)); exact BK161.out)) : gb169 ≠ gb161)); clear HO166; clear BK161; clear HB; have HO166 := n0_; have BK161 := n1_; have HB := n2_; have BK169 := n3_; have GW169 := n4_; have GE169 := n5_; have NB161_169 := n6_; have NB169_161 := n7_; clear n0_ n1_ n2_ n3_ n4_ n5_ n6_ n7_; clear hb hbox hg; obtain ⟨Ao55, co55, eo55⟩ := Kd.R_slice HO166.out; subst eo55; have hnb56 := NB169_161.out; have hnc56 := NB161_169.out; have hcz57_0 : w54.cell? ⟨gb169, 0, none⟩ = some (.slice none 0 0) := (blk_cell BK169.out 0).trans rfl; have hcz57_1 : w54.cell? ⟨gb169, 1, none⟩ = some (.int .u32 0) := (blk_cell BK169.out 1).trans rfl; have hcz57_2 : w54.cell? ⟨gb169, 2, none⟩ = some (.int .u32 0) := (blk_cell BK169.out 2).trans rfl; have hfz57_0 := blk_frozen BK169.out 0; have hfz57_1 := blk_frozen BK169.out 1; have hfz57_2 := blk_frozen BK169.out 2))
                      have n0_ : Aside0 (Kd.R (Kd.int .u8) 5 (((w54.setCell ⟨gb169, 0, none⟩ (.slice Ao55 t164.length co55)).setCell ⟨gb169, 1, none⟩ (.int .u32 t167)).setCell ⟨gb169, 2, none⟩ (.int .u32 t168)) w.heap.size (fun _ => True) (.slice Ao55 t164.length co55) t164) := ⟨by (with_reducible repeat (first | apply Kd.R_alloc | apply Kd.R_drewN | apply Kd.R_drew)); exact Kd.R_mono (Kd.R_far (p := ⟨gb169, 2, none⟩) (Kd.R_far (p := ⟨gb169, 1, none⟩) (Kd.R_far (p := ⟨gb169, 0, none⟩) (Kd.R_types HO166.out BK169.out (by decide)) (fun _ hk => hk.2) (.slice Ao55 t164.length co55)) (fun _ hk => hk.2) (.int .u32 t167)) (fun _ hk => hk.2) (.int .u32 t168)) (fun _ hk => trivial)⟩
                      have n1_ : Aside0 ((((w54.setCell ⟨gb169, 0, none⟩ (.slice Ao55 t164.length co55)).setCell ⟨gb169, 1, none⟩ (.int .u32 t167)).setCell ⟨gb169, 2, none⟩ (.int .u32 t168)).heap[gb161]? = some (.cells #[.slice A0_0 l0_0.length c0_0, .int .u32 a0_1, .int .u32 a0_2] 25 (0, 0))) := ⟨by (with_reducible repeat (first | refine blk_drewN ?_ _ | refine blk_drew ?_ | refine blk_alloc ?_ _)); refine blk_far ?_ NB161_169.out _; (with_reducible repeat (first | refine blk_drewN ?_ _ | refine blk_drew ?_ | refine blk_alloc ?_ _)); refine blk_far ?_ NB161_169.out _; (with_reducible repeat (first | refine blk_drewN ?_ _ | refine blk_drew ?_ | refine blk_alloc ?_ _)); refine blk_far ?_ NB161_169.out _; (with_reducible repeat (first | refine blk_drewN ?_ _ | refine blk_drew ?_ | refine blk_alloc ?_ _)); exact BK161.out⟩
                      have n2_ : Aside0 ((((w54.setCell ⟨gb169, 0, none⟩ (.slice Ao55 t164.length co55)).setCell ⟨gb169, 1, none⟩ (.int .u32 t167)).setCell ⟨gb169, 2, none⟩ (.int .u32 t168)).heap[gb169]? = some (.cells #[.slice Ao55 t164.length co55, .int .u32 t167, .int .u32 t168] 25 (0, 0))) := ⟨by (with_reducible repeat (first | refine blk_drewN ?_ _ | refine blk_drew ?_ | refine blk_alloc ?_ _)); refine blk_put (cs := #[.slice Ao55 t164.length co55, .int .u32 t167, .int .u32 0]) ?_ 2 _ rfl; (with_reducible repeat (first | refine blk_drewN ?_ _ | refine blk_drew ?_ | refine blk_alloc ?_ _)); refine blk_put (cs := #[.slice Ao55 t164.length co55, .int .u32 0, .int .u32 0]) ?_ 1 _ rfl; (with_reducible repeat (first | refine blk_drewN ?_ _ | refine blk_drew ?_ | refine blk_alloc ?_ _)); refine blk_put (cs := #[.slice none 0 0, .int .u32 0, .int .u32 0]) ?_ 0 _ rfl; (with_reducible repeat (first | refine blk_drewN ?_ _ | refine blk_drew ?_ | refine blk_alloc ?_ _)); exact BK169.out⟩
                      have n3_ : Aside0 (Below w.heap.size w (((w54.setCell ⟨gb169, 0, none⟩ (.slice Ao55 t164.length co55)).setCell ⟨gb169, 1, none⟩ (.int .u32 t167)).setCell ⟨gb169, 2, none⟩ (.int .u32 t168))) := ⟨by repeat (first | (with_reducible first | exact HB.out | apply below_alloc | apply pw_below_drewN | apply below_drew1 | refine below_set ?_ GE161.out | refine below_set ?_ GE169.out) | exact HB.out)⟩
                      (try clear HO166)
                      (try clear BK161)
                      (try clear BK169)
                      (try clear HB)
                      generalize (((w54.setCell ⟨gb169, 0, none⟩ (.slice Ao55 t164.length co55)).setCell ⟨gb169, 1, none⟩ (.int .u32 t167)).setCell ⟨gb169, 2, none⟩ (.int .u32 t168)) = w58 at n0_ n1_ n2_ n3_ ⊢
                      have HO166 := n0_
                      have BK161 := n1_
                      have BK169 := n2_
                      have HB := n3_
                      clear n0_ n1_ n2_ n3_
                      have n0_ := Aside0.mk (Kd.R_drew HO166.out)
                      have n1_ := Aside0.mk (blk_drew BK161.out)
                      have n2_ := Aside0.mk (blk_drew BK169.out)
                      have n3_ := Aside0.mk (below_drew1 HB.out)
                      clear HO166
                      clear BK161
                      clear BK169
                      clear HB
                      have HO166 := n0_
                      have BK161 := n1_
                      have BK169 := n2_
                      have HB := n3_
                      clear n0_ n1_ n2_ n3_
                      refine start_ (n := 31) (S := fun w' => w'.cell? ⟨gb169, 0, none⟩ = some (.slice Ao55 t164.length co55) ∧ w'.cell? ⟨gb169, 1, none⟩ = some (.int .u32 t167) ∧ w'.cell? ⟨gb169, 2, none⟩ = some (.int .u32 t168) ∧ w'.cell? ⟨gb161, 0, none⟩ = some (.slice A0_0 l0_0.length c0_0) ∧ w'.cell? ⟨gb161, 1, none⟩ = some (.int .u32 a0_1) ∧ w'.cell? ⟨gb161, 2, none⟩ = some (.int .u32 a0_2)) (ds := []) #[false, false, false, false, false, false, false, false, false, false, false, false, false, false, false, false, false, false, false, false, false, false, false, false, false, false, false, false, false, false, false] (by kernel_rfl) rfl rfl ⟨(blk_cell BK169.out 0).trans rfl, (blk_cell BK169.out 1).trans rfl, (blk_cell BK169.out 2).trans rfl, (blk_cell BK161.out 0).trans rfl, (blk_cell BK161.out 1).trans rfl, (blk_cell BK161.out 2).trans rfl⟩ (fun hHeld => ?_); refine with_tabW laws_FnBloom.tab6 laws_FnBloom.bits6 (fun HT_ HW_ => ?_)
                      generalize w58.drew = w59 at HO166 BK161 BK169 HB hHeld ⊢
                      refine pure_ (i := 2) (N := some 37) (v := ?_) (a' := ?_) #[false, false, true, false, false, false, false, false, false, false, false, false, false, false, false, false, false, false, false, false, false, false, false, false, false, false, false, false, false, false, false] rfl rfl (any_of HT_.out (by kernel_rfl)) (fun _ _ _ h => h) (Or.inl ⟨by rfl, ?_⟩) ?_ ?_
                      rotate_left
                      · intro w'
                        go_simp
                        with_reducible rfl
                      rotate_left
                      · simp only [Act.put, List.setIfInBounds_toArray, List.set_cons_zero, List.set_cons_succ, i64_w, i32_w]
                        rfl
                      refine take_ (i := 0) (N := some 35) (v := ?_) (a' := ?_) #[true, false, true, false, false, false, false, false, false, false, false, false, false, false, false, false, false, false, false, false, false, false, false, false, false, false, false, false, false, false, false] rfl rfl (take_ofW HT_.out HW_.out (by kernel_rfl)) (fun _ _ _ h => h) (Or.inl ⟨by rfl, ?_⟩) hHeld ?_ ?_
                      rotate_left
                      · rintro w' ⟨s0, s1, s2, s3, s4, s5⟩
                        go_simp
                        with_reducible rfl
                      rotate_left
                      · simp only [Act.put, List.setIfInBounds_toArray, List.set_cons_zero, List.set_cons_succ, i64_w, i32_w]
                        rfl
                      refine take_ (i := 1) (N := some 36) (v := ?_) (a' := ?_) #[true, true, true, false, false, false, false, false, false, false, false, false, false, false, false, false, false, false, false, false, false, false, false, false, false, false, false, false, false, false, false] rfl rfl (take_ofW HT_.out HW_.out (by kernel_rfl)) (fun _ _ _ h => h) (Or.inl ⟨by rfl, ?_⟩) hHeld ?_ ?_
                      rotate_left
                      · rintro w' ⟨s0, s1, s2, s3, s4, s5⟩
                        go_simp
                        with_reducible rfl
                      rotate_left
                      · simp only [Act.put, List.setIfInBounds_toArray, List.set_cons_zero, List.set_cons_succ, i64_w, i32_w]
                        rfl
                      refine one_ (i := 3) (N := some 38) #[true, true, true, true, false, false, false, false, false, false, false, false, false, false, false, false, false, false, false, false, false, false, false, false, false, false, false, false, false, false, false] rfl rfl (one_of HT_.out (by kernel_rfl)) (by decide) (fun K hK => ?_)
                      refine goes_ Try.func8 (by kernel_rfl) rfl #[.agg #[.slice A0_0 l0_0.length c0_0, .int .u32 a0_1, .int .u32 a0_2], .slice A1 l1.length c1] (by rfl) rfl rfl (by (try simp only [List.map_toArray, List.map_cons, List.map_nil]); first | done | rfl | (simp only [List.length_drop, List.length_take]; rfl)) ?_
                      with_reducible refine (spec_BloomAdd.calls kj15 _ _ l0_0 a0_1 a0_2 _ _ l1 t170 t173 t174 _ ?side1 ?side2 ?side3 ?side4 A25.out).mono ?_
                      (case side1 => repeat (first | exact (Kd.C_below HR0_0.out HB.out) | (with_reducible refine Kd.C_alloc ?_ _) | (with_reducible refine Kd.C_drewN ?_ _) | (with_reducible refine Kd.C_drew ?_)))
                      (case side2 => exact HC0_0.out)
                      (case side3 => repeat (first | exact (Kd.C_below HR1.out HB.out) | (with_reducible refine Kd.C_alloc ?_ _) | (with_reducible refine Kd.C_drewN ?_ _) | (with_reducible refine Kd.C_drew ?_)))
                      (case side4 => exact HC1.out)
                      rintro e w60 ⟨v171, rfl, ho0, hb⟩
                      refine ⟨_, rfl, ?_⟩
                      have n0_ := Aside0.mk (Kd.R_elder' (by (with_reducible repeat (first | apply Kd.R_alloc | apply Kd.R_drewN | apply Kd.R_drew)); exact HO166.out) (Kd.R_base ho0) hb)
                      have n1_ := Aside0.mk (Kd.R_lower (Kd.R_new' ho0 (Kd.R_lt (by (with_reducible repeat (first | apply Kd.R_alloc | apply Kd.R_drewN | apply Kd.R_drew)); exact HO166.out))) (below_size (by repeat (first | (with_reducible first | exact HB.out | apply below_alloc | apply pw_below_drewN | apply below_drew1 | refine below_set ?_ GE161.out | refine below_set ?_ GE169.out) | exact HB.out))))
                      have n2_ := Aside0.mk (blk_below (g := gb161) (o := .cells #[.slice A0_0 l0_0.length c0_0, .int .u32 a0_1, .int .u32 a0_2] 25 (0, 0)) (by (with_reducible repeat (first | refine blk_drewN ?_ _ | refine blk_drew ?_ | refine blk_alloc ?_ _)); exact BK161.out) hb)
                      have n3_ := Aside0.mk (blk_below (g := gb169) (o := .cells #[.slice Ao55 t164.length co55, .int .u32 t167, .int .u32 t168] 25 (0, 0)) (by (with_reducible repeat (first | refine blk_drewN ?_ _ | refine blk_drew ?_ | refine blk_alloc ?_ _)); exact BK169.out) hb)
                      have n4_ := Aside0.mk (below_step (by repeat (first | (with_reducible first | exact HB.out | apply below_alloc | apply pw_below_drewN | apply below_drew1 | refine below_set ?_ GE161.out | refine below_set ?_ GE169.out) | exact HB.out)) hb)
                      clear HO166
                      clear BK161
                      clear BK169
                      clear HB
                      have HO166 := n0_
                      have HO172 := n1_
                      have BK161 := n2_
                      have BK169 := n3_
                      have HB := n4_
                      clear n0_ n1_ n2_ n3_ n4_
                      (try clear hb)
                      (try clear hb2)
                      (try clear hk)
                      (try clear hi)
                      (try clear ho0)
                      obtain ⟨Ao61, co61, eo61⟩ := Kd.R_slice HO172.out
                      (first | subst eo61 | (injection eo61 with f1_ f2_ f3_; have f4_ := f1_.symm; have f5_ := f3_.symm; clear f1_ f2_ f3_; subst f4_; subst f5_))
                      refine hK.out _ _ ⟨(blk_cell BK169.out 0).trans rfl, (blk_cell BK169.out 1).trans rfl, (blk_cell BK169.out 2).trans rfl, (blk_cell BK161.out 0).trans rfl, (blk_cell BK161.out 1).trans rfl, (blk_cell BK161.out 2).trans rfl⟩ (fun hHeld => ?_)
                      clear hK K
                      refine norm_ (a' := ?_) ?_ ?_
                      rotate_left
                      · show Act.put _ (some 38) _ = _
                        simp only [Act.put, List.setIfInBounds_toArray, List.set_cons_zero, List.set_cons_succ, i64_w, i32_w]
                        rfl
                      refine one_ (i := 4) (N := some 39) #[true, true, true, true, true, false, false, false, false, false, false, false, false, false, false, false, false, false, false, false, false, false, false, false, false, false, false, false, false, false, false] rfl rfl (one_of HT_.out (by kernel_rfl)) (by decide) (fun K hK => ?_)
                      refine goes_ Try.func7 (by kernel_rfl) rfl #[.agg #[.slice Ao55 t164.length co55, .int .u32 t167, .int .u32 t168], .agg #[.slice Ao61 t170.length co61, .int .u32 t173, .int .u32 t174]] (by rfl) rfl rfl (by (try simp only [List.map_toArray, List.map_cons, List.map_nil]); first | done | rfl | (simp only [List.length_drop, List.length_take]; rfl)) ?_
                      with_reducible refine (laws_sameBloom.calls kj15 _ _ t164 t167 t168 _ _ t170 t173 t174 true _ ?side1 ?side2 ?side3 ?side4 A26.out).mono ?_
                      (case side1 => repeat (first | exact (Kd.R_reads' HO166.out).2.2 | (with_reducible refine Kd.C_alloc ?_ _) | (with_reducible refine Kd.C_drewN ?_ _) | (with_reducible refine Kd.C_drew ?_)))
                      (case side2 => exact (Kd.R_reads' HO166.out).2.1)
                      (case side3 => repeat (first | exact (Kd.R_reads' HO172.out).2.2 | (with_reducible refine Kd.C_alloc ?_ _) | (with_reducible refine Kd.C_drewN ?_ _) | (with_reducible refine Kd.C_drew ?_)))
                      (case side4 => exact (Kd.R_reads' HO172.out).2.1)
                      rintro e w62 ⟨rfl, hb⟩
                      refine ⟨_, rfl, ?_⟩
                      have n0_ := Aside0.mk (Kd.R_below (by (with_reducible repeat (first | apply Kd.R_alloc | apply Kd.R_drewN | apply Kd.R_drew)); exact HO166.out) hb)
                      have n1_ := Aside0.mk (Kd.R_below (by (with_reducible repeat (first | apply Kd.R_alloc | apply Kd.R_drewN | apply Kd.R_drew)); exact HO172.out) hb)
                      have n2_ := Aside0.mk (blk_below (g := gb161) (o := .cells #[.slice A0_0 l0_0.length c0_0, .int .u32 a0_1, .int .u32 a0_2] 25 (0, 0)) (by (with_reducible repeat (first | refine blk_drewN ?_ _ | refine blk_drew ?_ | refine blk_alloc ?_ _)); exact BK161.out) hb)
                      have n3_ := Aside0.mk (blk_below (g := gb169) (o := .cells #[.slice Ao55 t164.length co55, .int .u32 t167, .int .u32 t168] 25 (0, 0)) (by (with_reducible repeat (first | refine blk_drewN ?_ _ | refine blk_drew ?_ | refine blk_alloc ?_ _)); exact BK169.out) hb)
                      have n4_ := Aside0.mk (below_step (by repeat (first | (with_reducible first | exact HB.out | apply below_alloc | apply pw_below_drewN | apply below_drew1 | refine below_set ?_ GE161.out | refine below_set ?_ GE169.out) | exact HB.out)) hb)
                      clear HO166
                      clear HO172
                      clear BK161
                      clear BK169
                      clear HB
                      have HO166 := n0_
                      have HO172 := n1_
                      have BK161 := n2_
                      have BK169 := n3_
                      have HB := n4_
                      clear n0_ n1_ n2_ n3_ n4_
                      (try clear hb)
                      (try clear hb2)
                      (try clear hk)
                      (try clear hi)
                      refine hK.out _ _ ⟨(blk_cell BK169.out 0).trans rfl, (blk_cell BK169.out 1).trans rfl, (blk_cell BK169.out 2).trans rfl, (blk_cell BK161.out 0).trans rfl, (blk_cell BK161.out 1).trans rfl, (blk_cell BK161.out 2).trans rfl⟩ (fun hHeld => ?_)
                      clear hK K
                      refine norm_ (a' := ?_) ?_ ?_
                      rotate_left
                      · show Act.put _ (some 39) _ = _
                        simp only [Act.put, List.setIfInBounds_toArray, List.set_cons_zero, List.set_cons_succ, i64_w, i32_w]
                        rfl
                      refine pure_ (i := 5) (N := some 40) (v := ?_) (a' := ?_) #[true, true, true, true, true, true, false, false, false, false, false, false, false, false, false, false, false, false, false, false, false, false, false, false, false, false, false, false, false, false, false] rfl rfl (any_of HT_.out (by kernel_rfl)) (fun _ _ _ h => h) (Or.inl ⟨by rfl, ?_⟩) ?_ ?_
                      rotate_left
                      · intro w'
                        go_simp
                        with_reducible rfl
                      rotate_left
                      · simp only [Act.put, List.setIfInBounds_toArray, List.set_cons_zero, List.set_cons_succ, i64_w, i32_w]
                        rfl
                      refine pure_ (i := 7) (N := some 42) (v := ?_) (a' := ?_) #[true, true, true, true, true, true, false, true, false, false, false, false, false, false, false, false, false, false, false, false, false, false, false, false, false, false, false, false, false, false, false] rfl rfl (any_of HT_.out (by kernel_rfl)) (fun _ _ _ h => h) (Or.inl ⟨by rfl, ?_⟩) ?_ ?_
                      rotate_left
                      · intro w'
                        go_simp
                        with_reducible rfl
                      rotate_left
                      · simp only [Act.put, List.setIfInBounds_toArray, List.set_cons_zero, List.set_cons_succ, i64_w, i32_w]
                        rfl
                      refine take_ (i := 6) (N := some 41) (v := ?_) (a' := ?_) #[true, true, true, true, true, true, true, true, false, false, false, false, false, false, false, false, false, false, false, false, false, false, false, false, false, false, false, false, false, false, false] rfl rfl (take_ofW HT_.out HW_.out (by kernel_rfl)) (fun _ _ _ h => h) (Or.inl ⟨by rfl, ?_⟩) hHeld ?_ ?_
                      rotate_left
                      · rintro w' ⟨s0, s1, s2, s3, s4, s5⟩
                        go_simp
                        with_reducible rfl
                      rotate_left
                      · simp only [Act.put, List.setIfInBounds_toArray, List.set_cons_zero, List.set_cons_succ, i64_w, i32_w]
                        rfl
                      refine one_ (i := 8) (N := some 43) #[true, true, true, true, true, true, true, true, true, false, false, false, false, false, false, false, false, false, false, false, false, false, false, false, false, false, false, false, false, false, false] rfl rfl (one_of HT_.out (by kernel_rfl)) (by decide) (fun K hK => ?_)
                      refine goes_ Try.func9 (by kernel_rfl) rfl #[.agg #[.slice Ao55 t164.length co55, .int .u32 t167, .int .u32 t168], .slice A1 l1.length c1] (by rfl) rfl rfl (by (try simp only [List.map_toArray, List.map_cons, List.map_nil]); first | done | rfl | (simp only [List.length_drop, List.length_take]; rfl)) ?_
                      with_reducible refine (impl_BloomHas.calls _ _ t164 t167 t168 _ _ l1 true _ ?side1 ?side2 ?side3 ?side4 A28.out).mono ?_
                      (case side1 => repeat (first | exact (Kd.R_reads' HO166.out).2.2 | (with_reducible refine Kd.C_alloc ?_ _) | (with_reducible refine Kd.C_drewN ?_ _) | (with_reducible refine Kd.C_drew ?_)))
                      (case side2 => exact (Kd.R_reads' HO166.out).2.1)
                      (case side3 => repeat (first | exact (Kd.C_below HR1.out HB.out) | (with_reducible refine Kd.C_alloc ?_ _) | (with_reducible refine Kd.C_drewN ?_ _) | (with_reducible refine Kd.C_drew ?_)))
                      (case side4 => exact HC1.out)
                      rintro e w63 ⟨rfl, hb⟩
                      refine ⟨_, rfl, ?_⟩
                      have n0_ := Aside0.mk (Kd.R_below (by (with_reducible repeat (first | apply Kd.R_alloc | apply Kd.R_drewN | apply Kd.R_drew)); exact HO166.out) hb)
                      have n1_ := Aside0.mk (Kd.R_below (by (with_reducible repeat (first | apply Kd.R_alloc | apply Kd.R_drewN | apply Kd.R_drew)); exact HO172.out) hb)
                      have n2_ := Aside0.mk (blk_below (g := gb161) (o := .cells #[.slice A0_0 l0_0.length c0_0, .int .u32 a0_1, .int .u32 a0_2] 25 (0, 0)) (by (with_reducible repeat (first | refine blk_drewN ?_ _ | refine blk_drew ?_ | refine blk_alloc ?_ _)); exact BK161.out) hb)
                      have n3_ := Aside0.mk (blk_below (g := gb169) (o := .cells #[.slice Ao55 t164.length co55, .int .u32 t167, .int .u32 t168] 25 (0, 0)) (by (with_reducible repeat (first | refine blk_drewN ?_ _ | refine blk_drew ?_ | refine blk_alloc ?_ _)); exact BK169.out) hb)
                      have n4_ := Aside0.mk (below_step (by repeat (first | (with_reducible first | exact HB.out | apply below_alloc | apply pw_below_drewN | apply below_drew1 | refine below_set ?_ GE161.out | refine below_set ?_ GE169.out) | exact HB.out)) hb)
                      clear HO166
                      clear HO172
                      clear BK161
                      clear BK169
                      clear HB
                      have HO166 := n0_
                      have HO172 := n1_
                      have BK161 := n2_
                      have BK169 := n3_
                      have HB := n4_
                      clear n0_ n1_ n2_ n3_ n4_
                      (try clear hb)
                      (try clear hb2)
                      (try clear hk)
                      (try clear hi)
                      refine hK.out _ _ ⟨(blk_cell BK169.out 0).trans rfl, (blk_cell BK169.out 1).trans rfl, (blk_cell BK169.out 2).trans rfl, (blk_cell BK161.out 0).trans rfl, (blk_cell BK161.out 1).trans rfl, (blk_cell BK161.out 2).trans rfl⟩ (fun hHeld => ?_)
                      clear hK K
                      refine norm_ (a' := ?_) ?_ ?_
                      rotate_left
                      · show Act.put _ (some 43) _ = _
                        simp only [Act.put, List.setIfInBounds_toArray, List.set_cons_zero, List.set_cons_succ, i64_w, i32_w]
                        rfl
                      refine pure_ (i := 9) (N := some 44) (v := ?_) (a' := ?_) #[true, true, true, true, true, true, true, true, true, true, false, false, false, false, false, false, false, false, false, false, false, false, false, false, false, false, false, false, false, false, false] rfl rfl (any_of HT_.out (by kernel_rfl)) (fun _ _ _ h => h) (Or.inl ⟨by rfl, ?_⟩) ?_ ?_
                      rotate_left
                      · intro w'
                        go_simp
                        with_reducible rfl
                      rotate_left
                      · simp only [Act.put, List.setIfInBounds_toArray, List.set_cons_zero, List.set_cons_succ, i64_w, i32_w]
                        rfl
                      refine pure_ (i := 10) (N := some 45) (v := ?_) (a' := ?_) #[true, true, true, true, true, true, true, true, true, true, true, false, false, false, false, false, false, false, false, false, false, false, false, false, false, false, false, false, false, false, false] rfl rfl (any_of HT_.out (by kernel_rfl)) (fun _ _ _ h => h) (Or.inl ⟨by rfl, ?_⟩) ?_ ?_
                      rotate_left
                      · intro w'
                        go_simp
                        with_reducible rfl
                      rotate_left
                      · simp only [Act.put, List.setIfInBounds_toArray, List.set_cons_zero, List.set_cons_succ, i64_w, i32_w]
                        rfl
                      refine pure_ (i := 12) (N := some 47) (v := ?_) (a' := ?_) #[true, true, true, true, true, true, true, true, true, true, true, false, true, false, false, false, false, false, false, false, false, false, false, false, false, false, false, false, false, false, false] rfl rfl (any_of HT_.out (by kernel_rfl)) (fun _ _ _ h => h) (Or.inl ⟨by rfl, ?_⟩) ?_ ?_
                      rotate_left
                      · intro w'
                        go_simp
                        with_reducible rfl
                      rotate_left
                      · simp only [Act.put, List.setIfInBounds_toArray, List.set_cons_zero, List.set_cons_succ, i64_w, i32_w]
                        rfl
                      refine pure_ (i := 15) (N := some 50) (v := ?_) (a' := ?_) #[true, true, true, true, true, true, true, true, true, true, true, false, true, false, false, true, false, false, false, false, false, false, false, false, false, false, false, false, false, false, false] rfl rfl (any_of HT_.out (by kernel_rfl)) (fun _ _ _ h => h) (Or.inl ⟨by rfl, ?_⟩) ?_ ?_
                      rotate_left
                      · intro w'
                        go_simp
                        with_reducible rfl
                      rotate_left
                      · simp only [Act.put, List.setIfInBounds_toArray, List.set_cons_zero, List.set_cons_succ, i64_w, i32_w]
                        rfl
                      refine take_ (i := 11) (N := some 46) (v := ?_) (a' := ?_) #[true, true, true, true, true, true, true, true, true, true, true, true, true, false, false, true, false, false, false, false, false, false, false, false, false, false, false, false, false, false, false] rfl rfl (take_ofW HT_.out HW_.out (by kernel_rfl)) (fun _ _ _ h => h) (Or.inl ⟨by rfl, ?_⟩) hHeld ?_ ?_
                      rotate_left
                      · rintro w' ⟨s0, s1, s2, s3, s4, s5⟩
                        go_simp
                        with_reducible rfl
                      rotate_left
                      · simp only [Act.put, List.setIfInBounds_toArray, List.set_cons_zero, List.set_cons_succ, i64_w, i32_w]
                        rfl
                      refine take_ (i := 14) (N := some 49) (v := ?_) (a' := ?_) #[true, true, true, true, true, true, true, true, true, true, true, true, true, false, true, true, false, false, false, false, false, false, false, false, false, false, false, false, false, false, false] rfl rfl (take_ofW HT_.out HW_.out (by kernel_rfl)) (fun _ _ _ h => h) (Or.inl ⟨by rfl, ?_⟩) hHeld ?_ ?_
                      rotate_left
                      · rintro w' ⟨s0, s1, s2, s3, s4, s5⟩
                        go_simp
                        with_reducible rfl
                      rotate_left
                      · simp only [Act.put, List.setIfInBounds_toArray, List.set_cons_zero, List.set_cons_succ, i64_w, i32_w]
                        rfl
                      refine one_ (i := 13) (N := some 48) #[true, true, true, true, true, true, true, true, true, true, true, true, true, true, true, true, false, false, false, false, false, false, false, false, false, false, false, false, false, false, false] rfl rfl (one_of HT_.out (by kernel_rfl)) (by decide) (fun K hK => ?_)
                      refine goes_ Try.func9 (by kernel_rfl) rfl #[.agg #[.slice Ao55 t164.length co55, .int .u32 t167, .int .u32 t168], .slice A2 l2.length c2] (by rfl) rfl rfl (by (try simp only [List.map_toArray, List.map_cons, List.map_nil]); first | done | rfl | (simp only [List.length_drop, List.length_take]; rfl)) ?_
                      with_reducible refine (impl_BloomHas.calls _ _ t164 t167 t168 _ _ l2 t177 _ ?side1 ?side2 ?side3 ?side4 A30.out).mono ?_
                      (case side1 => repeat (first | exact (Kd.R_reads' HO166.out).2.2 | (with_reducible refine Kd.C_alloc ?_ _) | (with_reducible refine Kd.C_drewN ?_ _) | (with_reducible refine Kd.C_drew ?_)))
                      (case side2 => exact (Kd.R_reads' HO166.out).2.1)
                      (case side3 => repeat (first | exact (Kd.C_below HR2.out HB.out) | (with_reducible refine Kd.C_alloc ?_ _) | (with_reducible refine Kd.C_drewN ?_ _) | (with_reducible refine Kd.C_drew ?_)))
                      (case side4 => exact HC2.out)
                      rintro e w64 ⟨rfl, hb⟩
                      refine ⟨_, rfl, ?_⟩
                      have n0_ := Aside0.mk (Kd.R_below (by (with_reducible repeat (first | apply Kd.R_alloc | apply Kd.R_drewN | apply Kd.R_drew)); exact HO166.out) hb)
                      have n1_ := Aside0.mk (Kd.R_below (by (with_reducible repeat (first | apply Kd.R_alloc | apply Kd.R_drewN | apply Kd.R_drew)); exact HO172.out) hb)
                      have n2_ := Aside0.mk (blk_below (g := gb161) (o := .cells #[.slice A0_0 l0_0.length c0_0, .int .u32 a0_1, .int .u32 a0_2] 25 (0, 0)) (by (with_reducible repeat (first | refine blk_drewN ?_ _ | refine blk_drew ?_ | refine blk_alloc ?_ _)); exact BK161.out) hb)
                      have n3_ := Aside0.mk (blk_below (g := gb169) (o := .cells #[.slice Ao55 t164.length co55, .int .u32 t167, .int .u32 t168] 25 (0, 0)) (by (with_reducible repeat (first | refine blk_drewN ?_ _ | refine blk_drew ?_ | refine blk_alloc ?_ _)); exact BK169.out) hb)
                      have n4_ := Aside0.mk (below_step (by repeat (first | (with_reducible first | exact HB.out | apply below_alloc | apply pw_below_drewN | apply below_drew1 | refine below_set ?_ GE161.out | refine below_set ?_ GE169.out) | exact HB.out)) hb)
                      clear HO166
                      clear HO172
                      clear BK161
                      clear BK169
                      clear HB
                      have HO166 := n0_
                      have HO172 := n1_
                      have BK161 := n2_
                      have BK169 := n3_
                      have HB := n4_
                      clear n0_ n1_ n2_ n3_ n4_
                      (try clear hb)
                      (try clear hb2)
                      (try clear hk)
                      (try clear hi)
                      refine hK.out _ _ ⟨(blk_cell BK169.out 0).trans rfl, (blk_cell BK169.out 1).trans rfl, (blk_cell BK169.out 2).trans rfl, (blk_cell BK161.out 0).trans rfl, (blk_cell BK161.out 1).trans rfl, (blk_cell BK161.out 2).trans rfl⟩ (fun hHeld => ?_)
                      clear hK K
                      refine norm_ (a' := ?_) ?_ ?_
                      rotate_left
                      · show Act.put _ (some 48) _ = _
                        simp only [Act.put, List.setIfInBounds_toArray, List.set_cons_zero, List.set_cons_succ, i64_w, i32_w]
                        rfl
                      refine one_ (i := 16) (N := some 51) #[true, true, true, true, true, true, true, true, true, true, true, true, true, true, true, true, true, false, false, false, false, false, false, false, false, false, false, false, false, false, false] rfl rfl (one_of HT_.out (by kernel_rfl)) (by decide) (fun K hK => ?_)
                      refine goes_ Try.func10 (by kernel_rfl) rfl #[.agg #[.slice Ao55 t164.length co55, .int .u32 t167, .int .u32 t168], .slice A2 l2.length c2] (by rfl) rfl rfl (by (try simp only [List.map_toArray, List.map_cons, List.map_nil]); first | done | rfl | (simp only [List.length_drop, List.length_take]; rfl)) ?_
                      with_reducible refine (spec_BloomHas.calls kj15 _ _ t164 t167 t168 _ _ l2 t178 _ ?side1 ?side2 ?side3 ?side4 A31.out).mono ?_
                      (case side1 => repeat (first | exact (Kd.R_reads' HO166.out).2.2 | (with_reducible refine Kd.C_alloc ?_ _) | (with_reducible refine Kd.C_drewN ?_ _) | (with_reducible refine Kd.C_drew ?_)))
                      (case side2 => exact (Kd.R_reads' HO166.out).2.1)
                      (case side3 => repeat (first | exact (Kd.C_below HR2.out HB.out) | (with_reducible refine Kd.C_alloc ?_ _) | (with_reducible refine Kd.C_drewN ?_ _) | (with_reducible refine Kd.C_drew ?_)))
                      (case side4 => exact HC2.out)
                      rintro e w65 ⟨rfl, hb⟩
                      refine ⟨_, rfl, ?_⟩
                      have n0_ := Aside0.mk (Kd.R_below (by (with_reducible repeat (first | apply Kd.R_alloc | apply Kd.R_drewN | apply Kd.R_drew)); exact HO166.out) hb)
                      have n1_ := Aside0.mk (Kd.R_below (by (with_reducible repeat (first | apply Kd.R_alloc | apply Kd.R_drewN | apply Kd.R_drew)); exact HO172.out) hb)
                      have n2_ := Aside0.mk (blk_below (g := gb161) (o := .cells #[.slice A0_0 l0_0.length c0_0, .int .u32 a0_1, .int .u32 a0_2] 25 (0, 0)) (by (with_reducible repeat (first | refine blk_drewN ?_ _ | refine blk_drew ?_ | refine blk_alloc ?_ _)); exact BK161.out) hb)
                      have n3_ := Aside0.mk (blk_below (g := gb169) (o := .cells #[.slice Ao55 t164.length co55, .int .u32 t167, .int .u32 t168] 25 (0, 0)) (by (with_reducible repeat (first | refine blk_drewN ?_ _ | refine blk_drew ?_ | refine blk_alloc ?_ _)); exact BK169.out) hb)
                      have n4_ := Aside0.mk (below_step (by repeat (first | (with_reducible first | exact HB.out | apply below_alloc | apply pw_below_drewN | apply below_drew1 | refine below_set ?_ GE161.out | refine below_set ?_ GE169.out) | exact HB.out)) hb)
                      clear HO166
                      clear HO172
                      clear BK161
                      clear BK169
                      clear HB
                      have HO166 := n0_
                      have HO172 := n1_
                      have BK161 := n2_
                      have BK169 := n3_
                      have HB := n4_
                      clear n0_ n1_ n2_ n3_ n4_
                      (try clear hb)
                      (try clear hb2)
                      (try clear hk)
                      (try clear hi)
                      refine hK.out _ _ ⟨(blk_cell BK169.out 0).trans rfl, (blk_cell BK169.out 1).trans rfl, (blk_cell BK169.out 2).trans rfl, (blk_cell BK161.out 0).trans rfl, (blk_cell BK161.out 1).trans rfl, (blk_cell BK161.out 2).trans rfl⟩ (fun hHeld => ?_)
                      clear hK K
                      refine norm_ (a' := ?_) ?_ ?_
                      rotate_left
                      · show Act.put _ (some 51) _ = _
                        simp only [Act.put, List.setIfInBounds_toArray, List.set_cons_zero, List.set_cons_succ, i64_w, i32_w]
                        rfl
                      refine pure_ (i := 17) (N := some 52) (v := ?_) (a' := ?_) #[true, true, true, true, true, true, true, true, true, true, true, true, true, true, true, true, true, true, false, false, false, false, false, false, false, false, false, false, false, false, false] rfl rfl (any_of HT_.out (by kernel_rfl)) (fun _ _ _ h => h) (Or.inl ⟨by rfl, ?_⟩) ?_ ?_
                      rotate_left
                      · intro w'
                        go_simp
                        with_reducible rfl
                      rotate_left
                      · simp only [Act.put, List.setIfInBounds_toArray, List.set_cons_zero, List.set_cons_succ, i64_w, i32_w]
                        rfl
                      refine pure_ (i := 18) (N := some 53) (v := ?_) (a' := ?_) #[true, true, true, true, true, true, true, true, true, true, true, true, true, true, true, true, true, true, true, false, false, false, false, false, false, false, false, false, false, false, false] rfl rfl (any_of HT_.out (by kernel_rfl)) (fun _ _ _ h => h) (Or.inl ⟨by rfl, ?_⟩) ?_ ?_
                      rotate_left
                      · intro w'
                        go_simp
                        with_reducible rfl
                      rotate_left
                      · simp only [Act.put, List.setIfInBounds_toArray, List.set_cons_zero, List.set_cons_succ, i64_w, i32_w]
                        rfl
                      refine pure_ (i := 19) (N := some 54) (v := ?_) (a' := ?_) #[true, true, true, true, true, true, true, true, true, true, true, true, true, true, true, true, true, true, true, true, false, false, false, false, false, false, false, false, false, false, false] rfl rfl (any_of HT_.out (by kernel_rfl)) (fun _ _ _ h => h) (Or.inl ⟨by rfl, ?_⟩) ?_ ?_
                      rotate_left
                      · intro w'
                        go_simp
                        with_reducible rfl
                      rotate_left
                      · simp only [Act.put, List.setIfInBounds_toArray, List.set_cons_zero, List.set_cons_succ, i64_w, i32_w]
                        rfl
                      refine pure_ (i := 21) (N := some 56) (v := ?_) (a' := ?_) #[true, true, true, true, true, true, true, true, true, true, true, true, true, true, true, true, true, true, true, true, false, true, false, false, false, false, false, false, false, false, false] rfl rfl (any_of HT_.out (by kernel_rfl)) (fun _ _ _ h => h) (Or.inl ⟨by rfl, ?_⟩) ?_ ?_
                      rotate_left
                      · intro w'
                        go_simp
                        with_reducible rfl
                      rotate_left
                      · simp only [Act.put, List.setIfInBounds_toArray, List.set_cons_zero, List.set_cons_succ, i64_w, i32_w]
                        rfl
                      refine take_ (i := 20) (N := some 55) (v := ?_) (a' := ?_) #[true, true, true, true, true, true, true, true, true, true, true, true, true, true, true, true, true, true, true, true, true, true, false, false, false, false, false, false, false, false, false] rfl rfl (take_ofW HT_.out HW_.out (by kernel_rfl)) (fun _ _ _ h => h) (Or.inl ⟨by rfl, ?_⟩) hHeld ?_ ?_
                      rotate_left
                      · rintro w' ⟨s0, s1, s2, s3, s4, s5⟩
                        go_simp
                        with_reducible rfl
                      rotate_left
                      · simp only [Act.put, List.setIfInBounds_toArray, List.set_cons_zero, List.set_cons_succ, i64_w, i32_w]
                        rfl
                      refine one_ (i := 22) (N := some 57) #[true, true, true, true, true, true, true, true, true, true, true, true, true, true, true, true, true, true, true, true, true, true, true, false, false, false, false, false, false, false, false] rfl rfl (one_of HT_.out (by kernel_rfl)) (by decide) (fun K hK => ?_)
                      refine goes_ Try.func9 (by kernel_rfl) rfl #[.agg #[.slice A0_0 l0_0.length c0_0, .int .u32 a0_1, .int .u32 a0_2], .slice A2 l2.length c2] (by rfl) rfl rfl (by (try simp only [List.map_toArray, List.map_cons, List.map_nil]); first | done | rfl | (simp only [List.length_drop, List.length_take]; rfl)) ?_
                      with_reducible refine (impl_BloomHas.calls _ _ l0_0 a0_1 a0_2 _ _ l2 false _ ?side1 ?side2 ?side3 ?side4 A33.out).mono ?_
                      (case side1 => repeat (first | exact (Kd.C_below HR0_0.out HB.out) | (with_reducible refine Kd.C_alloc ?_ _) | (with_reducible refine Kd.C_drewN ?_ _) | (with_reducible refine Kd.C_drew ?_)))
                      (case side2 => exact HC0_0.out)
                      (case side3 => repeat (first | exact (Kd.C_below HR2.out HB.out) | (with_reducible refine Kd.C_alloc ?_ _) | (with_reducible refine Kd.C_drewN ?_ _) | (with_reducible refine Kd.C_drew ?_)))
                      (case side4 => exact HC2.out)
                      rintro e w66 ⟨rfl, hb⟩
                      refine ⟨_, rfl, ?_⟩
                      have n0_ := Aside0.mk (Kd.R_below (by (with_reducible repeat (first | apply Kd.R_alloc | apply Kd.R_drewN | apply Kd.R_drew)); exact HO166.out) hb)
                      have n1_ := Aside0.mk (Kd.R_below (by (with_reducible repeat (first | apply Kd.R_alloc | apply Kd.R_drewN | apply Kd.R_drew)); exact HO172.out) hb)
                      have n2_ := Aside0.mk (blk_below (g := gb161) (o := .cells #[.slice A0_0 l0_0.length c0_0, .int .u32 a0_1, .int .u32 a0_2] 25 (0, 0)) (by (with_reducible repeat (first | refine blk_drewN ?_ _ | refine blk_drew ?_ | refine blk_alloc ?_ _)); exact BK161.out) hb)
                      have n3_ := Aside0.mk (blk_below (g := gb169) (o := .cells #[.slice Ao55 t164.length co55, .int .u32 t167, .int .u32 t168] 25 (0, 0)) (by (with_reducible repeat (first | refine blk_drewN ?_ _ | refine blk_drew ?_ | refine blk_alloc ?_ _)); exact BK169.out) hb)
                      have n4_ := Aside0.mk (below_step (by repeat (first | (with_reducible first | exact HB.out | apply below_alloc | apply pw_below_drewN | apply below_drew1 | refine below_set ?_ GE161.out | refine below_set ?_ GE169.out) | exact HB.out)) hb)
                      clear HO166
                      clear HO172
                      clear BK161
                      clear BK169
                      clear HB
                      have HO166 := n0_
                      have HO172 := n1_
                      have BK161 := n2_
                      have BK169 := n3_
                      have HB := n4_
                      clear n0_ n1_ n2_ n3_ n4_
                      (try clear hb)
                      (try clear hb2)
                      (try clear hk)
                      (try clear hi)
                      refine hK.out _ _ ⟨(blk_cell BK169.out 0).trans rfl, (blk_cell BK169.out 1).trans rfl, (blk_cell BK169.out 2).trans rfl, (blk_cell BK161.out 0).trans rfl, (blk_cell BK161.out 1).trans rfl, (blk_cell BK161.out 2).trans rfl⟩ (fun hHeld => ?_)
                      clear hK K
                      refine norm_ (a' := ?_) ?_ ?_
                      rotate_left
                      · show Act.put _ (some 57) _ = _
                        simp only [Act.put, List.setIfInBounds_toArray, List.set_cons_zero, List.set_cons_succ, i64_w, i32_w]
                        rfl
                      refine pure_ (i := 23) (N := some 58) (v := ?_) (a' := ?_) #[true, true, true, true, true, true, true, true, true, true, true, true, true, true, true, true, true, true, true, true, true, true, true, true, false, false, false, false, false, false, false] rfl rfl (any_of HT_.out (by kernel_rfl)) (fun _ _ _ h => h) (Or.inl ⟨by rfl, ?_⟩) ?_ ?_
                      rotate_left
                      · intro w'
                        go_simp
                        with_reducible rfl
                      rotate_left
                      · simp only [Act.put, List.setIfInBounds_toArray, List.set_cons_zero, List.set_cons_succ, i64_w, i32_w]
                        rfl
                      refine pure_ (i := 24) (N := some 59) (v := ?_) (a' := ?_) #[true, true, true, true, true, true, true, true, true, true, true, true, true, true, true, true, true, true, true, true, true, true, true, true, true, false, false, false, false, false, false] rfl rfl (any_of HT_.out (by kernel_rfl)) (fun _ _ _ h => h) (Or.inl ⟨by rfl, ?_⟩) ?_ ?_
                      rotate_left
                      · intro w'
                        go_simp
                        with_reducible rfl
                      rotate_left
                      · simp only [Act.put, List.setIfInBounds_toArray, List.set_cons_zero, List.set_cons_succ, i64_w, i32_w]
                        rfl
                      refine pure_ (i := 25) (N := some 60) (v := undef) (a' := ?_) #[true, true, true, true, true, true, true, true, true, true, true, true, true, true, true, true, true, true, true, true, true, true, true, true, true, true, false, false, false, false, false] rfl rfl (any_of HT_.out (by kernel_rfl)) (fun _ _ _ h => h) (Or.inr ⟨by rfl, rfl⟩) ?_ ?_
                      rotate_left
                      · simp only [Act.put, List.setIfInBounds_toArray, List.set_cons_zero, List.set_cons_succ, i64_w, i32_w]
                        rfl
                      refine pure_ (i := 26) (N := some 61) (v := undef) (a' := ?_) #[true, true, true, true, true, true, true, true, true, true, true, true, true, true, true, true, true, true, true, true, true, true, true, true, true, true, true, false, false, false, false] rfl rfl (any_of HT_.out (by kernel_rfl)) (fun _ _ _ h => h) (Or.inr ⟨by rfl, rfl⟩) ?_ ?_
                      rotate_left
                      · simp only [Act.put, List.setIfInBounds_toArray, List.set_cons_zero, List.set_cons_succ, i64_w, i32_w]
                        rfl
                      refine pure_ (i := 27) (N := some 62) (v := undef) (a' := ?_) #[true, true, true, true, true, true, true, true, true, true, true, true, true, true, true, true, true, true, true, true, true, true, true, true, true, true, true, true, false, false, false] rfl rfl (any_of HT_.out (by kernel_rfl)) (fun _ _ _ h => h) (Or.inr ⟨by rfl, rfl⟩) ?_ ?_
                      rotate_left
                      · simp only [Act.put, List.setIfInBounds_toArray, List.set_cons_zero, List.set_cons_succ, i64_w, i32_w]
                        rfl
                      refine pure_ (i := 28) (N := some 63) (v := ?_) (a' := ?_) #[true, true, true, true, true, true, true, true, true, true, true, true, true, true, true, true, true, true, true, true, true, true, true, true, true, true, true, true, true, false, false] rfl rfl (any_of HT_.out (by kernel_rfl)) (fun _ _ _ h => h) (Or.inl ⟨by rfl, ?_⟩) ?_ ?_
                      rotate_left
                      · intro w'
                        go_simp
                        with_reducible rfl
                      rotate_left
                      · simp only [Act.put, List.setIfInBounds_toArray, List.set_cons_zero, List.set_cons_succ, i64_w, i32_w]
                        rfl
                      refine pure_ (i := 29) (N := some 64) (v := ?_) (a' := ?_) #[true, true, true, true, true, true, true, true, true, true, true, true, true, true, true, true, true, true, true, true, true, true, true, true, true, true, true, true, true, true, false] rfl rfl (any_of HT_.out (by kernel_rfl)) (fun _ _ _ h => h) (Or.inl ⟨by rfl, ?_⟩) ?_ ?_
                      rotate_left
                      · intro w'
                        go_simp
                        with_reducible rfl
                      rotate_left
                      · simp only [Act.put, List.setIfInBounds_toArray, List.set_cons_zero, List.set_cons_succ, i64_w, i32_w]
                        rfl
                      refine pure_ (i := 30) (N := some 6) (v := ?_) (a' := ?_) #[true, true, true, true, true, true, true, true, true, true, true, true, true, true, true, true, true, true, true, true, true, true, true, true, true, true, true, true, true, true, true] rfl rfl (any_of HT_.out (by kernel_rfl)) (fun _ _ _ h => h) (Or.inl ⟨by rfl, ?_⟩) ?_ ?_
                      rotate_left
                      · intro w'
                        go_simp
                        with_reducible rfl
                      rotate_left
                      · simp only [Act.put, List.setIfInBounds_toArray, List.set_cons_zero, List.set_cons_succ, i64_w, i32_w]
                        rfl
                      refine done_ (done_of HT_.out (by kernel_rfl)) ?_
                      try go_wp2
                      go_ret
                      exact ⟨by first | rfl | (simp [errW_none, errW_some] <;> rfl) | (simp [*, errW_none, errW_some] <;> rfl), by repeat (first | (with_reducible first | exact HB.out | apply below_alloc | apply pw_below_drewN | apply below_drew1 | refine below_set ?_ GE161.out | refine below_set ?_ GE169.out) | exact HB.out)⟩
                  · rw [if_neg c32] at H
                    have c32b0 : (t177 == t178) = false := by simpa using c32
                    (try (have c32b1 : decide (t177 = t178) = false := by simpa using c32))
                    (try (have c32b2 : (t177 == t178) = false := by simpa using c32))
                    (try (have c32b3 : ¬ (t177 = t178) := by simpa using c32))
                    clear c32
                    obtain rfl := Option.some.inj H
                    have hcz67_0 : wc.cell? ⟨gb161, 0, none⟩ = some (.slice A0_0 l0_0.length c0_0) := (blk_cell BK161.out 0).trans rfl
                    have hcz67_1 : wc.cell? ⟨gb161, 1, none⟩ = some (.int .u32 a0_1) := (blk_cell BK161.out 1).trans rfl
                    have hcz67_2 : wc.cell? ⟨gb161, 2, none⟩ = some (.int .u32 a0_2) := (blk_cell BK161.out 2).trans rfl
                    have hfz67_0 := blk_frozen BK161.out 0
                    have hfz67_1 := blk_frozen BK161.out 1
                    have hfz67_2 := blk_frozen BK161.out 2
                    try go_wp2_with (first | ((with_reducible refine gate_callee (f := 6) rfl ?_); refine goesL_ (some 34) rfl rfl Try.func6 (by kernel_rfl) rfl #[.agg #[.slice A0_0 l0_0.length c0_0, .int .u32 a0_1, .int .u32 a0_2], .slice A1 l1.length c1] rfl (by (try simp only [List.map_toArray, List.map_cons, List.map_nil]); first | done | rfl | (simp only [List.length_drop, List.length_take]; rfl)) ?_; (with_reducible refine (impl_BloomAdd.calls _ _ l0_0 a0_1 a0_2 _ _ l1 t164 t167 t168 _ ?side1 ?side2 ?side3 ?side4 A24.out).mono ?_); (case side1 => repeat (first | exact (Kd.C_below HR0_0.out HB.out) | (with_reducible refine Kd.C_alloc ?_ _) | (with_reducible refine Kd.C_drewN ?_ _) | (with_reducible refine Kd.C_drew ?_))); (case side2 => exact HC0_0.out); (case side3 => repeat (first | exact (Kd.C_below HR1.out HB.out) | (with_reducible refine Kd.C_alloc ?_ _) | (with_reducible refine Kd.C_drewN ?_ _) | (with_reducible refine Kd.C_drew ?_))); (case side4 => exact HC1.out); rintro e w68 ⟨v165, rfl, ho0, hb⟩; refine ⟨_, rfl, ?_⟩; have n0_ := Aside0.mk (Kd.R_lower ho0 (below_size (by repeat (first | (with_reducible first | exact HB.out | apply below_alloc | apply pw_below_drewN | apply below_drew1 | refine below_set ?_ GE161.out) | exact HB.out)))); have n1_ := Aside0.mk (blk_below (g := gb161) (o := .cells #[.slice A0_0 l0_0.length c0_0, .int .u32 a0_1, .int .u32 a0_2] 25 (0, 0)) (by (with_reducible repeat (first | refine blk_drewN ?_ _ | refine blk_drew ?_ | refine blk_alloc ?_ _)); exact BK161.out) hb); have n2_ := Aside0.mk (below_step (by repeat (first | (with_reducible first | exact HB.out | apply below_alloc | apply pw_below_drewN | apply below_drew1 | refine below_set ?_ GE161.out) | exact HB.out)) hb); clear BK161; clear HB; have HO166 := n0_; have BK161 := n1_; have HB := n2_; clear n0_ n1_ n2_; (try clear hb); (try clear hb2); (try clear hk); (try clear hi); (try clear ho0)) | ((with_reducible refine gate_dst (N := 7) rfl ?_); (try (refine gate_guard (by rfl) ?_; dsimp only)); refine box_event ?hg (N := 7) ?hd (cs := #[.slice none 0 0, .int .u32 0, .int .u32 0]) (t := 25) ?hr ?_; (case hd => rfl); (case hg => rfl); (case hr => first | (go_simp; done) | (go_simp; rfl)); intro gb169 hg w69 hbox hb; have n0_ := Aside0.mk (Kd.R_below (by (with_reducible repeat (first | apply Kd.R_alloc | apply Kd.R_drewN | apply Kd.R_drew)); exact HO166.out) hb); have n1_ := Aside0.mk (blk_below (g := gb161) (o := .cells #[.slice A0_0 l0_0.length c0_0, .int .u32 a0_1, .int .u32 a0_2] 25 (0, 0)) (by (with_reducible repeat (first | refine blk_drewN ?_ _ | refine blk_drew ?_ | refine blk_alloc ?_ _)); exact BK161.out) hb); have n2_ := Aside0.mk (below_step (by repeat (first | (with_reducible first | exact HB.out | apply below_alloc | apply pw_below_drewN | apply below_drew1 | refine below_set ?_ GE161.out) | exact HB.out)) hb); have n3_ := Aside0.mk (hbox); have n4_ := Aside0.mk ((by rw [hg]; exact (below_size (by repeat (first | (with_reducible first | exact HB.out | apply below_alloc | apply pw_below_drewN | apply below_drew1 | refine below_set ?_ GE161.out) | exact HB.out))) : w.heap.size ≤ gb169)); have n5_ := Aside0.mk ((by rw [hg]; exact (below_size (by repeat (first | (with_reducible first | exact HB.out | apply below_alloc | apply pw_below_drewN | apply below_drew1 | refine below_set ?_ GE161.out) | exact HB.out))) : w.heap.size ≤ gb169)); have n6_ := Aside0.mk ((by rw [hg]; exact Nat.ne_of_lt (blk_lt (g := gb161) (o := .cells #[.slice A0_0 l0_0.length c0_0, .int .u32 a0_1, .int .u32 a0_2] 25 (0, 0)) (by (with_reducible repeat (first | refine blk_drewN ?_ _ | refine blk_drew ?_ | refine blk_alloc ?_ _)); exact BK161.out)) : gb161 ≠ gb169)); have n7_ := Aside0.mk ((by rw [hg]; exact Nat.ne_of_gt (blk_lt (g := gb161) (o := .cells #[.slice A0_0 l0_0.length c0_0, .int .u32 a0_1, .int .u32 a0_2] 25 (0, 0)) (by (with_reducible repeat (first | refine blk_drewN ?_ _ | refine blk_drew ?_ | refine blk_alloc ?_ _)); exact BK161.out)) : gb169 ≠ gb161)); clear HO166; clear BK161; clear HB; have HO166 := n0_; have BK161 := n1_; have HB := n2_; have BK169 := n3_; have GW169 := n4_; have GE169 := n5_; have NB161_169 := n6_; have NB169_161 := n7_; clear n0_ n1_ n2_ n3_ n4_ n5_ n6_ n7_; clear hb hbox hg; obtain ⟨Ao70, co70, eo70⟩ := Kd.R_slice HO166.out; subst eo70; have hnb71 := NB169_161.out; have hnc71 := NB161_169.out; have hcz72_0 : w69.cell? ⟨gb169, 0, none⟩ = some (.slice none 0 0) := (blk_cell BK169.out 0).trans rfl; have hcz72_1 : w69.cell? ⟨gb169, 1, none⟩ = some (.int .u32 0) := (blk_cell BK169.out 1).trans rfl; have hcz72_2 : w69.cell? ⟨gb169, 2, none⟩ = some (.int .u32 0) := (blk_cell BK169.out 2).trans rfl; have hfz72_0 := blk_frozen BK169.out 0; have hfz72_1 := blk_frozen BK169.out 1; have hfz72_2 := blk_frozen BK169.out 2))
                    have n0_ : Aside0 (Kd.R (Kd.int .u8) 5 (((w69.setCell ⟨gb169, 0, none⟩ (.slice Ao70 t164.length co70)).setCell ⟨gb169, 1, none⟩ (.int .u32 t167)).setCell ⟨gb169, 2, none⟩ (.int .u32 t168)) w.heap.size (fun _ => True) (.slice Ao70 t164.length co70) t164) := ⟨by (with_reducible repeat (first | apply Kd.R_alloc | apply Kd.R_drewN | apply Kd.R_drew)); exact Kd.R_mono (Kd.R_far (p := ⟨gb169, 2, none⟩) (Kd.R_far (p := ⟨gb169, 1, none⟩) (Kd.R_far (p := ⟨gb169, 0, none⟩) (Kd.R_types HO166.out BK169.out (by decide)) (fun _ hk => hk.2) (.slice Ao70 t164.length co70)) (fun _ hk => hk.2) (.int .u32 t167)) (fun _ hk => hk.2) (.int .u32 t168)) (fun _ hk => trivial)⟩
                    have n1_ : Aside0 ((((w69.setCell ⟨gb169, 0, none⟩ (.slice Ao70 t164.length co70)).setCell ⟨gb169, 1, none⟩ (.int .u32 t167)).setCell ⟨gb169, 2, none⟩ (.int .u32 t168)).heap[gb161]? = some (.cells #[.slice A0_0 l0_0.length c0_0, .int .u32 a0_1, .int .u32 a0_2] 25 (0, 0))) := ⟨by (with_reducible repeat (first | refine blk_drewN ?_ _ | refine blk_drew ?_ | refine blk_alloc ?_ _)); refine blk_far ?_ NB161_169.out _; (with_reducible repeat (first | refine blk_drewN ?_ _ | refine blk_drew ?_ | refine blk_alloc ?_ _)); refine blk_far ?_ NB161_169.out _; (with_reducible repeat (first | refine blk_drewN ?_ _ | refine blk_drew ?_ | refine blk_alloc ?_ _)); refine blk_far ?_ NB161_169.out _; (with_reducible repeat (first | refine blk_drewN ?_ _ | refine blk_drew ?_ | refine blk_alloc ?_ _)); exact BK161.out⟩
                    have n2_ : Aside0 ((((w69.setCell ⟨gb169, 0, none⟩ (.slice Ao70 t164.length co70)).setCell ⟨gb169, 1, none⟩ (.int .u32 t167)).setCell ⟨gb169, 2, none⟩ (.int .u32 t168)).heap[gb169]? = some (.cells #[.slice Ao70 t164.length co70, .int .u32 t167, .int .u32 t168] 25 (0, 0))) := ⟨by (with_reducible repeat (first | refine blk_drewN ?_ _ | refine blk_drew ?_ | refine blk_alloc ?_ _)); refine blk_put (cs := #[.slice Ao70 t164.length co70, .int .u32 t167, .int .u32 0]) ?_ 2 _ rfl; (with_reducible repeat (first | refine blk_drewN ?_ _ | refine blk_drew ?_ | refine blk_alloc ?_ _)); refine blk_put (cs := #[.slice Ao70 t164.length co70, .int .u32 0, .int .u32 0]) ?_ 1 _ rfl; (with_reducible repeat (first | refine blk_drewN ?_ _ | refine blk_drew ?_ | refine blk_alloc ?_ _)); refine blk_put (cs := #[.slice none 0 0, .int .u32 0, .int .u32 0]) ?_ 0 _ rfl; (with_reducible repeat (first | refine blk_drewN ?_ _ | refine blk_drew ?_ | refine blk_alloc ?_ _)); exact BK169.out⟩
                    have n3_ : Aside0 (Below w.heap.size w (((w69.setCell ⟨gb169, 0, none⟩ (.slice Ao70 t164.length co70)).setCell ⟨gb169, 1, none⟩ (.int .u32 t167)).setCell ⟨gb169, 2, none⟩ (.int .u32 t168))) := ⟨by repeat (first | (with_reducible first | exact HB.out | apply below_alloc | apply pw_below_drewN | apply below_drew1 | refine below_set ?_ GE161.out | refine below_set ?_ GE169.out) | exact HB.out)⟩
                    (try clear HO166)
                    (try clear BK161)
                    (try clear BK169)
                    (try clear HB)
                    generalize (((w69.setCell ⟨gb169, 0, none⟩ (.slice Ao70 t164.length co70)).setCell ⟨gb169, 1, none⟩ (.int .u32 t167)).setCell ⟨gb169, 2, none⟩ (.int .u32 t168)) = w73 at n0_ n1_ n2_ n3_ ⊢
                    have HO166 := n0_
                    have BK161 := n1_
                    have BK169 := n2_
                    have HB := n3_
                    clear n0_ n1_ n2_ n3_
                    have n0_ := Aside0.mk (Kd.R_drew HO166.out)
                    have n1_ := Aside0.mk (blk_drew BK161.out)
                    have n2_ := Aside0.mk (blk_drew BK169.out)
                    have n3_ := Aside0.mk (below_drew1 HB.out)
                    clear HO166
                    clear BK161
                    clear BK169
                    clear HB
                    have HO166 := n0_
                    have BK161 := n1_
                    have BK169 := n2_
                    have HB := n3_
                    clear n0_ n1_ n2_ n3_
                    refine start_ (n := 31) (S := fun w' => w'.cell? ⟨gb169, 0, none⟩ = some (.slice Ao70 t164.length co70) ∧ w'.cell? ⟨gb169, 1, none⟩ = some (.int .u32 t167) ∧ w'.cell? ⟨gb169, 2, none⟩ = some (.int .u32 t168) ∧ w'.cell? ⟨gb161, 0, none⟩ = some (.slice A0_0 l0_0.length c0_0) ∧ w'.cell? ⟨gb161, 1, none⟩ = some (.int .u32 a0_1) ∧ w'.cell? ⟨gb161, 2, none⟩ = some (.int .u32 a0_2)) (ds := []) #[false, false, false, false, false, false, false, false, false, false, false, false, false, false, false, false, false, false, false, false, false, false, false, false, false, false, false, false, false, false, false] (by kernel_rfl) rfl rfl ⟨(blk_cell BK169.out 0).trans rfl, (blk_cell BK169.out 1).trans rfl, (blk_cell BK169.out 2).trans rfl, (blk_cell BK161.out 0).trans rfl, (blk_cell BK161.out 1).trans rfl, (blk_cell BK161.out 2).trans rfl⟩ (fun hHeld => ?_); refine with_tabW laws_FnBloom.tab6 laws_FnBloom.bits6 (fun HT_ HW_ => ?_)
                    generalize w73.drew = w74 at HO166 BK161 BK169 HB hHeld ⊢
                    refine pure_ (i := 2) (N := some 37) (v := ?_) (a' := ?_) #[false, false, true, false, false, false, false, false, false, false, false, false, false, false, false, false, false, false, false, false, false, false, false, false, false, false, false, false, false, false, false] rfl rfl (any_of HT_.out (by kernel_rfl)) (fun _ _ _ h => h) (Or.inl ⟨by rfl, ?_⟩) ?_ ?_
                    rotate_left
                    · intro w'
                      go_simp
                      with_reducible rfl
                    rotate_left
                    · simp only [Act.put, List.setIfInBounds_toArray, List.set_cons_zero, List.set_cons_succ, i64_w, i32_w]
                      rfl
                    refine take_ (i := 0) (N := some 35) (v := ?_) (a' := ?_) #[true, false, true, false, false, false, false, false, false, false, false, false, false, false, false, false, false, false, false, false, false, false, false, false, false, false, false, false, false, false, false] rfl rfl (take_ofW HT_.out HW_.out (by kernel_rfl)) (fun _ _ _ h => h) (Or.inl ⟨by rfl, ?_⟩) hHeld ?_ ?_
                    rotate_left
                    · rintro w' ⟨s0, s1, s2, s3, s4, s5⟩
                      go_simp
                      with_reducible rfl
                    rotate_left
                    · simp only [Act.put, List.setIfInBounds_toArray, List.set_cons_zero, List.set_cons_succ, i64_w, i32_w]
                      rfl
                    refine take_ (i := 1) (N := some 36) (v := ?_) (a' := ?_) #[true, true, true, false, false, false, false, false, false, false, false, false, false, false, false, false, false, false, false, false, false, false, false, false, false, false, false, false, false, false, false] rfl rfl (take_ofW HT_.out HW_.out (by kernel_rfl)) (fun _ _ _ h => h) (Or.inl ⟨by rfl, ?_⟩) hHeld ?_ ?_
                    rotate_left
                    · rintro w' ⟨s0, s1, s2, s3, s4, s5⟩
                      go_simp
                      with_reducible rfl
                    rotate_left
                    · simp only [Act.put, List.setIfInBounds_toArray, List.set_cons_zero, List.set_cons_succ, i64_w, i32_w]
                      rfl
                    refine one_ (i := 3) (N := some 38) #[true, true, true, true, false, false, false, false, false, false, false, false, false, false, false, false, false, false, false, false, false, false, false, false, false, false, false, false, false, false, false] rfl rfl (one_of HT_.out (by kernel_rfl)) (by decide) (fun K hK => ?_)
                    refine goes_ Try.func8 (by kernel_rfl) rfl #[.agg #[.slice A0_0 l0_0.length c0_0, .int .u32 a0_1, .int .u32 a0_2], .slice A1 l1.length c1] (by rfl) rfl rfl (by (try simp only [List.map_toArray, List.map_cons, List.map_nil]); first | done | rfl | (simp only [List.length_drop, List.length_take]; rfl)) ?_
                    with_reducible refine (spec_BloomAdd.calls kj15 _ _ l0_0 a0_1 a0_2 _ _ l1 t170 t173 t174 _ ?side1 ?side2 ?side3 ?side4 A25.out).mono ?_
                    (case side1 => repeat (first | exact (Kd.C_below HR0_0.out HB.out) | (with_reducible refine Kd.C_alloc ?_ _) | (with_reducible refine Kd.C_drewN ?_ _) | (with_reducible refine Kd.C_drew ?_)))
                    (case side2 => exact HC0_0.out)
                    (case side3 => repeat (first | exact (Kd.C_below HR1.out HB.out) | (with_reducible refine Kd.C_alloc ?_ _) | (with_reducible refine Kd.C_drewN ?_ _) | (with_reducible refine Kd.C_drew ?_)))
                    (case side4 => exact HC1.out)
                    rintro e w75 ⟨v171, rfl, ho0, hb⟩
                    refine ⟨_, rfl, ?_⟩
                    have n0_ := Aside0.mk (Kd.R_elder' (by (with_reducible repeat (first | apply Kd.R_alloc | apply Kd.R_drewN | apply Kd.R_drew)); exact HO166.out) (Kd.R_base ho0) hb)
                    have n1_ := Aside0.mk (Kd.R_lower (Kd.R_new' ho0 (Kd.R_lt (by (with_reducible repeat (first | apply Kd.R_alloc | apply Kd.R_drewN | apply Kd.R_drew)); exact HO166.out))) (below_size (by repeat (first | (with_reducible first | exact HB.out | apply below_alloc | apply pw_below_drewN | apply below_drew1 | refine below_set ?_ GE161.out | refine below_set ?_ GE169.out) | exact HB.out))))
                    have n2_ := Aside0.mk (blk_below (g := gb161) (o := .cells #[.slice A0_0 l0_0.length c0_0, .int .u32 a0_1, .int .u32 a0_2] 25 (0, 0)) (by (with_reducible repeat (first | refine blk_drewN ?_ _ | refine blk_drew ?_ | refine blk_alloc ?_ _)); exact BK161.out) hb)
                    have n3_ := Aside0.mk (blk_below (g := gb169) (o := .cells #[.slice Ao70 t164.length co70, .int .u32 t167, .int .u32 t168] 25 (0, 0)) (by (with_reducible repeat (first | refine blk_drewN ?_ _ | refine blk_drew ?_ | refine blk_alloc ?_ _)); exact BK169.out) hb)
                    have n4_ := Aside0.mk (below_step (by repeat (first | (with_reducible first | exact HB.out | apply below_alloc | apply pw_below_drewN | apply below_drew1 | refine below_set ?_ GE161.out | refine below_set ?_ GE169.out) | exact HB.out)) hb)
                    clear HO166
                    clear BK161
                    clear BK169
                    clear HB
                    have HO166 := n0_
                    have HO172 := n1_
                    have BK161 := n2_
                    have BK169 := n3_
                    have HB := n4_
                    clear n0_ n1_ n2_ n3_ n4_
                    (try clear hb)
                    (try clear hb2)
                    (try clear hk)
                    (try clear hi)
                    (try clear ho0)
                    obtain ⟨Ao76, co76, eo76⟩ := Kd.R_slice HO172.out
                    (first | subst eo76 | (injection eo76 with f1_ f2_ f3_; have f4_ := f1_.symm; have f5_ := f3_.symm; clear f1_ f2_ f3_; subst f4_; subst f5_))
                    refine hK.out _ _ ⟨(blk_cell BK169.out 0).trans rfl, (blk_cell BK169.out 1).trans rfl, (blk_cell BK169.out 2).trans rfl, (blk_cell BK161.out 0).trans rfl, (blk_cell BK161.out 1).trans rfl, (blk_cell BK161.out 2).trans rfl⟩ (fun hHeld => ?_)
                    clear hK K
                    refine norm_ (a' := ?_) ?_ ?_
                    rotate_left
                    · show Act.put _ (some 38) _ = _
                      simp only [Act.put, List.setIfInBounds_toArray, List.set_cons_zero, List.set_cons_succ, i64_w, i32_w]
                      rfl
                    refine one_ (i := 4) (N := some 39) #[true, true, true, true, true, false, false, false, false, false, false, false, false, false, false, false, false, false, false, false, false, false, false, false, false, false, false, false, false, false, false] rfl rfl (one_of HT_.out (by kernel_rfl)) (by decide) (fun K hK => ?_)
                    refine goes_ Try.func7 (by kernel_rfl) rfl #[.agg #[.slice Ao70 t164.length co70, .int .u32 t167, .int .u32 t168], .agg #[.slice Ao76 t170.length co76, .int .u32 t173, .int .u32 t174]] (by rfl) rfl rfl (by (try simp only [List.map_toArray, List.map_cons, List.map_nil]); first | done | rfl | (simp only [List.length_drop, List.length_take]; rfl)) ?_
                    with_reducible refine (laws_sameBloom.calls kj15 _ _ t164 t167 t168 _ _ t170 t173 t174 true _ ?side1 ?side2 ?side3 ?side4 A26.out).mono ?_
                    (case side1 => repeat (first | exact (Kd.R_reads' HO166.out).2.2 | (with_reducible refine Kd.C_alloc ?_ _) | (with_reducible refine Kd.C_drewN ?_ _) | (with_reducible refine Kd.C_drew ?_)))
                    (case side2 => exact (Kd.R_reads' HO166.out).2.1)
                    (case side3 => repeat (first | exact (Kd.R_reads' HO172.out).2.2 | (with_reducible refine Kd.C_alloc ?_ _) | (with_reducible refine Kd.C_drewN ?_ _) | (with_reducible refine Kd.C_drew ?_)))
                    (case side4 => exact (Kd.R_reads' HO172.out).2.1)
                    rintro e w77 ⟨rfl, hb⟩
                    refine ⟨_, rfl, ?_⟩
                    have n0_ := Aside0.mk (Kd.R_below (by (with_reducible repeat (first | apply Kd.R_alloc | apply Kd.R_drewN | apply Kd.R_drew)); exact HO166.out) hb)
                    have n1_ := Aside0.mk (Kd.R_below (by (with_reducible repeat (first | apply Kd.R_alloc | apply Kd.R_drewN | apply Kd.R_drew)); exact HO172.out) hb)
                    have n2_ := Aside0.mk (blk_below (g := gb161) (o := .cells #[.slice A0_0 l0_0.length c0_0, .int .u32 a0_1, .int .u32 a0_2] 25 (0, 0)) (by (with_reducible repeat (first | refine blk_drewN ?_ _ | refine blk_drew ?_ | refine blk_alloc ?_ _)); exact BK161.out) hb)
                    have n3_ := Aside0.mk (blk_below (g := gb169) (o := .cells #[.slice Ao70 t164.length co70, .int .u32 t167, .int .u32 t168] 25 (0, 0)) (by (with_reducible repeat (first | refine blk_drewN ?_ _ | refine blk_drew ?_ | refine blk_alloc ?_ _)); exact BK169.out) hb)
                    have n4_ := Aside0.mk (below_step (by repeat (first | (with_reducible first | exact HB.out | apply below_alloc | apply pw_below_drewN | apply below_drew1 | refine below_set ?_ GE161.out | refine below_set ?_ GE169.out) | exact HB.out)) hb)
                    clear HO166
                    clear HO172
                    clear BK161
                    clear BK169
                    clear HB
                    have HO166 := n0_
                    have HO172 := n1_
                    have BK161 := n2_
                    have BK169 := n3_
                    have HB := n4_
                    clear n0_ n1_ n2_ n3_ n4_
                    (try clear hb)
                    (try clear hb2)
                    (try clear hk)
                    (try clear hi)
                    refine hK.out _ _ ⟨(blk_cell BK169.out 0).trans rfl, (blk_cell BK169.out 1).trans rfl, (blk_cell BK169.out 2).trans rfl, (blk_cell BK161.out 0).trans rfl, (blk_cell BK161.out 1).trans rfl, (blk_cell BK161.out 2).trans rfl⟩ (fun hHeld => ?_)
                    clear hK K
                    refine norm_ (a' := ?_) ?_ ?_
                    rotate_left
                    · show Act.put _ (some 39) _ = _
                      simp only [Act.put, List.setIfInBounds_toArray, List.set_cons_zero, List.set_cons_succ, i64_w, i32_w]
                      rfl
                    refine pure_ (i := 5) (N := some 40) (v := ?_) (a' := ?_) #[true, true, true, true, true, true, false, false, false, false, false, false, false, false, false, false, false, false, false, false, false, false, false, false, false, false, false, false, false, false, false] rfl rfl (any_of HT_.out (by kernel_rfl)) (fun _ _ _ h => h) (Or.inl ⟨by rfl, ?_⟩) ?_ ?_
                    rotate_left
                    · intro w'
                      go_simp
                      with_reducible rfl
                    rotate_left
                    · simp only [Act.put, List.setIfInBounds_toArray, List.set_cons_zero, List.set_cons_succ, i64_w, i32_w]
                      rfl
                    refine pure_ (i := 7) (N := some 42) (v := ?_) (a' := ?_) #[true, true, true, true, true, true, false, true, false, false, false, false, false, false, false, false, false, false, false, false, false, false, false, false, false, false, false, false, false, false, false] rfl rfl (any_of HT_.out (by kernel_rfl)) (fun _ _ _ h => h) (Or.inl ⟨by rfl, ?_⟩) ?_ ?_
                    rotate_left
                    · intro w'
                      go_simp
                      with_reducible rfl
                    rotate_left
                    · simp only [Act.put, List.setIfInBounds_toArray, List.set_cons_zero, List.set_cons_succ, i64_w, i32_w]
                      rfl
                    refine take_ (i := 6) (N := some 41) (v := ?_) (a' := ?_) #[true, true, true, true, true, true, true, true, false, false, false, false, false, false, false, false, false, false, false, false, false, false, false, false, false, false, false, false, false, false, false] rfl rfl (take_ofW HT_.out HW_.out (by kernel_rfl)) (fun _ _ _ h => h) (Or.inl ⟨by rfl, ?_⟩) hHeld ?_ ?_
                    rotate_left
                    · rintro w' ⟨s0, s1, s2, s3, s4, s5⟩
                      go_simp
                      with_reducible rfl
                    rotate_left
                    · simp only [Act.put, List.setIfInBounds_toArray, List.set_cons_zero, List.set_cons_succ, i64_w, i32_w]
                      rfl
                    refine one_ (i := 8) (N := some 43) #[true, true, true, true, true, true, true, true, true, false, false, false, false, false, false, false, false, false, false, false, false, false, false, false, false, false, false, false, false, false, false] rfl rfl (one_of HT_.out (by kernel_rfl)) (by decide) (fun K hK => ?_)
                    refine goes_ Try.func9 (by kernel_rfl) rfl #[.agg #[.slice Ao70 t164.length co70, .int .u32 t167, .int .u32 t168], .slice A1 l1.length c1] (by rfl) rfl rfl (by (try simp only [List.map_toArray, List.map_cons, List.map_nil]); first | done | rfl | (simp only [List.length_drop, List.length_take]; rfl)) ?_
                    with_reducible refine (impl_BloomHas.calls _ _ t164 t167 t168 _ _ l1 true _ ?side1 ?side2 ?side3 ?side4 A28.out).mono ?_
                    (case side1 => repeat (first | exact (Kd.R_reads' HO166.out).2.2 | (with_reducible refine Kd.C_alloc ?_ _) | (with_reducible refine Kd.C_drewN ?_ _) | (with_reducible refine Kd.C_drew ?_)))
                    (case side2 => exact (Kd.R_reads' HO166.out).2.1)
                    (case side3 => repeat (first | exact (Kd.C_below HR1.out HB.out) | (with_reducible refine Kd.C_alloc ?_ _) | (with_reducible refine Kd.C_drewN ?_ _) | (with_reducible refine Kd.C_drew ?_)))
                    (case side4 => exact HC1.out)
                    rintro e w78 ⟨rfl, hb⟩
                    refine ⟨_, rfl, ?_⟩
                    have n0_ := Aside0.mk (Kd.R_below (by (with_reducible repeat (first | apply Kd.R_alloc | apply Kd.R_drewN | apply Kd.R_drew)); exact HO166.out) hb)
                    have n1_ := Aside0.mk (Kd.R_below (by (with_reducible repeat (first | apply Kd.R_alloc | apply Kd.R_drewN | apply Kd.R_drew)); exact HO172.out) hb)
                    have n2_ := Aside0.mk (blk_below (g := gb161) (o := .cells #[.slice A0_0 l0_0.length c0_0, .int .u32 a0_1, .int .u32 a0_2] 25 (0, 0)) (by (with_reducible repeat (first | refine blk_drewN ?_ _ | refine blk_drew ?_ | refine blk_alloc ?_ _)); exact BK161.out) hb)
                    have n3_ := Aside0.mk (blk_below (g := gb169) (o := .cells #[.slice Ao70 t164.length co70, .int .u32 t167, .int .u32 t168] 25 (0, 0)) (by (with_reducible repeat (first | refine blk_drewN ?_ _ | refine blk_drew ?_ | refine blk_alloc ?_ _)); exact BK169.out) hb)
                    have n4_ := Aside0.mk (below_step (by repeat (first | (with_reducible first | exact HB.out | apply below_alloc | apply pw_below_drewN | apply below_drew1 | refine below_set ?_ GE161.out | refine below_set ?_ GE169.out) | exact HB.out)) hb)
                    clear HO166
                    clear HO172
                    clear BK161
                    clear BK169
                    clear HB
                    have HO166 := n0_
                    have HO172 := n1_
                    have BK161 := n2_
                    have BK169 := n3_
                    have HB := n4_
                    clear n0_ n1_ n2_ n3_ n4_
                    (try clear hb)
                    (try clear hb2)
                    (try clear hk)
                    (try clear hi)
                    refine hK.out _ _ ⟨(blk_cell BK169.out 0).trans rfl, (blk_cell BK169.out 1).trans rfl, (blk_cell BK169.out 2).trans rfl, (blk_cell BK161.out 0).trans rfl, (blk_cell BK161.out 1).trans rfl, (blk_cell BK161.out 2).trans rfl⟩ (fun hHeld => ?_)
                    clear hK K
                    refine norm_ (a' := ?_) ?_ ?_
                    rotate_left
                    · show Act.put _ (some 43) _ = _
                      simp only [Act.put, List.setIfInBounds_toArray, List.set_cons_zero, List.set_cons_succ, i64_w, i32_w]
                      rfl
                    refine pure_ (i := 9) (N := some 44) (v := ?_) (a' := ?_) #[true, true, true, true, true, true, true, true, true, true, false, false, false, false, false, false, false, false, false, false, false, false, false, false, false, false, false, false, false, false, false] rfl rfl (any_of HT_.out (by kernel_rfl)) (fun _ _ _ h => h) (Or.inl ⟨by rfl, ?_⟩) ?_ ?_
                    rotate_left
                    · intro w'
                      go_simp
                      with_reducible rfl
                    rotate_left
                    · simp only [Act.put, List.setIfInBounds_toArray, List.set_cons_zero, List.set_cons_succ, i64_w, i32_w]
                      rfl
                    refine pure_ (i := 10) (N := some 45) (v := ?_) (a' := ?_) #[true, true, true, true, true, true, true, true, true, true, true, false, false, false, false, false, false, false, false, false, false, false, false, false, false, false, false, false, false, false, false] rfl rfl (any_of HT_.out (by kernel_rfl)) (fun _ _ _ h => h) (Or.inl ⟨by rfl, ?_⟩) ?_ ?_
                    rotate_left
                    · intro w'
                      go_simp
                      with_reducible rfl
                    rotate_left
                    · simp only [Act.put, List.setIfInBounds_toArray, List.set_cons_zero, List.set_cons_succ, i64_w, i32_w]
                      rfl
                    refine pure_ (i := 12) (N := some 47) (v := ?_) (a' := ?_) #[true, true, true, true, true, true, true, true, true, true, true, false, true, false, false, false, false, false, false, false, false, false, false, false, false, false, false, false, false, false, false] rfl rfl (any_of HT_.out (by kernel_rfl)) (fun _ _ _ h => h) (Or.inl ⟨by rfl, ?_⟩) ?_ ?_
                    rotate_left
                    · intro w'
                      go_simp
                      with_reducible rfl
                    rotate_left
                    · simp only [Act.put, List.setIfInBounds_toArray, List.set_cons_zero, List.set_cons_succ, i64_w, i32_w]
                      rfl
                    refine pure_ (i := 15) (N := some 50) (v := ?_) (a' := ?_) #[true, true, true, true, true, true, true, true, true, true, true, false, true, false, false, true, false, false, false, false, false, false, false, false, false, false, false, false, false, false, false] rfl rfl (any_of HT_.out (by kernel_rfl)) (fun _ _ _ h => h) (Or.inl ⟨by rfl, ?_⟩) ?_ ?_
                    rotate_left
                    · intro w'
                      go_simp
                      with_reducible rfl
                    rotate_left
                    · simp only [Act.put, List.setIfInBounds_toArray, List.set_cons_zero, List.set_cons_succ, i64_w, i32_w]
                      rfl
                    refine take_ (i := 11) (N := some 46) (v := ?_) (a' := ?_) #[true, true, true, true, true, true, true, true, true, true, true, true, true, false, false, true, false, false, false, false, false, false, false, false, false, false, false, false, false, false, false] rfl rfl (take_ofW HT_.out HW_.out (by kernel_rfl)) (fun _ _ _ h => h) (Or.inl ⟨by rfl, ?_⟩) hHeld ?_ ?_
                    rotate_left
                    · rintro w' ⟨s0, s1, s2, s3, s4, s5⟩
                      go_simp
                      with_reducible rfl
                    rotate_left
                    · simp only [Act.put, List.setIfInBounds_toArray, List.set_cons_zero, List.set_cons_succ, i64_w, i32_w]
                      rfl
                    refine take_ (i := 14) (N := some 49) (v := ?_) (a' := ?_) #[true, true, true, true, true, true, true, true, true, true, true, true, true, false, true, true, false, false, false, false, false, false, false, false, false, false, false, false, false, false, false] rfl rfl (take_ofW HT_.out HW_.out (by kernel_rfl)) (fun _ _ _ h => h) (Or.inl ⟨by rfl, ?_⟩) hHeld ?_ ?_
                    rotate_left
                    · rintro w' ⟨s0, s1, s2, s3, s4, s5⟩
                      go_simp
                      with_reducible rfl
                    rotate_left
                    · simp only [Act.put, List.setIfInBounds_toArray, List.set_cons_zero, List.set_cons_succ, i64_w, i32_w]
                      rfl
                    refine one_ (i := 13) (N := some 48) #[true, true, true, true, true, true, true, true, true, true, true, true, true, true, true, true, false, false, false, false, false, false, false, false, false, false, false, false, false, false, false] rfl rfl (one_of HT_.out (by kernel_rfl)) (by decide) (fun K hK => ?_)
                    refine goes_ Try.func9 (by kernel_rfl) rfl #[.agg #[.slice Ao70 t164.length co70, .int .u32 t167, .int .u32 t168], .slice A2 l2.length c2] (by rfl) rfl rfl (by (try simp only [List.map_toArray, List.map_cons, List.map_nil]); first | done | rfl | (simp only [List.length_drop, List.length_take]; rfl)) ?_
                    with_reducible refine (impl_BloomHas.calls _ _ t164 t167 t168 _ _ l2 t177 _ ?side1 ?side2 ?side3 ?side4 A30.out).mono ?_
                    (case side1 => repeat (first | exact (Kd.R_reads' HO166.out).2.2 | (with_reducible refine Kd.C_alloc ?_ _) | (with_reducible refine Kd.C_drewN ?_ _) | (with_reducible refine Kd.C_drew ?_)))
                    (case side2 => exact (Kd.R_reads' HO166.out).2.1)
                    (case side3 => repeat (first | exact (Kd.C_below HR2.out HB.out) | (with_reducible refine Kd.C_alloc ?_ _) | (with_reducible refine Kd.C_drewN ?_ _) | (with_reducible refine Kd.C_drew ?_)))
                    (case side4 => exact HC2.out)
                    rintro e w79 ⟨rfl, hb⟩
                    refine ⟨_, rfl, ?_⟩
                    have n0_ := Aside0.mk (Kd.R_below (by (with_reducible repeat (first | apply Kd.R_alloc | apply Kd.R_drewN | apply Kd.R_drew)); exact HO166.out) hb)
                    have n1_ := Aside0.mk (Kd.R_below (by (with_reducible repeat (first | apply Kd.R_alloc | apply Kd.R_drewN | apply Kd.R_drew)); exact HO172.out) hb)
                    have n2_ := Aside0.mk (blk_below (g := gb161) (o := .cells #[.slice A0_0 l0_0.length c0_0, .int .u32 a0_1, .int .u32 a0_2] 25 (0, 0)) (by (with_reducible repeat (first | refine blk_drewN ?_ _ | refine blk_drew ?_ | refine blk_alloc ?_ _)); exact BK161.out) hb)
                    have n3_ := Aside0.mk (blk_below (g := gb169) (o := .cells #[.slice Ao70 t164.length co70, .int .u32 t167, .int .u32 t168] 25 (0, 0)) (by (with_reducible repeat (first | refine blk_drewN ?_ _ | refine blk_drew ?_ | refine blk_alloc ?_ _)); exact BK169.out) hb)
                    have n4_ := Aside0.mk (below_step (by repeat (first | (with_reducible first | exact HB.out | apply below_alloc | apply pw_below_drewN | apply below_drew1 | refine below_set ?_ GE161.out | refine below_set ?_ GE169.out) | exact HB.out)) hb)
                    clear HO166
                    clear HO172
                    clear BK161
                    clear BK169
                    clear HB
                    have HO166 := n0_
                    have HO172 := n1_
                    have BK161 := n2_
                    have BK169 := n3_
                    have HB := n4_
                    clear n0_ n1_ n2_ n3_ n4_
                    (try clear hb)
                    (try clear hb2)
                    (try clear hk)
                    (try clear hi)
                    refine hK.out _ _ ⟨(blk_cell BK169.out 0).trans rfl, (blk_cell BK169.out 1).trans rfl, (blk_cell BK169.out 2).trans rfl, (blk_cell BK161.out 0).trans rfl, (blk_cell BK161.out 1).trans rfl, (blk_cell BK161.out 2).trans rfl⟩ (fun hHeld => ?_)
                    clear hK K
                    refine norm_ (a' := ?_) ?_ ?_
                    rotate_left
                    · show Act.put _ (some 48) _ = _
                      simp only [Act.put, List.setIfInBounds_toArray, List.set_cons_zero, List.set_cons_succ, i64_w, i32_w]
                      rfl
                    refine one_ (i := 16) (N := some 51) #[true, true, true, true, true, true, true, true, true, true, true, true, true, true, true, true, true, false, false, false, false, false, false, false, false, false, false, false, false, false, false] rfl rfl (one_of HT_.out (by kernel_rfl)) (by decide) (fun K hK => ?_)
                    refine goes_ Try.func10 (by kernel_rfl) rfl #[.agg #[.slice Ao70 t164.length co70, .int .u32 t167, .int .u32 t168], .slice A2 l2.length c2] (by rfl) rfl rfl (by (try simp only [List.map_toArray, List.map_cons, List.map_nil]); first | done | rfl | (simp only [List.length_drop, List.length_take]; rfl)) ?_
                    with_reducible refine (spec_BloomHas.calls kj15 _ _ t164 t167 t168 _ _ l2 t178 _ ?side1 ?side2 ?side3 ?side4 A31.out).mono ?_
                    (case side1 => repeat (first | exact (Kd.R_reads' HO166.out).2.2 | (with_reducible refine Kd.C_alloc ?_ _) | (with_reducible refine Kd.C_drewN ?_ _) | (with_reducible refine Kd.C_drew ?_)))
                    (case side2 => exact (Kd.R_reads' HO166.out).2.1)
                    (case side3 => repeat (first | exact (Kd.C_below HR2.out HB.out) | (with_reducible refine Kd.C_alloc ?_ _) | (with_reducible refine Kd.C_drewN ?_ _) | (with_reducible refine Kd.C_drew ?_)))
                    (case side4 => exact HC2.out)
                    rintro e w80 ⟨rfl, hb⟩
                    refine ⟨_, rfl, ?_⟩
                    have n0_ := Aside0.mk (Kd.R_below (by (with_reducible repeat (first | apply Kd.R_alloc | apply Kd.R_drewN | apply Kd.R_drew)); exact HO166.out) hb)
                    have n1_ := Aside0.mk (Kd.R_below (by (with_reducible repeat (first | apply Kd.R_alloc | apply Kd.R_drewN | apply Kd.R_drew)); exact HO172.out) hb)
                    have n2_ := Aside0.mk (blk_below (g := gb161) (o := .cells #[.slice A0_0 l0_0.length c0_0, .int .u32 a0_1, .int .u32 a0_2] 25 (0, 0)) (by (with_reducible repeat (first | refine blk_drewN ?_ _ | refine blk_drew ?_ | refine blk_alloc ?_ _)); exact BK161.out) hb)
                    have n3_ := Aside0.mk (blk_below (g := gb169) (o := .cells #[.slice Ao70 t164.length co70, .int .u32 t167, .int .u32 t168] 25 (0, 0)) (by (with_reducible repeat (first | refine blk_drewN ?_ _ | refine blk_drew ?_ | refine blk_alloc ?_ _)); exact BK169.out) hb)
                    have n4_ := Aside0.mk (below_step (by repeat (first | (with_reducible first | exact HB.out | apply below_alloc | apply pw_below_drewN | apply below_drew1 | refine below_set ?_ GE161.out | refine below_set ?_ GE169.out) | exact HB.out)) hb)
                    clear HO166
                    clear HO172
                    clear BK161
                    clear BK169
                    clear HB
                    have HO166 := n0_
                    have HO172 := n1_
                    have BK161 := n2_
                    have BK169 := n3_
                    have HB := n4_
                    clear n0_ n1_ n2_ n3_ n4_
                    (try clear hb)
                    (try clear hb2)
                    (try clear hk)
                    (try clear hi)
                    refine hK.out _ _ ⟨(blk_cell BK169.out 0).trans rfl, (blk_cell BK169.out 1).trans rfl, (blk_cell BK169.out 2).trans rfl, (blk_cell BK161.out 0).trans rfl, (blk_cell BK161.out 1).trans rfl, (blk_cell BK161.out 2).trans rfl⟩ (fun hHeld => ?_)
                    clear hK K
                    refine norm_ (a' := ?_) ?_ ?_
                    rotate_left
                    · show Act.put _ (some 51) _ = _
                      simp only [Act.put, List.setIfInBounds_toArray, List.set_cons_zero, List.set_cons_succ, i64_w, i32_w]
                      rfl
                    refine pure_ (i := 17) (N := some 52) (v := ?_) (a' := ?_) #[true, true, true, true, true, true, true, true, true, true, true, true, true, true, true, true, true, true, false, false, false, false, false, false, false, false, false, false, false, false, false] rfl rfl (any_of HT_.out (by kernel_rfl)) (fun _ _ _ h => h) (Or.inl ⟨by rfl, ?_⟩) ?_ ?_
                    rotate_left
                    · intro w'
                      go_simp
                      with_reducible rfl
                    rotate_left
                    · simp only [Act.put, List.setIfInBounds_toArray, List.set_cons_zero, List.set_cons_succ, i64_w, i32_w]
                      rfl
                    refine pure_ (i := 18) (N := some 53) (v := ?_) (a' := ?_) #[true, true, true, true, true, true, true, true, true, true, true, true, true, true, true, true, true, true, true, false, false, false, false, false, false, false, false, false, false, false, false] rfl rfl (any_of HT_.out (by kernel_rfl)) (fun _ _ _ h => h) (Or.inl ⟨by rfl, ?_⟩) ?_ ?_
                    rotate_left
                    · intro w'
                      go_simp
                      with_reducible rfl
                    rotate_left
                    · simp only [Act.put, List.setIfInBounds_toArray, List.set_cons_zero, List.set_cons_succ, i64_w, i32_w]
                      rfl
                    refine pure_ (i := 19) (N := some 54) (v := ?_) (a' := ?_) #[true, true, true, true, true, true, true, true, true, true, true, true, true, true, true, true, true, true, true, true, false, false, false, false, false, false, false, false, false, false, false] rfl rfl (any_of HT_.out (by kernel_rfl)) (fun _ _ _ h => h) (Or.inl ⟨by rfl, ?_⟩) ?_ ?_
                    rotate_left
                    · intro w'
                      go_simp
                      with_reducible rfl
                    rotate_left
                    · simp only [Act.put, List.setIfInBounds_toArray, List.set_cons_zero, List.set_cons_succ, i64_w, i32_w]
                      rfl
                    refine pure_ (i := 20) (N := some 55) (v := undef) (a' := ?_) #[true, true, true, true, true, true, true, true, true, true, true, true, true, true, true, true, true, true, true, true, true, false, false, false, false, false, false, false, false, false, false] rfl rfl (any_of HT_.out (by kernel_rfl)) (fun _ _ _ h => h) (Or.inr ⟨by rfl, rfl⟩) ?_ ?_
                    rotate_left
                    · simp only [Act.put, List.setIfInBounds_toArray, List.set_cons_zero, List.set_cons_succ, i64_w, i32_w]
                      rfl
                    refine pure_ (i := 21) (N := some 56) (v := undef) (a' := ?_) #[true, true, true, true, true, true, true, true, true, true, true, true, true, true, true, true, true, true, true, true, true, true, false, false, false, false, false, false, false, false, false] rfl rfl (any_of HT_.out (by kernel_rfl)) (fun _ _ _ h => h) (Or.inr ⟨by rfl, rfl⟩) ?_ ?_
                    rotate_left
                    · simp only [Act.put, List.setIfInBounds_toArray, List.set_cons_zero, List.set_cons_succ, i64_w, i32_w]
                      rfl
                    refine pure_ (i := 22) (N := some 57) (v := undef) (a' := ?_) #[true, true, true, true, true, true, true, true, true, true, true, true, true, true, true, true, true, true, true, true, true, true, true, false, false, false, false, false, false, false, false] rfl rfl (any_of HT_.out (by kernel_rfl)) (fun _ _ _ h => h) (Or.inr ⟨by rfl, rfl⟩) ?_ ?_
                    rotate_left
                    · simp only [Act.put, List.setIfInBounds_toArray, List.set_cons_zero, List.set_cons_succ, i64_w, i32_w]
                      rfl
                    refine pure_ (i := 23) (N := some 58) (v := undef) (a' := ?_) #[true, true, true, true, true, true, true, true, true, true, true, true, true, true, true, true, true, true, true, true, true, true, true, true, false, false, false, false, false, false, false] rfl rfl (any_of HT_.out (by kernel_rfl)) (fun _ _ _ h => h) (Or.inr ⟨by rfl, rfl⟩) ?_ ?_
                    rotate_left
                    · simp only [Act.put, List.setIfInBounds_toArray, List.set_cons_zero, List.set_cons_succ, i64_w, i32_w]
                      rfl
                    refine pure_ (i := 24) (N := some 59) (v := undef) (a' := ?_) #[true, true, true, true, true, true, true, true, true, true, true, true, true, true, true, true, true, true, true, true, true, true, true, true, true, false, false, false, false, false, false] rfl rfl (any_of HT_.out (by kernel_rfl)) (fun _ _ _ h => h) (Or.inr ⟨by rfl, rfl⟩) ?_ ?_
                    rotate_left
                    · simp only [Act.put, List.setIfInBounds_toArray, List.set_cons_zero, List.set_cons_succ, i64_w, i32_w]
                      rfl
                    refine pure_ (i := 25) (N := some 60) (v := undef) (a' := ?_) #[true, true, true, true, true, true, true, true, true, true, true, true, true, true, true, true, true, true, true, true, true, true, true, true, true, true, false, false, false, false, false] rfl rfl (any_of HT_.out (by kernel_rfl)) (fun _ _ _ h => h) (Or.inr ⟨by rfl, rfl⟩) ?_ ?_
                    rotate_left
                    · simp only [Act.put, List.setIfInBounds_toArray, List.set_cons_zero, List.set_cons_succ, i64_w, i32_w]
                      rfl
                    refine pure_ (i := 26) (N := some 61) (v := undef) (a' := ?_) #[true, true, true, true, true, true, true, true, true, true, true, true, true, true, true, true, true, true, true, true, true, true, true, true, true, true, true, false, false, false, false] rfl rfl (any_of HT_.out (by kernel_rfl)) (fun _ _ _ h => h) (Or.inr ⟨by rfl, rfl⟩) ?_ ?_
                    rotate_left
                    · simp only [Act.put, List.setIfInBounds_toArray, List.set_cons_zero, List.set_cons_succ, i64_w, i32_w]
                      rfl
                    refine pure_ (i := 27) (N := some 62) (v := undef) (a' := ?_) #[true, true, true, true, true, true, true, true, true, true, true, true, true, true, true, true, true, true, true, true, true, true, true, true, true, true, true, true, false, false, false] rfl rfl (any_of HT_.out (by kernel_rfl)) (fun _ _ _ h => h) (Or.inr ⟨by rfl, rfl⟩) ?_ ?_
                    rotate_left
                    · simp only [Act.put, List.setIfInBounds_toArray, List.set_cons_zero, List.set_cons_succ, i64_w, i32_w]
                      rfl
                    refine pure_ (i := 28) (N := some 63) (v := undef) (a' := ?_) #[true, true, true, true, true, true, true, true, true, true, true, true, true, true, true, true, true, true, true, true, true, true, true, true, true, true, true, true, true, false, false] rfl rfl (any_of HT_.out (by kernel_rfl)) (fun _ _ _ h => h) (Or.inr ⟨by rfl, rfl⟩) ?_ ?_
                    rotate_left
                    · simp only [Act.put, List.setIfInBounds_toArray, List.set_cons_zero, List.set_cons_succ, i64_w, i32_w]
                      rfl
                    refine pure_ (i := 29) (N := some 64) (v := ?_) (a' := ?_) #[true, true, true, true, true, true, true, true, true, true, true, true, true, true, true, true, true, true, true, true, true, true, true, true, true, true, true, true, true, true, false] rfl rfl (any_of HT_.out (by kernel_rfl)) (fun _ _ _ h => h) (Or.inl ⟨by rfl, ?_⟩) ?_ ?_
                    rotate_left
                    · intro w'
                      go_simp
                      with_reducible rfl
                    rotate_left
                    · simp only [Act.put, List.setIfInBounds_toArray, List.set_cons_zero, List.set_cons_succ, i64_w, i32_w]
                      rfl
                    refine pure_ (i := 30) (N := some 6) (v := ?_) (a' := ?_) #[true, true, true, true, true, true, true, true, true, true, true, true, true, true, true, true, true, true, true, true, true, true, true, true, true, true, true, true, true, true, true] rfl rfl (any_of HT_.out (by kernel_rfl)) (fun _ _ _ h => h) (Or.inl ⟨by rfl, ?_⟩) ?_ ?_
                    rotate_left
                    · intro w'
                      go_simp
                      with_reducible rfl
                    rotate_left
                    · simp only [Act.put, List.setIfInBounds_toArray, List.set_cons_zero, List.set_cons_succ, i64_w, i32_w]
                      rfl
                    refine done_ (done_of HT_.out (by kernel_rfl)) ?_
                    try go_wp2
                    go_ret
                    exact ⟨by first | rfl | (simp [errW_none, errW_some] <;> rfl) | (simp [*, errW_none, errW_some] <;> rfl), by repeat (first | (with_reducible first | exact HB.out | apply below_alloc | apply pw_below_drewN | apply below_drew1 | refine below_set ?_ GE161.out | refine below_set ?_ GE169.out) | exact HB.out)⟩
                · replace c29 := Bool.eq_false_iff.mpr c29
                  subst c29
                  have H1 : (some false) = some r := by rw [if_neg (show ¬ (false = true) by decide)] at H; exact H
                  clear H
                  have H := H1
                  clear H1
                  obtain rfl := Option.some.inj H
                  have hcz81_0 : wc.cell? ⟨gb161, 0, none⟩ = some (.slice A0_0 l0_0.length c0_0) := (blk_cell BK161.out 0).trans rfl
                  have hcz81_1 : wc.cell? ⟨gb161, 1, none⟩ = some (.int .u32 a0_1) := (blk_cell BK161.out 1).trans rfl
                  have hcz81_2 : wc.cell? ⟨gb161, 2, none⟩ = some (.int .u32 a0_2) := (blk_cell BK161.out 2).trans rfl
                  have hfz81_0 := blk_frozen BK161.out 0
                  have hfz81_1 := blk_frozen BK161.out 1
                  have hfz81_2 := blk_frozen BK161.out 2
                  try go_wp2_with (first | ((with_reducible refine gate_callee (f := 6) rfl ?_); refine goesL_ (some 34) rfl rfl Try.func6 (by kernel_rfl) rfl #[.agg #[.slice A0_0 l0_0.length c0_0, .int .u32 a0_1, .int .u32 a0_2], .slice A1 l1.length c1] rfl (by (try simp only [List.map_toArray, List.map_cons, List.map_nil]); first | done | rfl | (simp only [List.length_drop, List.length_take]; rfl)) ?_; (with_reducible refine (impl_BloomAdd.calls _ _ l0_0 a0_1 a0_2 _ _ l1 t164 t167 t168 _ ?side1 ?side2 ?side3 ?side4 A24.out).mono ?_); (case side1 => repeat (first | exact (Kd.C_below HR0_0.out HB.out) | (with_reducible refine Kd.C_alloc ?_ _) | (with_reducible refine Kd.C_drewN ?_ _) | (with_reducible refine Kd.C_drew ?_))); (case side2 => exact HC0_0.out); (case side3 => repeat (first | exact (Kd.C_below HR1.out HB.out) | (with_reducible refine Kd.C_alloc ?_ _) | (with_reducible refine Kd.C_drewN ?_ _) | (with_reducible refine Kd.C_drew ?_))); (case side4 => exact HC1.out); rintro e w82 ⟨v165, rfl, ho0, hb⟩; refine ⟨_, rfl, ?_⟩; have n0_ := Aside0.mk (Kd.R_lower ho0 (below_size (by repeat (first | (with_reducible first | exact HB.out | apply below_alloc | apply pw_below_drewN | apply below_drew1 | refine below_set ?_ GE161.out) | exact HB.out)))); have n1_ := Aside0.mk (blk_below (g := gb161) (o := .cells #[.slice A0_0 l0_0.length c0_0, .int .u32 a0_1, .int .u32 a0_2] 25 (0, 0)) (by (with_reducible repeat (first | refine blk_drewN ?_ _ | refine blk_drew ?_ | refine blk_alloc ?_ _)); exact BK161.out) hb); have n2_ := Aside0.mk (below_step (by repeat (first | (with_reducible first | exact HB.out | apply below_alloc | apply pw_below_drewN | apply below_drew1 | refine below_set ?_ GE161.out) | exact HB.out)) hb); clear BK161; clear HB; have HO166 := n0_; have BK161 := n1_; have HB := n2_; clear n0_ n1_ n2_; (try clear hb); (try clear hb2); (try clear hk); (try clear hi); (try clear ho0)) | ((with_reducible refine gate_dst (N := 7) rfl ?_); (try (refine gate_guard (by rfl) ?_; dsimp only)); refine box_event ?hg (N := 7) ?hd (cs := #[.slice none 0 0, .int .u32 0, .int .u32 0]) (t := 25) ?hr ?_; (case hd => rfl); (case hg => rfl); (case hr => first | (go_simp; done) | (go_simp; rfl)); intro gb169 hg w83 hbox hb; have n0_ := Aside0.mk (Kd.R_below (by (with_reducible repeat (first | apply Kd.R_alloc | apply Kd.R_drewN | apply Kd.R_drew)); exact HO166.out) hb); have n1_ := Aside0.mk (blk_below (g := gb161) (o := .cells #[.slice A0_0 l0_0.length c0_0, .int .u32 a0_1, .int .u32 a0_2] 25 (0, 0)) (by (with_reducible repeat (first | refine blk_drewN ?_ _ | refine blk_drew ?_ | refine blk_alloc ?_ _)); exact BK161.out) hb); have n2_ := Aside0.mk (below_step (by repeat (first | (with_reducible first | exact HB.out | apply below_alloc | apply pw_below_drewN | apply below_drew1 | refine below_set ?_ GE161.out) | exact HB.out)) hb); have n3_ := Aside0.mk (hbox); have n4_ := Aside0.mk ((by rw [hg]; exact (below_size (by repeat (first | (with_reducible first | exact HB.out | apply below_alloc | apply pw_below_drewN | apply below_drew1 | refine below_set ?_ GE161.out) | exact HB.out))) : w.heap.size ≤ gb169)); have n5_ := Aside0.mk ((by rw [hg]; exact (below_size (by repeat (first | (with_reducible first | exact HB.out | apply below_alloc | apply pw_below_drewN | apply below_drew1 | refine below_set ?_ GE161.out) | exact HB.out))) : w.heap.size ≤ gb169)); have n6_ := Aside0.mk ((by rw [hg]; exact Nat.ne_of_lt (blk_lt (g := gb161) (o := .cells #[.slice A0_0 l0_0.length c0_0, .int .u32 a0_1, .int .u32 a0_2] 25 (0, 0)) (by (with_reducible repeat (first | refine blk_drewN ?_ _ | refine blk_drew ?_ | refine blk_alloc ?_ _)); exact BK161.out)) : gb161 ≠ gb169)); have n7_ := Aside0.mk ((by rw [hg]; exact Nat.ne_of_gt (blk_lt (g := gb161) (o := .cells #[.slice A0_0 l0_0.length c0_0, .int .u32 a0_1, .int .u32 a0_2] 25 (0, 0)) (by (with_reducible repeat (first | refine blk_drewN ?_ _ | refine blk_drew ?_ | refine blk_alloc ?_ _)); exact BK161.out)) : gb169 ≠ gb161)); clear HO166; clear BK161; clear HB; have HO166 := n0_; have BK161 := n1_; have HB := n2_; have BK169 := n3_; have GW169 := n4_; have GE169 := n5_; have NB161_169 := n6_; have NB169_161 := n7_; clear n0_ n1_ n2_ n3_ n4_ n5_ n6_ n7_; clear hb hbox hg; obtain ⟨Ao84, co84, eo84⟩ := Kd.R_slice HO166.out; subst eo84; have hnb85 := NB169_161.out; have hnc85 := NB161_169.out; have hcz86_0 : w83.cell? ⟨gb169, 0, none⟩ = some (.slice none 0 0) := (blk_cell BK169.out 0).trans rfl; have hcz86_1 : w83.cell? ⟨gb169, 1, none⟩ = some (.int .u32 0) := (blk_cell BK169.out 1).trans rfl; have hcz86_2 : w83.cell? ⟨gb169, 2, none⟩ = some (.int .u32 0) := (blk_cell BK169.out 2).trans rfl; have hfz86_0 := blk_frozen BK169.out 0; have hfz86_1 := blk_frozen BK169.out 1; have hfz86_2 := blk_frozen BK169.out 2))
                  have n0_ : Aside0 (Kd.R (Kd.int .u8) 5 (((w83.setCell ⟨gb169, 0, none⟩ (.slice Ao84 t164.length co84)).setCell ⟨gb169, 1, none⟩ (.int .u32 t167)).setCell ⟨gb169, 2, none⟩ (.int .u32 t168)) w.heap.size (fun _ => True) (.slice Ao84 t164.length co84) t164) := ⟨by (with_reducible repeat (first | apply Kd.R_alloc | apply Kd.R_drewN | apply Kd.R_drew)); exact Kd.R_mono (Kd.R_far (p := ⟨gb169, 2, none⟩) (Kd.R_far (p := ⟨gb169, 1, none⟩) (Kd.R_far (p := ⟨gb169, 0, none⟩) (Kd.R_types HO166.out BK169.out (by decide)) (fun _ hk => hk.2) (.slice Ao84 t164.length co84)) (fun _ hk => hk.2) (.int .u32 t167)) (fun _ hk => hk.2) (.int .u32 t168)) (fun _ hk => trivial)⟩
                  have n1_ : Aside0 ((((w83.setCell ⟨gb169, 0, none⟩ (.slice Ao84 t164.length co84)).setCell ⟨gb169, 1, none⟩ (.int .u32 t167)).setCell ⟨gb169, 2, none⟩ (.int .u32 t168)).heap[gb161]? = some (.cells #[.slice A0_0 l0_0.length c0_0, .int .u32 a0_1, .int .u32 a0_2] 25 (0, 0))) := ⟨by (with_reducible repeat (first | refine blk_drewN ?_ _ | refine blk_drew ?_ | refine blk_alloc ?_ _)); refine blk_far ?_ NB161_169.out _; (with_reducible repeat (first | refine blk_drewN ?_ _ | refine blk_drew ?_ | refine blk_alloc ?_ _)); refine blk_far ?_ NB161_169.out _; (with_reducible repeat (first | refine blk_drewN ?_ _ | refine blk_drew ?_ | refine blk_alloc ?_ _)); refine blk_far ?_ NB161_169.out _; (with_reducible repeat (first | refine blk_drewN ?_ _ | refine blk_drew ?_ | refine blk_alloc ?_ _)); exact BK161.out⟩
                  have n2_ : Aside0 ((((w83.setCell ⟨gb169, 0, none⟩ (.slice Ao84 t164.length co84)).setCell ⟨gb169, 1, none⟩ (.int .u32 t167)).setCell ⟨gb169, 2, none⟩ (.int .u32 t168)).heap[gb169]? = some (.cells #[.slice Ao84 t164.length co84, .int .u32 t167, .int .u32 t168] 25 (0, 0))) := ⟨by (with_reducible repeat (first | refine blk_drewN ?_ _ | refine blk_drew ?_ | refine blk_alloc ?_ _)); refine blk_put (cs := #[.slice Ao84 t164.length co84, .int .u32 t167, .int .u32 0]) ?_ 2 _ rfl; (with_reducible repeat (first | refine blk_drewN ?_ _ | refine blk_drew ?_ | refine blk_alloc ?_ _)); refine blk_put (cs := #[.slice Ao84 t164.length co84, .int .u32 0, .int .u32 0]) ?_ 1 _ rfl; (with_reducible repeat (first | refine blk_drewN ?_ _ | refine blk_drew ?_ | refine blk_alloc ?_ _)); refine blk_put (cs := #[.slice none 0 0, .int .u32 0, .int .u32 0]) ?_ 0 _ rfl; (with_reducible repeat (first | refine blk_drewN ?_ _ | refine blk_drew ?_ | refine blk_alloc ?_ _)); exact BK169.out⟩
                  have n3_ : Aside0 (Below w.heap.size w (((w83.setCell ⟨gb169, 0, none⟩ (.slice Ao84 t164.length co84)).setCell ⟨gb169, 1, none⟩ (.int .u32 t167)).setCell ⟨gb169, 2, none⟩ (.int .u32 t168))) := ⟨by repeat (first | (with_reducible first | exact HB.out | apply below_alloc | apply pw_below_drewN | apply below_drew1 | refine below_set ?_ GE161.out | refine below_set ?_ GE169.out) | exact HB.out)⟩
                  (try clear HO166)
                  (try clear BK161)
                  (try clear BK169)
                  (try clear HB)
                  generalize (((w83.setCell ⟨gb169, 0, none⟩ (.slice Ao84 t164.length co84)).setCell ⟨gb169, 1, none⟩ (.int .u32 t167)).setCell ⟨gb169, 2, none⟩ (.int .u32 t168)) = w87 at n0_ n1_ n2_ n3_ ⊢
                  have HO166 := n0_
                  have BK161 := n1_
                  have BK169 := n2_
                  have HB := n3_
                  clear n0_ n1_ n2_ n3_
                  have n0_ := Aside0.mk (Kd.R_drew HO166.out)
                  have n1_ := Aside0.mk (blk_drew BK161.out)
                  have n2_ := Aside0.mk (blk_drew BK169.out)
                  have n3_ := Aside0.mk (below_drew1 HB.out)
                  clear HO166
                  clear BK161
                  clear BK169
                  clear HB
                  have HO166 := n0_
                  have BK161 := n1_
                  have BK169 := n2_
                  have HB := n3_
                  clear n0_ n1_ n2_ n3_
                  refine start_ (n := 31) (S := fun w' => w'.cell? ⟨gb169, 0, none⟩ = some (.slice Ao84 t164.length co84) ∧ w'.cell? ⟨gb169, 1, none⟩ = some (.int .u32 t167) ∧ w'.cell? ⟨gb169, 2, none⟩ = some (.int .u32 t168) ∧ w'.cell? ⟨gb161, 0, none⟩ = some (.slice A0_0 l0_0.length c0_0) ∧ w'.cell? ⟨gb161, 1, none⟩ = some (.int .u32 a0_1) ∧ w'.cell? ⟨gb161, 2, none⟩ = some (.int .u32 a0_2)) (ds := []) #[false, false, false, false, false, false, false, false, false, false, false, false, false, false, false, false, false, false, false, false, false, false, false, false, false, false, false, false, false, false, false] (by kernel_rfl) rfl rfl ⟨(blk_cell BK169.out 0).trans rfl, (blk_cell BK169.out 1).trans rfl, (blk_cell BK169.out 2).trans rfl, (blk_cell BK161.out 0).trans rfl, (blk_cell BK161.out 1).trans rfl, (blk_cell BK161.out 2).trans rfl⟩ (fun hHeld => ?_); refine with_tabW laws_FnBloom.tab6 laws_FnBloom.bits6 (fun HT_ HW_ => ?_)
                  generalize w87.drew = w88 at HO166 BK161 BK169 HB hHeld ⊢
                  refine pure_ (i := 2) (N := some 37) (v := ?_) (a' := ?_) #[false, false, true, false, false, false, false, false, false, false, false, false, false, false, false, false, false, false, false, false, false, false, false, false, false, false, false, false, false, false, false] rfl rfl (any_of HT_.out (by kernel_rfl)) (fun _ _ _ h => h) (Or.inl ⟨by rfl, ?_⟩) ?_ ?_
                  rotate_left
                  · intro w'
                    go_simp
                    with_reducible rfl
                  rotate_left
                  · simp only [Act.put, List.setIfInBounds_toArray, List.set_cons_zero, List.set_cons_succ, i64_w, i32_w]
                    rfl
                  refine take_ (i := 0) (N := some 35) (v := ?_) (a' := ?_) #[true, false, true, false, false, false, false, false, false, false, false, false, false, false, false, false, false, false, false, false, false, false, false, false, false, false, false, false, false, false, false] rfl rfl (take_ofW HT_.out HW_.out (by kernel_rfl)) (fun _ _ _ h => h) (Or.inl ⟨by rfl, ?_⟩) hHeld ?_ ?_
                  rotate_left
                  · rintro w' ⟨s0, s1, s2, s3, s4, s5⟩
                    go_simp
                    with_reducible rfl
                  rotate_left
                  · simp only [Act.put, List.setIfInBounds_toArray, List.set_cons_zero, List.set_cons_succ, i64_w, i32_w]
                    rfl
                  refine take_ (i := 1) (N := some 36) (v := ?_) (a' := ?_) #[true, true, true, false, false, false, false, false, false, false, false, false, false, false, false, false, false, false, false, false, false, false, false, false, false, false, false, false, false, false, false] rfl rfl (take_ofW HT_.out HW_.out (by kernel_rfl)) (fun _ _ _ h => h) (Or.inl ⟨by rfl, ?_⟩) hHeld ?_ ?_
                  rotate_left
                  · rintro w' ⟨s0, s1, s2, s3, s4, s5⟩
                    go_simp
                    with_reducible rfl
                  rotate_left
                  · simp only [Act.put, List.setIfInBounds_toArray, List.set_cons_zero, List.set_cons_succ, i64_w, i32_w]
                    rfl
                  refine one_ (i := 3) (N := some 38) #[true, true, true, true, false, false, false, false, false, false, false, false, false, false, false, false, false, false, false, false, false, false, false, false, false, false, false, false, false, false, false] rfl rfl (one_of HT_.out (by kernel_rfl)) (by decide) (fun K hK => ?_)
                  refine goes_ Try.func8 (by kernel_rfl) rfl #[.agg #[.slice A0_0 l0_0.length c0_0, .int .u32 a0_1, .int .u32 a0_2], .slice A1 l1.length c1] (by rfl) rfl rfl (by (try simp only [List.map_toArray, List.map_cons, List.map_nil]); first | done | rfl | (simp only [List.length_drop, List.length_take]; rfl)) ?_
                  with_reducible refine (spec_BloomAdd.calls kj15 _ _ l0_0 a0_1 a0_2 _ _ l1 t170 t173 t174 _ ?side1 ?side2 ?side3 ?side4 A25.out).mono ?_
                  (case side1 => repeat (first | exact (Kd.C_below HR0_0.out HB.out) | (with_reducible refine Kd.C_alloc ?_ _) | (with_reducible refine Kd.C_drewN ?_ _) | (with_reducible refine Kd.C_drew ?_)))
                  (case side2 => exact HC0_0.out)
                  (case side3 => repeat (first | exact (Kd.C_below HR1.out HB.out) | (with_reducible refine Kd.C_alloc ?_ _) | (with_reducible refine Kd.C_drewN ?_ _) | (with_reducible refine Kd.C_drew ?_)))
                  (case side4 => exact HC1.out)
                  rintro e w89 ⟨v171, rfl, ho0, hb⟩
                  refine ⟨_, rfl, ?_⟩
                  have n0_ := Aside0.mk (Kd.R_elder' (by (with_reducible repeat (first | apply Kd.R_alloc | apply Kd.R_drewN | apply Kd.R_drew)); exact HO166.out) (Kd.R_base ho0) hb)
                  have n1_ := Aside0.mk (Kd.R_lower (Kd.R_new' ho0 (Kd.R_lt (by (with_reducible repeat (first | apply Kd.R_alloc | apply Kd.R_drewN | apply Kd.R_drew)); exact HO166.out))) (below_size (by repeat (first | (with_reducible first | exact HB.out | apply below_alloc | apply pw_below_drewN | apply below_drew1 | refine below_set ?_ GE161.out | refine below_set ?_ GE169.out) | exact HB.out))))
                  have n2_ := Aside0.mk (blk_below (g := gb161) (o := .cells #[.slice A0_0 l0_0.length c0_0, .int .u32 a0_1, .int .u32 a0_2] 25 (0, 0)) (by (with_reducible repeat (first | refine blk_drewN ?_ _ | refine blk_drew ?_ | refine blk_alloc ?_ _)); exact BK161.out) hb)
                  have n3_ := Aside0.mk (blk_below (g := gb169) (o := .cells #[.slice Ao84 t164.length co84, .int .u32 t167, .int .u32 t168] 25 (0, 0)) (by (with_reducible repeat (first | refine blk_drewN ?_ _ | refine blk_drew ?_ | refine blk_alloc ?_ _)); exact BK169.out) hb)
                  have n4_ := Aside0.mk (below_step (by repeat (first | (with_reducible first | exact HB.out | apply below_alloc | apply pw_below_drewN | apply below_drew1 | refine below_set ?_ GE161.out | refine below_set ?_ GE169.out) | exact HB.out)) hb)
                  clear HO166
                  clear BK161
                  clear BK169
                  clear HB
                  have HO166 := n0_
                  have HO172 := n1_
                  have BK161 := n2_
                  have BK169 := n3_
                  have HB := n4_
                  clear n0_ n1_ n2_ n3_ n4_
                  (try clear hb)
                  (try clear hb2)
                  (try clear hk)
                  (try clear hi)
                  (try clear ho0)
                  obtain ⟨Ao90, co90, eo90⟩ := Kd.R_slice HO172.out
                  (first | subst eo90 | (injection eo90 with f1_ f2_ f3_; have f4_ := f1_.symm; have f5_ := f3_.symm; clear f1_ f2_ f3_; subst f4_; subst f5_))
                  refine hK.out _ _ ⟨(blk_cell BK169.out 0).trans rfl, (blk_cell BK169.out 1).trans rfl, (blk_cell BK169.out 2).trans rfl, (blk_cell BK161.out 0).trans rfl, (blk_cell BK161.out 1).trans rfl, (blk_cell BK161.out 2).trans rfl⟩ (fun hHeld => ?_)
                  clear hK K
                  refine norm_ (a' := ?_) ?_ ?_
                  rotate_left
                  · show Act.put _ (some 38) _ = _
                    simp only [Act.put, List.setIfInBounds_toArray, List.set_cons_zero, List.set_cons_succ, i64_w, i32_w]
                    rfl
                  refine one_ (i := 4) (N := some 39) #[true, true, true, true, true, false, false, false, false, false, false, false, false, false, false, false, false, false, false, false, false, false, false, false, false, false, false, false, false, false, false] rfl rfl (one_of HT_.out (by kernel_rfl)) (by decide) (fun K hK => ?_)
                  refine goes_ Try.func7 (by kernel_rfl) rfl #[.agg #[.slice Ao84 t164.length co84, .int .u32 t167, .int .u32 t168], .agg #[.slice Ao90 t170.length co90, .int .u32 t173, .int .u32 t174]] (by rfl) rfl rfl (by (try simp only [List.map_toArray, List.map_cons, List.map_nil]); first | done | rfl | (simp only [List.length_drop, List.length_take]; rfl)) ?_
                  with_reducible refine (laws_sameBloom.calls kj15 _ _ t164 t167 t168 _ _ t170 t173 t174 true _ ?side1 ?side2 ?side3 ?side4 A26.out).mono ?_
                  (case side1 => repeat (first | exact (Kd.R_reads' HO166.out).2.2 | (with_reducible refine Kd.C_alloc ?_ _) | (with_reducible refine Kd.C_drewN ?_ _) | (with_reducible refine Kd.C_drew ?_)))
                  (case side2 => exact (Kd.R_reads' HO166.out).2.1)
                  (case side3 => repeat (first | exact (Kd.R_reads' HO172.out).2.2 | (with_reducible refine Kd.C_alloc ?_ _) | (with_reducible refine Kd.C_drewN ?_ _) | (with_reducible refine Kd.C_drew ?_)))
                  (case side4 => exact (Kd.R_reads' HO172.out).2.1)
                  rintro e w91 ⟨rfl, hb⟩
                  refine ⟨_, rfl, ?_⟩
                  have n0_ := Aside0.mk (Kd.R_below (by (with_reducible repeat (first | apply Kd.R_alloc | apply Kd.R_drewN | apply Kd.R_drew)); exact HO166.out) hb)
                  have n1_ := Aside0.mk (Kd.R_below (by (with_reducible repeat (first | apply Kd.R_alloc | apply Kd.R_drewN | apply Kd.R_drew)); exact HO172.out) hb)
                  have n2_ := Aside0.mk (blk_below (g := gb161) (o := .cells #[.slice A0_0 l0_0.length c0_0, .int .u32 a0_1, .int .u32 a0_2] 25 (0, 0)) (by (with_reducible repeat (first | refine blk_drewN ?_ _ | refine blk_drew ?_ | refine blk_alloc ?_ _)); exact BK161.out) hb)
                  have n3_ := Aside0.mk (blk_below (g := gb169) (o := .cells #[.slice Ao84 t164.length co84, .int .u32 t167, .int .u32 t168] 25 (0, 0)) (by (with_reducible repeat (first | refine blk_drewN ?_ _ | refine blk_drew ?_ | refine blk_alloc ?_ _)); exact BK169.out) hb)
                  have n4_ := Aside0.mk (below_step (by repeat (first | (with_reducible first | exact HB.out | apply below_alloc | apply pw_below_drewN | apply below_drew1 | refine below_set ?_ GE161.out | refine below_set ?_ GE169.out) | exact HB.out)) hb)
                  clear HO166
                  clear HO172
                  clear BK161
                  clear BK169
                  clear HB
                  have HO166 := n0_
                  have HO172 := n1_
                  have BK161 := n2_
                  have BK169 := n3_
                  have HB := n4_
                  clear n0_ n1_ n2_ n3_ n4_
                  (try clear hb)
                  (try clear hb2)
                  (try clear hk)
                  (try clear hi)
                  refine hK.out _ _ ⟨(blk_cell BK169.out 0).trans rfl, (blk_cell BK169.out 1).trans rfl, (blk_cell BK169.out 2).trans rfl, (blk_cell BK161.out 0).trans rfl, (blk_cell BK161.out 1).trans rfl, (blk_cell BK161.out 2).trans rfl⟩ (fun hHeld => ?_)
                  clear hK K
                  refine norm_ (a' := ?_) ?_ ?_
                  rotate_left
                  · show Act.put _ (some 39) _ = _
                    simp only [Act.put, List.setIfInBounds_toArray, List.set_cons_zero, List.set_cons_succ, i64_w, i32_w]
                    rfl
                  refine pure_ (i := 5) (N := some 40) (v := ?_) (a' := ?_) #[true, true, true, true, true, true, false, false, false, false, false, false, false, false, false, false, false, false, false, false, false, false, false, false, false, false, false, false, false, false, false] rfl rfl (any_of HT_.out (by kernel_rfl)) (fun _ _ _ h => h) (Or.inl ⟨by rfl, ?_⟩) ?_ ?_
                  rotate_left
                  · intro w'
                    go_simp
                    with_reducible rfl
                  rotate_left
                  · simp only [Act.put, List.setIfInBounds_toArray, List.set_cons_zero, List.set_cons_succ, i64_w, i32_w]
                    rfl
                  refine pure_ (i := 7) (N := some 42) (v := ?_) (a' := ?_) #[true, true, true, true, true, true, false, true, false, false, false, false, false, false, false, false, false, false, false, false, false, false, false, false, false, false, false, false, false, false, false] rfl rfl (any_of HT_.out (by kernel_rfl)) (fun _ _ _ h => h) (Or.inl ⟨by rfl, ?_⟩) ?_ ?_
                  rotate_left
                  · intro w'
                    go_simp
                    with_reducible rfl
                  rotate_left
                  · simp only [Act.put, List.setIfInBounds_toArray, List.set_cons_zero, List.set_cons_succ, i64_w, i32_w]
                    rfl
                  refine take_ (i := 6) (N := some 41) (v := ?_) (a' := ?_) #[true, true, true, true, true, true, true, true, false, false, false, false, false, false, false, false, false, false, false, false, false, false, false, false, false, false, false, false, false, false, false] rfl rfl (take_ofW HT_.out HW_.out (by kernel_rfl)) (fun _ _ _ h => h) (Or.inl ⟨by rfl, ?_⟩) hHeld ?_ ?_
                  rotate_left
                  · rintro w' ⟨s0, s1, s2, s3, s4, s5⟩
                    go_simp
                    with_reducible rfl
                  rotate_left
                  · simp only [Act.put, List.setIfInBounds_toArray, List.set_cons_zero, List.set_cons_succ, i64_w, i32_w]
                    rfl
                  refine one_ (i := 8) (N := some 43) #[true, true, true, true, true, true, true, true, true, false, false, false, false, false, false, false, false, false, false, false, false, false, false, false, false, false, false, false, false, false, false] rfl rfl (one_of HT_.out (by kernel_rfl)) (by decide) (fun K hK => ?_)
                  refine goes_ Try.func9 (by kernel_rfl) rfl #[.agg #[.slice Ao84 t164.length co84, .int .u32 t167, .int .u32 t168], .slice A1 l1.length c1] (by rfl) rfl rfl (by (try simp only [List.map_toArray, List.map_cons, List.map_nil]); first | done | rfl | (simp only [List.length_drop, List.length_take]; rfl)) ?_
                  with_reducible refine (impl_BloomHas.calls _ _ t164 t167 t168 _ _ l1 false _ ?side1 ?side2 ?side3 ?side4 A28.out).mono ?_
                  (case side1 => repeat (first | exact (Kd.R_reads' HO166.out).2.2 | (with_reducible refine Kd.C_alloc ?_ _) | (with_reducible refine Kd.C_drewN ?_ _) | (with_reducible refine Kd.C_drew ?_)))
                  (case side2 => exact (Kd.R_reads' HO166.out).2.1)
                  (case side3 => repeat (first | exact (Kd.C_below HR1.out HB.out) | (with_reducible refine Kd.C_alloc ?_ _) | (with_reducible refine Kd.C_drewN ?_ _) | (with_reducible refine Kd.C_drew ?_)))
                  (case side4 => exact HC1.out)
                  rintro e w92 ⟨rfl, hb⟩
                  refine ⟨_, rfl, ?_⟩
                  have n0_ := Aside0.mk (Kd.R_below (by (with_reducible repeat (first | apply Kd.R_alloc | apply Kd.R_drewN | apply Kd.R_drew)); exact HO166.out) hb)
                  have n1_ := Aside0.mk (Kd.R_below (by (with_reducible repeat (first | apply Kd.R_alloc | apply Kd.R_drewN | apply Kd.R_drew)); exact HO172.out) hb)
                  have n2_ := Aside0.mk (blk_below (g := gb161) (o := .cells #[.slice A0_0 l0_0.length c0_0, .int .u32 a0_1, .int .u32 a0_2] 25 (0, 0)) (by (with_reducible repeat (first | refine blk_drewN ?_ _ | refine blk_drew ?_ | refine blk_alloc ?_ _)); exact BK161.out) hb)
                  have n3_ := Aside0.mk (blk_below (g := gb169) (o := .cells #[.slice Ao84 t164.length co84, .int .u32 t167, .int .u32 t168] 25 (0, 0)) (by (with_reducible repeat (first | refine blk_drewN ?_ _ | refine blk_drew ?_ | refine blk_alloc ?_ _)); exact BK169.out) hb)
                  have n4_ := Aside0.mk (below_step (by repeat (first | (with_reducible first | exact HB.out | apply below_alloc | apply pw_below_drewN | apply below_drew1 | refine below_set ?_ GE161.out | refine below_set ?_ GE169.out) | exact HB.out)) hb)
                  clear HO166
                  clear HO172
                  clear BK161
                  clear BK169
                  clear HB
                  have HO166 := n0_
                  have HO172 := n1_
                  have BK161 := n2_
                  have BK169 := n3_
                  have HB := n4_
                  clear n0_ n1_ n2_ n3_ n4_
                  (try clear hb)
                  (try clear hb2)
                  (try clear hk)
                  (try clear hi)
                  refine hK.out _ _ ⟨(blk_cell BK169.out 0).trans rfl, (blk_cell BK169.out 1).trans rfl, (blk_cell BK169.out 2).trans rfl, (blk_cell BK161.out 0).trans rfl, (blk_cell BK161.out 1).trans rfl, (blk_cell BK161.out 2).trans rfl⟩ (fun hHeld => ?_)
                  clear hK K
                  refine norm_ (a' := ?_) ?_ ?_
                  rotate_left
                  · show Act.put _ (some 43) _ = _
                    simp only [Act.put, List.setIfInBounds_toArray, List.set_cons_zero, List.set_cons_succ, i64_w, i32_w]
                    rfl
                  refine pure_ (i := 9) (N := some 44) (v := ?_) (a' := ?_) #[true, true, true, true, true, true, true, true, true, true, false, false, false, false, false, false, false, false, false, false, false, false, false, false, false, false, false, false, false, false, false] rfl rfl (any_of HT_.out (by kernel_rfl)) (fun _ _ _ h => h) (Or.inl ⟨by rfl, ?_⟩) ?_ ?_
                  rotate_left
                  · intro w'
                    go_simp
                    with_reducible rfl
                  rotate_left
                  · simp only [Act.put, List.setIfInBounds_toArray, List.set_cons_zero, List.set_cons_succ, i64_w, i32_w]
                    rfl
                  refine pure_ (i := 10) (N := some 45) (v := ?_) (a' := ?_) #[true, true, true, true, true, true, true, true, true, true, true, false, false, false, false, false, false, false, false, false, false, false, false, false, false, false, false, false, false, false, false] rfl rfl (any_of HT_.out (by kernel_rfl)) (fun _ _ _ h => h) (Or.inl ⟨by rfl, ?_⟩) ?_ ?_
                  rotate_left
                  · intro w'
                    go_simp
                    with_reducible rfl
                  rotate_left
                  · simp only [Act.put, List.setIfInBounds_toArray, List.set_cons_zero, List.set_cons_succ, i64_w, i32_w]
                    rfl
                  refine pure_ (i := 11) (N := some 46) (v := undef) (a' := ?_) #[true, true, true, true, true, true, true, true, true, true, true, true, false, false, false, false, false, false, false, false, false, false, false, false, false, false, false, false, false, false, false] rfl rfl (any_of HT_.out (by kernel_rfl)) (fun _ _ _ h => h) (Or.inr ⟨by rfl, rfl⟩) ?_ ?_
                  rotate_left
                  · simp only [Act.put, List.setIfInBounds_toArray, List.set_cons_zero, List.set_cons_succ, i64_w, i32_w]
                    rfl
                  refine pure_ (i := 12) (N := some 47) (v := undef) (a' := ?_) #[true, true, true, true, true, true, true, true, true, true, true, true, true, false, false, false, false, false, false, false, false, false, false, false, false, false, false, false, false, false, false] rfl rfl (any_of HT_.out (by kernel_rfl)) (fun _ _ _ h => h) (Or.inr ⟨by rfl, rfl⟩) ?_ ?_
                  rotate_left
                  · simp only [Act.put, List.setIfInBounds_toArray, List.set_cons_zero, List.set_cons_succ, i64_w, i32_w]
                    rfl
                  refine pure_ (i := 13) (N := some 48) (v := undef) (a' := ?_) #[true, true, true, true, true, true, true, true, true, true, true, true, true, true, false, false, false, false, false, false, false, false, false, false, false, false, false, false, false, false, false] rfl rfl (any_of HT_.out (by kernel_rfl)) (fun _ _ _ h => h) (Or.inr ⟨by rfl, rfl⟩) ?_ ?_
                  rotate_left
                  · simp only [Act.put, List.setIfInBounds_toArray, List.set_cons_zero, List.set_cons_succ, i64_w, i32_w]
                    rfl
                  refine pure_ (i := 14) (N := some 49) (v := undef) (a' := ?_) #[true, true, true, true, true, true, true, true, true, true, true, true, true, true, true, false, false, false, false, false, false, false, false, false, false, false, false, false, false, false, false] rfl rfl (any_of HT_.out (by kernel_rfl)) (fun _ _ _ h => h) (Or.inr ⟨by rfl, rfl⟩) ?_ ?_
                  rotate_left
                  · simp only [Act.put, List.setIfInBounds_toArray, List.set_cons_zero, List.set_cons_succ, i64_w, i32_w]
                    rfl
                  refine pure_ (i := 15) (N := some 50) (v := undef) (a' := ?_) #[true, true, true, true, true, true, true, true, true, true, true, true, true, true, true, true, false, false, false, false, false, false, false, false, false, false, false, false, false, false, false] rfl rfl (any_of HT_.out (by kernel_rfl)) (fun _ _ _ h => h) (Or.inr ⟨by rfl, rfl⟩) ?_ ?_
                  rotate_left
                  · simp only [Act.put, List.setIfInBounds_toArray, List.set_cons_zero, List.set_cons_succ, i64_w, i32_w]
                    rfl
                  refine pure_ (i := 16) (N := some 51) (v := undef) (a' := ?_) #[true, true, true, true, true, true, true, true, true, true, true, true, true, true, true, true, true, false, false, false, false, false, false, false, false, false, false, false, false, false, false] rfl rfl (any_of HT_.out (by kernel_rfl)) (fun _ _ _ h => h) (Or.inr ⟨by rfl, rfl⟩) ?_ ?_
                  rotate_left
                  · simp only [Act.put, List.setIfInBounds_toArray, List.set_cons_zero, List.set_cons_succ, i64_w, i32_w]
                    rfl
                  refine pure_ (i := 17) (N := some 52) (v := undef) (a' := ?_) #[true, true, true, true, true, true, true, true, true, true, true, true, true, true, true, true, true, true, false, false, false, false, false, false, false, false, false, false, false, false, false] rfl rfl (any_of HT_.out (by kernel_rfl)) (fun _ _ _ h => h) (Or.inr ⟨by rfl, rfl⟩) ?_ ?_
                  rotate_left
                  · simp only [Act.put, List.setIfInBounds_toArray, List.set_cons_zero, List.set_cons_succ, i64_w, i32_w]
                    rfl
                  refine pure_ (i := 18) (N := some 53) (v := ?_) (a' := ?_) #[true, true, true, true, true, true, true, true, true, true, true, true, true, true, true, true, true, true, true, false, false, false, false, false, false, false, false, false, false, false, false] rfl rfl (any_of HT_.out (by kernel_rfl)) (fun _ _ _ h => h) (Or.inl ⟨by rfl, ?_⟩) ?_ ?_
                  rotate_left
                  · intro w'
                    go_simp
                    with_reducible rfl
                  rotate_left
                  · simp only [Act.put, List.setIfInBounds_toArray, List.set_cons_zero, List.set_cons_succ, i64_w, i32_w]
                    rfl
                  refine pure_ (i := 19) (N := some 54) (v := ?_) (a' := ?_) #[true, true, true, true, true, true, true, true, true, true, true, true, true, true, true, true, true, true, true, true, false, false, false, false, false, false, false, false, false, false, false] rfl rfl (any_of HT_.out (by kernel_rfl)) (fun _ _ _ h => h) (Or.inl ⟨by rfl, ?_⟩) ?_ ?_
                  rotate_left
                  · intro w'
                    go_simp
                    with_reducible rfl
                  rotate_left
                  · simp only [Act.put, List.setIfInBounds_toArray, List.set_cons_zero, List.set_cons_succ, i64_w, i32_w]
                    rfl
                  refine pure_ (i := 20) (N := some 55) (v := undef) (a' := ?_) #[true, true, true, true, true, true, true, true, true, true, true, true, true, true, true, true, true, true, true, true, true, false, false, false, false, false, false, false, false, false, false] rfl rfl (any_of HT_.out (by kernel_rfl)) (fun _ _ _ h => h) (Or.inr ⟨by rfl, rfl⟩) ?_ ?_
                  rotate_left
                  · simp only [Act.put, List.setIfInBounds_toArray, List.set_cons_zero, List.set_cons_succ, i64_w, i32_w]
                    rfl
                  refine pure_ (i := 21) (N := some 56) (v := undef) (a' := ?_) #[true, true, true, true, true, true, true, true, true, true, true, true, true, true, true, true, true, true, true, true, true, true, false, false, false, false, false, false, false, false, false] rfl rfl (any_of HT_.out (by kernel_rfl)) (fun _ _ _ h => h) (Or.inr ⟨by rfl, rfl⟩) ?_ ?_
                  rotate_left
                  · simp only [Act.put, List.setIfInBounds_toArray, List.set_cons_zero, List.set_cons_succ, i64_w, i32_w]
                    rfl
                  refine pure_ (i := 22) (N := some 57) (v := undef) (a' := ?_) #[true, true, true, true, true, true, true, true, true, true, true, true, true, true, true, true, true, true, true, true, true, true, true, false, false, false, false, false, false, false, false] rfl rfl (any_of HT_.out (by kernel_rfl)) (fun _ _ _ h => h) (Or.inr ⟨by rfl, rfl⟩) ?_ ?_
                  rotate_left
                  · simp only [Act.put, List.setIfInBounds_toArray, List.set_cons_zero, List.set_cons_succ, i64_w, i32_w]
                    rfl
                  refine pure_ (i := 23) (N := some 58) (v := undef) (a' := ?_) #[true, true, true, true, true, true, true, true, true, true, true, true, true, true, true, true, true, true, true, true, true, true, true, true, false, false, false, false, false, false, false] rfl rfl (any_of HT_.out (by kernel_rfl)) (fun _ _ _ h => h) (Or.inr ⟨by rfl, rfl⟩) ?_ ?_
                  rotate_left
                  · simp only [Act.put, List.setIfInBounds_toArray, List.set_cons_zero, List.set_cons_succ, i64_w, i32_w]
                    rfl
                  refine pure_ (i := 24) (N := some 59) (v := undef) (a' := ?_) #[true, true, true, true, true, true, true, true, true, true, true, true, true, true, true, true, true, true, true, true, true, true, true, true, true, false, false, false, false, false, false] rfl rfl (any_of HT_.out (by kernel_rfl)) (fun _ _ _ h => h) (Or.inr ⟨by rfl, rfl⟩) ?_ ?_
                  rotate_left
                  · simp only [Act.put, List.setIfInBounds_toArray, List.set_cons_zero, List.set_cons_succ, i64_w, i32_w]
                    rfl
                  refine pure_ (i := 25) (N := some 60) (v := undef) (a' := ?_) #[true, true, true, true, true, true, true, true, true, true, true, true, true, true, true, true, true, true, true, true, true, true, true, true, true, true, false, false, false, false, false] rfl rfl (any_of HT_.out (by kernel_rfl)) (fun _ _ _ h => h) (Or.inr ⟨by rfl, rfl⟩) ?_ ?_
                  rotate_left
                  · simp only [Act.put, List.setIfInBounds_toArray, List.set_cons_zero, List.set_cons_succ, i64_w, i32_w]
                    rfl
                  refine pure_ (i := 26) (N := some 61) (v := undef) (a' := ?_) #[true, true, true, true, true, true, true, true, true, true, true, true, true, true, true, true, true, true, true, true, true, true, true, true, true, true, true, false, false, false, false] rfl rfl (any_of HT_.out (by kernel_rfl)) (fun _ _ _ h => h) (Or.inr ⟨by rfl, rfl⟩) ?_ ?_
                  rotate_left
                  · simp only [Act.put, List.setIfInBounds_toArray, List.set_cons_zero, List.set_cons_succ, i64_w, i32_w]
                    rfl
                  refine pure_ (i := 27) (N := some 62) (v := undef) (a' := ?_) #[true, true, true, true, true, true, true, true, true, true, true, true, true, true, true, true, true, true, true, true, true, true, true, true, true, true, true, true, false, false, false] rfl rfl (any_of HT_.out (by kernel_rfl)) (fun _ _ _ h => h) (Or.inr ⟨by rfl, rfl⟩) ?_ ?_
                  rotate_left
                  · simp only [Act.put, List.setIfInBounds_toArray, List.set_cons_zero, List.set_cons_succ, i64_w, i32_w]
                    rfl
                  refine pure_ (i := 28) (N := some 63) (v := undef) (a' := ?_) #[true, true, true, true, true, true, true, true, true, true, true, true, true, true, true, true, true, true, true, true, true, true, true, true, true, true, true, true, true, false, false] rfl rfl (any_of HT_.out (by kernel_rfl)) (fun _ _ _ h => h) (Or.inr ⟨by rfl, rfl⟩) ?_ ?_
                  rotate_left
                  · simp only [Act.put, List.setIfInBounds_toArray, List.set_cons_zero, List.set_cons_succ, i64_w, i32_w]
                    rfl
                  refine pure_ (i := 29) (N := some 64) (v := ?_) (a' := ?_) #[true, true, true, true, true, true, true, true, true, true, true, true, true, true, true, true, true, true, true, true, true, true, true, true, true, true, true, true, true, true, false] rfl rfl (any_of HT_.out (by kernel_rfl)) (fun _ _ _ h => h) (Or.inl ⟨by rfl, ?_⟩) ?_ ?_
                  rotate_left
                  · intro w'
                    go_simp
                    with_reducible rfl
                  rotate_left
                  · simp only [Act.put, List.setIfInBounds_toArray, List.set_cons_zero, List.set_cons_succ, i64_w, i32_w]
                    rfl
                  refine pure_ (i := 30) (N := some 6) (v := ?_) (a' := ?_) #[true, true, true, true, true, true, true, true, true, true, true, true, true, true, true, true, true, true, true, true, true, true, true, true, true, true, true, true, true, true, true] rfl rfl (any_of HT_.out (by kernel_rfl)) (fun _ _ _ h => h) (Or.inl ⟨by rfl, ?_⟩) ?_ ?_
                  rotate_left
                  · intro w'
                    go_simp
                    with_reducible rfl
                  rotate_left
                  · simp only [Act.put, List.setIfInBounds_toArray, List.set_cons_zero, List.set_cons_succ, i64_w, i32_w]
                    rfl
                  refine done_ (done_of HT_.out (by kernel_rfl)) ?_
                  try go_wp2
                  go_ret
                  exact ⟨by first | rfl | (simp [errW_none, errW_some] <;> rfl) | (simp [*, errW_none, errW_some] <;> rfl), by repeat (first | (with_reducible first | exact HB.out | apply below_alloc | apply pw_below_drewN | apply below_drew1 | refine below_set ?_ GE161.out | refine below_set ?_ GE169.out) | exact HB.out)⟩
              · replace c27 := Bool.eq_false_iff.mpr c27
                subst c27
                have H1 : (some false) = some r := by rw [if_neg (show ¬ (false = true) by decide)] at H; exact H
                clear H
                have H := H1
                clear H1
                obtain rfl := Option.some.inj H
                have hcz93_0 : wc.cell? ⟨gb161, 0, none⟩ = some (.slice A0_0 l0_0.length c0_0) := (blk_cell BK161.out 0).trans rfl
                have hcz93_1 : wc.cell? ⟨gb161, 1, none⟩ = some (.int .u32 a0_1) := (blk_cell BK161.out 1).trans rfl
                have hcz93_2 : wc.cell? ⟨gb161, 2, none⟩ = some (.int .u32 a0_2) := (blk_cell BK161.out 2).trans rfl
                have hfz93_0 := blk_frozen BK161.out 0
                have hfz93_1 := blk_frozen BK161.out 1
                have hfz93_2 := blk_frozen BK161.out 2
                try go_wp2_with (first | ((with_reducible refine gate_callee (f := 6) rfl ?_); refine goesL_ (some 34) rfl rfl Try.func6 (by kernel_rfl) rfl #[.agg #[.slice A0_0 l0_0.length c0_0, .int .u32 a0_1, .int .u32 a0_2], .slice A1 l1.length c1] rfl (by (try simp only [List.map_toArray, List.map_cons, List.map_nil]); first | done | rfl | (simp only [List.length_drop, List.length_take]; rfl)) ?_; (with_reducible refine (impl_BloomAdd.calls _ _ l0_0 a0_1 a0_2 _ _ l1 t164 t167 t168 _ ?side1 ?side2 ?side3 ?side4 A24.out).mono ?_); (case side1 => repeat (first | exact (Kd.C_below HR0_0.out HB.out) | (with_reducible refine Kd.C_alloc ?_ _) | (with_reducible refine Kd.C_drewN ?_ _) | (with_reducible refine Kd.C_drew ?_))); (case side2 => exact HC0_0.out); (case side3 => repeat (first | exact (Kd.C_below HR1.out HB.out) | (with_reducible refine Kd.C_alloc ?_ _) | (with_reducible refine Kd.C_drewN ?_ _) | (with_reducible refine Kd.C_drew ?_))); (case side4 => exact HC1.out); rintro e w94 ⟨v165, rfl, ho0, hb⟩; refine ⟨_, rfl, ?_⟩; have n0_ := Aside0.mk (Kd.R_lower ho0 (below_size (by repeat (first | (with_reducible first | exact HB.out | apply below_alloc | apply pw_below_drewN | apply below_drew1 | refine below_set ?_ GE161.out) | exact HB.out)))); have n1_ := Aside0.mk (blk_below (g := gb161) (o := .cells #[.slice A0_0 l0_0.length c0_0, .int .u32 a0_1, .int .u32 a0_2] 25 (0, 0)) (by (with_reducible repeat (first | refine blk_drewN ?_ _ | refine blk_drew ?_ | refine blk_alloc ?_ _)); exact BK161.out) hb); have n2_ := Aside0.mk (below_step (by repeat (first | (with_reducible first | exact HB.out | apply below_alloc | apply pw_below_drewN | apply below_drew1 | refine below_set ?_ GE161.out) | exact HB.out)) hb); clear BK161; clear HB; have HO166 := n0_; have BK161 := n1_; have HB := n2_; clear n0_ n1_ n2_; (try clear hb); (try clear hb2); (try clear hk); (try clear hi); (try clear ho0)) | ((with_reducible refine gate_dst (N := 7) rfl ?_); (try (refine gate_guard (by rfl) ?_; dsimp only)); refine box_event ?hg (N := 7) ?hd (cs := #[.slice none 0 0, .int .u32 0, .int .u32 0]) (t := 25) ?hr ?_; (case hd => rfl); (case hg => rfl); (case hr => first | (go_simp; done) | (go_simp; rfl)); intro gb169 hg w95 hbox hb; have n0_ := Aside0.mk (Kd.R_below (by (with_reducible repeat (first | apply Kd.R_alloc | apply Kd.R_drewN | apply Kd.R_drew)); exact HO166.out) hb); have n1_ := Aside0.mk (blk_below (g := gb161) (o := .cells #[.slice A0_0 l0_0.length c0_0, .int .u32 a0_1, .int .u32 a0_2] 25 (0, 0)) (by (with_reducible repeat (first | refine blk_drewN ?_ _ | refine blk_drew ?_ | refine blk_alloc ?_ _)); exact BK161.out) hb); have n2_ := Aside0.mk (below_step (by repeat (first | (with_reducible first | exact HB.out | apply below_alloc | apply pw_below_drewN | apply below_drew1 | refine below_set ?_ GE161.out) | exact HB.out)) hb); have n3_ := Aside0.mk (hbox); have n4_ := Aside0.mk ((by rw [hg]; exact (below_size (by repeat (first | (with_reducible first | exact HB.out | apply below_alloc | apply pw_below_drewN | apply below_drew1 | refine below_set ?_ GE161.out) | exact HB.out))) : w.heap.size ≤ gb169)); have n5_ := Aside0.mk ((by rw [hg]; exact (below_size (by repeat (first | (with_reducible first | exact HB.out | apply below_alloc | apply pw_below_drewN | apply below_drew1 | refine below_set ?_ GE161.out) | exact HB.out))) : w.heap.size ≤ gb169)); have n6_ := Aside0.mk ((by rw [hg]; exact Nat.ne_of_lt (blk_lt (g := gb161) (o := .cells #[.slice A0_0 l0_0.length c0_0, .int .u32 a0_1, .int .u32 a0_2] 25 (0, 0)) (by (with_reducible repeat (first | refine blk_drewN ?_ _ | refine blk_drew ?_ | refine blk_alloc ?_ _)); exact BK161.out)) : gb161 ≠ gb169)); have n7_ := Aside0.mk ((by rw [hg]; exact Nat.ne_of_gt (blk_lt (g := gb161) (o := .cells #[.slice A0_0 l0_0.length c0_0, .int .u32 a0_1, .int .u32 a0_2] 25 (0, 0)) (by (with_reducible repeat (first | refine blk_drewN ?_ _ | refine blk_drew ?_ | refine blk_alloc ?_ _)); exact BK161.out)) : gb169 ≠ gb161)); clear HO166; clear BK161; clear HB; have HO166 := n0_; have BK161 := n1_; have HB := n2_; have BK169 := n3_; have GW169 := n4_; have GE169 := n5_; have NB161_169 := n6_; have NB169_161 := n7_; clear n0_ n1_ n2_ n3_ n4_ n5_ n6_ n7_; clear hb hbox hg; obtain ⟨Ao96, co96, eo96⟩ := Kd.R_slice HO166.out; subst eo96; have hnb97 := NB169_161.out; have hnc97 := NB161_169.out; have hcz98_0 : w95.cell? ⟨gb169, 0, none⟩ = some (.slice none 0 0) := (blk_cell BK169.out 0).trans rfl; have hcz98_1 : w95.cell? ⟨gb169, 1, none⟩ = some (.int .u32 0) := (blk_cell BK169.out 1).trans rfl; have hcz98_2 : w95.cell? ⟨gb169, 2, none⟩ = some (.int .u32 0) := (blk_cell BK169.out 2).trans rfl; have hfz98_0 := blk_frozen BK169.out 0; have hfz98_1 := blk_frozen BK169.out 1; have hfz98_2 := blk_frozen BK169.out 2))
                have n0_ : Aside0 (Kd.R (Kd.int .u8) 5 (((w95.setCell ⟨gb169, 0, none⟩ (.slice Ao96 t164.length co96)).setCell ⟨gb169, 1, none⟩ (.int .u32 t167)).setCell ⟨gb169, 2, none⟩ (.int .u32 t168)) w.heap.size (fun _ => True) (.slice Ao96 t164.length co96) t164) := ⟨by (with_reducible repeat (first | apply Kd.R_alloc | apply Kd.R_drewN | apply Kd.R_drew)); exact Kd.R_mono (Kd.R_far (p := ⟨gb169, 2, none⟩) (Kd.R_far (p := ⟨gb169, 1, none⟩) (Kd.R_far (p := ⟨gb169, 0, none⟩) (Kd.R_types HO166.out BK169.out (by decide)) (fun _ hk => hk.2) (.slice Ao96 t164.length co96)) (fun _ hk => hk.2) (.int .u32 t167)) (fun _ hk => hk.2) (.int .u32 t168)) (fun _ hk => trivial)⟩
                have n1_ : Aside0 ((((w95.setCell ⟨gb169, 0, none⟩ (.slice Ao96 t164.length co96)).setCell ⟨gb169, 1, none⟩ (.int .u32 t167)).setCell ⟨gb169, 2, none⟩ (.int .u32 t168)).heap[gb161]? = some (.cells #[.slice A0_0 l0_0.length c0_0, .int .u32 a0_1, .int .u32 a0_2] 25 (0, 0))) := ⟨by (with_reducible repeat (first | refine blk_drewN ?_ _ | refine blk_drew ?_ | refine blk_alloc ?_ _)); refine blk_far ?_ NB161_169.out _; (with_reducible repeat (first | refine blk_drewN ?_ _ | refine blk_drew ?_ | refine blk_alloc ?_ _)); refine blk_far ?_ NB161_169.out _; (with_reducible repeat (first | refine blk_drewN ?_ _ | refine blk_drew ?_ | refine blk_alloc ?_ _)); refine blk_far ?_ NB161_169.out _; (with_reducible repeat (first | refine blk_drewN ?_ _ | refine blk_drew ?_ | refine blk_alloc ?_ _)); exact BK161.out⟩
                have n2_ : Aside0 ((((w95.setCell ⟨gb169, 0, none⟩ (.slice Ao96 t164.length co96)).setCell ⟨gb169, 1, none⟩ (.int .u32 t167)).setCell ⟨gb169, 2, none⟩ (.int .u32 t168)).heap[gb169]? = some (.cells #[.slice Ao96 t164.length co96, .int .u32 t167, .int .u32 t168] 25 (0, 0))) := ⟨by (with_reducible repeat (first | refine blk_drewN ?_ _ | refine blk_drew ?_ | refine blk_alloc ?_ _)); refine blk_put (cs := #[.slice Ao96 t164.length co96, .int .u32 t167, .int .u32 0]) ?_ 2 _ rfl; (with_reducible repeat (first | refine blk_drewN ?_ _ | refine blk_drew ?_ | refine blk_alloc ?_ _)); refine blk_put (cs := #[.slice Ao96 t164.length co96, .int .u32 0, .int .u32 0]) ?_ 1 _ rfl; (with_reducible repeat (first | refine blk_drewN ?_ _ | refine blk_drew ?_ | refine blk_alloc ?_ _)); refine blk_put (cs := #[.slice none 0 0, .int .u32 0, .int .u32 0]) ?_ 0 _ rfl; (with_reducible repeat (first | refine blk_drewN ?_ _ | refine blk_drew ?_ | refine blk_alloc ?_ _)); exact BK169.out⟩
                have n3_ : Aside0 (Below w.heap.size w (((w95.setCell ⟨gb169, 0, none⟩ (.slice Ao96 t164.length co96)).setCell ⟨gb169, 1, none⟩ (.int .u32 t167)).setCell ⟨gb169, 2, none⟩ (.int .u32 t168))) := ⟨by repeat (first | (with_reducible first | exact HB.out | apply below_alloc | apply pw_below_drewN | apply below_drew1 | refine below_set ?_ GE161.out | refine below_set ?_ GE169.out) | exact HB.out)⟩
                (try clear HO166)
                (try clear BK161)
                (try clear BK169)
                (try clear HB)
                generalize (((w95.setCell ⟨gb169, 0, none⟩ (.slice Ao96 t164.length co96)).setCell ⟨gb169, 1, none⟩ (.int .u32 t167)).setCell ⟨gb169, 2, none⟩ (.int .u32 t168)) = w99 at n0_ n1_ n2_ n3_ ⊢
                have HO166 := n0_
                have BK161 := n1_
                have BK169 := n2_
                have HB := n3_
                clear n0_ n1_ n2_ n3_
                have n0_ := Aside0.mk (Kd.R_drew HO166.out)
                have n1_ := Aside0.mk (blk_drew BK161.out)
                have n2_ := Aside0.mk (blk_drew BK169.out)
                have n3_ := Aside0.mk (below_drew1 HB.out)
                clear HO166
                clear BK161
                clear BK169
                clear HB
                have HO166 := n0_
                have BK161 := n1_
                have BK169 := n2_
                have HB := n3_
                clear n0_ n1_ n2_ n3_
                refine start_ (n := 31) (S := fun w' => w'.cell? ⟨gb169, 0, none⟩ = some (.slice Ao96 t164.length co96) ∧ w'.cell? ⟨gb169, 1, none⟩ = some (.int .u32 t167) ∧ w'.cell? ⟨gb169, 2, none⟩ = some (.int .u32 t168) ∧ w'.cell? ⟨gb161, 0, none⟩ = some (.slice A0_0 l0_0.length c0_0) ∧ w'.cell? ⟨gb161, 1, none⟩ = some (.int .u32 a0_1) ∧ w'.cell? ⟨gb161, 2, none⟩ = some (.int .u32 a0_2)) (ds := []) #[false, false, false, false, false, false, false, false, false, false, false, false, false, false, false, false, false, false, false, false, false, false, false, false, false, false, false, false, false, false, false] (by kernel_rfl) rfl rfl ⟨(blk_cell BK169.out 0).trans rfl, (blk_cell BK169.out 1).trans rfl, (blk_cell BK169.out 2).trans rfl, (blk_cell BK161.out 0).trans rfl, (blk_cell BK161.out 1).trans rfl, (blk_cell BK161.out 2).trans rfl⟩ (fun hHeld => ?_); refine with_tabW laws_FnBloom.tab6 laws_FnBloom.bits6 (fun HT_ HW_ => ?_)
                generalize w99.drew = w100 at HO166 BK161 BK169 HB hHeld ⊢
                refine pure_ (i := 2) (N := some 37) (v := ?_) (a' := ?_) #[false, false, true, false, false, false, false, false, false, false, false, false, false, false, false, false, false, false, false, false, false, false, false, false, false, false, false, false, false, false, false] rfl rfl (any_of HT_.out (by kernel_rfl)) (fun _ _ _ h => h) (Or.inl ⟨by rfl, ?_⟩) ?_ ?_
                rotate_left
                · intro w'
                  go_simp
                  with_reducible rfl
                rotate_left
                · simp only [Act.put, List.setIfInBounds_toArray, List.set_cons_zero, List.set_cons_succ, i64_w, i32_w]
                  rfl
                refine take_ (i := 0) (N := some 35) (v := ?_) (a' := ?_) #[true, false, true, false, false, false, false, false, false, false, false, false, false, false, false, false, false, false, false, false, false, false, false, false, false, false, false, false, false, false, false] rfl rfl (take_ofW HT_.out HW_.out (by kernel_rfl)) (fun _ _ _ h => h) (Or.inl ⟨by rfl, ?_⟩) hHeld ?_ ?_
                rotate_left
                · rintro w' ⟨s0, s1, s2, s3, s4, s5⟩
                  go_simp
                  with_reducible rfl
                rotate_left
                · simp only [Act.put, List.setIfInBounds_toArray, List.set_cons_zero, List.set_cons_succ, i64_w, i32_w]
                  rfl
                refine take_ (i := 1) (N := some 36) (v := ?_) (a' := ?_) #[true, true, true, false, false, false, false, false, false, false, false, false, false, false, false, false, false, false, false, false, false, false, false, false, false, false, false, false, false, false, false] rfl rfl (take_ofW HT_.out HW_.out (by kernel_rfl)) (fun _ _ _ h => h) (Or.inl ⟨by rfl, ?_⟩) hHeld ?_ ?_
                rotate_left
                · rintro w' ⟨s0, s1, s2, s3, s4, s5⟩
                  go_simp
                  with_reducible rfl
                rotate_left
                · simp only [Act.put, List.setIfInBounds_toArray, List.set_cons_zero, List.set_cons_succ, i64_w, i32_w]
                  rfl
                refine one_ (i := 3) (N := some 38) #[true, true, true, true, false, false, false, false, false, false, false, false, false, false, false, false, false, false, false, false, false, false, false, false, false, false, false, false, false, false, false] rfl rfl (one_of HT_.out (by kernel_rfl)) (by decide) (fun K hK => ?_)
                refine goes_ Try.func8 (by kernel_rfl) rfl #[.agg #[.slice A0_0 l0_0.length c0_0, .int .u32 a0_1, .int .u32 a0_2], .slice A1 l1.length c1] (by rfl) rfl rfl (by (try simp only [List.map_toArray, List.map_cons, List.map_nil]); first | done | rfl | (simp only [List.length_drop, List.length_take]; rfl)) ?_
                with_reducible refine (spec_BloomAdd.calls kj15 _ _ l0_0 a0_1 a0_2 _ _ l1 t170 t173 t174 _ ?side1 ?side2 ?side3 ?side4 A25.out).mono ?_
                (case side1 => repeat (first | exact (Kd.C_below HR0_0.out HB.out) | (with_reducible refine Kd.C_alloc ?_ _) | (with_reducible refine Kd.C_drewN ?_ _) | (with_reducible refine Kd.C_drew ?_)))
                (case side2 => exact HC0_0.out)
                (case side3 => repeat (first | exact (Kd.C_below HR1.out HB.out) | (with_reducible refine Kd.C_alloc ?_ _) | (with_reducible refine Kd.C_drewN ?_ _) | (with_reducible refine Kd.C_drew ?_)))
                (case side4 => exact HC1.out)
                rintro e w101 ⟨v171, rfl, ho0, hb⟩
                refine ⟨_, rfl, ?_⟩
                have n0_ := Aside0.mk (Kd.R_elder' (by (with_reducible repeat (first | apply Kd.R_alloc | apply Kd.R_drewN | apply Kd.R_drew)); exact HO166.out) (Kd.R_base ho0) hb)
                have n1_ := Aside0.mk (Kd.R_lower (Kd.R_new' ho0 (Kd.R_lt (by (with_reducible repeat (first | apply Kd.R_alloc | apply Kd.R_drewN | apply Kd.R_drew)); exact HO166.out))) (below_size (by repeat (first | (with_reducible first | exact HB.out | apply below_alloc | apply pw_below_drewN | apply below_drew1 | refine below_set ?_ GE161.out | refine below_set ?_ GE169.out) | exact HB.out))))
                have n2_ := Aside0.mk (blk_below (g := gb161) (o := .cells #[.slice A0_0 l0_0.length c0_0, .int .u32 a0_1, .int .u32 a0_2] 25 (0, 0)) (by (with_reducible repeat (first | refine blk_drewN ?_ _ | refine blk_drew ?_ | refine blk_alloc ?_ _)); exact BK161.out) hb)
                have n3_ := Aside0.mk (blk_below (g := gb169) (o := .cells #[.slice Ao96 t164.length co96, .int .u32 t167, .int .u32 t168] 25 (0, 0)) (by (with_reducible repeat (first | refine blk_drewN ?_ _ | refine blk_drew ?_ | refine blk_alloc ?_ _)); exact BK169.out) hb)
                have n4_ := Aside0.mk (below_step (by repeat (first | (with_reducible first | exact HB.out | apply below_alloc | apply pw_below_drewN | apply below_drew1 | refine below_set ?_ GE161.out | refine below_set ?_ GE169.out) | exact HB.out)) hb)
                clear HO166
                clear BK161
                clear BK169
                clear HB
                have HO166 := n0_
                have HO172 := n1_
                have BK161 := n2_
                have BK169 := n3_
                have HB := n4_
                clear n0_ n1_ n2_ n3_ n4_
                (try clear hb)
                (try clear hb2)
                (try clear hk)
                (try clear hi)
                (try clear ho0)
                obtain ⟨Ao102, co102, eo102⟩ := Kd.R_slice HO172.out
                (first | subst eo102 | (injection eo102 with f1_ f2_ f3_; have f4_ := f1_.symm; have f5_ := f3_.symm; clear f1_ f2_ f3_; subst f4_; subst f5_))
                refine hK.out _ _ ⟨(blk_cell BK169.out 0).trans rfl, (blk_cell BK169.out 1).trans rfl, (blk_cell BK169.out 2).trans rfl, (blk_cell BK161.out 0).trans rfl, (blk_cell BK161.out 1).trans rfl, (blk_cell BK161.out 2).trans rfl⟩ (fun hHeld => ?_)
                clear hK K
                refine norm_ (a' := ?_) ?_ ?_
                rotate_left
                · show Act.put _ (some 38) _ = _
                  simp only [Act.put, List.setIfInBounds_toArray, List.set_cons_zero, List.set_cons_succ, i64_w, i32_w]
                  rfl
                refine one_ (i := 4) (N := some 39) #[true, true, true, true, true, false, false, false, false, false, false, false, false, false, false, false, false, false, false, false, false, false, false, false, false, false, false, false, false, false, false] rfl rfl (one_of HT_.out (by kernel_rfl)) (by decide) (fun K hK => ?_)
                refine goes_ Try.func7 (by kernel_rfl) rfl #[.agg #[.slice Ao96 t164.length co96, .int .u32 t167, .int .u32 t168], .agg #[.slice Ao102 t170.length co102, .int .u32 t173, .int .u32 t174]] (by rfl) rfl rfl (by (try simp only [List.map_toArray, List.map_cons, List.map_nil]); first | done | rfl | (simp only [List.length_drop, List.length_take]; rfl)) ?_
                with_reducible refine (laws_sameBloom.calls kj15 _ _ t164 t167 t168 _ _ t170 t173 t174 false _ ?side1 ?side2 ?side3 ?side4 A26.out).mono ?_
                (case side1 => repeat (first | exact (Kd.R_reads' HO166.out).2.2 | (with_reducible refine Kd.C_alloc ?_ _) | (with_reducible refine Kd.C_drewN ?_ _) | (with_reducible refine Kd.C_drew ?_)))
                (case side2 => exact (Kd.R_reads' HO166.out).2.1)
                (case side3 => repeat (first | exact (Kd.R_reads' HO172.out).2.2 | (with_reducible refine Kd.C_alloc ?_ _) | (with_reducible refine Kd.C_drewN ?_ _) | (with_reducible refine Kd.C_drew ?_)))
                (case side4 => exact (Kd.R_reads' HO172.out).2.1)
                rintro e w103 ⟨rfl, hb⟩
                refine ⟨_, rfl, ?_⟩
                have n0_ := Aside0.mk (Kd.R_below (by (with_reducible repeat (first | apply Kd.R_alloc | apply Kd.R_drewN | apply Kd.R_drew)); exact HO166.out) hb)
                have n1_ := Aside0.mk (Kd.R_below (by (with_reducible repeat (first | apply Kd.R_alloc | apply Kd.R_drewN | apply Kd.R_drew)); exact HO172.out) hb)
                have n2_ := Aside0.mk (blk_below (g := gb161) (o := .cells #[.slice A0_0 l0_0.length c0_0, .int .u32 a0_1, .int .u32 a0_2] 25 (0, 0)) (by (with_reducible repeat (first | refine blk_drewN ?_ _ | refine blk_drew ?_ | refine blk_alloc ?_ _)); exact BK161.out) hb)
                have n3_ := Aside0.mk (blk_below (g := gb169) (o := .cells #[.slice Ao96 t164.length co96, .int .u32 t167, .int .u32 t168] 25 (0, 0)) (by (with_reducible repeat (first | refine blk_drewN ?_ _ | refine blk_drew ?_ | refine blk_alloc ?_ _)); exact BK169.out) hb)
                have n4_ := Aside0.mk (below_step (by repeat (first | (with_reducible first | exact HB.out | apply below_alloc | apply pw_below_drewN | apply below_drew1 | refine below_set ?_ GE161.out | refine below_set ?_ GE169.out) | exact HB.out)) hb)
                clear HO166
                clear HO172
                clear BK161
                clear BK169
                clear HB
                have HO166 := n0_
                have HO172 := n1_
                have BK161 := n2_
                have BK169 := n3_
                have HB := n4_
                clear n0_ n1_ n2_ n3_ n4_
                (try clear hb)
                (try clear hb2)
                (try clear hk)
                (try clear hi)
                refine hK.out _ _ ⟨(blk_cell BK169.out 0).trans rfl, (blk_cell BK169.out 1).trans rfl, (blk_cell BK169.out 2).trans rfl, (blk_cell BK161.out 0).trans rfl, (blk_cell BK161.out 1).trans rfl, (blk_cell BK161.out 2).trans rfl⟩ (fun hHeld => ?_)
                clear hK K
                refine norm_ (a' := ?_) ?_ ?_
                rotate_left
                · show Act.put _ (some 39) _ = _
                  simp only [Act.put, List.setIfInBounds_toArray, List.set_cons_zero, List.set_cons_succ, i64_w, i32_w]
                  rfl
                refine pure_ (i := 5) (N := some 40) (v := ?_) (a' := ?_) #[true, true, true, true, true, true, false, false, false, false, false, false, false, false, false, false, false, false, false, false, false, false, false, false, false, false, false, false, false, false, false] rfl rfl (any_of HT_.out (by kernel_rfl)) (fun _ _ _ h => h) (Or.inl ⟨by rfl, ?_⟩) ?_ ?_
                rotate_left
                · intro w'
                  go_simp
                  with_reducible rfl
                rotate_left
                · simp only [Act.put, List.setIfInBounds_toArray, List.set_cons_zero, List.set_cons_succ, i64_w, i32_w]
                  rfl
                refine pure_ (i := 6) (N := some 41) (v := undef) (a' := ?_) #[true, true, true, true, true, true, true, false, false, false, false, false, false, false, false, false, false, false, false, false, false, false, false, false, false, false, false, false, false, false, false] rfl rfl (any_of HT_.out (by kernel_rfl)) (fun _ _ _ h => h) (Or.inr ⟨by rfl, rfl⟩) ?_ ?_
                rotate_left
                · simp only [Act.put, List.setIfInBounds_toArray, List.set_cons_zero, List.set_cons_succ, i64_w, i32_w]
                  rfl
                refine pure_ (i := 7) (N := some 42) (v := undef) (a' := ?_) #[true, true, true, true, true, true, true, true, false, false, false, false, false, false, false, false, false, false, false, false, false, false, false, false, false, false, false, false, false, false, false] rfl rfl (any_of HT_.out (by kernel_rfl)) (fun _ _ _ h => h) (Or.inr ⟨by rfl, rfl⟩) ?_ ?_
                rotate_left
                · simp only [Act.put, List.setIfInBounds_toArray, List.set_cons_zero, List.set_cons_succ, i64_w, i32_w]
                  rfl
                refine pure_ (i := 8) (N := some 43) (v := undef) (a' := ?_) #[true, true, true, true, true, true, true, true, true, false, false, false, false, false, false, false, false, false, false, false, false, false, false, false, false, false, false, false, false, false, false] rfl rfl (any_of HT_.out (by kernel_rfl)) (fun _ _ _ h => h) (Or.inr ⟨by rfl, rfl⟩) ?_ ?_
                rotate_left
                · simp only [Act.put, List.setIfInBounds_toArray, List.set_cons_zero, List.set_cons_succ, i64_w, i32_w]
                  rfl
                refine pure_ (i := 9) (N := some 44) (v := ?_) (a' := ?_) #[true, true, true, true, true, true, true, true, true, true, false, false, false, false, false, false, false, false, false, false, false, false, false, false, false, false, false, false, false, false, false] rfl rfl (any_of HT_.out (by kernel_rfl)) (fun _ _ _ h => h) (Or.inl ⟨by rfl, ?_⟩) ?_ ?_
                rotate_left
                · intro w'
                  go_simp
                  with_reducible rfl
                rotate_left
                · simp only [Act.put, List.setIfInBounds_toArray, List.set_cons_zero, List.set_cons_succ, i64_w, i32_w]
                  rfl
                refine pure_ (i := 10) (N := some 45) (v := ?_) (a' := ?_) #[true, true, true, true, true, true, true, true, true, true, true, false, false, false, false, false, false, false, false, false, false, false, false, false, false, false, false, false, false, false, false] rfl rfl (any_of HT_.out (by kernel_rfl)) (fun _ _ _ h => h) (Or.inl ⟨by rfl, ?_⟩) ?_ ?_
                rotate_left
                · intro w'
                  go_simp
                  with_reducible rfl
                rotate_left
                · simp only [Act.put, List.setIfInBounds_toArray, List.set_cons_zero, List.set_cons_succ, i64_w, i32_w]
                  rfl
                refine pure_ (i := 11) (N := some 46) (v := undef) (a' := ?_) #[true, true, true, true, true, true, true, true, true, true, true, true, false, false, false, false, false, false, false, false, false, false, false, false, false, false, false, false, false, false, false] rfl rfl (any_of HT_.out (by kernel_rfl)) (fun _ _ _ h => h) (Or.inr ⟨by rfl, rfl⟩) ?_ ?_
                rotate_left
                · simp only [Act.put, List.setIfInBounds_toArray, List.set_cons_zero, List.set_cons_succ, i64_w, i32_w]
                  rfl
                refine pure_ (i := 12) (N := some 47) (v := undef) (a' := ?_) #[true, true, true, true, true, true, true, true, true, true, true, true, true, false, false, false, false, false, false, false, false, false, false, false, false, false, false, false, false, false, false] rfl rfl (any_of HT_.out (by kernel_rfl)) (fun _ _ _ h => h) (Or.inr ⟨by rfl, rfl⟩) ?_ ?_
                rotate_left
                · simp only [Act.put, List.setIfInBounds_toArray, List.set_cons_zero, List.set_cons_succ, i64_w, i32_w]
                  rfl
                refine pure_ (i := 13) (N := some 48) (v := undef) (a' := ?_) #[true, true, true, true, true, true, true, true, true, true, true, true, true, true, false, false, false, false, false, false, false, false, false, false, false, false, false, false, false, false, false] rfl rfl (any_of HT_.out (by kernel_rfl)) (fun _ _ _ h => h) (Or.inr ⟨by rfl, rfl⟩) ?_ ?_
                rotate_left
                · simp only [Act.put, List.setIfInBounds_toArray, List.set_cons_zero, List.set_cons_succ, i64_w, i32_w]
                  rfl
                refine pure_ (i := 14) (N := some 49) (v := undef) (a' := ?_) #[true, true, true, true, true, true, true, true, true, true, true, true, true, true, true, false, false, false, false, false, false, false, false, false, false, false, false, false, false, false, false] rfl rfl (any_of HT_.out (by kernel_rfl)) (fun _ _ _ h => h) (Or.inr ⟨by rfl, rfl⟩) ?_ ?_
                rotate_left
                · simp only [Act.put, List.setIfInBounds_toArray, List.set_cons_zero, List.set_cons_succ, i64_w, i32_w]
                  rfl
                refine pure_ (i := 15) (N := some 50) (v := undef) (a' := ?_) #[true, true, true, true, true, true, true, true, true, true, true, true, true, true, true, true, false, false, false, false, false, false, false, false, false, false, false, false, false, false, false] rfl rfl (any_of HT_.out (by kernel_rfl)) (fun _ _ _ h => h) (Or.inr ⟨by rfl, rfl⟩) ?_ ?_
                rotate_left
                · simp only [Act.put, List.setIfInBounds_toArray, List.set_cons_zero, List.set_cons_succ, i64_w, i32_w]
                  rfl
                refine pure_ (i := 16) (N := some 51) (v := undef) (a' := ?_) #[true, true, true, true, true, true, true, true, true, true, true, true, true, true, true, true, true, false, false, false, false, false, false, false, false, false, false, false, false, false, false] rfl rfl (any_of HT_.out (by kernel_rfl)) (fun _ _ _ h => h) (Or.inr ⟨by rfl, rfl⟩) ?_ ?_
                rotate_left
                · simp only [Act.put, List.setIfInBounds_toArray, List.set_cons_zero, List.set_cons_succ, i64_w, i32_w]
                  rfl
                refine pure_ (i := 17) (N := some 52) (v := undef) (a' := ?_) #[true, true, true, true, true, true, true, true, true, true, true, true, true, true, true, true, true, true, false, false, false, false, false, false, false, false, false, false, false, false, false] rfl rfl (any_of HT_.out (by kernel_rfl)) (fun _ _ _ h => h) (Or.inr ⟨by rfl, rfl⟩) ?_ ?_
                rotate_left
                · simp only [Act.put, List.setIfInBounds_toArray, List.set_cons_zero, List.set_cons_succ, i64_w, i32_w]
                  rfl
                refine pure_ (i := 18) (N := some 53) (v := ?_) (a' := ?_) #[true, true, true, true, true, true, true, true, true, true, true, true, true, true, true, true, true, true, true, false, false, false, false, false, false, false, false, false, false, false, false] rfl rfl (any_of HT_.out (by kernel_rfl)) (fun _ _ _ h => h) (Or.inl ⟨by rfl, ?_⟩) ?_ ?_
                rotate_left
                · intro w'
                  go_simp
                  with_reducible rfl
                rotate_left
                · simp only [Act.put, List.setIfInBounds_toArray, List.set_cons_zero, List.set_cons_succ, i64_w, i32_w]
                  rfl
                refine pure_ (i := 19) (N := some 54) (v := ?_) (a' := ?_) #[true, true, true, true, true, true, true, true, true, true, true, true, true, true, true, true, true, true, true, true, false, false, false, false, false, false, false, false, false, false, false] rfl rfl (any_of HT_.out (by kernel_rfl)) (fun _ _ _ h => h) (Or.inl ⟨by rfl, ?_⟩) ?_ ?_
                rotate_left
                · intro w'
                  go_simp
                  with_reducible rfl
                rotate_left
                · simp only [Act.put, List.setIfInBounds_toArray, List.set_cons_zero, List.set_cons_succ, i64_w, i32_w]
                  rfl
                refine pure_ (i := 20) (N := some 55) (v := undef) (a' := ?_) #[true, true, true, true, true, true, true, true, true, true, true, true, true, true, true, true, true, true, true, true, true, false, false, false, false, false, false, false, false, false, false] rfl rfl (any_of HT_.out (by kernel_rfl)) (fun _ _ _ h => h) (Or.inr ⟨by rfl, rfl⟩) ?_ ?_
                rotate_left
                · simp only [Act.put, List.setIfInBounds_toArray, List.set_cons_zero, List.set_cons_succ, i64_w, i32_w]
                  rfl
                refine pure_ (i := 21) (N := some 56) (v := undef) (a' := ?_) #[true, true, true, true, true, true, true, true, true, true, true, true, true, true, true, true, true, true, true, true, true, true, false, false, false, false, false, false, false, false, false] rfl rfl (any_of HT_.out (by kernel_rfl)) (fun _ _ _ h => h) (Or.inr ⟨by rfl, rfl⟩) ?_ ?_
                rotate_left
                · simp only [Act.put, List.setIfInBounds_toArray, List.set_cons_zero, List.set_cons_succ, i64_w, i32_w]
                  rfl
                refine pure_ (i := 22) (N := some 57) (v := undef) (a' := ?_) #[true, true, true, true, true, true, true, true, true, true, true, true, true, true, true, true, true, true, true, true, true, true, true, false, false, false, false, false, false, false, false] rfl rfl (any_of HT_.out (by kernel_rfl)) (fun _ _ _ h => h) (Or.inr ⟨by rfl, rfl⟩) ?_ ?_
                rotate_left
                · simp only [Act.put, List.setIfInBounds_toArray, List.set_cons_zero, List.set_cons_succ, i64_w, i32_w]
                  rfl
                refine pure_ (i := 23) (N := some 58) (v := undef) (a' := ?_) #[true, true, true, true, true, true, true, true, true, true, true, true, true, true, true, true, true, true, true, true, true, true, true, true, false, false, false, false, false, false, false] rfl rfl (any_of HT_.out (by kernel_rfl)) (fun _ _ _ h => h) (Or.inr ⟨by rfl, rfl⟩) ?_ ?_
                rotate_left
                · simp only [Act.put, List.setIfInBounds_toArray, List.set_cons_zero, List.set_cons_succ, i64_w, i32_w]
                  rfl
                refine pure_ (i := 24) (N := some 59) (v := undef) (a' := ?_) #[true, true, true, true, true, true, true, true, true, true, true, true, true, true, true, true, true, true, true, true, true, true, true, true, true, false, false, false, false, false, false] rfl rfl (any_of HT_.out (by kernel_rfl)) (fun _ _ _ h => h) (Or.inr ⟨by rfl, rfl⟩) ?_ ?_
                rotate_left
                · simp only [Act.put, List.setIfInBounds_toArray, List.set_cons_zero, List.set_cons_succ, i64_w, i32_w]
                  rfl
                refine pure_ (i := 25) (N := some 60) (v := undef) (a' := ?_) #[true, true, true, true, true, true, true, true, true, true, true, true, true, true, true, true, true, true, true, true, true, true, true, true, true, true, false, false, false, false, false] rfl rfl (any_of HT_.out (by kernel_rfl)) (fun _ _ _ h => h) (Or.inr ⟨by rfl, rfl⟩) ?_ ?_
                rotate_left
                · simp only [Act.put, List.setIfInBounds_toArray, List.set_cons_zero, List.set_cons_succ, i64_w, i32_w]
                  rfl
                refine pure_ (i := 26) (N := some 61) (v := undef) (a' := ?_) #[true, true, true, true, true, true, true, true, true, true, true, true, true, true, true, true, true, true, true, true, true, true, true, true, true, true, true, false, false, false, false] rfl rfl (any_of HT_.out (by kernel_rfl)) (fun _ _ _ h => h) (Or.inr ⟨by rfl, rfl⟩) ?_ ?_
                rotate_left
                · simp only [Act.put, List.setIfInBounds_toArray, List.set_cons_zero, List.set_cons_succ, i64_w, i32_w]
                  rfl
                refine pure_ (i := 27) (N := some 62) (v := undef) (a' := ?_) #[true, true, true, true, true, true, true, true, true, true, true, true, true, true, true, true, true, true, true, true, true, true, true, true, true, true, true, true, false, false, false] rfl rfl (any_of HT_.out (by kernel_rfl)) (fun _ _ _ h => h) (Or.inr ⟨by rfl, rfl⟩) ?_ ?_
                rotate_left
                · simp only [Act.put, List.setIfInBounds_toArray, List.set_cons_zero, List.set_cons_succ, i64_w, i32_w]
                  rfl
                refine pure_ (i := 28) (N := some 63) (v := undef) (a' := ?_) #[true, true, true, true, true, true, true, true, true, true, true, true, true, true, true, true, true, true, true, true, true, true, true, true, true, true, true, true, true, false, false] rfl rfl (any_of HT_.out (by kernel_rfl)) (fun _ _ _ h => h) (Or.inr ⟨by rfl, rfl⟩) ?_ ?_
                rotate_left
                · simp only [Act.put, List.setIfInBounds_toArray, List.set_cons_zero, List.set_cons_succ, i64_w, i32_w]
                  rfl
                refine pure_ (i := 29) (N := some 64) (v := ?_) (a' := ?_) #[true, true, true, true, true, true, true, true, true, true, true, true, true, true, true, true, true, true, true, true, true, true, true, true, true, true, true, true, true, true, false] rfl rfl (any_of HT_.out (by kernel_rfl)) (fun _ _ _ h => h) (Or.inl ⟨by rfl, ?_⟩) ?_ ?_
                rotate_left
                · intro w'
                  go_simp
                  with_reducible rfl
                rotate_left
                · simp only [Act.put, List.setIfInBounds_toArray, List.set_cons_zero, List.set_cons_succ, i64_w, i32_w]
                  rfl
                refine pure_ (i := 30) (N := some 6) (v := ?_) (a' := ?_) #[true, true, true, true, true, true, true, true, true, true, true, true, true, true, true, true, true, true, true, true, true, true, true, true, true, true, true, true, true, true, true] rfl rfl (any_of HT_.out (by kernel_rfl)) (fun _ _ _ h => h) (Or.inl ⟨by rfl, ?_⟩) ?_ ?_
                rotate_left
                · intro w'
                  go_simp
                  with_reducible rfl
                rotate_left
                · simp only [Act.put, List.setIfInBounds_toArray, List.set_cons_zero, List.set_cons_succ, i64_w, i32_w]
                  rfl
                refine done_ (done_of HT_.out (by kernel_rfl)) ?_
                try go_wp2
                go_ret
                exact ⟨by first | rfl | (simp [errW_none, errW_some] <;> rfl) | (simp [*, errW_none, errW_some] <;> rfl), by repeat (first | (with_reducible first | exact HB.out | apply below_alloc | apply pw_below_drewN | apply below_drew1 | refine below_set ?_ GE161.out | refine below_set ?_ GE169.out) | exact HB.out)⟩

end Go.Proofs.Ytbbeedclkfcmeaa.KFnBloom
