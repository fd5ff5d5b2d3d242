/- Printed functions over contracts that were proved by hand. -/
import Derived.Test.YtdheoajaaofmbaaTfA
import Derived.Test.YtdheoajaaofmbaaTxP
namespace Go.Proofs.Ytdheoajaaofmbaa.QFnScriptPlaces
open Go.RowKit Go.Proofs.YtdheoajaaofmbaaW.PrintWords Go.Proofs.YtdheoajaaofmbaaW.PrintLast Go.Proofs.YtdheoajaaofmbaaW.PrintMore
attribute [local go_sem] nn_mod256 nn_mod65536 nn_mod32 max2_int min2_int max_two min_two max_three min_three max_four min_four   -- for this text's walks alone
set_option linter.unusedVariables false
set_option linter.unusedSimpArgs false
/-! ### laws_FnTxFault: function 4 -/
def laws_FnTxFault.f (k : Nat) (a0_0 : Int) (l0_1 : List (S35)) (l0_2 : List (S41)) (a0_3 : Int) : Option (Bool) := (laws_zzFits2.f k a0_0 l0_1 l0_2 a0_3).bind fun t246 => (if t246 = true then ((laws_txSize.f k a0_0 l0_1 l0_2 a0_3).bind fun t247 => (if t247 > 100000 then (some true) else ((impl_TxFault.f a0_0 l0_1 l0_2 a0_3).bind fun t248 => ((spec_TxFaults.f a0_0 l0_1 l0_2 a0_3).bind fun t249 => ((laws_among.f k t248 t249).bind fun t252 => (some t252)))))) else (some true))
theorem laws_FnTxFault.mono : ∀ a0 a1 a2 a3 k, LeO (laws_FnTxFault.f k a0 a1 a2 a3) (laws_FnTxFault.f (k + 1) a0 a1 a2 a3) := by
  intro a0 a1 a2 a3 k
  unfold laws_FnTxFault.f
  repeat' first
      | (with_reducible exact laws_among.mono _ _ _)
      | (with_reducible exact laws_txSize.mono _ _ _ _ _)
      | (with_reducible exact laws_zzFits2.mono _ _ _ _ _)
      | (with_reducible exact LeO.refl _)
      | (with_reducible exact LeO.none _)
      | (with_reducible refine LeO.ite ?_ ?_)
      | (with_reducible refine LeO.bind ?_ (fun _ => ?_))
      | exact laws_among.mono _ _ _
      | exact laws_txSize.mono _ _ _ _ _
      | exact laws_zzFits2.mono _ _ _ _ _
      | exact LeO.none _
      | refine LeO.ite ?_ ?_
      | refine LeO.bind ?_ (fun _ => ?_)
set_option maxHeartbeats 8000000 in
set_option maxRecDepth 100000 in
theorem laws_FnTxFault.calls (k : Nat) (a0_0 : Int) (A0_1 : Option Addr) (c0_1 : Nat) (l0_1 : List (S35)) (A0_2 : Option Addr) (c0_2 : Nat) (l0_2 : List (S41)) (a0_3 : Int) (r : Bool) (w : World) (hr0_1 : Kd.C k35 w A0_1 l0_1.length l0_1) (hc0_1 : l0_1.length ≤ c0_1) (hr0_2 : Kd.C k41 w A0_2 l0_2.length l0_2) (hc0_2 : l0_2.length ≤ c0_2) (h : laws_FnTxFault.f k a0_0 l0_1 l0_2 a0_3 = some r) :
    Calls Try.prog 4 #[.agg #[.int .i32 a0_0, .slice A0_1 l0_1.length c0_1, .slice A0_2 l0_2.length c0_2, .int .u32 a0_3]] w fun e w' => e = .returned (.bool r) ∧ Below w.heap.size w w' := by
  have hu26 := Try.underlying26
  have HR0_1 := Aside0.mk hr0_1
  have HC0_1 := Aside0.mk hc0_1
  clear hr0_1 hc0_1
  have HR0_2 := Aside0.mk hr0_2
  have HC0_2 := Aside0.mk hc0_2
  clear hr0_2 hc0_2
  have HB := Aside0.mk (Below.refl w.heap.size w)
  have H : ((laws_zzFits2.f k a0_0 l0_1 l0_2 a0_3).bind fun t246 => (if t246 = true then ((laws_txSize.f k a0_0 l0_1 l0_2 a0_3).bind fun t247 => (if t247 > 100000 then (some true) else ((impl_TxFault.f a0_0 l0_1 l0_2 a0_3).bind fun t248 => ((spec_TxFaults.f a0_0 l0_1 l0_2 a0_3).bind fun t249 => ((laws_among.f k t248 t249).bind fun t252 => (some t252)))))) else (some true))) = some r := h
  clear h
  replace H := Option.bind_eq_some_iff.mp H
  obtain ⟨t246, A20, H⟩ := H
  replace H : (if t246 = true then ((laws_txSize.f k a0_0 l0_1 l0_2 a0_3).bind fun t247 => (if t247 > 100000 then (some true) else ((impl_TxFault.f a0_0 l0_1 l0_2 a0_3).bind fun t248 => ((spec_TxFaults.f a0_0 l0_1 l0_2 a0_3).bind fun t249 => ((laws_among.f k t248 t249).bind fun t252 => (some t252)))))) else (some true)) = some r := H
  have A2 := Aside0.mk A20
  clear A20
  by_cases c3 : t246 = true
  · subst c3
    have H1 : ((laws_txSize.f k a0_0 l0_1 l0_2 a0_3).bind fun t247 => (if t247 > 100000 then (some true) else ((impl_TxFault.f a0_0 l0_1 l0_2 a0_3).bind fun t248 => ((spec_TxFaults.f a0_0 l0_1 l0_2 a0_3).bind fun t249 => ((laws_among.f k t248 t249).bind fun t252 => (some t252)))))) = some r := by rw [if_pos rfl] at H; exact H
    clear H
    have H := H1
    clear H1
    replace H := Option.bind_eq_some_iff.mp H
    obtain ⟨t247, A40, H⟩ := H
    replace H : (if t247 > 100000 then (some true) else ((impl_TxFault.f a0_0 l0_1 l0_2 a0_3).bind fun t248 => ((spec_TxFaults.f a0_0 l0_1 l0_2 a0_3).bind fun t249 => ((laws_among.f k t248 t249).bind fun t252 => (some t252))))) = some r := H
    have A4 := Aside0.mk A40
    clear A40
    by_cases c5 : t247 > 100000
    · rw [if_pos c5] at H
      have c5b0 : decide (100000 < t247) = true := decide_eq_true c5
      clear c5
      obtain rfl := Option.some.inj H
      go_enter Try.func4, Try.ntmps4
      go_wp2_with (first | ((with_reducible refine gate_dst (N := 1) rfl ?_); refine box_event ?hg (N := 1) ?hd (cs := #[.int .i32 a0_0, .slice A0_1 l0_1.length c0_1, .slice A0_2 l0_2.length c0_2, .int .u32 a0_3]) (t := 26) ?hr ?_; (case hd => rfl); (case hg => rfl); (case hr => first | (go_simp; done) | (go_simp; rfl)); intro gb245 hg w6 hbox hb; have n0_ := Aside0.mk (below_step (by repeat (first | (with_reducible first | exact HB.out | apply below_alloc | apply pw_below_drewN | apply below_drew1) | exact HB.out)) hb); have n1_ := Aside0.mk (hbox); have n2_ := Aside0.mk ((by rw [hg]; exact (below_size (by repeat (first | (with_reducible first | exact HB.out | apply below_alloc | apply pw_below_drewN | apply below_drew1) | exact HB.out))) : w.heap.size ≤ gb245)); have n3_ := Aside0.mk ((by rw [hg]; exact (below_size (by repeat (first | (with_reducible first | exact HB.out | apply below_alloc | apply pw_below_drewN | apply below_drew1) | exact HB.out))) : w.heap.size ≤ gb245)); clear HB; have HB := n0_; have BK245 := n1_; have GW245 := n2_; have GE245 := n3_; clear n0_ n1_ n2_ n3_; clear hb hbox hg; have hcz7_0 : w6.cell? ⟨gb245, 0, none⟩ = some (.int .i32 a0_0) := (blk_cell BK245.out 0).trans rfl; have hcz7_1 : w6.cell? ⟨gb245, 1, none⟩ = some (.slice A0_1 l0_1.length c0_1) := (blk_cell BK245.out 1).trans rfl; have hcz7_2 : w6.cell? ⟨gb245, 2, none⟩ = some (.slice A0_2 l0_2.length c0_2) := (blk_cell BK245.out 2).trans rfl; have hcz7_3 : w6.cell? ⟨gb245, 3, none⟩ = some (.int .u32 a0_3) := (blk_cell BK245.out 3).trans rfl; have hfz7_0 := blk_frozen BK245.out 0; have hfz7_1 := blk_frozen BK245.out 1; have hfz7_2 := blk_frozen BK245.out 2; have hfz7_3 := blk_frozen BK245.out 3) | ((with_reducible refine gate_callee (f := 6) rfl ?_); refine goesL_ (some 4) rfl rfl Try.func6 (by kernel_rfl) rfl #[.agg #[.int .i32 a0_0, .slice A0_1 l0_1.length c0_1, .slice A0_2 l0_2.length c0_2, .int .u32 a0_3]] rfl (by (try simp only [List.map_toArray, List.map_cons, List.map_nil]); first | done | rfl | (simp only [List.length_drop, List.length_take]; rfl)) ?_; (with_reducible refine (laws_zzFits2.calls k a0_0 _ _ l0_1 _ _ l0_2 a0_3 true _ ?side1 ?side2 ?side3 ?side4 A2.out).mono ?_); (case side1 => repeat (first | exact (Kd.C_below HR0_1.out HB.out) | (with_reducible refine Kd.C_alloc ?_ _) | (with_reducible refine Kd.C_drewN ?_ _) | (with_reducible refine Kd.C_drew ?_))); (case side2 => exact HC0_1.out); (case side3 => repeat (first | exact (Kd.C_below HR0_2.out HB.out) | (with_reducible refine Kd.C_alloc ?_ _) | (with_reducible refine Kd.C_drewN ?_ _) | (with_reducible refine Kd.C_drew ?_))); (case side4 => exact HC0_2.out); rintro e w8 ⟨rfl, hb⟩; refine ⟨_, rfl, ?_⟩; have n0_ := Aside0.mk (blk_below (g := gb245) (o := .cells #[.int .i32 a0_0, .slice A0_1 l0_1.length c0_1, .slice A0_2 l0_2.length c0_2, .int .u32 a0_3] 26 (0, 0)) (by (with_reducible repeat (first | refine blk_drewN ?_ _ | refine blk_drew ?_ | refine blk_alloc ?_ _)); exact BK245.out) hb); have n1_ := Aside0.mk (below_step (by repeat (first | (with_reducible first | exact HB.out | apply below_alloc | apply pw_below_drewN | apply below_drew1 | refine below_set ?_ GE245.out) | exact HB.out)) hb); clear BK245; clear HB; have BK245 := n0_; have HB := n1_; clear n0_ n1_; (try clear hb); (try clear hb2); (try clear hk); (try clear hi); have hcz9_0 : w8.cell? ⟨gb245, 0, none⟩ = some (.int .i32 a0_0) := (blk_cell BK245.out 0).trans rfl; have hcz9_1 : w8.cell? ⟨gb245, 1, none⟩ = some (.slice A0_1 l0_1.length c0_1) := (blk_cell BK245.out 1).trans rfl; have hcz9_2 : w8.cell? ⟨gb245, 2, none⟩ = some (.slice A0_2 l0_2.length c0_2) := (blk_cell BK245.out 2).trans rfl; have hcz9_3 : w8.cell? ⟨gb245, 3, none⟩ = some (.int .u32 a0_3) := (blk_cell BK245.out 3).trans rfl; have hfz9_0 := blk_frozen BK245.out 0; have hfz9_1 := blk_frozen BK245.out 1; have hfz9_2 := blk_frozen BK245.out 2; have hfz9_3 := blk_frozen BK245.out 3) | ((with_reducible refine gate_callee (f := 7) rfl ?_); refine goesL_ (some 7) rfl rfl Try.func7 (by kernel_rfl) rfl #[.agg #[.int .i32 a0_0, .slice A0_1 l0_1.length c0_1, .slice A0_2 l0_2.length c0_2, .int .u32 a0_3]] rfl (by (try simp only [List.map_toArray, List.map_cons, List.map_nil]); first | done | rfl | (simp only [List.length_drop, List.length_take]; rfl)) ?_; (with_reducible refine (laws_txSize.calls k a0_0 _ _ l0_1 _ _ l0_2 a0_3 t247 _ ?side1 ?side2 ?side3 ?side4 A4.out).mono ?_); (case side1 => repeat (first | exact (Kd.C_below HR0_1.out HB.out) | (with_reducible refine Kd.C_alloc ?_ _) | (with_reducible refine Kd.C_drewN ?_ _) | (with_reducible refine Kd.C_drew ?_))); (case side2 => exact HC0_1.out); (case side3 => repeat (first | exact (Kd.C_below HR0_2.out HB.out) | (with_reducible refine Kd.C_alloc ?_ _) | (with_reducible refine Kd.C_drewN ?_ _) | (with_reducible refine Kd.C_drew ?_))); (case side4 => exact HC0_2.out); rintro e w10 ⟨rfl, hb⟩; refine ⟨_, rfl, ?_⟩; have n0_ := Aside0.mk (blk_below (g := gb245) (o := .cells #[.int .i32 a0_0, .slice A0_1 l0_1.length c0_1, .slice A0_2 l0_2.length c0_2, .int .u32 a0_3] 26 (0, 0)) (by (with_reducible repeat (first | refine blk_drewN ?_ _ | refine blk_drew ?_ | refine blk_alloc ?_ _)); exact BK245.out) hb); have n1_ := Aside0.mk (below_step (by repeat (first | (with_reducible first | exact HB.out | apply below_alloc | apply pw_below_drewN | apply below_drew1 | refine below_set ?_ GE245.out) | exact HB.out)) hb); clear BK245; clear HB; have BK245 := n0_; have HB := n1_; clear n0_ n1_; (try clear hb); (try clear hb2); (try clear hk); (try clear hi)))
      go_ret
      exact ⟨by first | rfl | (simp [errW_none, errW_some] <;> rfl) | (simp [*, errW_none, errW_some] <;> rfl), by repeat (first | (with_reducible first | exact HB.out | apply below_alloc | apply pw_below_drewN | apply below_drew1 | refine below_set ?_ GE245.out) | exact HB.out)⟩
    · rw [if_neg c5] at H
      have c5b0 : decide (100000 < t247) = false := decide_eq_false c5
      clear c5
      replace H := Option.bind_eq_some_iff.mp H
      obtain ⟨t248, A110, H⟩ := H
      replace H : ((spec_TxFaults.f a0_0 l0_1 l0_2 a0_3).bind fun t249 => ((laws_among.f k t248 t249).bind fun t252 => (some t252))) = some r := H
      have A11 := Aside0.mk A110
      clear A110
      replace H := Option.bind_eq_some_iff.mp H
      obtain ⟨t249, A120, H⟩ := H
      replace H : ((laws_among.f k t248 t249).bind fun t252 => (some t252)) = some r := H
      have A12 := Aside0.mk A120
      clear A120
      replace H := Option.bind_eq_some_iff.mp H
      obtain ⟨t252, A130, H⟩ := H
      replace H : (some t252) = some r := H
      have A13 := Aside0.mk A130
      clear A130
      obtain rfl := Option.some.inj H
      go_enter Try.func4, Try.ntmps4
      try go_wp2_with (first | ((with_reducible refine gate_dst (N := 1) rfl ?_); refine box_event ?hg (N := 1) ?hd (cs := #[.int .i32 a0_0, .slice A0_1 l0_1.length c0_1, .slice A0_2 l0_2.length c0_2, .int .u32 a0_3]) (t := 26) ?hr ?_; (case hd => rfl); (case hg => rfl); (case hr => first | (go_simp; done) | (go_simp; rfl)); intro gb245 hg w14 hbox hb; have n0_ := Aside0.mk (below_step (by repeat (first | (with_reducible first | exact HB.out | apply below_alloc | apply pw_below_drewN | apply below_drew1) | exact HB.out)) hb); have n1_ := Aside0.mk (hbox); have n2_ := Aside0.mk ((by rw [hg]; exact (below_size (by repeat (first | (with_reducible first | exact HB.out | apply below_alloc | apply pw_below_drewN | apply below_drew1) | exact HB.out))) : w.heap.size ≤ gb245)); have n3_ := Aside0.mk ((by rw [hg]; exact (below_size (by repeat (first | (with_reducible first | exact HB.out | apply below_alloc | apply pw_below_drewN | apply below_drew1) | exact HB.out))) : w.heap.size ≤ gb245)); clear HB; have HB := n0_; have BK245 := n1_; have GW245 := n2_; have GE245 := n3_; clear n0_ n1_ n2_ n3_; clear hb hbox hg; have hcz15_0 : w14.cell? ⟨gb245, 0, none⟩ = some (.int .i32 a0_0) := (blk_cell BK245.out 0).trans rfl; have hcz15_1 : w14.cell? ⟨gb245, 1, none⟩ = some (.slice A0_1 l0_1.length c0_1) := (blk_cell BK245.out 1).trans rfl; have hcz15_2 : w14.cell? ⟨gb245, 2, none⟩ = some (.slice A0_2 l0_2.length c0_2) := (blk_cell BK245.out 2).trans rfl; have hcz15_3 : w14.cell? ⟨gb245, 3, none⟩ = some (.int .u32 a0_3) := (blk_cell BK245.out 3).trans rfl; have hfz15_0 := blk_frozen BK245.out 0; have hfz15_1 := blk_frozen BK245.out 1; have hfz15_2 := blk_frozen BK245.out 2; have hfz15_3 := blk_frozen BK245.out 3) | ((with_reducible refine gate_callee (f := 6) rfl ?_); refine goesL_ (some 4) rfl rfl Try.func6 (by kernel_rfl) rfl #[.agg #[.int .i32 a0_0, .slice A0_1 l0_1.length c0_1, .slice A0_2 l0_2.length c0_2, .int .u32 a0_3]] rfl (by (try simp only [List.map_toArray, List.map_cons, List.map_nil]); first | done | rfl | (simp only [List.length_drop, List.length_take]; rfl)) ?_; (with_reducible refine (laws_zzFits2.calls k a0_0 _ _ l0_1 _ _ l0_2 a0_3 true _ ?side1 ?side2 ?side3 ?side4 A2.out).mono ?_); (case side1 => repeat (first | exact (Kd.C_below HR0_1.out HB.out) | (with_reducible refine Kd.C_alloc ?_ _) | (with_reducible refine Kd.C_drewN ?_ _) | (with_reducible refine Kd.C_drew ?_))); (case side2 => exact HC0_1.out); (case side3 => repeat (first | exact (Kd.C_below HR0_2.out HB.out) | (with_reducible refine Kd.C_alloc ?_ _) | (with_reducible refine Kd.C_drewN ?_ _) | (with_reducible refine Kd.C_drew ?_))); (case side4 => exact HC0_2.out); rintro e w16 ⟨rfl, hb⟩; refine ⟨_, rfl, ?_⟩; have n0_ := Aside0.mk (blk_below (g := gb245) (o := .cells #[.int .i32 a0_0, .slice A0_1 l0_1.length c0_1, .slice A0_2 l0_2.length c0_2, .int .u32 a0_3] 26 (0, 0)) (by (with_reducible repeat (first | refine blk_drewN ?_ _ | refine blk_drew ?_ | refine blk_alloc ?_ _)); exact BK245.out) hb); have n1_ := Aside0.mk (below_step (by repeat (first | (with_reducible first | exact HB.out | apply below_alloc | apply pw_below_drewN | apply below_drew1 | refine below_set ?_ GE245.out) | exact HB.out)) hb); clear BK245; clear HB; have BK245 := n0_; have HB := n1_; clear n0_ n1_; (try clear hb); (try clear hb2); (try clear hk); (try clear hi); have hcz17_0 : w16.cell? ⟨gb245, 0, none⟩ = some (.int .i32 a0_0) := (blk_cell BK245.out 0).trans rfl; have hcz17_1 : w16.cell? ⟨gb245, 1, none⟩ = some (.slice A0_1 l0_1.length c0_1) := (blk_cell BK245.out 1).trans rfl; have hcz17_2 : w16.cell? ⟨gb245, 2, none⟩ = some (.slice A0_2 l0_2.length c0_2) := (blk_cell BK245.out 2).trans rfl; have hcz17_3 : w16.cell? ⟨gb245, 3, none⟩ = some (.int .u32 a0_3) := (blk_cell BK245.out 3).trans rfl; have hfz17_0 := blk_frozen BK245.out 0; have hfz17_1 := blk_frozen BK245.out 1; have hfz17_2 := blk_frozen BK245.out 2; have hfz17_3 := blk_frozen BK245.out 3) | ((with_reducible refine gate_callee (f := 7) rfl ?_); refine goesL_ (some 7) rfl rfl Try.func7 (by kernel_rfl) rfl #[.agg #[.int .i32 a0_0, .slice A0_1 l0_1.length c0_1, .slice A0_2 l0_2.length c0_2, .int .u32 a0_3]] rfl (by (try simp only [List.map_toArray, List.map_cons, List.map_nil]); first | done | rfl | (simp only [List.length_drop, List.length_take]; rfl)) ?_; (with_reducible refine (laws_txSize.calls k a0_0 _ _ l0_1 _ _ l0_2 a0_3 t247 _ ?side1 ?side2 ?side3 ?side4 A4.out).mono ?_); (case side1 => repeat (first | exact (Kd.C_below HR0_1.out HB.out) | (with_reducible refine Kd.C_alloc ?_ _) | (with_reducible refine Kd.C_drewN ?_ _) | (with_reducible refine Kd.C_drew ?_))); (case side2 => exact HC0_1.out); (case side3 => repeat (first | exact (Kd.C_below HR0_2.out HB.out) | (with_reducible refine Kd.C_alloc ?_ _) | (with_reducible refine Kd.C_drewN ?_ _) | (with_reducible refine Kd.C_drew ?_))); (case side4 => exact HC0_2.out); rintro e w18 ⟨rfl, hb⟩; refine ⟨_, rfl, ?_⟩; have n0_ := Aside0.mk (blk_below (g := gb245) (o := .cells #[.int .i32 a0_0, .slice A0_1 l0_1.length c0_1, .slice A0_2 l0_2.length c0_2, .int .u32 a0_3] 26 (0, 0)) (by (with_reducible repeat (first | refine blk_drewN ?_ _ | refine blk_drew ?_ | refine blk_alloc ?_ _)); exact BK245.out) hb); have n1_ := Aside0.mk (below_step (by repeat (first | (with_reducible first | exact HB.out | apply below_alloc | apply pw_below_drewN | apply below_drew1 | refine below_set ?_ GE245.out) | exact HB.out)) hb); clear BK245; clear HB; have BK245 := n0_; have HB := n1_; clear n0_ n1_; (try clear hb); (try clear hb2); (try clear hk); (try clear hi)))
      have n0_ := Aside0.mk (blk_drew BK245.out)
      have n1_ := Aside0.mk (below_drew1 HB.out)
      clear BK245
      clear HB
      have BK245 := n0_
      have HB := n1_
      clear n0_ n1_
      refine start_ (n := 6) (S := fun w' => w'.cell? ⟨gb245, 0, none⟩ = some (.int .i32 a0_0) ∧ w'.cell? ⟨gb245, 1, none⟩ = some (.slice A0_1 l0_1.length c0_1) ∧ w'.cell? ⟨gb245, 2, none⟩ = some (.slice A0_2 l0_2.length c0_2) ∧ w'.cell? ⟨gb245, 3, none⟩ = some (.int .u32 a0_3)) (ds := []) #[false, false, false, false, false, false] (by kernel_rfl) rfl rfl ⟨(blk_cell BK245.out 0).trans rfl, (blk_cell BK245.out 1).trans rfl, (blk_cell BK245.out 2).trans rfl, (blk_cell BK245.out 3).trans rfl⟩ (fun hHeld => ?_)
      generalize w18.drew = w19 at BK245 HB hHeld ⊢
      refine take_ (i := 0) (N := some 9) (v := ?_) (a' := ?_) #[true, false, false, false, false, false] rfl rfl (by kernel_rfl) (fun _ _ _ h => h) (Or.inl ⟨by rfl, ?_⟩) hHeld ?_ ?_
      rotate_left
      · rintro w' ⟨s0, s1, s2, s3⟩
        go_simp
        with_reducible rfl
      rotate_left
      · simp only [Act.put, List.setIfInBounds_toArray, List.set_cons_zero, List.set_cons_succ, i64_w, i32_w]
        rfl
      refine take_ (i := 2) (N := some 11) (v := ?_) (a' := ?_) #[true, false, true, false, false, false] rfl rfl (by kernel_rfl) (fun _ _ _ h => h) (Or.inl ⟨by rfl, ?_⟩) hHeld ?_ ?_
      rotate_left
      · rintro w' ⟨s0, s1, s2, s3⟩
        go_simp
        with_reducible rfl
      rotate_left
      · simp only [Act.put, List.setIfInBounds_toArray, List.set_cons_zero, List.set_cons_succ, i64_w, i32_w]
        rfl
      refine one_ (i := 1) (N := some 10) #[true, true, true, false, false, false] rfl rfl (by kernel_rfl) (by decide) (fun K hK => ?_)
      refine goes_ Try.func15 (by kernel_rfl) rfl #[.agg #[.int .i32 a0_0, .slice A0_1 l0_1.length c0_1, .slice A0_2 l0_2.length c0_2, .int .u32 a0_3]] (by rfl) rfl rfl (by (try simp only [List.map_toArray, List.map_cons, List.map_nil]); first | done | rfl | (simp only [List.length_drop, List.length_take]; rfl)) ?_
      with_reducible refine (impl_TxFault.calls a0_0 _ _ l0_1 _ _ l0_2 a0_3 t248 _ ?side1 ?side2 ?side3 ?side4 A11.out).mono ?_
      (case side1 => repeat (first | exact (Kd.C_below HR0_1.out HB.out) | (with_reducible refine Kd.C_alloc ?_ _) | (with_reducible refine Kd.C_drewN ?_ _) | (with_reducible refine Kd.C_drew ?_)))
      (case side2 => exact HC0_1.out)
      (case side3 => repeat (first | exact (Kd.C_below HR0_2.out HB.out) | (with_reducible refine Kd.C_alloc ?_ _) | (with_reducible refine Kd.C_drewN ?_ _) | (with_reducible refine Kd.C_drew ?_)))
      (case side4 => exact HC0_2.out)
      rintro e w20 ⟨rfl, hb⟩
      refine ⟨_, rfl, ?_⟩
      have n0_ := Aside0.mk (blk_below (g := gb245) (o := .cells #[.int .i32 a0_0, .slice A0_1 l0_1.length c0_1, .slice A0_2 l0_2.length c0_2, .int .u32 a0_3] 26 (0, 0)) (by (with_reducible repeat (first | refine blk_drewN ?_ _ | refine blk_drew ?_ | refine blk_alloc ?_ _)); exact BK245.out) hb)
      have n1_ := Aside0.mk (below_step (by repeat (first | (with_reducible first | exact HB.out | apply below_alloc | apply pw_below_drewN | apply below_drew1 | refine below_set ?_ GE245.out) | exact HB.out)) hb)
      clear BK245
      clear HB
      have BK245 := n0_
      have HB := n1_
      clear n0_ n1_
      (try clear hb)
      (try clear hb2)
      (try clear hk)
      (try clear hi)
      refine hK.out _ _ ⟨(blk_cell BK245.out 0).trans rfl, (blk_cell BK245.out 1).trans rfl, (blk_cell BK245.out 2).trans rfl, (blk_cell BK245.out 3).trans rfl⟩ (fun hHeld => ?_)
      clear hK K
      refine norm_ (a' := ?_) ?_ ?_
      rotate_left
      · show Act.put _ (some 10) _ = _
        simp only [Act.put, List.setIfInBounds_toArray, List.set_cons_zero, List.set_cons_succ, i64_w, i32_w]
        rfl
      refine one_ (i := 3) (N := some 12) #[true, true, true, true, false, false] rfl rfl (by kernel_rfl) (by decide) (fun K hK => ?_)
      refine goes_ Try.func16 (by kernel_rfl) rfl #[.agg #[.int .i32 a0_0, .slice A0_1 l0_1.length c0_1, .slice A0_2 l0_2.length c0_2, .int .u32 a0_3]] (by rfl) rfl rfl (by (try simp only [List.map_toArray, List.map_cons, List.map_nil]); first | done | rfl | (simp only [List.length_drop, List.length_take]; rfl)) ?_
      with_reducible refine (spec_TxFaults.calls a0_0 _ _ l0_1 _ _ l0_2 a0_3 t249 _ ?side1 ?side2 ?side3 ?side4 A12.out).mono ?_
      (case side1 => repeat (first | exact (Kd.C_below HR0_1.out HB.out) | (with_reducible refine Kd.C_alloc ?_ _) | (with_reducible refine Kd.C_drewN ?_ _) | (with_reducible refine Kd.C_drew ?_)))
      (case side2 => exact HC0_1.out)
      (case side3 => repeat (first | exact (Kd.C_below HR0_2.out HB.out) | (with_reducible refine Kd.C_alloc ?_ _) | (with_reducible refine Kd.C_drewN ?_ _) | (with_reducible refine Kd.C_drew ?_)))
      (case side4 => exact HC0_2.out)
      rintro e w21 ⟨v250, rfl, ho0, hb⟩
      refine ⟨_, rfl, ?_⟩
      have n0_ := Aside0.mk (Kd.R_lower ho0 (below_size (by repeat (first | (with_reducible first | exact HB.out | apply below_alloc | apply pw_below_drewN | apply below_drew1 | refine below_set ?_ GE245.out) | exact HB.out))))
      have n1_ := Aside0.mk (blk_below (g := gb245) (o := .cells #[.int .i32 a0_0, .slice A0_1 l0_1.length c0_1, .slice A0_2 l0_2.length c0_2, .int .u32 a0_3] 26 (0, 0)) (by (with_reducible repeat (first | refine blk_drewN ?_ _ | refine blk_drew ?_ | refine blk_alloc ?_ _)); exact BK245.out) hb)
      have n2_ := Aside0.mk (below_step (by repeat (first | (with_reducible first | exact HB.out | apply below_alloc | apply pw_below_drewN | apply below_drew1 | refine below_set ?_ GE245.out) | exact HB.out)) hb)
      clear BK245
      clear HB
      have HO251 := n0_
      have BK245 := n1_
      have HB := n2_
      clear n0_ n1_ n2_
      (try clear hb)
      (try clear hb2)
      (try clear hk)
      (try clear hi)
      (try clear ho0)
      obtain ⟨Ao22, co22, eo22⟩ := Kd.R_slice HO251.out
      (first | subst eo22 | (injection eo22 with f1_ f2_ f3_; have f4_ := f1_.symm; have f5_ := f3_.symm; clear f1_ f2_ f3_; subst f4_; subst f5_))
      refine hK.out _ _ ⟨(blk_cell BK245.out 0).trans rfl, (blk_cell BK245.out 1).trans rfl, (blk_cell BK245.out 2).trans rfl, (blk_cell BK245.out 3).trans rfl⟩ (fun hHeld => ?_)
      clear hK K
      refine norm_ (a' := ?_) ?_ ?_
      rotate_left
      · show Act.put _ (some 12) _ = _
        simp only [Act.put, List.setIfInBounds_toArray, List.set_cons_zero, List.set_cons_succ, i64_w, i32_w]
        rfl
      refine one_ (i := 4) (N := some 13) #[true, true, true, true, true, false] rfl rfl (by kernel_rfl) (by decide) (fun K hK => ?_)
      refine goes_ Try.func14 (by kernel_rfl) rfl #[.int .i64 t248, .slice Ao22 t249.length co22] (by rfl) rfl rfl (by (try simp only [List.map_toArray, List.map_cons, List.map_nil]); first | done | rfl | (simp only [List.length_drop, List.length_take]; rfl)) ?_
      with_reducible refine (laws_among.calls k t248 _ _ t249 t252 _ ?side1 ?side2 A13.out).mono ?_
      (case side1 => repeat (first | exact (Kd.R_reads' HO251.out).2.2 | (with_reducible refine Kd.C_alloc ?_ _) | (with_reducible refine Kd.C_drewN ?_ _) | (with_reducible refine Kd.C_drew ?_)))
      (case side2 => exact (Kd.R_reads' HO251.out).2.1)
      rintro e w' ⟨rfl, ⟨nd, rfl⟩⟩
      refine ⟨_, rfl, ?_⟩
      refine hK.out _ _ ⟨(blk_cell BK245.out 0).trans rfl, (blk_cell BK245.out 1).trans rfl, (blk_cell BK245.out 2).trans rfl, (blk_cell BK245.out 3).trans rfl⟩ (fun hHeld => ?_)
      clear hK K
      refine norm_ (a' := ?_) ?_ ?_
      rotate_left
      · show Act.put _ (some 13) _ = _
        simp only [Act.put, List.setIfInBounds_toArray, List.set_cons_zero, List.set_cons_succ, i64_w, i32_w]
        rfl
      refine pure_ (i := 5) (N := some 2) (v := ?_) (a' := ?_) #[true, true, true, true, true, true] rfl rfl (by kernel_rfl) (fun _ _ _ h => h) (Or.inl ⟨by rfl, ?_⟩) ?_ ?_
      rotate_left
      · intro w'
        go_simp
        with_reducible rfl
      rotate_left
      · simp only [Act.put, List.setIfInBounds_toArray, List.set_cons_zero, List.set_cons_succ, i64_w, i32_w]
        rfl
      refine done_ (by kernel_rfl) ?_
      try go_wp2
      go_ret
      exact ⟨by first | rfl | (simp [errW_none, errW_some] <;> rfl) | (simp [*, errW_none, errW_some] <;> rfl), by repeat (first | (with_reducible first | exact HB.out | apply below_alloc | apply pw_below_drewN | apply below_drew1 | refine below_set ?_ GE245.out) | exact HB.out)⟩
  · replace c3 := Bool.eq_false_iff.mpr c3
    subst c3
    have H1 : (some true) = some r := by rw [if_neg (show ¬ (false = true) by decide)] at H; exact H
    clear H
    have H := H1
    clear H1
    obtain rfl := Option.some.inj H
    go_enter Try.func4, Try.ntmps4
    go_wp2_with (first | ((with_reducible refine gate_dst (N := 1) rfl ?_); refine box_event ?hg (N := 1) ?hd (cs := #[.int .i32 a0_0, .slice A0_1 l0_1.length c0_1, .slice A0_2 l0_2.length c0_2, .int .u32 a0_3]) (t := 26) ?hr ?_; (case hd => rfl); (case hg => rfl); (case hr => first | (go_simp; done) | (go_simp; rfl)); intro gb245 hg w23 hbox hb; have n0_ := Aside0.mk (below_step (by repeat (first | (with_reducible first | exact HB.out | apply below_alloc | apply pw_below_drewN | apply below_drew1) | exact HB.out)) hb); have n1_ := Aside0.mk (hbox); have n2_ := Aside0.mk ((by rw [hg]; exact (below_size (by repeat (first | (with_reducible first | exact HB.out | apply below_alloc | apply pw_below_drewN | apply below_drew1) | exact HB.out))) : w.heap.size ≤ gb245)); have n3_ := Aside0.mk ((by rw [hg]; exact (below_size (by repeat (first | (with_reducible first | exact HB.out | apply below_alloc | apply pw_below_drewN | apply below_drew1) | exact HB.out))) : w.heap.size ≤ gb245)); clear HB; have HB := n0_; have BK245 := n1_; have GW245 := n2_; have GE245 := n3_; clear n0_ n1_ n2_ n3_; clear hb hbox hg; have hcz24_0 : w23.cell? ⟨gb245, 0, none⟩ = some (.int .i32 a0_0) := (blk_cell BK245.out 0).trans rfl; have hcz24_1 : w23.cell? ⟨gb245, 1, none⟩ = some (.slice A0_1 l0_1.length c0_1) := (blk_cell BK245.out 1).trans rfl; have hcz24_2 : w23.cell? ⟨gb245, 2, none⟩ = some (.slice A0_2 l0_2.length c0_2) := (blk_cell BK245.out 2).trans rfl; have hcz24_3 : w23.cell? ⟨gb245, 3, none⟩ = some (.int .u32 a0_3) := (blk_cell BK245.out 3).trans rfl; have hfz24_0 := blk_frozen BK245.out 0; have hfz24_1 := blk_frozen BK245.out 1; have hfz24_2 := blk_frozen BK245.out 2; have hfz24_3 := blk_frozen BK245.out 3) | ((with_reducible refine gate_callee (f := 6) rfl ?_); refine goesL_ (some 4) rfl rfl Try.func6 (by kernel_rfl) rfl #[.agg #[.int .i32 a0_0, .slice A0_1 l0_1.length c0_1, .slice A0_2 l0_2.length c0_2, .int .u32 a0_3]] rfl (by (try simp only [List.map_toArray, List.map_cons, List.map_nil]); first | done | rfl | (simp only [List.length_drop, List.length_take]; rfl)) ?_; (with_reducible refine (laws_zzFits2.calls k a0_0 _ _ l0_1 _ _ l0_2 a0_3 false _ ?side1 ?side2 ?side3 ?side4 A2.out).mono ?_); (case side1 => repeat (first | exact (Kd.C_below HR0_1.out HB.out) | (with_reducible refine Kd.C_alloc ?_ _) | (with_reducible refine Kd.C_drewN ?_ _) | (with_reducible refine Kd.C_drew ?_))); (case side2 => exact HC0_1.out); (case side3 => repeat (first | exact (Kd.C_below HR0_2.out HB.out) | (with_reducible refine Kd.C_alloc ?_ _) | (with_reducible refine Kd.C_drewN ?_ _) | (with_reducible refine Kd.C_drew ?_))); (case side4 => exact HC0_2.out); rintro e w25 ⟨rfl, hb⟩; refine ⟨_, rfl, ?_⟩; have n0_ := Aside0.mk (blk_below (g := gb245) (o := .cells #[.int .i32 a0_0, .slice A0_1 l0_1.length c0_1, .slice A0_2 l0_2.length c0_2, .int .u32 a0_3] 26 (0, 0)) (by (with_reducible repeat (first | refine blk_drewN ?_ _ | refine blk_drew ?_ | refine blk_alloc ?_ _)); exact BK245.out) hb); have n1_ := Aside0.mk (below_step (by repeat (first | (with_reducible first | exact HB.out | apply below_alloc | apply pw_below_drewN | apply below_drew1 | refine below_set ?_ GE245.out) | exact HB.out)) hb); clear BK245; clear HB; have BK245 := n0_; have HB := n1_; clear n0_ n1_; (try clear hb); (try clear hb2); (try clear hk); (try clear hi)))
    go_ret
    exact ⟨by first | rfl | (simp [errW_none, errW_some] <;> rfl) | (simp [*, errW_none, errW_some] <;> rfl), by repeat (first | (with_reducible first | exact HB.out | apply below_alloc | apply pw_below_drewN | apply below_drew1 | refine below_set ?_ GE245.out) | exact HB.out)⟩

end Go.Proofs.Ytdheoajaaofmbaa.QFnScriptPlaces
