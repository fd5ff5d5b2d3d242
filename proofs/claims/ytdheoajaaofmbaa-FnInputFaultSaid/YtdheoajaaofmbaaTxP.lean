/- Printed functions over contracts that were proved by hand. -/
import Derived.Test.YtdheoajaaofmbaaTx3
namespace Go.Proofs.Ytdheoajaaofmbaa.QFnScriptPlaces
open Go.RowKit Go.Proofs.YtdheoajaaofmbaaW.PrintWords Go.Proofs.YtdheoajaaofmbaaW.PrintLast Go.Proofs.YtdheoajaaofmbaaW.PrintMore
attribute [local go_sem] nn_mod256 nn_mod65536 nn_mod32 max2_int min2_int max_two min_two max_three min_three max_four min_four   -- for this text's walks alone
set_option linter.unusedVariables false
set_option linter.unusedSimpArgs false
/-! ### laws_zzFits2: function 6 -/
def laws_zzFits2.f (k : Nat) (a0_0 : Int) (l0_1 : List (S35)) (l0_2 : List (S41)) (a0_3 : Int) : Option (Bool) := (laws_zzFits3.f l0_1).bind fun t112 => (if t112 = true then ((laws_zzFits6.f k l0_2).bind fun t113 => (if t113 = true then (some true) else (some false))) else (some false))
theorem laws_zzFits2.mono : ∀ a0 a1 a2 a3 k, LeO (laws_zzFits2.f k a0 a1 a2 a3) (laws_zzFits2.f (k + 1) a0 a1 a2 a3) := by
  intro a0 a1 a2 a3 k
  unfold laws_zzFits2.f
  repeat' first
      | (with_reducible exact laws_zzFits6.mono _ _)
      | (with_reducible exact LeO.refl _)
      | (with_reducible exact LeO.none _)
      | (with_reducible refine LeO.ite ?_ ?_)
      | (with_reducible refine LeO.bind ?_ (fun _ => ?_))
      | exact laws_zzFits6.mono _ _
      | exact LeO.none _
      | refine LeO.ite ?_ ?_
      | refine LeO.bind ?_ (fun _ => ?_)
set_option maxHeartbeats 8000000 in
set_option maxRecDepth 100000 in
theorem laws_zzFits2.calls (k : Nat) (a0_0 : Int) (A0_1 : Option Addr) (c0_1 : Nat) (l0_1 : List (S35)) (A0_2 : Option Addr) (c0_2 : Nat) (l0_2 : List (S41)) (a0_3 : Int) (r : Bool) (w : World) (hr0_1 : Kd.C k35 w A0_1 l0_1.length l0_1) (hc0_1 : l0_1.length ≤ c0_1) (hr0_2 : Kd.C k41 w A0_2 l0_2.length l0_2) (hc0_2 : l0_2.length ≤ c0_2) (h : laws_zzFits2.f k a0_0 l0_1 l0_2 a0_3 = some r) :
    Calls Try.prog 6 #[.agg #[.int .i32 a0_0, .slice A0_1 l0_1.length c0_1, .slice A0_2 l0_2.length c0_2, .int .u32 a0_3]] w fun e w' => e = .returned (.bool r) ∧ Below w.heap.size w w' := by
  have hu26 := Try.underlying26
  have HR0_1 := Aside0.mk hr0_1
  have HC0_1 := Aside0.mk hc0_1
  clear hr0_1 hc0_1
  have HR0_2 := Aside0.mk hr0_2
  have HC0_2 := Aside0.mk hc0_2
  clear hr0_2 hc0_2
  have HB := Aside0.mk (Below.refl w.heap.size w)
  have H : ((laws_zzFits3.f l0_1).bind fun t112 => (if t112 = true then ((laws_zzFits6.f k l0_2).bind fun t113 => (if t113 = true then (some true) else (some false))) else (some false))) = some r := h
  clear h
  replace H := Option.bind_eq_some_iff.mp H
  obtain ⟨t112, A20, H⟩ := H
  replace H : (if t112 = true then ((laws_zzFits6.f k l0_2).bind fun t113 => (if t113 = true then (some true) else (some false))) else (some false)) = some r := H
  have A2 := Aside0.mk A20
  clear A20
  by_cases c3 : t112 = true
  · subst c3
    have H1 : ((laws_zzFits6.f k l0_2).bind fun t113 => (if t113 = true then (some true) else (some false))) = some r := by rw [if_pos rfl] at H; exact H
    clear H
    have H := H1
    clear H1
    replace H := Option.bind_eq_some_iff.mp H
    obtain ⟨t113, A40, H⟩ := H
    replace H : (if t113 = true then (some true) else (some false)) = some r := H
    have A4 := Aside0.mk A40
    clear A40
    by_cases c5 : t113 = true
    · subst c5
      have H1 : (some true) = some r := by rw [if_pos rfl] at H; exact H
      clear H
      have H := H1
      clear H1
      obtain rfl := Option.some.inj H
      go_enter Try.func6, Try.ntmps6
      go_wp2_with (first | ((with_reducible refine gate_dst (N := 1) rfl ?_); refine box_event ?hg (N := 1) ?hd (cs := #[.int .i32 a0_0, .slice A0_1 l0_1.length c0_1, .slice A0_2 l0_2.length c0_2, .int .u32 a0_3]) (t := 26) ?hr ?_; (case hd => rfl); (case hg => rfl); (case hr => first | (go_simp; done) | (go_simp; rfl)); intro gb111 hg w6 hbox hb; have n0_ := Aside0.mk (below_step (by repeat (first | (with_reducible first | exact HB.out | apply below_alloc | apply pw_below_drewN | apply below_drew1) | exact HB.out)) hb); have n1_ := Aside0.mk (hbox); have n2_ := Aside0.mk ((by rw [hg]; exact (below_size (by repeat (first | (with_reducible first | exact HB.out | apply below_alloc | apply pw_below_drewN | apply below_drew1) | exact HB.out))) : w.heap.size ≤ gb111)); have n3_ := Aside0.mk ((by rw [hg]; exact (below_size (by repeat (first | (with_reducible first | exact HB.out | apply below_alloc | apply pw_below_drewN | apply below_drew1) | exact HB.out))) : w.heap.size ≤ gb111)); clear HB; have HB := n0_; have BK111 := n1_; have GW111 := n2_; have GE111 := n3_; clear n0_ n1_ n2_ n3_; clear hb hbox hg; have hcz7_0 : w6.cell? ⟨gb111, 0, none⟩ = some (.int .i32 a0_0) := (blk_cell BK111.out 0).trans rfl; have hcz7_1 : w6.cell? ⟨gb111, 1, none⟩ = some (.slice A0_1 l0_1.length c0_1) := (blk_cell BK111.out 1).trans rfl; have hcz7_2 : w6.cell? ⟨gb111, 2, none⟩ = some (.slice A0_2 l0_2.length c0_2) := (blk_cell BK111.out 2).trans rfl; have hcz7_3 : w6.cell? ⟨gb111, 3, none⟩ = some (.int .u32 a0_3) := (blk_cell BK111.out 3).trans rfl; have hfz7_0 := blk_frozen BK111.out 0; have hfz7_1 := blk_frozen BK111.out 1; have hfz7_2 := blk_frozen BK111.out 2; have hfz7_3 := blk_frozen BK111.out 3) | ((with_reducible refine gate_callee (f := 21) rfl ?_); refine goesL_ (some 5) rfl rfl Try.func21 (by kernel_rfl) rfl #[.slice A0_1 l0_1.length c0_1] rfl (by (try simp only [List.map_toArray, List.map_cons, List.map_nil]); first | done | rfl | (simp only [List.length_drop, List.length_take]; rfl)) ?_; (with_reducible refine (laws_zzFits3.calls _ _ l0_1 true _ ?side1 ?side2 A2.out).mono ?_); (case side1 => repeat (first | exact (Kd.C_below HR0_1.out HB.out) | (with_reducible refine Kd.C_alloc ?_ _) | (with_reducible refine Kd.C_drewN ?_ _) | (with_reducible refine Kd.C_drew ?_))); (case side2 => exact HC0_1.out); rintro e w8 ⟨rfl, hb⟩; refine ⟨_, rfl, ?_⟩; have n0_ := Aside0.mk (blk_below (g := gb111) (o := .cells #[.int .i32 a0_0, .slice A0_1 l0_1.length c0_1, .slice A0_2 l0_2.length c0_2, .int .u32 a0_3] 26 (0, 0)) (by (with_reducible repeat (first | refine blk_drewN ?_ _ | refine blk_drew ?_ | refine blk_alloc ?_ _)); exact BK111.out) hb); have n1_ := Aside0.mk (below_step (by repeat (first | (with_reducible first | exact HB.out | apply below_alloc | apply pw_below_drewN | apply below_drew1 | refine below_set ?_ GE111.out) | exact HB.out)) hb); clear BK111; clear HB; have BK111 := n0_; have HB := n1_; clear n0_ n1_; (try clear hb); (try clear hb2); (try clear hk); (try clear hi); have hcz9_0 : w8.cell? ⟨gb111, 0, none⟩ = some (.int .i32 a0_0) := (blk_cell BK111.out 0).trans rfl; have hcz9_1 : w8.cell? ⟨gb111, 1, none⟩ = some (.slice A0_1 l0_1.length c0_1) := (blk_cell BK111.out 1).trans rfl; have hcz9_2 : w8.cell? ⟨gb111, 2, none⟩ = some (.slice A0_2 l0_2.length c0_2) := (blk_cell BK111.out 2).trans rfl; have hcz9_3 : w8.cell? ⟨gb111, 3, none⟩ = some (.int .u32 a0_3) := (blk_cell BK111.out 3).trans rfl; have hfz9_0 := blk_frozen BK111.out 0; have hfz9_1 := blk_frozen BK111.out 1; have hfz9_2 := blk_frozen BK111.out 2; have hfz9_3 := blk_frozen BK111.out 3) | ((with_reducible refine gate_callee (f := 22) rfl ?_); refine goesL_ (some 9) rfl rfl Try.func22 (by kernel_rfl) rfl #[.slice A0_2 l0_2.length c0_2] rfl (by (try simp only [List.map_toArray, List.map_cons, List.map_nil]); first | done | rfl | (simp only [List.length_drop, List.length_take]; rfl)) ?_; (with_reducible refine (laws_zzFits6.calls k _ _ l0_2 true _ ?side1 ?side2 A4.out).mono ?_); (case side1 => repeat (first | exact (Kd.C_below HR0_2.out HB.out) | (with_reducible refine Kd.C_alloc ?_ _) | (with_reducible refine Kd.C_drewN ?_ _) | (with_reducible refine Kd.C_drew ?_))); (case side2 => exact HC0_2.out); rintro e w10 ⟨rfl, hb⟩; refine ⟨_, rfl, ?_⟩; have n0_ := Aside0.mk (blk_below (g := gb111) (o := .cells #[.int .i32 a0_0, .slice A0_1 l0_1.length c0_1, .slice A0_2 l0_2.length c0_2, .int .u32 a0_3] 26 (0, 0)) (by (with_reducible repeat (first | refine blk_drewN ?_ _ | refine blk_drew ?_ | refine blk_alloc ?_ _)); exact BK111.out) hb); have n1_ := Aside0.mk (below_step (by repeat (first | (with_reducible first | exact HB.out | apply below_alloc | apply pw_below_drewN | apply below_drew1 | refine below_set ?_ GE111.out) | exact HB.out)) hb); clear BK111; clear HB; have BK111 := n0_; have HB := n1_; clear n0_ n1_; (try clear hb); (try clear hb2); (try clear hk); (try clear hi)))
      go_ret
      exact ⟨by first | rfl | (simp [errW_none, errW_some] <;> rfl) | (simp [*, errW_none, errW_some] <;> rfl), by repeat (first | (with_reducible first | exact HB.out | apply below_alloc | apply pw_below_drewN | apply below_drew1 | refine below_set ?_ GE111.out) | exact HB.out)⟩
    · replace c5 := Bool.eq_false_iff.mpr c5
      subst c5
      have H1 : (some false) = some r := by rw [if_neg (show ¬ (false = true) by decide)] at H; exact H
      clear H
      have H := H1
      clear H1
      obtain rfl := Option.some.inj H
      go_enter Try.func6, Try.ntmps6
      go_wp2_with (first | ((with_reducible refine gate_dst (N := 1) rfl ?_); refine box_event ?hg (N := 1) ?hd (cs := #[.int .i32 a0_0, .slice A0_1 l0_1.length c0_1, .slice A0_2 l0_2.length c0_2, .int .u32 a0_3]) (t := 26) ?hr ?_; (case hd => rfl); (case hg => rfl); (case hr => first | (go_simp; done) | (go_simp; rfl)); intro gb111 hg w11 hbox hb; have n0_ := Aside0.mk (below_step (by repeat (first | (with_reducible first | exact HB.out | apply below_alloc | apply pw_below_drewN | apply below_drew1) | exact HB.out)) hb); have n1_ := Aside0.mk (hbox); have n2_ := Aside0.mk ((by rw [hg]; exact (below_size (by repeat (first | (with_reducible first | exact HB.out | apply below_alloc | apply pw_below_drewN | apply below_drew1) | exact HB.out))) : w.heap.size ≤ gb111)); have n3_ := Aside0.mk ((by rw [hg]; exact (below_size (by repeat (first | (with_reducible first | exact HB.out | apply below_alloc | apply pw_below_drewN | apply below_drew1) | exact HB.out))) : w.heap.size ≤ gb111)); clear HB; have HB := n0_; have BK111 := n1_; have GW111 := n2_; have GE111 := n3_; clear n0_ n1_ n2_ n3_; clear hb hbox hg; have hcz12_0 : w11.cell? ⟨gb111, 0, none⟩ = some (.int .i32 a0_0) := (blk_cell BK111.out 0).trans rfl; have hcz12_1 : w11.cell? ⟨gb111, 1, none⟩ = some (.slice A0_1 l0_1.length c0_1) := (blk_cell BK111.out 1).trans rfl; have hcz12_2 : w11.cell? ⟨gb111, 2, none⟩ = some (.slice A0_2 l0_2.length c0_2) := (blk_cell BK111.out 2).trans rfl; have hcz12_3 : w11.cell? ⟨gb111, 3, none⟩ = some (.int .u32 a0_3) := (blk_cell BK111.out 3).trans rfl; have hfz12_0 := blk_frozen BK111.out 0; have hfz12_1 := blk_frozen BK111.out 1; have hfz12_2 := blk_frozen BK111.out 2; have hfz12_3 := blk_frozen BK111.out 3) | ((with_reducible refine gate_callee (f := 21) rfl ?_); refine goesL_ (some 5) rfl rfl Try.func21 (by kernel_rfl) rfl #[.slice A0_1 l0_1.length c0_1] rfl (by (try simp only [List.map_toArray, List.map_cons, List.map_nil]); first | done | rfl | (simp only [List.length_drop, List.length_take]; rfl)) ?_; (with_reducible refine (laws_zzFits3.calls _ _ l0_1 true _ ?side1 ?side2 A2.out).mono ?_); (case side1 => repeat (first | exact (Kd.C_below HR0_1.out HB.out) | (with_reducible refine Kd.C_alloc ?_ _) | (with_reducible refine Kd.C_drewN ?_ _) | (with_reducible refine Kd.C_drew ?_))); (case side2 => exact HC0_1.out); rintro e w13 ⟨rfl, hb⟩; refine ⟨_, rfl, ?_⟩; have n0_ := Aside0.mk (blk_below (g := gb111) (o := .cells #[.int .i32 a0_0, .slice A0_1 l0_1.length c0_1, .slice A0_2 l0_2.length c0_2, .int .u32 a0_3] 26 (0, 0)) (by (with_reducible repeat (first | refine blk_drewN ?_ _ | refine blk_drew ?_ | refine blk_alloc ?_ _)); exact BK111.out) hb); have n1_ := Aside0.mk (below_step (by repeat (first | (with_reducible first | exact HB.out | apply below_alloc | apply pw_below_drewN | apply below_drew1 | refine below_set ?_ GE111.out) | exact HB.out)) hb); clear BK111; clear HB; have BK111 := n0_; have HB := n1_; clear n0_ n1_; (try clear hb); (try clear hb2); (try clear hk); (try clear hi); have hcz14_0 : w13.cell? ⟨gb111, 0, none⟩ = some (.int .i32 a0_0) := (blk_cell BK111.out 0).trans rfl; have hcz14_1 : w13.cell? ⟨gb111, 1, none⟩ = some (.slice A0_1 l0_1.length c0_1) := (blk_cell BK111.out 1).trans rfl; have hcz14_2 : w13.cell? ⟨gb111, 2, none⟩ = some (.slice A0_2 l0_2.length c0_2) := (blk_cell BK111.out 2).trans rfl; have hcz14_3 : w13.cell? ⟨gb111, 3, none⟩ = some (.int .u32 a0_3) := (blk_cell BK111.out 3).trans rfl; have hfz14_0 := blk_frozen BK111.out 0; have hfz14_1 := blk_frozen BK111.out 1; have hfz14_2 := blk_frozen BK111.out 2; have hfz14_3 := blk_frozen BK111.out 3) | ((with_reducible refine gate_callee (f := 22) rfl ?_); refine goesL_ (some 9) rfl rfl Try.func22 (by kernel_rfl) rfl #[.slice A0_2 l0_2.length c0_2] rfl (by (try simp only [List.map_toArray, List.map_cons, List.map_nil]); first | done | rfl | (simp only [List.length_drop, List.length_take]; rfl)) ?_; (with_reducible refine (laws_zzFits6.calls k _ _ l0_2 false _ ?side1 ?side2 A4.out).mono ?_); (case side1 => repeat (first | exact (Kd.C_below HR0_2.out HB.out) | (with_reducible refine Kd.C_alloc ?_ _) | (with_reducible refine Kd.C_drewN ?_ _) | (with_reducible refine Kd.C_drew ?_))); (case side2 => exact HC0_2.out); rintro e w15 ⟨rfl, hb⟩; refine ⟨_, rfl, ?_⟩; have n0_ := Aside0.mk (blk_below (g := gb111) (o := .cells #[.int .i32 a0_0, .slice A0_1 l0_1.length c0_1, .slice A0_2 l0_2.length c0_2, .int .u32 a0_3] 26 (0, 0)) (by (with_reducible repeat (first | refine blk_drewN ?_ _ | refine blk_drew ?_ | refine blk_alloc ?_ _)); exact BK111.out) hb); have n1_ := Aside0.mk (below_step (by repeat (first | (with_reducible first | exact HB.out | apply below_alloc | apply pw_below_drewN | apply below_drew1 | refine below_set ?_ GE111.out) | exact HB.out)) hb); clear BK111; clear HB; have BK111 := n0_; have HB := n1_; clear n0_ n1_; (try clear hb); (try clear hb2); (try clear hk); (try clear hi)))
      go_ret
      exact ⟨by first | rfl | (simp [errW_none, errW_some] <;> rfl) | (simp [*, errW_none, errW_some] <;> rfl), by repeat (first | (with_reducible first | exact HB.out | apply below_alloc | apply pw_below_drewN | apply below_drew1 | refine below_set ?_ GE111.out) | exact HB.out)⟩
  · replace c3 := Bool.eq_false_iff.mpr c3
    subst c3
    have H1 : (some false) = some r := by rw [if_neg (show ¬ (false = true) by decide)] at H; exact H
    clear H
    have H := H1
    clear H1
    obtain rfl := Option.some.inj H
    go_enter Try.func6, Try.ntmps6
    go_wp2_with (first | ((with_reducible refine gate_dst (N := 1) rfl ?_); refine box_event ?hg (N := 1) ?hd (cs := #[.int .i32 a0_0, .slice A0_1 l0_1.length c0_1, .slice A0_2 l0_2.length c0_2, .int .u32 a0_3]) (t := 26) ?hr ?_; (case hd => rfl); (case hg => rfl); (case hr => first | (go_simp; done) | (go_simp; rfl)); intro gb111 hg w16 hbox hb; have n0_ := Aside0.mk (below_step (by repeat (first | (with_reducible first | exact HB.out | apply below_alloc | apply pw_below_drewN | apply below_drew1) | exact HB.out)) hb); have n1_ := Aside0.mk (hbox); have n2_ := Aside0.mk ((by rw [hg]; exact (below_size (by repeat (first | (with_reducible first | exact HB.out | apply below_alloc | apply pw_below_drewN | apply below_drew1) | exact HB.out))) : w.heap.size ≤ gb111)); have n3_ := Aside0.mk ((by rw [hg]; exact (below_size (by repeat (first | (with_reducible first | exact HB.out | apply below_alloc | apply pw_below_drewN | apply below_drew1) | exact HB.out))) : w.heap.size ≤ gb111)); clear HB; have HB := n0_; have BK111 := n1_; have GW111 := n2_; have GE111 := n3_; clear n0_ n1_ n2_ n3_; clear hb hbox hg; have hcz17_0 : w16.cell? ⟨gb111, 0, none⟩ = some (.int .i32 a0_0) := (blk_cell BK111.out 0).trans rfl; have hcz17_1 : w16.cell? ⟨gb111, 1, none⟩ = some (.slice A0_1 l0_1.length c0_1) := (blk_cell BK111.out 1).trans rfl; have hcz17_2 : w16.cell? ⟨gb111, 2, none⟩ = some (.slice A0_2 l0_2.length c0_2) := (blk_cell BK111.out 2).trans rfl; have hcz17_3 : w16.cell? ⟨gb111, 3, none⟩ = some (.int .u32 a0_3) := (blk_cell BK111.out 3).trans rfl; have hfz17_0 := blk_frozen BK111.out 0; have hfz17_1 := blk_frozen BK111.out 1; have hfz17_2 := blk_frozen BK111.out 2; have hfz17_3 := blk_frozen BK111.out 3) | ((with_reducible refine gate_callee (f := 21) rfl ?_); refine goesL_ (some 5) rfl rfl Try.func21 (by kernel_rfl) rfl #[.slice A0_1 l0_1.length c0_1] rfl (by (try simp only [List.map_toArray, List.map_cons, List.map_nil]); first | done | rfl | (simp only [List.length_drop, List.length_take]; rfl)) ?_; (with_reducible refine (laws_zzFits3.calls _ _ l0_1 false _ ?side1 ?side2 A2.out).mono ?_); (case side1 => repeat (first | exact (Kd.C_below HR0_1.out HB.out) | (with_reducible refine Kd.C_alloc ?_ _) | (with_reducible refine Kd.C_drewN ?_ _) | (with_reducible refine Kd.C_drew ?_))); (case side2 => exact HC0_1.out); rintro e w18 ⟨rfl, hb⟩; refine ⟨_, rfl, ?_⟩; have n0_ := Aside0.mk (blk_below (g := gb111) (o := .cells #[.int .i32 a0_0, .slice A0_1 l0_1.length c0_1, .slice A0_2 l0_2.length c0_2, .int .u32 a0_3] 26 (0, 0)) (by (with_reducible repeat (first | refine blk_drewN ?_ _ | refine blk_drew ?_ | refine blk_alloc ?_ _)); exact BK111.out) hb); have n1_ := Aside0.mk (below_step (by repeat (first | (with_reducible first | exact HB.out | apply below_alloc | apply pw_below_drewN | apply below_drew1 | refine below_set ?_ GE111.out) | exact HB.out)) hb); clear BK111; clear HB; have BK111 := n0_; have HB := n1_; clear n0_ n1_; (try clear hb); (try clear hb2); (try clear hk); (try clear hi)))
    go_ret
    exact ⟨by first | rfl | (simp [errW_none, errW_some] <;> rfl) | (simp [*, errW_none, errW_some] <;> rfl), by repeat (first | (with_reducible first | exact HB.out | apply below_alloc | apply pw_below_drewN | apply below_drew1 | refine below_set ?_ GE111.out) | exact HB.out)⟩

/-! ### laws_txSize: function 7 -/
mutual
def laws_txSize.l0 : Nat → Int → Int → Int → List (S35) → List (S41) → Int → Option (Int)
  | 0, _, _, _, _, _, _ => none
  | k + 1, x3, x4, x115000, x115001, x115002, x115003 => if x4 < (x115001.length : Int) then (laws_txSize.j1 k x3 x4 (decide (x3 ≤ 100000)) x115000 x115001 x115002 x115003) else (laws_txSize.j1 k x3 x4 false x115000 x115001 x115002 x115003)
def laws_txSize.j1 : Nat → Int → Int → Bool → Int → List (S35) → List (S41) → Int → Option (Int)
  | 0, _, _, _, _, _, _, _ => none
  | k + 1, x3, x4, x15, x115000, x115001, x115002, x115003 => if x15 = true then ((laws_more.f x3 50).bind fun t115 => (if 0 ≤ x4 then (if x4 < (x115001.length : Int) then ((laws_more.f t115 (((rd_T35 x115001 x4).f1).length : Int)).bind fun t117 => (laws_txSize.l1 k t117 x4 0 x115000 x115001 x115002 x115003)) else (none)) else (none))) else (laws_txSize.l2 k x3 0 x115000 x115001 x115002 x115003)
def laws_txSize.l1 : Nat → Int → Int → Int → Int → List (S35) → List (S41) → Int → Option (Int)
  | 0, _, _, _, _, _, _, _ => none
  | k + 1, x3, x4, x5, x115000, x115001, x115002, x115003 => if 0 ≤ x4 then (if x4 < (x115001.length : Int) then (if x5 < (((rd_T35 x115001 x4).f2).length : Int) then (laws_txSize.j3 k x3 x4 x5 (decide (x3 ≤ 100000)) x115000 x115001 x115002 x115003) else (laws_txSize.j3 k x3 x4 x5 false x115000 x115001 x115002 x115003)) else (none)) else (none)
def laws_txSize.j3 : Nat → Int → Int → Int → Bool → Int → List (S35) → List (S41) → Int → Option (Int)
  | 0, _, _, _, _, _, _, _, _ => none
  | k + 1, x3, x4, x5, x40, x115000, x115001, x115002, x115003 => if x40 = true then ((laws_more.f x3 9).bind fun t119 => (if 0 ≤ x4 then (if x4 < (x115001.length : Int) then (if 0 ≤ x5 then (if x5 < (((rd_T35 x115001 x4).f2).length : Int) then ((laws_more.f t119 ((rd_L1 ((rd_T35 x115001 x4).f2) x5).length : Int)).bind fun t122 => (laws_txSize.l1 k t122 x4 (wrap64 (x5 + 1)) x115000 x115001 x115002 x115003)) else (none)) else (none)) else (none)) else (none))) else (laws_txSize.l0 k x3 (wrap64 (x4 + 1)) x115000 x115001 x115002 x115003)
def laws_txSize.l2 : Nat → Int → Int → Int → List (S35) → List (S41) → Int → Option (Int)
  | 0, _, _, _, _, _, _ => none
  | k + 1, x3, x6, x115000, x115001, x115002, x115003 => if x6 < (x115002.length : Int) then (laws_txSize.j5 k x3 x6 (decide (x3 ≤ 100000)) x115000 x115001 x115002 x115003) else (laws_txSize.j5 k x3 x6 false x115000 x115001 x115002 x115003)
def laws_txSize.j5 : Nat → Int → Int → Bool → Int → List (S35) → List (S41) → Int → Option (Int)
  | 0, _, _, _, _, _, _, _ => none
  | k + 1, x3, x6, x64, x115000, x115001, x115002, x115003 => if x64 = true then ((laws_more.f x3 17).bind fun t123 => (if 0 ≤ x6 then (if x6 < (x115002.length : Int) then ((laws_more.f t123 (((rd_T41 x115002 x6).f1).length : Int)).bind fun t125 => (laws_txSize.l2 k t125 (wrap64 (x6 + 1)) x115000 x115001 x115002 x115003)) else (none)) else (none))) else (some x3)
end
def laws_txSize.f (k : Nat) (a0_0 : Int) (l0_1 : List (S35)) (l0_2 : List (S41)) (a0_3 : Int) : Option (Int) := laws_txSize.l0 k 10 0 a0_0 l0_1 l0_2 a0_3
theorem laws_txSize.mono_l : ∀ k, (∀ y0 y1 y2 y3 y4 y5, LeO (laws_txSize.l0 k y0 y1 y2 y3 y4 y5) (laws_txSize.l0 (k + 1) y0 y1 y2 y3 y4 y5)) ∧ (∀ y0 y1 y2 y3 y4 y5 y6, LeO (laws_txSize.j1 k y0 y1 y2 y3 y4 y5 y6) (laws_txSize.j1 (k + 1) y0 y1 y2 y3 y4 y5 y6)) ∧ (∀ y0 y1 y2 y3 y4 y5 y6, LeO (laws_txSize.l1 k y0 y1 y2 y3 y4 y5 y6) (laws_txSize.l1 (k + 1) y0 y1 y2 y3 y4 y5 y6)) ∧ (∀ y0 y1 y2 y3 y4 y5 y6 y7, LeO (laws_txSize.j3 k y0 y1 y2 y3 y4 y5 y6 y7) (laws_txSize.j3 (k + 1) y0 y1 y2 y3 y4 y5 y6 y7)) ∧ (∀ y0 y1 y2 y3 y4 y5, LeO (laws_txSize.l2 k y0 y1 y2 y3 y4 y5) (laws_txSize.l2 (k + 1) y0 y1 y2 y3 y4 y5)) ∧ (∀ y0 y1 y2 y3 y4 y5 y6, LeO (laws_txSize.j5 k y0 y1 y2 y3 y4 y5 y6) (laws_txSize.j5 (k + 1) y0 y1 y2 y3 y4 y5 y6))
  | 0 => ⟨fun _ _ _ _ _ _ r h => by simp [laws_txSize.l0] at h, fun _ _ _ _ _ _ _ r h => by simp [laws_txSize.j1] at h, fun _ _ _ _ _ _ _ r h => by simp [laws_txSize.l1] at h, fun _ _ _ _ _ _ _ _ r h => by simp [laws_txSize.j3] at h, fun _ _ _ _ _ _ r h => by simp [laws_txSize.l2] at h, fun _ _ _ _ _ _ _ r h => by simp [laws_txSize.j5] at h⟩
  | k + 1 => by
    obtain ⟨ih0, ih1, ih2, ih3, ih4, ih5⟩ := laws_txSize.mono_l k
    refine ⟨?_, ?_, ?_, ?_, ?_, ?_⟩
    · intro y0 y1 y2 y3 y4 y5
      unfold laws_txSize.l0
      repeat' first
      | (with_reducible exact ih0 _ _ _ _ _ _)
      | (with_reducible exact ih1 _ _ _ _ _ _ _)
      | (with_reducible exact ih2 _ _ _ _ _ _ _)
      | (with_reducible exact ih3 _ _ _ _ _ _ _ _)
      | (with_reducible exact ih4 _ _ _ _ _ _)
      | (with_reducible exact ih5 _ _ _ _ _ _ _)
      | (with_reducible exact LeO.refl _)
      | (with_reducible exact LeO.none _)
      | (with_reducible refine LeO.ite ?_ ?_)
      | (with_reducible refine LeO.bind ?_ (fun _ => ?_))
      | exact ih0 _ _ _ _ _ _
      | exact ih1 _ _ _ _ _ _ _
      | exact ih2 _ _ _ _ _ _ _
      | exact ih3 _ _ _ _ _ _ _ _
      | exact ih4 _ _ _ _ _ _
      | exact ih5 _ _ _ _ _ _ _
      | exact LeO.none _
      | refine LeO.ite ?_ ?_
      | refine LeO.bind ?_ (fun _ => ?_)
    · intro y0 y1 y2 y3 y4 y5 y6
      unfold laws_txSize.j1
      repeat' first
      | (with_reducible exact ih0 _ _ _ _ _ _)
      | (with_reducible exact ih1 _ _ _ _ _ _ _)
      | (with_reducible exact ih2 _ _ _ _ _ _ _)
      | (with_reducible exact ih3 _ _ _ _ _ _ _ _)
      | (with_reducible exact ih4 _ _ _ _ _ _)
      | (with_reducible exact ih5 _ _ _ _ _ _ _)
      | (with_reducible exact LeO.refl _)
      | (with_reducible exact LeO.none _)
      | (with_reducible refine LeO.ite ?_ ?_)
      | (with_reducible refine LeO.bind ?_ (fun _ => ?_))
      | exact ih0 _ _ _ _ _ _
      | exact ih1 _ _ _ _ _ _ _
      | exact ih2 _ _ _ _ _ _ _
      | exact ih3 _ _ _ _ _ _ _ _
      | exact ih4 _ _ _ _ _ _
      | exact ih5 _ _ _ _ _ _ _
      | exact LeO.none _
      | refine LeO.ite ?_ ?_
      | refine LeO.bind ?_ (fun _ => ?_)
    · intro y0 y1 y2 y3 y4 y5 y6
      unfold laws_txSize.l1
      repeat' first
      | (with_reducible exact ih0 _ _ _ _ _ _)
      | (with_reducible exact ih1 _ _ _ _ _ _ _)
      | (with_reducible exact ih2 _ _ _ _ _ _ _)
      | (with_reducible exact ih3 _ _ _ _ _ _ _ _)
      | (with_reducible exact ih4 _ _ _ _ _ _)
      | (with_reducible exact ih5 _ _ _ _ _ _ _)
      | (with_reducible exact LeO.refl _)
      | (with_reducible exact LeO.none _)
      | (with_reducible refine LeO.ite ?_ ?_)
      | (with_reducible refine LeO.bind ?_ (fun _ => ?_))
      | exact ih0 _ _ _ _ _ _
      | exact ih1 _ _ _ _ _ _ _
      | exact ih2 _ _ _ _ _ _ _
      | exact ih3 _ _ _ _ _ _ _ _
      | exact ih4 _ _ _ _ _ _
      | exact ih5 _ _ _ _ _ _ _
      | exact LeO.none _
      | refine LeO.ite ?_ ?_
      | refine LeO.bind ?_ (fun _ => ?_)
    · intro y0 y1 y2 y3 y4 y5 y6 y7
      unfold laws_txSize.j3
      repeat' first
      | (with_reducible exact ih0 _ _ _ _ _ _)
      | (with_reducible exact ih1 _ _ _ _ _ _ _)
      | (with_reducible exact ih2 _ _ _ _ _ _ _)
      | (with_reducible exact ih3 _ _ _ _ _ _ _ _)
      | (with_reducible exact ih4 _ _ _ _ _ _)
      | (with_reducible exact ih5 _ _ _ _ _ _ _)
      | (with_reducible exact LeO.refl _)
      | (with_reducible exact LeO.none _)
      | (with_reducible refine LeO.ite ?_ ?_)
      | (with_reducible refine LeO.bind ?_ (fun _ => ?_))
      | exact ih0 _ _ _ _ _ _
      | exact ih1 _ _ _ _ _ _ _
      | exact ih2 _ _ _ _ _ _ _
      | exact ih3 _ _ _ _ _ _ _ _
      | exact ih4 _ _ _ _ _ _
      | exact ih5 _ _ _ _ _ _ _
      | exact LeO.none _
      | refine LeO.ite ?_ ?_
      | refine LeO.bind ?_ (fun _ => ?_)
    · intro y0 y1 y2 y3 y4 y5
      unfold laws_txSize.l2
      repeat' first
      | (with_reducible exact ih0 _ _ _ _ _ _)
      | (with_reducible exact ih1 _ _ _ _ _ _ _)
      | (with_reducible exact ih2 _ _ _ _ _ _ _)
      | (with_reducible exact ih3 _ _ _ _ _ _ _ _)
      | (with_reducible exact ih4 _ _ _ _ _ _)
      | (with_reducible exact ih5 _ _ _ _ _ _ _)
      | (with_reducible exact LeO.refl _)
      | (with_reducible exact LeO.none _)
      | (with_reducible refine LeO.ite ?_ ?_)
      | (with_reducible refine LeO.bind ?_ (fun _ => ?_))
      | exact ih0 _ _ _ _ _ _
      | exact ih1 _ _ _ _ _ _ _
      | exact ih2 _ _ _ _ _ _ _
      | exact ih3 _ _ _ _ _ _ _ _
      | exact ih4 _ _ _ _ _ _
      | exact ih5 _ _ _ _ _ _ _
      | exact LeO.none _
      | refine LeO.ite ?_ ?_
      | refine LeO.bind ?_ (fun _ => ?_)
    · intro y0 y1 y2 y3 y4 y5 y6
      unfold laws_txSize.j5
      repeat' first
      | (with_reducible exact ih0 _ _ _ _ _ _)
      | (with_reducible exact ih1 _ _ _ _ _ _ _)
      | (with_reducible exact ih2 _ _ _ _ _ _ _)
      | (with_reducible exact ih3 _ _ _ _ _ _ _ _)
      | (with_reducible exact ih4 _ _ _ _ _ _)
      | (with_reducible exact ih5 _ _ _ _ _ _ _)
      | (with_reducible exact LeO.refl _)
      | (with_reducible exact LeO.none _)
      | (with_reducible refine LeO.ite ?_ ?_)
      | (with_reducible refine LeO.bind ?_ (fun _ => ?_))
      | exact ih0 _ _ _ _ _ _
      | exact ih1 _ _ _ _ _ _ _
      | exact ih2 _ _ _ _ _ _ _
      | exact ih3 _ _ _ _ _ _ _ _
      | exact ih4 _ _ _ _ _ _
      | exact ih5 _ _ _ _ _ _ _
      | exact LeO.none _
      | refine LeO.ite ?_ ?_
      | refine LeO.bind ?_ (fun _ => ?_)
theorem laws_txSize.mono : ∀ a0 a1 a2 a3 k, LeO (laws_txSize.f k a0 a1 a2 a3) (laws_txSize.f (k + 1) a0 a1 a2 a3) := by
  intro a0 a1 a2 a3 k
  obtain ⟨ih0, ih1, ih2, ih3, ih4, ih5⟩ := laws_txSize.mono_l k
  unfold laws_txSize.f
  repeat' first
      | (with_reducible exact ih0 _ _ _ _ _ _)
      | (with_reducible exact ih1 _ _ _ _ _ _ _)
      | (with_reducible exact ih2 _ _ _ _ _ _ _)
      | (with_reducible exact ih3 _ _ _ _ _ _ _ _)
      | (with_reducible exact ih4 _ _ _ _ _ _)
      | (with_reducible exact ih5 _ _ _ _ _ _ _)
      | (with_reducible exact LeO.refl _)
      | (with_reducible exact LeO.none _)
      | (with_reducible refine LeO.ite ?_ ?_)
      | (with_reducible refine LeO.bind ?_ (fun _ => ?_))
      | exact ih0 _ _ _ _ _ _
      | exact ih1 _ _ _ _ _ _ _
      | exact ih2 _ _ _ _ _ _ _
      | exact ih3 _ _ _ _ _ _ _ _
      | exact ih4 _ _ _ _ _ _
      | exact ih5 _ _ _ _ _ _ _
      | exact LeO.none _
      | refine LeO.ite ?_ ?_
      | refine LeO.bind ?_ (fun _ => ?_)
set_option maxHeartbeats 8000000 in
set_option maxRecDepth 100000 in
theorem laws_txSize.calls (k : Nat) (a0_0 : Int) (A0_1 : Option Addr) (c0_1 : Nat) (l0_1 : List (S35)) (A0_2 : Option Addr) (c0_2 : Nat) (l0_2 : List (S41)) (a0_3 : Int) (r : Int) (w : World) (hr0_1 : Kd.C k35 w A0_1 l0_1.length l0_1) (hc0_1 : l0_1.length ≤ c0_1) (hr0_2 : Kd.C k41 w A0_2 l0_2.length l0_2) (hc0_2 : l0_2.length ≤ c0_2) (h : laws_txSize.f k a0_0 l0_1 l0_2 a0_3 = some r) :
    Calls Try.prog 7 #[.agg #[.int .i32 a0_0, .slice A0_1 l0_1.length c0_1, .slice A0_2 l0_2.length c0_2, .int .u32 a0_3]] w fun e w' => e = .returned (.int .i64 r) ∧ Below w.heap.size w w' := by
  have hu26 := Try.underlying26
  have HR0_1 := Aside0.mk hr0_1
  have HC0_1 := Aside0.mk hc0_1
  clear hr0_1 hc0_1
  have HR0_2 := Aside0.mk hr0_2
  have HC0_2 := Aside0.mk hc0_2
  clear hr0_2 hc0_2
  have HB := Aside0.mk (Below.refl w.heap.size w)
  have H : (laws_txSize.l0 k 10 0 a0_0 l0_1 l0_2 a0_3) = some r := h
  clear h
  have H' := Aside0.mk H
  clear H
  go_enter Try.func7, Try.ntmps7
  go_wp2_with (first | ((with_reducible refine gate_dst (N := 1) rfl ?_); refine box_event ?hg (N := 1) ?hd (cs := #[.int .i32 a0_0, .slice A0_1 l0_1.length c0_1, .slice A0_2 l0_2.length c0_2, .int .u32 a0_3]) (t := 26) ?hr ?_; (case hd => rfl); (case hg => rfl); (case hr => first | (go_simp; done) | (go_simp; rfl)); intro gb114 hg w2 hbox hb; have n0_ := Aside0.mk (below_step (by repeat (first | (with_reducible first | exact HB.out | apply below_alloc | apply pw_below_drewN | apply below_drew1) | exact HB.out)) hb); have n1_ := Aside0.mk (hbox); have n2_ := Aside0.mk ((by rw [hg]; exact (below_size (by repeat (first | (with_reducible first | exact HB.out | apply below_alloc | apply pw_below_drewN | apply below_drew1) | exact HB.out))) : w.heap.size ≤ gb114)); have n3_ := Aside0.mk ((by rw [hg]; exact (below_size (by repeat (first | (with_reducible first | exact HB.out | apply below_alloc | apply pw_below_drewN | apply below_drew1) | exact HB.out))) : w.heap.size ≤ gb114)); clear HB; have HB := n0_; have BK114 := n1_; have GW114 := n2_; have GE114 := n3_; clear n0_ n1_ n2_ n3_; clear hb hbox hg))
  repeat (go_quiet (first | ((with_reducible refine gate_dst (N := 1) rfl ?_); refine box_event ?hg (N := 1) ?hd (cs := #[.int .i32 a0_0, .slice A0_1 l0_1.length c0_1, .slice A0_2 l0_2.length c0_2, .int .u32 a0_3]) (t := 26) ?hr ?_; (case hd => rfl); (case hg => rfl); (case hr => first | (go_simp; done) | (go_simp; rfl)); intro gb114 hg w2 hbox hb; have n0_ := Aside0.mk (below_step (by repeat (first | (with_reducible first | exact HB.out | apply below_alloc | apply pw_below_drewN | apply below_drew1) | exact HB.out)) hb); have n1_ := Aside0.mk (hbox); have n2_ := Aside0.mk ((by rw [hg]; exact (below_size (by repeat (first | (with_reducible first | exact HB.out | apply below_alloc | apply pw_below_drewN | apply below_drew1) | exact HB.out))) : w.heap.size ≤ gb114)); have n3_ := Aside0.mk ((by rw [hg]; exact (below_size (by repeat (first | (with_reducible first | exact HB.out | apply below_alloc | apply pw_below_drewN | apply below_drew1) | exact HB.out))) : w.heap.size ≤ gb114)); clear HB; have HB := n0_; have BK114 := n1_; have GW114 := n2_; have GE114 := n3_; clear n0_ n1_ n2_ n3_; clear hb hbox hg)); try go_wp2_with (first | ((with_reducible refine gate_dst (N := 1) rfl ?_); refine box_event ?hg (N := 1) ?hd (cs := #[.int .i32 a0_0, .slice A0_1 l0_1.length c0_1, .slice A0_2 l0_2.length c0_2, .int .u32 a0_3]) (t := 26) ?hr ?_; (case hd => rfl); (case hg => rfl); (case hr => first | (go_simp; done) | (go_simp; rfl)); intro gb114 hg w2 hbox hb; have n0_ := Aside0.mk (below_step (by repeat (first | (with_reducible first | exact HB.out | apply below_alloc | apply pw_below_drewN | apply below_drew1) | exact HB.out)) hb); have n1_ := Aside0.mk (hbox); have n2_ := Aside0.mk ((by rw [hg]; exact (below_size (by repeat (first | (with_reducible first | exact HB.out | apply below_alloc | apply pw_below_drewN | apply below_drew1) | exact HB.out))) : w.heap.size ≤ gb114)); have n3_ := Aside0.mk ((by rw [hg]; exact (below_size (by repeat (first | (with_reducible first | exact HB.out | apply below_alloc | apply pw_below_drewN | apply below_drew1) | exact HB.out))) : w.heap.size ≤ gb114)); clear HB; have HB := n0_; have BK114 := n1_; have GW114 := n2_; have GE114 := n3_; clear n0_ n1_ n2_ n3_; clear hb hbox hg)))
  go_loopg [3, 4] k (fun kq v3 v4 w' => ∃ (x3_1 : Int) (x4_1 : Int), v3 = .int .i64 x3_1 ∧ v4 = .int .i64 x4_1 ∧ Aside0 (laws_txSize.l0 kq x3_1 x4_1 a0_0 l0_1 l0_2 a0_3 = some r) ∧ Aside0 (kq ≤ k) ∧ Aside0 (w'.heap[gb114]? = some (.cells #[.int .i32 a0_0, (.slice A0_1 l0_1.length c0_1), (.slice A0_2 l0_2.length c0_2), .int .u32 a0_3] 26 (0, 0))) ∧ Aside0 (Below w.heap.size w w'))
  case atStart => exact ⟨(10), (0), (by first | rfl | (simp; done) | (simp [*]; done)), (by first | rfl | (simp; done) | (simp [*]; done)), H', ⟨Nat.le_refl _⟩, ⟨by (with_reducible repeat (first | refine blk_drewN ?_ _ | refine blk_drew ?_ | refine blk_alloc ?_ _)); exact BK114.out⟩, ⟨by repeat (first | (with_reducible first | exact HB.out | apply below_alloc | apply pw_below_drewN | apply below_drew1 | refine below_set ?_ GE114.out) | exact HB.out)⟩⟩
  case round =>
    clear H'
    try clear p2
    obtain ⟨x3_1, x4_1, rfl, rfl, HA, HK1, BK114, HB⟩ := hrel
    cases gk with
    | zero => exact absurd HA.out (by simp [laws_txSize.l0])
    | succ k1 =>
      have H := HA.out
      clear HA
      simp only [laws_txSize.l0] at H
      have HC3 := Aside0.mk H
      clear H
      go_upto_region 3 with (fail)
      repeat (go_quiet (fail); go_upto_region 3 with (fail))
      go_cut [15] (fun v15 wc => ∃ (kq : Nat) (x15_2 : Bool), v15 = .bool x15_2 ∧ Aside0 (laws_txSize.j1 kq x3_1 x4_1 x15_2 a0_0 l0_1 l0_2 a0_3 = some r) ∧ Aside0 (kq ≤ k1) ∧ Aside0 (wc.heap[gb114]? = some (.cells #[.int .i32 a0_0, (.slice A0_1 l0_1.length c0_1), (.slice A0_2 l0_2.length c0_2), .int .u32 a0_3] 26 (0, 0))) ∧ Aside0 (Below w.heap.size w wc))
      case first =>
        have H := HC3.out
        clear HC3
        by_cases c4 : x4_1 < (l0_1.length : Int)
        · rw [if_pos c4] at H
          have c4b0 : decide (x4_1 < (l0_1.length : Int)) = true := decide_eq_true c4
          clear c4
          (first | rw [c4b0] | (simp only [i64_w, i32_w]; rw [c4b0]) | skip)
          have H' := Aside0.mk H
          clear H
          have hcz5_0 : wr.cell? ⟨gb114, 0, none⟩ = some (.int .i32 a0_0) := (blk_cell BK114.out 0).trans rfl
          have hcz5_1 : wr.cell? ⟨gb114, 1, none⟩ = some (.slice A0_1 l0_1.length c0_1) := (blk_cell BK114.out 1).trans rfl
          have hcz5_2 : wr.cell? ⟨gb114, 2, none⟩ = some (.slice A0_2 l0_2.length c0_2) := (blk_cell BK114.out 2).trans rfl
          have hcz5_3 : wr.cell? ⟨gb114, 3, none⟩ = some (.int .u32 a0_3) := (blk_cell BK114.out 3).trans rfl
          have hfz5_0 := blk_frozen BK114.out 0
          have hfz5_1 := blk_frozen BK114.out 1
          have hfz5_2 := blk_frozen BK114.out 2
          have hfz5_3 := blk_frozen BK114.out 3
          go_wp2
          repeat (go_quiet (fail); try go_wp2)
          go_meet
          case rel => exact ⟨_, (decide (x3_1 ≤ 100000)), (by first | rfl | (simp; done) | (simp [*]; done)), (by first | exact H' | (subst_vars; exact H')), ⟨by have := HK1.out; first | omega | exact Nat.le_refl _⟩, ⟨by (with_reducible repeat (first | refine blk_drewN ?_ _ | refine blk_drew ?_ | refine blk_alloc ?_ _)); exact BK114.out⟩, ⟨by repeat (first | (with_reducible first | exact HB.out | apply below_alloc | apply pw_below_drewN | apply below_drew1 | refine below_set ?_ GE114.out) | exact HB.out)⟩⟩
        · rw [if_neg c4] at H
          have c4b0 : decide (x4_1 < (l0_1.length : Int)) = false := decide_eq_false c4
          clear c4
          (first | rw [c4b0] | (simp only [i64_w, i32_w]; rw [c4b0]) | skip)
          have H' := Aside0.mk H
          clear H
          have hcz6_0 : wr.cell? ⟨gb114, 0, none⟩ = some (.int .i32 a0_0) := (blk_cell BK114.out 0).trans rfl
          have hcz6_1 : wr.cell? ⟨gb114, 1, none⟩ = some (.slice A0_1 l0_1.length c0_1) := (blk_cell BK114.out 1).trans rfl
          have hcz6_2 : wr.cell? ⟨gb114, 2, none⟩ = some (.slice A0_2 l0_2.length c0_2) := (blk_cell BK114.out 2).trans rfl
          have hcz6_3 : wr.cell? ⟨gb114, 3, none⟩ = some (.int .u32 a0_3) := (blk_cell BK114.out 3).trans rfl
          have hfz6_0 := blk_frozen BK114.out 0
          have hfz6_1 := blk_frozen BK114.out 1
          have hfz6_2 := blk_frozen BK114.out 2
          have hfz6_3 := blk_frozen BK114.out 3
          go_wp2
          repeat (go_quiet (fail); try go_wp2)
          go_meet
          case rel => exact ⟨_, (false), (by first | rfl | (simp; done) | (simp [*]; done)), (by first | exact H' | (subst_vars; exact H')), ⟨by have := HK1.out; first | omega | exact Nat.le_refl _⟩, ⟨by (with_reducible repeat (first | refine blk_drewN ?_ _ | refine blk_drew ?_ | refine blk_alloc ?_ _)); exact BK114.out⟩, ⟨by repeat (first | (with_reducible first | exact HB.out | apply below_alloc | apply pw_below_drewN | apply below_drew1 | refine below_set ?_ GE114.out) | exact HB.out)⟩⟩
      case rest =>
        clear HC3
        try clear p2
        try clear c4
        try clear c4b0
        try clear hcz5_0
        try clear hcz5_1
        try clear hcz5_2
        try clear hcz5_3
        try clear hcz6_0
        try clear hcz6_1
        try clear hcz6_2
        try clear hcz6_3
        try clear hfz5_0
        try clear hfz5_1
        try clear hfz5_2
        try clear hfz5_3
        try clear hfz6_0
        try clear hfz6_1
        try clear hfz6_2
        try clear hfz6_3
        try clear p2
        obtain ⟨kq, x15_2, rfl, HA, HJ2, BK114, HB⟩ := hcut
        cases kq with
        | zero => exact absurd HA.out (by simp [laws_txSize.j1])
        | succ kj2 =>
          have H := HA.out
          clear HA
          simp only [laws_txSize.j1] at H
          by_cases c7 : x15_2 = true
          · subst c7
            have H1 : ((laws_more.f x3_1 50).bind fun t115 => (if 0 ≤ x4_1 then (if x4_1 < (l0_1.length : Int) then ((laws_more.f t115 (((rd_T35 l0_1 x4_1).f1).length : Int)).bind fun t117 => (laws_txSize.l1 kj2 t117 x4_1 0 a0_0 l0_1 l0_2 a0_3)) else (none)) else (none))) = some r := by rw [if_pos rfl] at H; exact H
            clear H
            have H := H1
            clear H1
            replace H := Option.bind_eq_some_iff.mp H
            obtain ⟨t115, A80, H⟩ := H
            replace H : (if 0 ≤ x4_1 then (if x4_1 < (l0_1.length : Int) then ((laws_more.f t115 (((rd_T35 l0_1 x4_1).f1).length : Int)).bind fun t117 => (laws_txSize.l1 kj2 t117 x4_1 0 a0_0 l0_1 l0_2 a0_3)) else (none)) else (none)) = some r := H
            have A8 := Aside0.mk A80
            clear A80
            by_cases c9 : 0 ≤ x4_1
            · rw [if_pos c9] at H
              have c9b0 : decide (0 ≤ x4_1) = true := decide_eq_true c9
              clear c9
              by_cases c10 : x4_1 < (l0_1.length : Int)
              · rw [if_pos c10] at H
                have c10b0 : decide (x4_1 < (l0_1.length : Int)) = true := decide_eq_true c10
                clear c10
                replace H := Option.bind_eq_some_iff.mp H
                obtain ⟨t117, A110, H⟩ := H
                replace H : (laws_txSize.l1 kj2 t117 x4_1 0 a0_0 l0_1 l0_2 a0_3) = some r := H
                have A11 := Aside0.mk A110
                clear A110
                have H' := Aside0.mk H
                clear H
                go_wp2_with (first | (go_at_call 23; (with_reducible refine (laws_more.calls x3_1 50 t115 _ A8.out).mono ?_); rintro e w' ⟨rfl, ⟨nd, rfl⟩⟩; (try first | exact ⟨rfl, _, World.drewN_drewN _ _ _⟩ | exact ⟨rfl, _, Eq.trans (World.drewN_drewN _ _ _) (congrArg (World.drewN _) (Nat.add_assoc _ _ _))⟩); have hcz12_0 : wc.cell? ⟨gb114, 0, none⟩ = some (.int .i32 a0_0) := (blk_cell BK114.out 0).trans rfl; have hcz12_1 : wc.cell? ⟨gb114, 1, none⟩ = some (.slice A0_1 l0_1.length c0_1) := (blk_cell BK114.out 1).trans rfl; have hcz12_2 : wc.cell? ⟨gb114, 2, none⟩ = some (.slice A0_2 l0_2.length c0_2) := (blk_cell BK114.out 2).trans rfl; have hcz12_3 : wc.cell? ⟨gb114, 3, none⟩ = some (.int .u32 a0_3) := (blk_cell BK114.out 3).trans rfl; have hfz12_0 := blk_frozen BK114.out 0; have hfz12_1 := blk_frozen BK114.out 1; have hfz12_2 := blk_frozen BK114.out 2; have hfz12_3 := blk_frozen BK114.out 3; have p116 : 0 ≤ (x4_1 : Int) := of_decide_eq_true (by first | (with_reducible assumption) | assumption); have q116 : x4_1 < (l0_1.length : Int) := of_decide_eq_true (by first | (with_reducible assumption) | assumption); obtain ⟨ad116, A116_33, c116_33, A116_34, c116_34, e116, hx116_32, hx116_33, hx116_34, hx116_35, hl116_33, hi116_33, hl116_34, hi116_34⟩ := at_T35 HR0_1.out x4_1 p116 q116; cases e116; replace hx116_32 := (HB.out.cell (World.block_lt_of_cell? w _ hx116_32)).trans hx116_32; replace hx116_33 := (HB.out.cell (World.block_lt_of_cell? w _ hx116_33)).trans hx116_33; replace hx116_34 := (HB.out.cell (World.block_lt_of_cell? w _ hx116_34)).trans hx116_34; replace hx116_35 := (HB.out.cell (World.block_lt_of_cell? w _ hx116_35)).trans hx116_35; have HR116_33 := Aside0.mk hi116_33; have HC116_33 := Aside0.mk hl116_33; clear hi116_33 hl116_33; have HR116_34 := Aside0.mk hi116_34; have HC116_34 := Aside0.mk hl116_34; clear hi116_34 hl116_34; replace p116 := eq_true p116; replace q116 := eq_true q116) | (go_at_call 23; (with_reducible refine (laws_more.calls t115 (((rd_T35 l0_1 x4_1).f1).length : Int) t117 _ A11.out).mono ?_); rintro e w' ⟨rfl, ⟨nd, rfl⟩⟩; (try first | exact ⟨rfl, _, World.drewN_drewN _ _ _⟩ | exact ⟨rfl, _, Eq.trans (World.drewN_drewN _ _ _) (congrArg (World.drewN _) (Nat.add_assoc _ _ _))⟩)))
                repeat (go_quiet (first | (go_at_call 23; (with_reducible refine (laws_more.calls x3_1 50 t115 _ A8.out).mono ?_); rintro e w' ⟨rfl, ⟨nd, rfl⟩⟩; (try first | exact ⟨rfl, _, World.drewN_drewN _ _ _⟩ | exact ⟨rfl, _, Eq.trans (World.drewN_drewN _ _ _) (congrArg (World.drewN _) (Nat.add_assoc _ _ _))⟩); have hcz12_0 : wc.cell? ⟨gb114, 0, none⟩ = some (.int .i32 a0_0) := (blk_cell BK114.out 0).trans rfl; have hcz12_1 : wc.cell? ⟨gb114, 1, none⟩ = some (.slice A0_1 l0_1.length c0_1) := (blk_cell BK114.out 1).trans rfl; have hcz12_2 : wc.cell? ⟨gb114, 2, none⟩ = some (.slice A0_2 l0_2.length c0_2) := (blk_cell BK114.out 2).trans rfl; have hcz12_3 : wc.cell? ⟨gb114, 3, none⟩ = some (.int .u32 a0_3) := (blk_cell BK114.out 3).trans rfl; have hfz12_0 := blk_frozen BK114.out 0; have hfz12_1 := blk_frozen BK114.out 1; have hfz12_2 := blk_frozen BK114.out 2; have hfz12_3 := blk_frozen BK114.out 3; have p116 : 0 ≤ (x4_1 : Int) := of_decide_eq_true (by first | (with_reducible assumption) | assumption); have q116 : x4_1 < (l0_1.length : Int) := of_decide_eq_true (by first | (with_reducible assumption) | assumption); obtain ⟨ad116, A116_33, c116_33, A116_34, c116_34, e116, hx116_32, hx116_33, hx116_34, hx116_35, hl116_33, hi116_33, hl116_34, hi116_34⟩ := at_T35 HR0_1.out x4_1 p116 q116; cases e116; replace hx116_32 := (HB.out.cell (World.block_lt_of_cell? w _ hx116_32)).trans hx116_32; replace hx116_33 := (HB.out.cell (World.block_lt_of_cell? w _ hx116_33)).trans hx116_33; replace hx116_34 := (HB.out.cell (World.block_lt_of_cell? w _ hx116_34)).trans hx116_34; replace hx116_35 := (HB.out.cell (World.block_lt_of_cell? w _ hx116_35)).trans hx116_35; have HR116_33 := Aside0.mk hi116_33; have HC116_33 := Aside0.mk hl116_33; clear hi116_33 hl116_33; have HR116_34 := Aside0.mk hi116_34; have HC116_34 := Aside0.mk hl116_34; clear hi116_34 hl116_34; replace p116 := eq_true p116; replace q116 := eq_true q116) | (go_at_call 23; (with_reducible refine (laws_more.calls t115 (((rd_T35 l0_1 x4_1).f1).length : Int) t117 _ A11.out).mono ?_); rintro e w' ⟨rfl, ⟨nd, rfl⟩⟩; (try first | exact ⟨rfl, _, World.drewN_drewN _ _ _⟩ | exact ⟨rfl, _, Eq.trans (World.drewN_drewN _ _ _) (congrArg (World.drewN _) (Nat.add_assoc _ _ _))⟩))); try go_wp2_with (first | (go_at_call 23; (with_reducible refine (laws_more.calls x3_1 50 t115 _ A8.out).mono ?_); rintro e w' ⟨rfl, ⟨nd, rfl⟩⟩; (try first | exact ⟨rfl, _, World.drewN_drewN _ _ _⟩ | exact ⟨rfl, _, Eq.trans (World.drewN_drewN _ _ _) (congrArg (World.drewN _) (Nat.add_assoc _ _ _))⟩); have hcz12_0 : wc.cell? ⟨gb114, 0, none⟩ = some (.int .i32 a0_0) := (blk_cell BK114.out 0).trans rfl; have hcz12_1 : wc.cell? ⟨gb114, 1, none⟩ = some (.slice A0_1 l0_1.length c0_1) := (blk_cell BK114.out 1).trans rfl; have hcz12_2 : wc.cell? ⟨gb114, 2, none⟩ = some (.slice A0_2 l0_2.length c0_2) := (blk_cell BK114.out 2).trans rfl; have hcz12_3 : wc.cell? ⟨gb114, 3, none⟩ = some (.int .u32 a0_3) := (blk_cell BK114.out 3).trans rfl; have hfz12_0 := blk_frozen BK114.out 0; have hfz12_1 := blk_frozen BK114.out 1; have hfz12_2 := blk_frozen BK114.out 2; have hfz12_3 := blk_frozen BK114.out 3; have p116 : 0 ≤ (x4_1 : Int) := of_decide_eq_true (by first | (with_reducible assumption) | assumption); have q116 : x4_1 < (l0_1.length : Int) := of_decide_eq_true (by first | (with_reducible assumption) | assumption); obtain ⟨ad116, A116_33, c116_33, A116_34, c116_34, e116, hx116_32, hx116_33, hx116_34, hx116_35, hl116_33, hi116_33, hl116_34, hi116_34⟩ := at_T35 HR0_1.out x4_1 p116 q116; cases e116; replace hx116_32 := (HB.out.cell (World.block_lt_of_cell? w _ hx116_32)).trans hx116_32; replace hx116_33 := (HB.out.cell (World.block_lt_of_cell? w _ hx116_33)).trans hx116_33; replace hx116_34 := (HB.out.cell (World.block_lt_of_cell? w _ hx116_34)).trans hx116_34; replace hx116_35 := (HB.out.cell (World.block_lt_of_cell? w _ hx116_35)).trans hx116_35; have HR116_33 := Aside0.mk hi116_33; have HC116_33 := Aside0.mk hl116_33; clear hi116_33 hl116_33; have HR116_34 := Aside0.mk hi116_34; have HC116_34 := Aside0.mk hl116_34; clear hi116_34 hl116_34; replace p116 := eq_true p116; replace q116 := eq_true q116) | (go_at_call 23; (with_reducible refine (laws_more.calls t115 (((rd_T35 l0_1 x4_1).f1).length : Int) t117 _ A11.out).mono ?_); rintro e w' ⟨rfl, ⟨nd, rfl⟩⟩; (try first | exact ⟨rfl, _, World.drewN_drewN _ _ _⟩ | exact ⟨rfl, _, Eq.trans (World.drewN_drewN _ _ _) (congrArg (World.drewN _) (Nat.add_assoc _ _ _))⟩))))
                go_loopg [3, 5] kj2 (fun kq v3 v5 w' => ∃ (x3_3 : Int) (x5_3 : Int), v3 = .int .i64 x3_3 ∧ v5 = .int .i64 x5_3 ∧ Aside0 (laws_txSize.l1 kq x3_3 x4_1 x5_3 a0_0 l0_1 l0_2 a0_3 = some r) ∧ Aside0 (kq ≤ kj2) ∧ Aside0 (w'.heap[gb114]? = some (.cells #[.int .i32 a0_0, (.slice (some ad116) l0_1.length c0_1), (.slice A0_2 l0_2.length c0_2), .int .u32 a0_3] 26 (0, 0))) ∧ Aside0 (Below w.heap.size w w'))
                case atStart => exact ⟨(t117), (0), (by first | rfl | (simp; done) | (simp [*]; done)), (by first | rfl | (simp; done) | (simp [*]; done)), H', ⟨Nat.le_refl _⟩, ⟨by (with_reducible repeat (first | refine blk_drewN ?_ _ | refine blk_drew ?_ | refine blk_alloc ?_ _)); exact BK114.out⟩, ⟨by repeat (first | (with_reducible first | exact HB.out | apply below_alloc | apply pw_below_drewN | apply below_drew1 | refine below_set ?_ GE114.out) | exact HB.out)⟩⟩
                case round =>
                  clear H'
                  try clear c1
                  try clear p1
                  try clear q1
                  try clear hx1
                  try clear p2
                  try clear c4
                  try clear c4b0
                  try clear c7
                  try clear c9
                  try clear c9b0
                  try clear c10
                  try clear c10b0
                  try clear c11
                  try clear p11
                  try clear q11
                  try clear hx11
                  try clear hcz12_0
                  try clear hcz12_1
                  try clear hcz12_2
                  try clear hcz12_3
                  try clear hcz5_0
                  try clear hcz5_1
                  try clear hcz5_2
                  try clear hcz5_3
                  try clear hcz6_0
                  try clear hcz6_1
                  try clear hcz6_2
                  try clear hcz6_3
                  try clear hfz12_0
                  try clear hfz12_1
                  try clear hfz12_2
                  try clear hfz12_3
                  try clear hfz5_0
                  try clear hfz5_1
                  try clear hfz5_2
                  try clear hfz5_3
                  try clear hfz6_0
                  try clear hfz6_1
                  try clear hfz6_2
                  try clear hfz6_3
                  try clear hx116_0
                  try clear hx116_1
                  try clear hx116_10
                  try clear hx116_11
                  try clear hx116_12
                  try clear hx116_13
                  try clear hx116_14
                  try clear hx116_15
                  try clear hx116_16
                  try clear hx116_17
                  try clear hx116_18
                  try clear hx116_19
                  try clear hx116_2
                  try clear hx116_20
                  try clear hx116_21
                  try clear hx116_22
                  try clear hx116_23
                  try clear hx116_24
                  try clear hx116_25
                  try clear hx116_26
                  try clear hx116_27
                  try clear hx116_28
                  try clear hx116_29
                  try clear hx116_3
                  try clear hx116_30
                  try clear hx116_31
                  try clear hx116_32
                  try clear hx116_33
                  try clear hx116_34
                  try clear hx116_35
                  try clear hx116_4
                  try clear hx116_5
                  try clear hx116_6
                  try clear hx116_7
                  try clear hx116_8
                  try clear hx116_9
                  try clear p116
                  try clear p2
                  try clear q116
                  obtain ⟨x3_3, x5_3, rfl, rfl, HA, HK3, BK114, HB⟩ := hrel
                  cases gk with
                  | zero => exact absurd HA.out (by simp [laws_txSize.l1])
                  | succ k3 =>
                    have H := HA.out
                    clear HA
                    simp only [laws_txSize.l1] at H
                    have HC13 := Aside0.mk H
                    clear H
                    go_upto_region 7 with (fail)
                    repeat (go_quiet (fail); go_upto_region 7 with (fail))
                    go_cut [40] (fun v40 wc => ∃ (kq : Nat) (x40_12 : Bool), v40 = .bool x40_12 ∧ Aside0 (laws_txSize.j3 kq x3_3 x4_1 x5_3 x40_12 a0_0 l0_1 l0_2 a0_3 = some r) ∧ Aside0 (kq ≤ k3) ∧ Aside0 (wc.heap[gb114]? = some (.cells #[.int .i32 a0_0, (.slice (some ad116) l0_1.length c0_1), (.slice A0_2 l0_2.length c0_2), .int .u32 a0_3] 26 (0, 0))) ∧ Aside0 (Below w.heap.size w wc))
                    case first =>
                      have H := HC13.out
                      clear HC13
                      by_cases c14 : 0 ≤ x4_1
                      · rw [if_pos c14] at H
                        have c14b0 : decide (0 ≤ x4_1) = true := decide_eq_true c14
                        clear c14
                        (first | rw [c14b0] | (simp only [i64_w, i32_w]; rw [c14b0]) | skip)
                        by_cases c15 : x4_1 < (l0_1.length : Int)
                        · rw [if_pos c15] at H
                          have c15b0 : decide (x4_1 < (l0_1.length : Int)) = true := decide_eq_true c15
                          clear c15
                          by_cases c16 : x5_3 < (((rd_T35 l0_1 x4_1).f2).length : Int)
                          · rw [if_pos c16] at H
                            have c16b0 : decide (x5_3 < (((rd_T35 l0_1 x4_1).f2).length : Int)) = true := decide_eq_true c16
                            clear c16
                            have H' := Aside0.mk H
                            clear H
                            have hcz17_0 : wr.cell? ⟨gb114, 0, none⟩ = some (.int .i32 a0_0) := (blk_cell BK114.out 0).trans rfl
                            have hcz17_1 : wr.cell? ⟨gb114, 1, none⟩ = some (.slice (some ad116) l0_1.length c0_1) := (blk_cell BK114.out 1).trans rfl
                            have hcz17_2 : wr.cell? ⟨gb114, 2, none⟩ = some (.slice A0_2 l0_2.length c0_2) := (blk_cell BK114.out 2).trans rfl
                            have hcz17_3 : wr.cell? ⟨gb114, 3, none⟩ = some (.int .u32 a0_3) := (blk_cell BK114.out 3).trans rfl
                            have hfz17_0 := blk_frozen BK114.out 0
                            have hfz17_1 := blk_frozen BK114.out 1
                            have hfz17_2 := blk_frozen BK114.out 2
                            have hfz17_3 := blk_frozen BK114.out 3
                            have p118 : 0 ≤ (x4_1 : Int) := of_decide_eq_true (by first | (with_reducible assumption) | assumption)
                            have q118 : x4_1 < (l0_1.length : Int) := of_decide_eq_true (by first | (with_reducible assumption) | assumption)
                            obtain ⟨ad118, A118_33, c118_33, A118_34, c118_34, e118, hx118_32, hx118_33, hx118_34, hx118_35, hl118_33, hi118_33, hl118_34, hi118_34⟩ := at_T35 HR0_1.out x4_1 p118 q118
                            obtain rfl : ad116 = ad118 := (by injection e118)
                            replace hx118_32 := (HB.out.cell (World.block_lt_of_cell? w _ hx118_32)).trans hx118_32
                            replace hx118_33 := (HB.out.cell (World.block_lt_of_cell? w _ hx118_33)).trans hx118_33
                            replace hx118_34 := (HB.out.cell (World.block_lt_of_cell? w _ hx118_34)).trans hx118_34
                            replace hx118_35 := (HB.out.cell (World.block_lt_of_cell? w _ hx118_35)).trans hx118_35
                            have HR118_33 := Aside0.mk hi118_33
                            have HC118_33 := Aside0.mk hl118_33
                            clear hi118_33 hl118_33
                            have HR118_34 := Aside0.mk hi118_34
                            have HC118_34 := Aside0.mk hl118_34
                            clear hi118_34 hl118_34
                            replace p118 := eq_true p118
                            replace q118 := eq_true q118
                            go_wp2
                            repeat (go_quiet (fail); try go_wp2)
                            go_meet
                            case rel => exact ⟨_, (decide (x3_3 ≤ 100000)), (by first | rfl | (simp; done) | (simp [*]; done)), (by first | exact H' | (subst_vars; exact H')), ⟨by have := HK1.out; have := HJ2.out; have := HK3.out; first | omega | exact Nat.le_refl _⟩, ⟨by (with_reducible repeat (first | refine blk_drewN ?_ _ | refine blk_drew ?_ | refine blk_alloc ?_ _)); exact BK114.out⟩, ⟨by repeat (first | (with_reducible first | exact HB.out | apply below_alloc | apply pw_below_drewN | apply below_drew1 | refine below_set ?_ GE114.out) | exact HB.out)⟩⟩
                          · rw [if_neg c16] at H
                            have c16b0 : decide (x5_3 < (((rd_T35 l0_1 x4_1).f2).length : Int)) = false := decide_eq_false c16
                            clear c16
                            have H' := Aside0.mk H
                            clear H
                            have hcz18_0 : wr.cell? ⟨gb114, 0, none⟩ = some (.int .i32 a0_0) := (blk_cell BK114.out 0).trans rfl
                            have hcz18_1 : wr.cell? ⟨gb114, 1, none⟩ = some (.slice (some ad116) l0_1.length c0_1) := (blk_cell BK114.out 1).trans rfl
                            have hcz18_2 : wr.cell? ⟨gb114, 2, none⟩ = some (.slice A0_2 l0_2.length c0_2) := (blk_cell BK114.out 2).trans rfl
                            have hcz18_3 : wr.cell? ⟨gb114, 3, none⟩ = some (.int .u32 a0_3) := (blk_cell BK114.out 3).trans rfl
                            have hfz18_0 := blk_frozen BK114.out 0
                            have hfz18_1 := blk_frozen BK114.out 1
                            have hfz18_2 := blk_frozen BK114.out 2
                            have hfz18_3 := blk_frozen BK114.out 3
                            have p118 : 0 ≤ (x4_1 : Int) := of_decide_eq_true (by first | (with_reducible assumption) | assumption)
                            have q118 : x4_1 < (l0_1.length : Int) := of_decide_eq_true (by first | (with_reducible assumption) | assumption)
                            obtain ⟨ad118, A118_33, c118_33, A118_34, c118_34, e118, hx118_32, hx118_33, hx118_34, hx118_35, hl118_33, hi118_33, hl118_34, hi118_34⟩ := at_T35 HR0_1.out x4_1 p118 q118
                            obtain rfl : ad116 = ad118 := (by injection e118)
                            replace hx118_32 := (HB.out.cell (World.block_lt_of_cell? w _ hx118_32)).trans hx118_32
                            replace hx118_33 := (HB.out.cell (World.block_lt_of_cell? w _ hx118_33)).trans hx118_33
                            replace hx118_34 := (HB.out.cell (World.block_lt_of_cell? w _ hx118_34)).trans hx118_34
                            replace hx118_35 := (HB.out.cell (World.block_lt_of_cell? w _ hx118_35)).trans hx118_35
                            have HR118_33 := Aside0.mk hi118_33
                            have HC118_33 := Aside0.mk hl118_33
                            clear hi118_33 hl118_33
                            have HR118_34 := Aside0.mk hi118_34
                            have HC118_34 := Aside0.mk hl118_34
                            clear hi118_34 hl118_34
                            replace p118 := eq_true p118
                            replace q118 := eq_true q118
                            go_wp2
                            repeat (go_quiet (fail); try go_wp2)
                            go_meet
                            case rel => exact ⟨_, (false), (by first | rfl | (simp; done) | (simp [*]; done)), (by first | exact H' | (subst_vars; exact H')), ⟨by have := HK1.out; have := HJ2.out; have := HK3.out; first | omega | exact Nat.le_refl _⟩, ⟨by (with_reducible repeat (first | refine blk_drewN ?_ _ | refine blk_drew ?_ | refine blk_alloc ?_ _)); exact BK114.out⟩, ⟨by repeat (first | (with_reducible first | exact HB.out | apply below_alloc | apply pw_below_drewN | apply below_drew1 | refine below_set ?_ GE114.out) | exact HB.out)⟩⟩
                        · rw [if_neg c15] at H
                          exact absurd H (by simp)
                      · rw [if_neg c14] at H
                        exact absurd H (by simp)
                    case rest =>
                      clear HC13
                      try clear c1
                      try clear p1
                      try clear q1
                      try clear hx1
                      try clear p2
                      try clear c4
                      try clear c4b0
                      try clear c7
                      try clear c9
                      try clear c9b0
                      try clear c10
                      try clear c10b0
                      try clear c11
                      try clear p11
                      try clear q11
                      try clear hx11
                      try clear c14
                      try clear c14b0
                      try clear c15
                      try clear c15b0
                      try clear c16
                      try clear c16b0
                      try clear hcz12_0
                      try clear hcz12_1
                      try clear hcz12_2
                      try clear hcz12_3
                      try clear hcz17_0
                      try clear hcz17_1
                      try clear hcz17_2
                      try clear hcz17_3
                      try clear hcz18_0
                      try clear hcz18_1
                      try clear hcz18_2
                      try clear hcz18_3
                      try clear hcz5_0
                      try clear hcz5_1
                      try clear hcz5_2
                      try clear hcz5_3
                      try clear hcz6_0
                      try clear hcz6_1
                      try clear hcz6_2
                      try clear hcz6_3
                      try clear hfz12_0
                      try clear hfz12_1
                      try clear hfz12_2
                      try clear hfz12_3
                      try clear hfz17_0
                      try clear hfz17_1
                      try clear hfz17_2
                      try clear hfz17_3
                      try clear hfz18_0
                      try clear hfz18_1
                      try clear hfz18_2
                      try clear hfz18_3
                      try clear hfz5_0
                      try clear hfz5_1
                      try clear hfz5_2
                      try clear hfz5_3
                      try clear hfz6_0
                      try clear hfz6_1
                      try clear hfz6_2
                      try clear hfz6_3
                      try clear hx116_0
                      try clear hx116_1
                      try clear hx116_10
                      try clear hx116_11
                      try clear hx116_12
                      try clear hx116_13
                      try clear hx116_14
                      try clear hx116_15
                      try clear hx116_16
                      try clear hx116_17
                      try clear hx116_18
                      try clear hx116_19
                      try clear hx116_2
                      try clear hx116_20
                      try clear hx116_21
                      try clear hx116_22
                      try clear hx116_23
                      try clear hx116_24
                      try clear hx116_25
                      try clear hx116_26
                      try clear hx116_27
                      try clear hx116_28
                      try clear hx116_29
                      try clear hx116_3
                      try clear hx116_30
                      try clear hx116_31
                      try clear hx116_32
                      try clear hx116_33
                      try clear hx116_34
                      try clear hx116_35
                      try clear hx116_4
                      try clear hx116_5
                      try clear hx116_6
                      try clear hx116_7
                      try clear hx116_8
                      try clear hx116_9
                      try clear hx118_0
                      try clear hx118_1
                      try clear hx118_10
                      try clear hx118_11
                      try clear hx118_12
                      try clear hx118_13
                      try clear hx118_14
                      try clear hx118_15
                      try clear hx118_16
                      try clear hx118_17
                      try clear hx118_18
                      try clear hx118_19
                      try clear hx118_2
                      try clear hx118_20
                      try clear hx118_21
                      try clear hx118_22
                      try clear hx118_23
                      try clear hx118_24
                      try clear hx118_25
                      try clear hx118_26
                      try clear hx118_27
                      try clear hx118_28
                      try clear hx118_29
                      try clear hx118_3
                      try clear hx118_30
                      try clear hx118_31
                      try clear hx118_32
                      try clear hx118_33
                      try clear hx118_34
                      try clear hx118_35
                      try clear hx118_4
                      try clear hx118_5
                      try clear hx118_6
                      try clear hx118_7
                      try clear hx118_8
                      try clear hx118_9
                      try clear p1
                      try clear p11
                      try clear p116
                      try clear p118
                      try clear p2
                      try clear q1
                      try clear q11
                      try clear q116
                      try clear q118
                      obtain ⟨kq, x40_12, rfl, HA, HJ12, BK114, HB⟩ := hcut
                      cases kq with
                      | zero => exact absurd HA.out (by simp [laws_txSize.j3])
                      | succ kj12 =>
                        have H := HA.out
                        clear HA
                        simp only [laws_txSize.j3] at H
                        by_cases c19 : x40_12 = true
                        · subst c19
                          have H1 : ((laws_more.f x3_3 9).bind fun t119 => (if 0 ≤ x4_1 then (if x4_1 < (l0_1.length : Int) then (if 0 ≤ x5_3 then (if x5_3 < (((rd_T35 l0_1 x4_1).f2).length : Int) then ((laws_more.f t119 ((rd_L1 ((rd_T35 l0_1 x4_1).f2) x5_3).length : Int)).bind fun t122 => (laws_txSize.l1 kj12 t122 x4_1 (wrap64 (x5_3 + 1)) a0_0 l0_1 l0_2 a0_3)) else (none)) else (none)) else (none)) else (none))) = some r := by rw [if_pos rfl] at H; exact H
                          clear H
                          have H := H1
                          clear H1
                          replace H := Option.bind_eq_some_iff.mp H
                          obtain ⟨t119, A200, H⟩ := H
                          replace H : (if 0 ≤ x4_1 then (if x4_1 < (l0_1.length : Int) then (if 0 ≤ x5_3 then (if x5_3 < (((rd_T35 l0_1 x4_1).f2).length : Int) then ((laws_more.f t119 ((rd_L1 ((rd_T35 l0_1 x4_1).f2) x5_3).length : Int)).bind fun t122 => (laws_txSize.l1 kj12 t122 x4_1 (wrap64 (x5_3 + 1)) a0_0 l0_1 l0_2 a0_3)) else (none)) else (none)) else (none)) else (none)) = some r := H
                          have A20 := Aside0.mk A200
                          clear A200
                          by_cases c21 : 0 ≤ x4_1
                          · rw [if_pos c21] at H
                            have c21b0 : decide (0 ≤ x4_1) = true := decide_eq_true c21
                            clear c21
                            by_cases c22 : x4_1 < (l0_1.length : Int)
                            · rw [if_pos c22] at H
                              have c22b0 : decide (x4_1 < (l0_1.length : Int)) = true := decide_eq_true c22
                              clear c22
                              by_cases c23 : 0 ≤ x5_3
                              · rw [if_pos c23] at H
                                have c23b0 : decide (0 ≤ x5_3) = true := decide_eq_true c23
                                clear c23
                                by_cases c24 : x5_3 < (((rd_T35 l0_1 x4_1).f2).length : Int)
                                · rw [if_pos c24] at H
                                  have c24b0 : decide (x5_3 < (((rd_T35 l0_1 x4_1).f2).length : Int)) = true := decide_eq_true c24
                                  clear c24
                                  replace H := Option.bind_eq_some_iff.mp H
                                  obtain ⟨t122, A250, H⟩ := H
                                  replace H : (laws_txSize.l1 kj12 t122 x4_1 (wrap64 (x5_3 + 1)) a0_0 l0_1 l0_2 a0_3) = some r := H
                                  have A25 := Aside0.mk A250
                                  clear A250
                                  have H' := Aside0.mk H
                                  clear H
                                  go_wp2_with (first | (go_at_call 23; (with_reducible refine (laws_more.calls x3_3 9 t119 _ A20.out).mono ?_); rintro e w' ⟨rfl, ⟨nd, rfl⟩⟩; (try first | exact ⟨rfl, _, World.drewN_drewN _ _ _⟩ | exact ⟨rfl, _, Eq.trans (World.drewN_drewN _ _ _) (congrArg (World.drewN _) (Nat.add_assoc _ _ _))⟩); have hcz26_0 : wc.cell? ⟨gb114, 0, none⟩ = some (.int .i32 a0_0) := (blk_cell BK114.out 0).trans rfl; have hcz26_1 : wc.cell? ⟨gb114, 1, none⟩ = some (.slice (some ad116) l0_1.length c0_1) := (blk_cell BK114.out 1).trans rfl; have hcz26_2 : wc.cell? ⟨gb114, 2, none⟩ = some (.slice A0_2 l0_2.length c0_2) := (blk_cell BK114.out 2).trans rfl; have hcz26_3 : wc.cell? ⟨gb114, 3, none⟩ = some (.int .u32 a0_3) := (blk_cell BK114.out 3).trans rfl; have hfz26_0 := blk_frozen BK114.out 0; have hfz26_1 := blk_frozen BK114.out 1; have hfz26_2 := blk_frozen BK114.out 2; have hfz26_3 := blk_frozen BK114.out 3; have p120 : 0 ≤ (x4_1 : Int) := of_decide_eq_true (by first | (with_reducible assumption) | assumption); have q120 : x4_1 < (l0_1.length : Int) := of_decide_eq_true (by first | (with_reducible assumption) | assumption); obtain ⟨ad120, A120_33, c120_33, A120_34, c120_34, e120, hx120_32, hx120_33, hx120_34, hx120_35, hl120_33, hi120_33, hl120_34, hi120_34⟩ := at_T35 HR0_1.out x4_1 p120 q120; obtain rfl : ad116 = ad120 := (by injection e120); replace hx120_32 := (HB.out.cell (World.block_lt_of_cell? w _ hx120_32)).trans hx120_32; replace hx120_33 := (HB.out.cell (World.block_lt_of_cell? w _ hx120_33)).trans hx120_33; replace hx120_34 := (HB.out.cell (World.block_lt_of_cell? w _ hx120_34)).trans hx120_34; replace hx120_35 := (HB.out.cell (World.block_lt_of_cell? w _ hx120_35)).trans hx120_35; have HR120_33 := Aside0.mk hi120_33; have HC120_33 := Aside0.mk hl120_33; clear hi120_33 hl120_33; have HR120_34 := Aside0.mk hi120_34; have HC120_34 := Aside0.mk hl120_34; clear hi120_34 hl120_34; replace p120 := eq_true p120; replace q120 := eq_true q120; have p121 : 0 ≤ (x5_3 : Int) := of_decide_eq_true (by first | (with_reducible assumption) | assumption); have q121 : x5_3 < (((rd_T35 l0_1 x4_1).f2).length : Int) := of_decide_eq_true (by first | (with_reducible assumption) | assumption); obtain ⟨ad121, A121_0, c121_0, e121, hx121_0, hl121_0, hi121_0⟩ := at_L1 HR120_34.out x5_3 p121 q121; cases e121; replace hx121_0 := (HB.out.cell (World.block_lt_of_cell? w _ hx121_0)).trans hx121_0; have HR121_0 := Aside0.mk hi121_0; have HC121_0 := Aside0.mk hl121_0; clear hi121_0 hl121_0; replace p121 := eq_true p121; replace q121 := eq_true q121) | (go_at_call 23; (with_reducible refine (laws_more.calls t119 ((rd_L1 ((rd_T35 l0_1 x4_1).f2) x5_3).length : Int) t122 _ A25.out).mono ?_); rintro e w' ⟨rfl, ⟨nd, rfl⟩⟩; (try first | exact ⟨rfl, _, World.drewN_drewN _ _ _⟩ | exact ⟨rfl, _, Eq.trans (World.drewN_drewN _ _ _) (congrArg (World.drewN _) (Nat.add_assoc _ _ _))⟩)))
                                  repeat (go_quiet (first | (go_at_call 23; (with_reducible refine (laws_more.calls x3_3 9 t119 _ A20.out).mono ?_); rintro e w' ⟨rfl, ⟨nd, rfl⟩⟩; (try first | exact ⟨rfl, _, World.drewN_drewN _ _ _⟩ | exact ⟨rfl, _, Eq.trans (World.drewN_drewN _ _ _) (congrArg (World.drewN _) (Nat.add_assoc _ _ _))⟩); have hcz26_0 : wc.cell? ⟨gb114, 0, none⟩ = some (.int .i32 a0_0) := (blk_cell BK114.out 0).trans rfl; have hcz26_1 : wc.cell? ⟨gb114, 1, none⟩ = some (.slice (some ad116) l0_1.length c0_1) := (blk_cell BK114.out 1).trans rfl; have hcz26_2 : wc.cell? ⟨gb114, 2, none⟩ = some (.slice A0_2 l0_2.length c0_2) := (blk_cell BK114.out 2).trans rfl; have hcz26_3 : wc.cell? ⟨gb114, 3, none⟩ = some (.int .u32 a0_3) := (blk_cell BK114.out 3).trans rfl; have hfz26_0 := blk_frozen BK114.out 0; have hfz26_1 := blk_frozen BK114.out 1; have hfz26_2 := blk_frozen BK114.out 2; have hfz26_3 := blk_frozen BK114.out 3; have p120 : 0 ≤ (x4_1 : Int) := of_decide_eq_true (by first | (with_reducible assumption) | assumption); have q120 : x4_1 < (l0_1.length : Int) := of_decide_eq_true (by first | (with_reducible assumption) | assumption); obtain ⟨ad120, A120_33, c120_33, A120_34, c120_34, e120, hx120_32, hx120_33, hx120_34, hx120_35, hl120_33, hi120_33, hl120_34, hi120_34⟩ := at_T35 HR0_1.out x4_1 p120 q120; obtain rfl : ad116 = ad120 := (by injection e120); replace hx120_32 := (HB.out.cell (World.block_lt_of_cell? w _ hx120_32)).trans hx120_32; replace hx120_33 := (HB.out.cell (World.block_lt_of_cell? w _ hx120_33)).trans hx120_33; replace hx120_34 := (HB.out.cell (World.block_lt_of_cell? w _ hx120_34)).trans hx120_34; replace hx120_35 := (HB.out.cell (World.block_lt_of_cell? w _ hx120_35)).trans hx120_35; have HR120_33 := Aside0.mk hi120_33; have HC120_33 := Aside0.mk hl120_33; clear hi120_33 hl120_33; have HR120_34 := Aside0.mk hi120_34; have HC120_34 := Aside0.mk hl120_34; clear hi120_34 hl120_34; replace p120 := eq_true p120; replace q120 := eq_true q120; have p121 : 0 ≤ (x5_3 : Int) := of_decide_eq_true (by first | (with_reducible assumption) | assumption); have q121 : x5_3 < (((rd_T35 l0_1 x4_1).f2).length : Int) := of_decide_eq_true (by first | (with_reducible assumption) | assumption); obtain ⟨ad121, A121_0, c121_0, e121, hx121_0, hl121_0, hi121_0⟩ := at_L1 HR120_34.out x5_3 p121 q121; cases e121; replace hx121_0 := (HB.out.cell (World.block_lt_of_cell? w _ hx121_0)).trans hx121_0; have HR121_0 := Aside0.mk hi121_0; have HC121_0 := Aside0.mk hl121_0; clear hi121_0 hl121_0; replace p121 := eq_true p121; replace q121 := eq_true q121) | (go_at_call 23; (with_reducible refine (laws_more.calls t119 ((rd_L1 ((rd_T35 l0_1 x4_1).f2) x5_3).length : Int) t122 _ A25.out).mono ?_); rintro e w' ⟨rfl, ⟨nd, rfl⟩⟩; (try first | exact ⟨rfl, _, World.drewN_drewN _ _ _⟩ | exact ⟨rfl, _, Eq.trans (World.drewN_drewN _ _ _) (congrArg (World.drewN _) (Nat.add_assoc _ _ _))⟩))); try go_wp2_with (first | (go_at_call 23; (with_reducible refine (laws_more.calls x3_3 9 t119 _ A20.out).mono ?_); rintro e w' ⟨rfl, ⟨nd, rfl⟩⟩; (try first | exact ⟨rfl, _, World.drewN_drewN _ _ _⟩ | exact ⟨rfl, _, Eq.trans (World.drewN_drewN _ _ _) (congrArg (World.drewN _) (Nat.add_assoc _ _ _))⟩); have hcz26_0 : wc.cell? ⟨gb114, 0, none⟩ = some (.int .i32 a0_0) := (blk_cell BK114.out 0).trans rfl; have hcz26_1 : wc.cell? ⟨gb114, 1, none⟩ = some (.slice (some ad116) l0_1.length c0_1) := (blk_cell BK114.out 1).trans rfl; have hcz26_2 : wc.cell? ⟨gb114, 2, none⟩ = some (.slice A0_2 l0_2.length c0_2) := (blk_cell BK114.out 2).trans rfl; have hcz26_3 : wc.cell? ⟨gb114, 3, none⟩ = some (.int .u32 a0_3) := (blk_cell BK114.out 3).trans rfl; have hfz26_0 := blk_frozen BK114.out 0; have hfz26_1 := blk_frozen BK114.out 1; have hfz26_2 := blk_frozen BK114.out 2; have hfz26_3 := blk_frozen BK114.out 3; have p120 : 0 ≤ (x4_1 : Int) := of_decide_eq_true (by first | (with_reducible assumption) | assumption); have q120 : x4_1 < (l0_1.length : Int) := of_decide_eq_true (by first | (with_reducible assumption) | assumption); obtain ⟨ad120, A120_33, c120_33, A120_34, c120_34, e120, hx120_32, hx120_33, hx120_34, hx120_35, hl120_33, hi120_33, hl120_34, hi120_34⟩ := at_T35 HR0_1.out x4_1 p120 q120; obtain rfl : ad116 = ad120 := (by injection e120); replace hx120_32 := (HB.out.cell (World.block_lt_of_cell? w _ hx120_32)).trans hx120_32; replace hx120_33 := (HB.out.cell (World.block_lt_of_cell? w _ hx120_33)).trans hx120_33; replace hx120_34 := (HB.out.cell (World.block_lt_of_cell? w _ hx120_34)).trans hx120_34; replace hx120_35 := (HB.out.cell (World.block_lt_of_cell? w _ hx120_35)).trans hx120_35; have HR120_33 := Aside0.mk hi120_33; have HC120_33 := Aside0.mk hl120_33; clear hi120_33 hl120_33; have HR120_34 := Aside0.mk hi120_34; have HC120_34 := Aside0.mk hl120_34; clear hi120_34 hl120_34; replace p120 := eq_true p120; replace q120 := eq_true q120; have p121 : 0 ≤ (x5_3 : Int) := of_decide_eq_true (by first | (with_reducible assumption) | assumption); have q121 : x5_3 < (((rd_T35 l0_1 x4_1).f2).length : Int) := of_decide_eq_true (by first | (with_reducible assumption) | assumption); obtain ⟨ad121, A121_0, c121_0, e121, hx121_0, hl121_0, hi121_0⟩ := at_L1 HR120_34.out x5_3 p121 q121; cases e121; replace hx121_0 := (HB.out.cell (World.block_lt_of_cell? w _ hx121_0)).trans hx121_0; have HR121_0 := Aside0.mk hi121_0; have HC121_0 := Aside0.mk hl121_0; clear hi121_0 hl121_0; replace p121 := eq_true p121; replace q121 := eq_true q121) | (go_at_call 23; (with_reducible refine (laws_more.calls t119 ((rd_L1 ((rd_T35 l0_1 x4_1).f2) x5_3).length : Int) t122 _ A25.out).mono ?_); rintro e w' ⟨rfl, ⟨nd, rfl⟩⟩; (try first | exact ⟨rfl, _, World.drewN_drewN _ _ _⟩ | exact ⟨rfl, _, Eq.trans (World.drewN_drewN _ _ _) (congrArg (World.drewN _) (Nat.add_assoc _ _ _))⟩))))
                                  go_roundg kj12
                                  case measure => have := HK1.out; have := HJ2.out; have := HK3.out; have := HJ12.out; omega
                                  case rel => exact ⟨(t122), (wrap64 (x5_3 + 1)), (by first | rfl | (simp; done) | (simp [*]; done)), (by first | rfl | (simp; done) | (simp [*]; done)), (by first | exact H' | (subst_vars; exact H')), ⟨by have := HK1.out; have := HJ2.out; have := HK3.out; have := HJ12.out; omega⟩, ⟨by (with_reducible repeat (first | refine blk_drewN ?_ _ | refine blk_drew ?_ | refine blk_alloc ?_ _)); exact BK114.out⟩, ⟨by repeat (first | (with_reducible first | exact HB.out | apply below_alloc | apply pw_below_drewN | apply below_drew1 | refine below_set ?_ GE114.out) | exact HB.out)⟩⟩
                                · rw [if_neg c24] at H
                                  exact absurd H (by simp)
                              · rw [if_neg c23] at H
                                exact absurd H (by simp)
                            · rw [if_neg c22] at H
                              exact absurd H (by simp)
                          · rw [if_neg c21] at H
                            exact absurd H (by simp)
                        · replace c19 := Bool.eq_false_iff.mpr c19
                          subst c19
                          have H1 : (laws_txSize.l0 kj12 x3_3 (wrap64 (x4_1 + 1)) a0_0 l0_1 l0_2 a0_3) = some r := by rw [if_neg (show ¬ (false = true) by decide)] at H; exact H
                          clear H
                          have H := H1
                          clear H1
                          have H' := Aside0.mk H
                          clear H
                          go_wp2
                          repeat (go_quiet (fail); try go_wp2)
                          go_roundg kj12
                          case measure => have := HK1.out; have := HJ2.out; have := HK3.out; have := HJ12.out; omega
                          case rel => exact ⟨(x3_3), (wrap64 (x4_1 + 1)), (by first | rfl | (simp; done) | (simp [*]; done)), (by first | rfl | (simp; done) | (simp [*]; done)), (by first | exact H' | (subst_vars; exact H')), ⟨by have := HK1.out; have := HJ2.out; have := HK3.out; have := HJ12.out; omega⟩, ⟨by (with_reducible repeat (first | refine blk_drewN ?_ _ | refine blk_drew ?_ | refine blk_alloc ?_ _)); exact BK114.out⟩, ⟨by repeat (first | (with_reducible first | exact HB.out | apply below_alloc | apply pw_below_drewN | apply below_drew1 | refine below_set ?_ GE114.out) | exact HB.out)⟩⟩
              · rw [if_neg c10] at H
                exact absurd H (by simp)
            · rw [if_neg c9] at H
              exact absurd H (by simp)
          · replace c7 := Bool.eq_false_iff.mpr c7
            subst c7
            have H1 : (laws_txSize.l2 kj2 x3_1 0 a0_0 l0_1 l0_2 a0_3) = some r := by rw [if_neg (show ¬ (false = true) by decide)] at H; exact H
            clear H
            have H := H1
            clear H1
            have H' := Aside0.mk H
            clear H
            go_wp2
            repeat (go_quiet (fail); try go_wp2)
            go_loopg [3, 6] kj2 (fun kq v3 v6 w' => ∃ (x3_3 : Int) (x6_3 : Int), v3 = .int .i64 x3_3 ∧ v6 = .int .i64 x6_3 ∧ Aside0 (laws_txSize.l2 kq x3_3 x6_3 a0_0 l0_1 l0_2 a0_3 = some r) ∧ Aside0 (kq ≤ kj2) ∧ Aside0 (w'.heap[gb114]? = some (.cells #[.int .i32 a0_0, (.slice A0_1 l0_1.length c0_1), (.slice A0_2 l0_2.length c0_2), .int .u32 a0_3] 26 (0, 0))) ∧ Aside0 (Below w.heap.size w w'))
            case atStart => exact ⟨(x3_1), (0), (by first | rfl | (simp; done) | (simp [*]; done)), (by first | rfl | (simp; done) | (simp [*]; done)), H', ⟨Nat.le_refl _⟩, ⟨by (with_reducible repeat (first | refine blk_drewN ?_ _ | refine blk_drew ?_ | refine blk_alloc ?_ _)); exact BK114.out⟩, ⟨by repeat (first | (with_reducible first | exact HB.out | apply below_alloc | apply pw_below_drewN | apply below_drew1 | refine below_set ?_ GE114.out) | exact HB.out)⟩⟩
            case round =>
              clear H'
              try clear c1
              try clear p1
              try clear q1
              try clear hx1
              try clear c2
              try clear p2
              try clear c4
              try clear c4b0
              try clear p6
              try clear c7
              try clear c9
              try clear c9b0
              try clear c10
              try clear c10b0
              try clear c11
              try clear p11
              try clear q11
              try clear hx11
              try clear c12
              try clear p12
              try clear q12
              try clear hx12
              try clear c14
              try clear c14b0
              try clear c15
              try clear c15b0
              try clear c16
              try clear c16b0
              try clear c19
              try clear c21
              try clear c21b0
              try clear c22
              try clear c22b0
              try clear c23
              try clear c23b0
              try clear c24
              try clear c24b0
              try clear hcz12_0
              try clear hcz12_1
              try clear hcz12_2
              try clear hcz12_3
              try clear hcz17_0
              try clear hcz17_1
              try clear hcz17_2
              try clear hcz17_3
              try clear hcz18_0
              try clear hcz18_1
              try clear hcz18_2
              try clear hcz18_3
              try clear hcz26_0
              try clear hcz26_1
              try clear hcz26_2
              try clear hcz26_3
              try clear hcz5_0
              try clear hcz5_1
              try clear hcz5_2
              try clear hcz5_3
              try clear hcz6_0
              try clear hcz6_1
              try clear hcz6_2
              try clear hcz6_3
              try clear hfz12_0
              try clear hfz12_1
              try clear hfz12_2
              try clear hfz12_3
              try clear hfz17_0
              try clear hfz17_1
              try clear hfz17_2
              try clear hfz17_3
              try clear hfz18_0
              try clear hfz18_1
              try clear hfz18_2
              try clear hfz18_3
              try clear hfz26_0
              try clear hfz26_1
              try clear hfz26_2
              try clear hfz26_3
              try clear hfz5_0
              try clear hfz5_1
              try clear hfz5_2
              try clear hfz5_3
              try clear hfz6_0
              try clear hfz6_1
              try clear hfz6_2
              try clear hfz6_3
              try clear hx116_0
              try clear hx116_1
              try clear hx116_10
              try clear hx116_11
              try clear hx116_12
              try clear hx116_13
              try clear hx116_14
              try clear hx116_15
              try clear hx116_16
              try clear hx116_17
              try clear hx116_18
              try clear hx116_19
              try clear hx116_2
              try clear hx116_20
              try clear hx116_21
              try clear hx116_22
              try clear hx116_23
              try clear hx116_24
              try clear hx116_25
              try clear hx116_26
              try clear hx116_27
              try clear hx116_28
              try clear hx116_29
              try clear hx116_3
              try clear hx116_30
              try clear hx116_31
              try clear hx116_32
              try clear hx116_33
              try clear hx116_34
              try clear hx116_35
              try clear hx116_4
              try clear hx116_5
              try clear hx116_6
              try clear hx116_7
              try clear hx116_8
              try clear hx116_9
              try clear hx118_0
              try clear hx118_1
              try clear hx118_10
              try clear hx118_11
              try clear hx118_12
              try clear hx118_13
              try clear hx118_14
              try clear hx118_15
              try clear hx118_16
              try clear hx118_17
              try clear hx118_18
              try clear hx118_19
              try clear hx118_2
              try clear hx118_20
              try clear hx118_21
              try clear hx118_22
              try clear hx118_23
              try clear hx118_24
              try clear hx118_25
              try clear hx118_26
              try clear hx118_27
              try clear hx118_28
              try clear hx118_29
              try clear hx118_3
              try clear hx118_30
              try clear hx118_31
              try clear hx118_32
              try clear hx118_33
              try clear hx118_34
              try clear hx118_35
              try clear hx118_4
              try clear hx118_5
              try clear hx118_6
              try clear hx118_7
              try clear hx118_8
              try clear hx118_9
              try clear hx120_0
              try clear hx120_1
              try clear hx120_10
              try clear hx120_11
              try clear hx120_12
              try clear hx120_13
              try clear hx120_14
              try clear hx120_15
              try clear hx120_16
              try clear hx120_17
              try clear hx120_18
              try clear hx120_19
              try clear hx120_2
              try clear hx120_20
              try clear hx120_21
              try clear hx120_22
              try clear hx120_23
              try clear hx120_24
              try clear hx120_25
              try clear hx120_26
              try clear hx120_27
              try clear hx120_28
              try clear hx120_29
              try clear hx120_3
              try clear hx120_30
              try clear hx120_31
              try clear hx120_32
              try clear hx120_33
              try clear hx120_34
              try clear hx120_35
              try clear hx120_4
              try clear hx120_5
              try clear hx120_6
              try clear hx120_7
              try clear hx120_8
              try clear hx120_9
              try clear hx121_0
              try clear p1
              try clear p11
              try clear p116
              try clear p118
              try clear p120
              try clear p121
              try clear p2
              try clear q1
              try clear q11
              try clear q116
              try clear q118
              try clear q120
              try clear q121
              obtain ⟨x3_3, x6_3, rfl, rfl, HA, HK3, BK114, HB⟩ := hrel
              cases gk with
              | zero => exact absurd HA.out (by simp [laws_txSize.l2])
              | succ k3 =>
                have H := HA.out
                clear HA
                simp only [laws_txSize.l2] at H
                have HC27 := Aside0.mk H
                clear H
                go_upto_region 11 with (fail)
                repeat (go_quiet (fail); go_upto_region 11 with (fail))
                go_cut [64] (fun v64 wc => ∃ (kq : Nat) (x64_26 : Bool), v64 = .bool x64_26 ∧ Aside0 (laws_txSize.j5 kq x3_3 x6_3 x64_26 a0_0 l0_1 l0_2 a0_3 = some r) ∧ Aside0 (kq ≤ k3) ∧ Aside0 (wc.heap[gb114]? = some (.cells #[.int .i32 a0_0, (.slice A0_1 l0_1.length c0_1), (.slice A0_2 l0_2.length c0_2), .int .u32 a0_3] 26 (0, 0))) ∧ Aside0 (Below w.heap.size w wc))
                case first =>
                  have H := HC27.out
                  clear HC27
                  by_cases c28 : x6_3 < (l0_2.length : Int)
                  · rw [if_pos c28] at H
                    have c28b0 : decide (x6_3 < (l0_2.length : Int)) = true := decide_eq_true c28
                    clear c28
                    (first | rw [c28b0] | (simp only [i64_w, i32_w]; rw [c28b0]) | skip)
                    have H' := Aside0.mk H
                    clear H
                    have hcz29_0 : wr.cell? ⟨gb114, 0, none⟩ = some (.int .i32 a0_0) := (blk_cell BK114.out 0).trans rfl
                    have hcz29_1 : wr.cell? ⟨gb114, 1, none⟩ = some (.slice A0_1 l0_1.length c0_1) := (blk_cell BK114.out 1).trans rfl
                    have hcz29_2 : wr.cell? ⟨gb114, 2, none⟩ = some (.slice A0_2 l0_2.length c0_2) := (blk_cell BK114.out 2).trans rfl
                    have hcz29_3 : wr.cell? ⟨gb114, 3, none⟩ = some (.int .u32 a0_3) := (blk_cell BK114.out 3).trans rfl
                    have hfz29_0 := blk_frozen BK114.out 0
                    have hfz29_1 := blk_frozen BK114.out 1
                    have hfz29_2 := blk_frozen BK114.out 2
                    have hfz29_3 := blk_frozen BK114.out 3
                    go_wp2
                    repeat (go_quiet (fail); try go_wp2)
                    go_meet
                    case rel => exact ⟨_, (decide (x3_3 ≤ 100000)), (by first | rfl | (simp; done) | (simp [*]; done)), (by first | exact H' | (subst_vars; exact H')), ⟨by have := HK1.out; have := HJ2.out; have := HK3.out; first | omega | exact Nat.le_refl _⟩, ⟨by (with_reducible repeat (first | refine blk_drewN ?_ _ | refine blk_drew ?_ | refine blk_alloc ?_ _)); exact BK114.out⟩, ⟨by repeat (first | (with_reducible first | exact HB.out | apply below_alloc | apply pw_below_drewN | apply below_drew1 | refine below_set ?_ GE114.out) | exact HB.out)⟩⟩
                  · rw [if_neg c28] at H
                    have c28b0 : decide (x6_3 < (l0_2.length : Int)) = false := decide_eq_false c28
                    clear c28
                    (first | rw [c28b0] | (simp only [i64_w, i32_w]; rw [c28b0]) | skip)
                    have H' := Aside0.mk H
                    clear H
                    have hcz30_0 : wr.cell? ⟨gb114, 0, none⟩ = some (.int .i32 a0_0) := (blk_cell BK114.out 0).trans rfl
                    have hcz30_1 : wr.cell? ⟨gb114, 1, none⟩ = some (.slice A0_1 l0_1.length c0_1) := (blk_cell BK114.out 1).trans rfl
                    have hcz30_2 : wr.cell? ⟨gb114, 2, none⟩ = some (.slice A0_2 l0_2.length c0_2) := (blk_cell BK114.out 2).trans rfl
                    have hcz30_3 : wr.cell? ⟨gb114, 3, none⟩ = some (.int .u32 a0_3) := (blk_cell BK114.out 3).trans rfl
                    have hfz30_0 := blk_frozen BK114.out 0
                    have hfz30_1 := blk_frozen BK114.out 1
                    have hfz30_2 := blk_frozen BK114.out 2
                    have hfz30_3 := blk_frozen BK114.out 3
                    go_wp2
                    repeat (go_quiet (fail); try go_wp2)
                    go_meet
                    case rel => exact ⟨_, (false), (by first | rfl | (simp; done) | (simp [*]; done)), (by first | exact H' | (subst_vars; exact H')), ⟨by have := HK1.out; have := HJ2.out; have := HK3.out; first | omega | exact Nat.le_refl _⟩, ⟨by (with_reducible repeat (first | refine blk_drewN ?_ _ | refine blk_drew ?_ | refine blk_alloc ?_ _)); exact BK114.out⟩, ⟨by repeat (first | (with_reducible first | exact HB.out | apply below_alloc | apply pw_below_drewN | apply below_drew1 | refine below_set ?_ GE114.out) | exact HB.out)⟩⟩
                case rest =>
                  clear HC27
                  try clear c1
                  try clear p1
                  try clear q1
                  try clear hx1
                  try clear c2
                  try clear p2
                  try clear c4
                  try clear c4b0
                  try clear p6
                  try clear c7
                  try clear c9
                  try clear c9b0
                  try clear c10
                  try clear c10b0
                  try clear c11
                  try clear p11
                  try clear q11
                  try clear hx11
                  try clear c12
                  try clear p12
                  try clear q12
                  try clear hx12
                  try clear c14
                  try clear c14b0
                  try clear c15
                  try clear c15b0
                  try clear c16
                  try clear c16b0
                  try clear c19
                  try clear c21
                  try clear c21b0
                  try clear c22
                  try clear c22b0
                  try clear c23
                  try clear c23b0
                  try clear c24
                  try clear c24b0
                  try clear c28
                  try clear c28b0
                  try clear hcz12_0
                  try clear hcz12_1
                  try clear hcz12_2
                  try clear hcz12_3
                  try clear hcz17_0
                  try clear hcz17_1
                  try clear hcz17_2
                  try clear hcz17_3
                  try clear hcz18_0
                  try clear hcz18_1
                  try clear hcz18_2
                  try clear hcz18_3
                  try clear hcz26_0
                  try clear hcz26_1
                  try clear hcz26_2
                  try clear hcz26_3
                  try clear hcz29_0
                  try clear hcz29_1
                  try clear hcz29_2
                  try clear hcz29_3
                  try clear hcz30_0
                  try clear hcz30_1
                  try clear hcz30_2
                  try clear hcz30_3
                  try clear hcz5_0
                  try clear hcz5_1
                  try clear hcz5_2
                  try clear hcz5_3
                  try clear hcz6_0
                  try clear hcz6_1
                  try clear hcz6_2
                  try clear hcz6_3
                  try clear hfz12_0
                  try clear hfz12_1
                  try clear hfz12_2
                  try clear hfz12_3
                  try clear hfz17_0
                  try clear hfz17_1
                  try clear hfz17_2
                  try clear hfz17_3
                  try clear hfz18_0
                  try clear hfz18_1
                  try clear hfz18_2
                  try clear hfz18_3
                  try clear hfz26_0
                  try clear hfz26_1
                  try clear hfz26_2
                  try clear hfz26_3
                  try clear hfz29_0
                  try clear hfz29_1
                  try clear hfz29_2
                  try clear hfz29_3
                  try clear hfz30_0
                  try clear hfz30_1
                  try clear hfz30_2
                  try clear hfz30_3
                  try clear hfz5_0
                  try clear hfz5_1
                  try clear hfz5_2
                  try clear hfz5_3
                  try clear hfz6_0
                  try clear hfz6_1
                  try clear hfz6_2
                  try clear hfz6_3
                  try clear hx116_0
                  try clear hx116_1
                  try clear hx116_10
                  try clear hx116_11
                  try clear hx116_12
                  try clear hx116_13
                  try clear hx116_14
                  try clear hx116_15
                  try clear hx116_16
                  try clear hx116_17
                  try clear hx116_18
                  try clear hx116_19
                  try clear hx116_2
                  try clear hx116_20
                  try clear hx116_21
                  try clear hx116_22
                  try clear hx116_23
                  try clear hx116_24
                  try clear hx116_25
                  try clear hx116_26
                  try clear hx116_27
                  try clear hx116_28
                  try clear hx116_29
                  try clear hx116_3
                  try clear hx116_30
                  try clear hx116_31
                  try clear hx116_32
                  try clear hx116_33
                  try clear hx116_34
                  try clear hx116_35
                  try clear hx116_4
                  try clear hx116_5
                  try clear hx116_6
                  try clear hx116_7
                  try clear hx116_8
                  try clear hx116_9
                  try clear hx118_0
                  try clear hx118_1
                  try clear hx118_10
                  try clear hx118_11
                  try clear hx118_12
                  try clear hx118_13
                  try clear hx118_14
                  try clear hx118_15
                  try clear hx118_16
                  try clear hx118_17
                  try clear hx118_18
                  try clear hx118_19
                  try clear hx118_2
                  try clear hx118_20
                  try clear hx118_21
                  try clear hx118_22
                  try clear hx118_23
                  try clear hx118_24
                  try clear hx118_25
                  try clear hx118_26
                  try clear hx118_27
                  try clear hx118_28
                  try clear hx118_29
                  try clear hx118_3
                  try clear hx118_30
                  try clear hx118_31
                  try clear hx118_32
                  try clear hx118_33
                  try clear hx118_34
                  try clear hx118_35
                  try clear hx118_4
                  try clear hx118_5
                  try clear hx118_6
                  try clear hx118_7
                  try clear hx118_8
                  try clear hx118_9
                  try clear hx120_0
                  try clear hx120_1
                  try clear hx120_10
                  try clear hx120_11
                  try clear hx120_12
                  try clear hx120_13
                  try clear hx120_14
                  try clear hx120_15
                  try clear hx120_16
                  try clear hx120_17
                  try clear hx120_18
                  try clear hx120_19
                  try clear hx120_2
                  try clear hx120_20
                  try clear hx120_21
                  try clear hx120_22
                  try clear hx120_23
                  try clear hx120_24
                  try clear hx120_25
                  try clear hx120_26
                  try clear hx120_27
                  try clear hx120_28
                  try clear hx120_29
                  try clear hx120_3
                  try clear hx120_30
                  try clear hx120_31
                  try clear hx120_32
                  try clear hx120_33
                  try clear hx120_34
                  try clear hx120_35
                  try clear hx120_4
                  try clear hx120_5
                  try clear hx120_6
                  try clear hx120_7
                  try clear hx120_8
                  try clear hx120_9
                  try clear hx121_0
                  try clear p1
                  try clear p11
                  try clear p116
                  try clear p118
                  try clear p12
                  try clear p120
                  try clear p121
                  try clear p2
                  try clear p6
                  try clear q1
                  try clear q11
                  try clear q116
                  try clear q118
                  try clear q12
                  try clear q120
                  try clear q121
                  obtain ⟨kq, x64_26, rfl, HA, HJ26, BK114, HB⟩ := hcut
                  cases kq with
                  | zero => exact absurd HA.out (by simp [laws_txSize.j5])
                  | succ kj26 =>
                    have H := HA.out
                    clear HA
                    simp only [laws_txSize.j5] at H
                    by_cases c31 : x64_26 = true
                    · subst c31
                      have H1 : ((laws_more.f x3_3 17).bind fun t123 => (if 0 ≤ x6_3 then (if x6_3 < (l0_2.length : Int) then ((laws_more.f t123 (((rd_T41 l0_2 x6_3).f1).length : Int)).bind fun t125 => (laws_txSize.l2 kj26 t125 (wrap64 (x6_3 + 1)) a0_0 l0_1 l0_2 a0_3)) else (none)) else (none))) = some r := by rw [if_pos rfl] at H; exact H
                      clear H
                      have H := H1
                      clear H1
                      replace H := Option.bind_eq_some_iff.mp H
                      obtain ⟨t123, A320, H⟩ := H
                      replace H : (if 0 ≤ x6_3 then (if x6_3 < (l0_2.length : Int) then ((laws_more.f t123 (((rd_T41 l0_2 x6_3).f1).length : Int)).bind fun t125 => (laws_txSize.l2 kj26 t125 (wrap64 (x6_3 + 1)) a0_0 l0_1 l0_2 a0_3)) else (none)) else (none)) = some r := H
                      have A32 := Aside0.mk A320
                      clear A320
                      by_cases c33 : 0 ≤ x6_3
                      · rw [if_pos c33] at H
                        have c33b0 : decide (0 ≤ x6_3) = true := decide_eq_true c33
                        clear c33
                        by_cases c34 : x6_3 < (l0_2.length : Int)
                        · rw [if_pos c34] at H
                          have c34b0 : decide (x6_3 < (l0_2.length : Int)) = true := decide_eq_true c34
                          clear c34
                          replace H := Option.bind_eq_some_iff.mp H
                          obtain ⟨t125, A350, H⟩ := H
                          replace H : (laws_txSize.l2 kj26 t125 (wrap64 (x6_3 + 1)) a0_0 l0_1 l0_2 a0_3) = some r := H
                          have A35 := Aside0.mk A350
                          clear A350
                          have H' := Aside0.mk H
                          clear H
                          go_wp2_with (first | (go_at_call 23; (with_reducible refine (laws_more.calls x3_3 17 t123 _ A32.out).mono ?_); rintro e w' ⟨rfl, ⟨nd, rfl⟩⟩; (try first | exact ⟨rfl, _, World.drewN_drewN _ _ _⟩ | exact ⟨rfl, _, Eq.trans (World.drewN_drewN _ _ _) (congrArg (World.drewN _) (Nat.add_assoc _ _ _))⟩); have hcz36_0 : wc.cell? ⟨gb114, 0, none⟩ = some (.int .i32 a0_0) := (blk_cell BK114.out 0).trans rfl; have hcz36_1 : wc.cell? ⟨gb114, 1, none⟩ = some (.slice A0_1 l0_1.length c0_1) := (blk_cell BK114.out 1).trans rfl; have hcz36_2 : wc.cell? ⟨gb114, 2, none⟩ = some (.slice A0_2 l0_2.length c0_2) := (blk_cell BK114.out 2).trans rfl; have hcz36_3 : wc.cell? ⟨gb114, 3, none⟩ = some (.int .u32 a0_3) := (blk_cell BK114.out 3).trans rfl; have hfz36_0 := blk_frozen BK114.out 0; have hfz36_1 := blk_frozen BK114.out 1; have hfz36_2 := blk_frozen BK114.out 2; have hfz36_3 := blk_frozen BK114.out 3; have p124 : 0 ≤ (x6_3 : Int) := of_decide_eq_true (by first | (with_reducible assumption) | assumption); have q124 : x6_3 < (l0_2.length : Int) := of_decide_eq_true (by first | (with_reducible assumption) | assumption); obtain ⟨ad124, A124_1, c124_1, e124, hx124_0, hx124_1, hl124_1, hi124_1⟩ := at_T41 HR0_2.out x6_3 p124 q124; cases e124; replace hx124_0 := (HB.out.cell (World.block_lt_of_cell? w _ hx124_0)).trans hx124_0; replace hx124_1 := (HB.out.cell (World.block_lt_of_cell? w _ hx124_1)).trans hx124_1; have HR124_1 := Aside0.mk hi124_1; have HC124_1 := Aside0.mk hl124_1; clear hi124_1 hl124_1; replace p124 := eq_true p124; replace q124 := eq_true q124) | (go_at_call 23; (with_reducible refine (laws_more.calls t123 (((rd_T41 l0_2 x6_3).f1).length : Int) t125 _ A35.out).mono ?_); rintro e w' ⟨rfl, ⟨nd, rfl⟩⟩; (try first | exact ⟨rfl, _, World.drewN_drewN _ _ _⟩ | exact ⟨rfl, _, Eq.trans (World.drewN_drewN _ _ _) (congrArg (World.drewN _) (Nat.add_assoc _ _ _))⟩)))
                          repeat (go_quiet (first | (go_at_call 23; (with_reducible refine (laws_more.calls x3_3 17 t123 _ A32.out).mono ?_); rintro e w' ⟨rfl, ⟨nd, rfl⟩⟩; (try first | exact ⟨rfl, _, World.drewN_drewN _ _ _⟩ | exact ⟨rfl, _, Eq.trans (World.drewN_drewN _ _ _) (congrArg (World.drewN _) (Nat.add_assoc _ _ _))⟩); have hcz36_0 : wc.cell? ⟨gb114, 0, none⟩ = some (.int .i32 a0_0) := (blk_cell BK114.out 0).trans rfl; have hcz36_1 : wc.cell? ⟨gb114, 1, none⟩ = some (.slice A0_1 l0_1.length c0_1) := (blk_cell BK114.out 1).trans rfl; have hcz36_2 : wc.cell? ⟨gb114, 2, none⟩ = some (.slice A0_2 l0_2.length c0_2) := (blk_cell BK114.out 2).trans rfl; have hcz36_3 : wc.cell? ⟨gb114, 3, none⟩ = some (.int .u32 a0_3) := (blk_cell BK114.out 3).trans rfl; have hfz36_0 := blk_frozen BK114.out 0; have hfz36_1 := blk_frozen BK114.out 1; have hfz36_2 := blk_frozen BK114.out 2; have hfz36_3 := blk_frozen BK114.out 3; have p124 : 0 ≤ (x6_3 : Int) := of_decide_eq_true (by first | (with_reducible assumption) | assumption); have q124 : x6_3 < (l0_2.length : Int) := of_decide_eq_true (by first | (with_reducible assumption) | assumption); obtain ⟨ad124, A124_1, c124_1, e124, hx124_0, hx124_1, hl124_1, hi124_1⟩ := at_T41 HR0_2.out x6_3 p124 q124; cases e124; replace hx124_0 := (HB.out.cell (World.block_lt_of_cell? w _ hx124_0)).trans hx124_0; replace hx124_1 := (HB.out.cell (World.block_lt_of_cell? w _ hx124_1)).trans hx124_1; have HR124_1 := Aside0.mk hi124_1; have HC124_1 := Aside0.mk hl124_1; clear hi124_1 hl124_1; replace p124 := eq_true p124; replace q124 := eq_true q124) | (go_at_call 23; (with_reducible refine (laws_more.calls t123 (((rd_T41 l0_2 x6_3).f1).length : Int) t125 _ A35.out).mono ?_); rintro e w' ⟨rfl, ⟨nd, rfl⟩⟩; (try first | exact ⟨rfl, _, World.drewN_drewN _ _ _⟩ | exact ⟨rfl, _, Eq.trans (World.drewN_drewN _ _ _) (congrArg (World.drewN _) (Nat.add_assoc _ _ _))⟩))); try go_wp2_with (first | (go_at_call 23; (with_reducible refine (laws_more.calls x3_3 17 t123 _ A32.out).mono ?_); rintro e w' ⟨rfl, ⟨nd, rfl⟩⟩; (try first | exact ⟨rfl, _, World.drewN_drewN _ _ _⟩ | exact ⟨rfl, _, Eq.trans (World.drewN_drewN _ _ _) (congrArg (World.drewN _) (Nat.add_assoc _ _ _))⟩); have hcz36_0 : wc.cell? ⟨gb114, 0, none⟩ = some (.int .i32 a0_0) := (blk_cell BK114.out 0).trans rfl; have hcz36_1 : wc.cell? ⟨gb114, 1, none⟩ = some (.slice A0_1 l0_1.length c0_1) := (blk_cell BK114.out 1).trans rfl; have hcz36_2 : wc.cell? ⟨gb114, 2, none⟩ = some (.slice A0_2 l0_2.length c0_2) := (blk_cell BK114.out 2).trans rfl; have hcz36_3 : wc.cell? ⟨gb114, 3, none⟩ = some (.int .u32 a0_3) := (blk_cell BK114.out 3).trans rfl; have hfz36_0 := blk_frozen BK114.out 0; have hfz36_1 := blk_frozen BK114.out 1; have hfz36_2 := blk_frozen BK114.out 2; have hfz36_3 := blk_frozen BK114.out 3; have p124 : 0 ≤ (x6_3 : Int) := of_decide_eq_true (by first | (with_reducible assumption) | assumption); have q124 : x6_3 < (l0_2.length : Int) := of_decide_eq_true (by first | (with_reducible assumption) | assumption); obtain ⟨ad124, A124_1, c124_1, e124, hx124_0, hx124_1, hl124_1, hi124_1⟩ := at_T41 HR0_2.out x6_3 p124 q124; cases e124; replace hx124_0 := (HB.out.cell (World.block_lt_of_cell? w _ hx124_0)).trans hx124_0; replace hx124_1 := (HB.out.cell (World.block_lt_of_cell? w _ hx124_1)).trans hx124_1; have HR124_1 := Aside0.mk hi124_1; have HC124_1 := Aside0.mk hl124_1; clear hi124_1 hl124_1; replace p124 := eq_true p124; replace q124 := eq_true q124) | (go_at_call 23; (with_reducible refine (laws_more.calls t123 (((rd_T41 l0_2 x6_3).f1).length : Int) t125 _ A35.out).mono ?_); rintro e w' ⟨rfl, ⟨nd, rfl⟩⟩; (try first | exact ⟨rfl, _, World.drewN_drewN _ _ _⟩ | exact ⟨rfl, _, Eq.trans (World.drewN_drewN _ _ _) (congrArg (World.drewN _) (Nat.add_assoc _ _ _))⟩))))
                          go_roundg kj26
                          case measure => have := HK1.out; have := HJ2.out; have := HK3.out; have := HJ26.out; omega
                          case rel => exact ⟨(t125), (wrap64 (x6_3 + 1)), (by first | rfl | (simp; done) | (simp [*]; done)), (by first | rfl | (simp; done) | (simp [*]; done)), (by first | exact H' | (subst_vars; exact H')), ⟨by have := HK1.out; have := HJ2.out; have := HK3.out; have := HJ26.out; omega⟩, ⟨by (with_reducible repeat (first | refine blk_drewN ?_ _ | refine blk_drew ?_ | refine blk_alloc ?_ _)); exact BK114.out⟩, ⟨by repeat (first | (with_reducible first | exact HB.out | apply below_alloc | apply pw_below_drewN | apply below_drew1 | refine below_set ?_ GE114.out) | exact HB.out)⟩⟩
                        · rw [if_neg c34] at H
                          exact absurd H (by simp)
                      · rw [if_neg c33] at H
                        exact absurd H (by simp)
                    · replace c31 := Bool.eq_false_iff.mpr c31
                      subst c31
                      have H1 : (some x3_3) = some r := by rw [if_neg (show ¬ (false = true) by decide)] at H; exact H
                      clear H
                      have H := H1
                      clear H1
                      obtain rfl := Option.some.inj H
                      go_wp2
                      repeat (go_quiet (fail); try go_wp2)
                      go_ret
                      exact ⟨by first | rfl | (simp [errW_none, errW_some] <;> rfl) | (simp [*, errW_none, errW_some] <;> rfl), by repeat (first | (with_reducible first | exact HB.out | apply below_alloc | apply pw_below_drewN | apply below_drew1 | refine below_set ?_ GE114.out) | exact HB.out)⟩

/-! ### spec_HasWitness: function 8 -/
def spec_HasWitness.l0 : Nat → Int → Int → List (S35) → List (S41) → Int → Option (Bool)
  | 0, _, _, _, _, _ => none
  | k + 1, x3, x127000, x127001, x127002, x127003 => if x3 < (x127001.length : Int) then (if 0 ≤ x3 then (if (((rd_T35 x127001 x3).f2).length : Int) > 0 then (some true) else (spec_HasWitness.l0 k (wrap64 (x3 + 1)) x127000 x127001 x127002 x127003)) else (none)) else (some false)
def spec_HasWitness.f (k : Nat) (a0_0 : Int) (l0_1 : List (S35)) (l0_2 : List (S41)) (a0_3 : Int) : Option (Bool) := spec_HasWitness.l0 k 0 a0_0 l0_1 l0_2 a0_3
theorem spec_HasWitness.mono_l : ∀ k, (∀ y0 y1 y2 y3 y4, LeO (spec_HasWitness.l0 k y0 y1 y2 y3 y4) (spec_HasWitness.l0 (k + 1) y0 y1 y2 y3 y4))
  | 0 => fun _ _ _ _ _ r h => by simp [spec_HasWitness.l0] at h
  | k + 1 => by
    have ih0 := spec_HasWitness.mono_l k
    · intro y0 y1 y2 y3 y4
      unfold spec_HasWitness.l0
      repeat' first
      | (with_reducible exact ih0 _ _ _ _ _)
      | (with_reducible exact LeO.refl _)
      | (with_reducible exact LeO.none _)
      | (with_reducible refine LeO.ite ?_ ?_)
      | (with_reducible refine LeO.bind ?_ (fun _ => ?_))
      | exact ih0 _ _ _ _ _
      | exact LeO.none _
      | refine LeO.ite ?_ ?_
      | refine LeO.bind ?_ (fun _ => ?_)
theorem spec_HasWitness.mono : ∀ a0 a1 a2 a3 k, LeO (spec_HasWitness.f k a0 a1 a2 a3) (spec_HasWitness.f (k + 1) a0 a1 a2 a3) := by
  intro a0 a1 a2 a3 k
  have ih0 := spec_HasWitness.mono_l k
  unfold spec_HasWitness.f
  repeat' first
      | (with_reducible exact ih0 _ _ _ _ _)
      | (with_reducible exact LeO.refl _)
      | (with_reducible exact LeO.none _)
      | (with_reducible refine LeO.ite ?_ ?_)
      | (with_reducible refine LeO.bind ?_ (fun _ => ?_))
      | exact ih0 _ _ _ _ _
      | exact LeO.none _
      | refine LeO.ite ?_ ?_
      | refine LeO.bind ?_ (fun _ => ?_)
set_option maxHeartbeats 8000000 in
set_option maxRecDepth 100000 in
theorem spec_HasWitness.calls (k : Nat) (a0_0 : Int) (A0_1 : Option Addr) (c0_1 : Nat) (l0_1 : List (S35)) (A0_2 : Option Addr) (c0_2 : Nat) (l0_2 : List (S41)) (a0_3 : Int) (r : Bool) (w : World) (hr0_1 : Kd.C k35 w A0_1 l0_1.length l0_1) (hc0_1 : l0_1.length ≤ c0_1) (hr0_2 : Kd.C k41 w A0_2 l0_2.length l0_2) (hc0_2 : l0_2.length ≤ c0_2) (h : spec_HasWitness.f k a0_0 l0_1 l0_2 a0_3 = some r) :
    Calls Try.prog 8 #[.agg #[.int .i32 a0_0, .slice A0_1 l0_1.length c0_1, .slice A0_2 l0_2.length c0_2, .int .u32 a0_3]] w fun e w' => e = .returned (.bool r) ∧ Below w.heap.size w w' := by
  have hu26 := Try.underlying26
  have HR0_1 := Aside0.mk hr0_1
  have HC0_1 := Aside0.mk hc0_1
  clear hr0_1 hc0_1
  have HR0_2 := Aside0.mk hr0_2
  have HC0_2 := Aside0.mk hc0_2
  clear hr0_2 hc0_2
  have HB := Aside0.mk (Below.refl w.heap.size w)
  have H : (spec_HasWitness.l0 k 0 a0_0 l0_1 l0_2 a0_3) = some r := h
  clear h
  have H' := Aside0.mk H
  clear H
  go_enter Try.func8, Try.ntmps8
  go_wp2_with (first | ((with_reducible refine gate_dst (N := 1) rfl ?_); refine box_event ?hg (N := 1) ?hd (cs := #[.int .i32 a0_0, .slice A0_1 l0_1.length c0_1, .slice A0_2 l0_2.length c0_2, .int .u32 a0_3]) (t := 26) ?hr ?_; (case hd => rfl); (case hg => rfl); (case hr => first | (go_simp; done) | (go_simp; rfl)); intro gb126 hg w2 hbox hb; have n0_ := Aside0.mk (below_step (by repeat (first | (with_reducible first | exact HB.out | apply below_alloc | apply pw_below_drewN | apply below_drew1) | exact HB.out)) hb); have n1_ := Aside0.mk (hbox); have n2_ := Aside0.mk ((by rw [hg]; exact (below_size (by repeat (first | (with_reducible first | exact HB.out | apply below_alloc | apply pw_below_drewN | apply below_drew1) | exact HB.out))) : w.heap.size ≤ gb126)); have n3_ := Aside0.mk ((by rw [hg]; exact (below_size (by repeat (first | (with_reducible first | exact HB.out | apply below_alloc | apply pw_below_drewN | apply below_drew1) | exact HB.out))) : w.heap.size ≤ gb126)); clear HB; have HB := n0_; have BK126 := n1_; have GW126 := n2_; have GE126 := n3_; clear n0_ n1_ n2_ n3_; clear hb hbox hg))
  go_loopg [3] k (fun kq v3 w' => ∃ (x3_1 : Int), v3 = .int .i64 x3_1 ∧ Aside0 (spec_HasWitness.l0 kq x3_1 a0_0 l0_1 l0_2 a0_3 = some r) ∧ Aside0 (kq ≤ k) ∧ Aside0 (w'.heap[gb126]? = some (.cells #[.int .i32 a0_0, (.slice A0_1 l0_1.length c0_1), (.slice A0_2 l0_2.length c0_2), .int .u32 a0_3] 26 (0, 0))) ∧ Aside0 (Below w.heap.size w w'))
  case atStart => exact ⟨(0), (by first | rfl | (simp; done) | (simp [*]; done)), H', ⟨Nat.le_refl _⟩, ⟨by (with_reducible repeat (first | refine blk_drewN ?_ _ | refine blk_drew ?_ | refine blk_alloc ?_ _)); exact BK126.out⟩, ⟨by repeat (first | (with_reducible first | exact HB.out | apply below_alloc | apply pw_below_drewN | apply below_drew1 | refine below_set ?_ GE126.out) | exact HB.out)⟩⟩
  case round =>
    clear H'
    try clear p2
    obtain ⟨x3_1, rfl, HA, HK1, BK126, HB⟩ := hrel
    cases gk with
    | zero => exact absurd HA.out (by simp [spec_HasWitness.l0])
    | succ k1 =>
      have H := HA.out
      clear HA
      simp only [spec_HasWitness.l0] at H
      by_cases c3 : x3_1 < (l0_1.length : Int)
      · rw [if_pos c3] at H
        have c3b0 : decide (x3_1 < (l0_1.length : Int)) = true := decide_eq_true c3
        clear c3
        by_cases c4 : 0 ≤ x3_1
        · rw [if_pos c4] at H
          have c4b0 : decide (0 ≤ x3_1) = true := decide_eq_true c4
          clear c4
          by_cases c5 : (((rd_T35 l0_1 x3_1).f2).length : Int) > 0
          · rw [if_pos c5] at H
            have c5b0 : decide (0 < (((rd_T35 l0_1 x3_1).f2).length : Int)) = true := decide_eq_true c5
            have c5b1 : decide (0 < ((rd_T35 l0_1 x3_1).f2).length) = true := decide_eq_true (by omega)
            clear c5
            obtain rfl := Option.some.inj H
            have hcz6_0 : wr.cell? ⟨gb126, 0, none⟩ = some (.int .i32 a0_0) := (blk_cell BK126.out 0).trans rfl
            have hcz6_1 : wr.cell? ⟨gb126, 1, none⟩ = some (.slice A0_1 l0_1.length c0_1) := (blk_cell BK126.out 1).trans rfl
            have hcz6_2 : wr.cell? ⟨gb126, 2, none⟩ = some (.slice A0_2 l0_2.length c0_2) := (blk_cell BK126.out 2).trans rfl
            have hcz6_3 : wr.cell? ⟨gb126, 3, none⟩ = some (.int .u32 a0_3) := (blk_cell BK126.out 3).trans rfl
            have hfz6_0 := blk_frozen BK126.out 0
            have hfz6_1 := blk_frozen BK126.out 1
            have hfz6_2 := blk_frozen BK126.out 2
            have hfz6_3 := blk_frozen BK126.out 3
            have p127 : 0 ≤ (x3_1 : Int) := of_decide_eq_true (by first | (with_reducible assumption) | assumption)
            have q127 : x3_1 < (l0_1.length : Int) := of_decide_eq_true (by first | (with_reducible assumption) | assumption)
            obtain ⟨ad127, A127_33, c127_33, A127_34, c127_34, e127, hx127_32, hx127_33, hx127_34, hx127_35, hl127_33, hi127_33, hl127_34, hi127_34⟩ := at_T35 HR0_1.out x3_1 p127 q127
            cases e127
            replace hx127_32 := (HB.out.cell (World.block_lt_of_cell? w _ hx127_32)).trans hx127_32
            replace hx127_33 := (HB.out.cell (World.block_lt_of_cell? w _ hx127_33)).trans hx127_33
            replace hx127_34 := (HB.out.cell (World.block_lt_of_cell? w _ hx127_34)).trans hx127_34
            replace hx127_35 := (HB.out.cell (World.block_lt_of_cell? w _ hx127_35)).trans hx127_35
            have HR127_33 := Aside0.mk hi127_33
            have HC127_33 := Aside0.mk hl127_33
            clear hi127_33 hl127_33
            have HR127_34 := Aside0.mk hi127_34
            have HC127_34 := Aside0.mk hl127_34
            clear hi127_34 hl127_34
            replace p127 := eq_true p127
            replace q127 := eq_true q127
            go_wp2
            go_ret
            exact ⟨by first | rfl | (simp [errW_none, errW_some] <;> rfl) | (simp [*, errW_none, errW_some] <;> rfl), by repeat (first | (with_reducible first | exact HB.out | apply below_alloc | apply pw_below_drewN | apply below_drew1 | refine below_set ?_ GE126.out) | exact HB.out)⟩
          · rw [if_neg c5] at H
            have c5b0 : decide (0 < (((rd_T35 l0_1 x3_1).f2).length : Int)) = false := decide_eq_false c5
            have c5b1 : decide (0 < ((rd_T35 l0_1 x3_1).f2).length) = false := decide_eq_false (by omega)
            clear c5
            have H' := Aside0.mk H
            clear H
            have hcz7_0 : wr.cell? ⟨gb126, 0, none⟩ = some (.int .i32 a0_0) := (blk_cell BK126.out 0).trans rfl
            have hcz7_1 : wr.cell? ⟨gb126, 1, none⟩ = some (.slice A0_1 l0_1.length c0_1) := (blk_cell BK126.out 1).trans rfl
            have hcz7_2 : wr.cell? ⟨gb126, 2, none⟩ = some (.slice A0_2 l0_2.length c0_2) := (blk_cell BK126.out 2).trans rfl
            have hcz7_3 : wr.cell? ⟨gb126, 3, none⟩ = some (.int .u32 a0_3) := (blk_cell BK126.out 3).trans rfl
            have hfz7_0 := blk_frozen BK126.out 0
            have hfz7_1 := blk_frozen BK126.out 1
            have hfz7_2 := blk_frozen BK126.out 2
            have hfz7_3 := blk_frozen BK126.out 3
            have p127 : 0 ≤ (x3_1 : Int) := of_decide_eq_true (by first | (with_reducible assumption) | assumption)
            have q127 : x3_1 < (l0_1.length : Int) := of_decide_eq_true (by first | (with_reducible assumption) | assumption)
            obtain ⟨ad127, A127_33, c127_33, A127_34, c127_34, e127, hx127_32, hx127_33, hx127_34, hx127_35, hl127_33, hi127_33, hl127_34, hi127_34⟩ := at_T35 HR0_1.out x3_1 p127 q127
            cases e127
            replace hx127_32 := (HB.out.cell (World.block_lt_of_cell? w _ hx127_32)).trans hx127_32
            replace hx127_33 := (HB.out.cell (World.block_lt_of_cell? w _ hx127_33)).trans hx127_33
            replace hx127_34 := (HB.out.cell (World.block_lt_of_cell? w _ hx127_34)).trans hx127_34
            replace hx127_35 := (HB.out.cell (World.block_lt_of_cell? w _ hx127_35)).trans hx127_35
            have HR127_33 := Aside0.mk hi127_33
            have HC127_33 := Aside0.mk hl127_33
            clear hi127_33 hl127_33
            have HR127_34 := Aside0.mk hi127_34
            have HC127_34 := Aside0.mk hl127_34
            clear hi127_34 hl127_34
            replace p127 := eq_true p127
            replace q127 := eq_true q127
            go_wp2
            go_roundg k1
            case measure => have := HK1.out; omega
            case rel => exact ⟨(wrap64 (x3_1 + 1)), (by first | rfl | (simp; done) | (simp [*]; done)), (by first | exact H' | (subst_vars; exact H')), ⟨by have := HK1.out; omega⟩, ⟨by (with_reducible repeat (first | refine blk_drewN ?_ _ | refine blk_drew ?_ | refine blk_alloc ?_ _)); exact BK126.out⟩, ⟨by repeat (first | (with_reducible first | exact HB.out | apply below_alloc | apply pw_below_drewN | apply below_drew1 | refine below_set ?_ GE126.out) | exact HB.out)⟩⟩
        · rw [if_neg c4] at H
          exact absurd H (by simp)
      · rw [if_neg c3] at H
        have c3b0 : decide (x3_1 < (l0_1.length : Int)) = false := decide_eq_false c3
        clear c3
        obtain rfl := Option.some.inj H
        have hcz8_0 : wr.cell? ⟨gb126, 0, none⟩ = some (.int .i32 a0_0) := (blk_cell BK126.out 0).trans rfl
        have hcz8_1 : wr.cell? ⟨gb126, 1, none⟩ = some (.slice A0_1 l0_1.length c0_1) := (blk_cell BK126.out 1).trans rfl
        have hcz8_2 : wr.cell? ⟨gb126, 2, none⟩ = some (.slice A0_2 l0_2.length c0_2) := (blk_cell BK126.out 2).trans rfl
        have hcz8_3 : wr.cell? ⟨gb126, 3, none⟩ = some (.int .u32 a0_3) := (blk_cell BK126.out 3).trans rfl
        have hfz8_0 := blk_frozen BK126.out 0
        have hfz8_1 := blk_frozen BK126.out 1
        have hfz8_2 := blk_frozen BK126.out 2
        have hfz8_3 := blk_frozen BK126.out 3
        go_wp2
        go_ret
        exact ⟨by first | rfl | (simp [errW_none, errW_some] <;> rfl) | (simp [*, errW_none, errW_some] <;> rfl), by repeat (first | (with_reducible first | exact HB.out | apply below_alloc | apply pw_below_drewN | apply below_drew1 | refine below_set ?_ GE126.out) | exact HB.out)⟩

/-! ### spec_TxBytes: function 10 -/
mutual
def spec_TxBytes.j0 : Nat → Bool → Int → List (S35) → List (S41) → Int → Option (List Int)
  | 0, _, _, _, _, _ => none
  | k + 1, x5, x210000, x210001, x210002, x210003 => (spec_little.f k ((x210000) % 4294967296) 4).bind fun t211 => (if x5 = true then ((some (([0, 1] : List Int) : List Int)).bind fun y214 => (if t211.length + y214.length < 140737488355328 then (spec_TxBytes.j1 k x5 (t211 ++ y214) x210000 x210001 x210002 x210003) else (none))) else (spec_TxBytes.j1 k x5 t211 x210000 x210001 x210002 x210003))
def spec_TxBytes.j1 : Nat → Bool → List Int → Int → List (S35) → List (S41) → Int → Option (List Int)
  | 0, _, _, _, _, _, _ => none
  | k + 1, x5, x6, x210000, x210001, x210002, x210003 => (spec_VarInt.f k (IntKind.u64.wrap ((x210001.length : Int)))).bind fun t220 => (if x6.length + t220.length < 140737488355328 then (spec_TxBytes.l0 k x5 (x6 ++ t220) 0 x210000 x210001 x210002 x210003) else (none))
def spec_TxBytes.l0 : Nat → Bool → List Int → Int → Int → List (S35) → List (S41) → Int → Option (List Int)
  | 0, _, _, _, _, _, _, _ => none
  | k + 1, x5, x6, x7, x210000, x210001, x210002, x210003 => if x7 < (x210001.length : Int) then (if 0 ≤ x7 then ((spec_inBytes.f x210001 x7).bind fun t227 => (if x6.length + t227.length < 140737488355328 then (spec_TxBytes.l0 k x5 (x6 ++ t227) (wrap64 (x7 + 1)) x210000 x210001 x210002 x210003) else (none))) else (none)) else ((spec_VarInt.f k (IntKind.u64.wrap ((x210002.length : Int)))).bind fun t233 => (if x6.length + t233.length < 140737488355328 then (spec_TxBytes.l1 k x5 (x6 ++ t233) 0 x210000 x210001 x210002 x210003) else (none)))
def spec_TxBytes.l1 : Nat → Bool → List Int → Int → Int → List (S35) → List (S41) → Int → Option (List Int)
  | 0, _, _, _, _, _, _, _ => none
  | k + 1, x5, x6, x8, x210000, x210001, x210002, x210003 => if x8 < (x210002.length : Int) then (if 0 ≤ x8 then ((spec_outBytes.f k ((rd_T41 x210002 x8).f0) ((rd_T41 x210002 x8).f1)).bind fun t240 => (if x6.length + t240.length < 140737488355328 then (spec_TxBytes.l1 k x5 (x6 ++ t240) (wrap64 (x8 + 1)) x210000 x210001 x210002 x210003) else (none))) else (none)) else (spec_TxBytes.l2 k x5 x6 0 x210000 x210001 x210002 x210003)
def spec_TxBytes.l2 : Nat → Bool → List Int → Int → Int → List (S35) → List (S41) → Int → Option (List Int)
  | 0, _, _, _, _, _, _, _ => none
  | k + 1, x5, x6, x9, x210000, x210001, x210002, x210003 => if x5 = true then (if x9 < (x210001.length : Int) then (if 0 ≤ x9 then ((spec_witnessBytes.f k ((rd_T35 x210001 x9).f2)).bind fun t247 => (if x6.length + t247.length < 140737488355328 then (spec_TxBytes.l2 k x5 (x6 ++ t247) (wrap64 (x9 + 1)) x210000 x210001 x210002 x210003) else (none))) else (none)) else ((spec_little.f k (IntKind.u64.wrap (x210003)) 4).bind fun t253 => (if x6.length + t253.length < 140737488355328 then (some (x6 ++ t253)) else (none)))) else ((spec_little.f k (IntKind.u64.wrap (x210003)) 4).bind fun t259 => (if x6.length + t259.length < 140737488355328 then (some (x6 ++ t259)) else (none)))
end
def spec_TxBytes.f (k : Nat) (a0_0 : Int) (l0_1 : List (S35)) (l0_2 : List (S41)) (a0_3 : Int) (a1 : Bool) : Option (List Int) := if a1 = true then ((spec_HasWitness.f k a0_0 l0_1 l0_2 a0_3).bind fun t210 => (spec_TxBytes.j0 k t210 a0_0 l0_1 l0_2 a0_3)) else (spec_TxBytes.j0 k false a0_0 l0_1 l0_2 a0_3)
theorem spec_TxBytes.mono_l : ∀ k, (∀ y0 y1 y2 y3 y4, LeO (spec_TxBytes.j0 k y0 y1 y2 y3 y4) (spec_TxBytes.j0 (k + 1) y0 y1 y2 y3 y4)) ∧ (∀ y0 y1 y2 y3 y4 y5, LeO (spec_TxBytes.j1 k y0 y1 y2 y3 y4 y5) (spec_TxBytes.j1 (k + 1) y0 y1 y2 y3 y4 y5)) ∧ (∀ y0 y1 y2 y3 y4 y5 y6, LeO (spec_TxBytes.l0 k y0 y1 y2 y3 y4 y5 y6) (spec_TxBytes.l0 (k + 1) y0 y1 y2 y3 y4 y5 y6)) ∧ (∀ y0 y1 y2 y3 y4 y5 y6, LeO (spec_TxBytes.l1 k y0 y1 y2 y3 y4 y5 y6) (spec_TxBytes.l1 (k + 1) y0 y1 y2 y3 y4 y5 y6)) ∧ (∀ y0 y1 y2 y3 y4 y5 y6, LeO (spec_TxBytes.l2 k y0 y1 y2 y3 y4 y5 y6) (spec_TxBytes.l2 (k + 1) y0 y1 y2 y3 y4 y5 y6))
  | 0 => ⟨fun _ _ _ _ _ r h => by simp [spec_TxBytes.j0] at h, fun _ _ _ _ _ _ r h => by simp [spec_TxBytes.j1] at h, fun _ _ _ _ _ _ _ r h => by simp [spec_TxBytes.l0] at h, fun _ _ _ _ _ _ _ r h => by simp [spec_TxBytes.l1] at h, fun _ _ _ _ _ _ _ r h => by simp [spec_TxBytes.l2] at h⟩
  | k + 1 => by
    obtain ⟨ih0, ih1, ih2, ih3, ih4⟩ := spec_TxBytes.mono_l k
    refine ⟨?_, ?_, ?_, ?_, ?_⟩
    · intro y0 y1 y2 y3 y4
      unfold spec_TxBytes.j0
      repeat' first
      | (with_reducible exact ih0 _ _ _ _ _)
      | (with_reducible exact ih1 _ _ _ _ _ _)
      | (with_reducible exact ih2 _ _ _ _ _ _ _)
      | (with_reducible exact ih3 _ _ _ _ _ _ _)
      | (with_reducible exact ih4 _ _ _ _ _ _ _)
      | (with_reducible exact spec_HasWitness.mono _ _ _ _ _)
      | (with_reducible exact spec_VarInt.mono _ _)
      | (with_reducible exact spec_little.mono _ _ _)
      | (with_reducible exact spec_outBytes.mono _ _ _)
      | (with_reducible exact spec_witnessBytes.mono _ _)
      | (with_reducible exact LeO.refl _)
      | (with_reducible exact LeO.none _)
      | (with_reducible refine LeO.ite ?_ ?_)
      | (with_reducible refine LeO.bind ?_ (fun _ => ?_))
      | exact ih0 _ _ _ _ _
      | exact ih1 _ _ _ _ _ _
      | exact ih2 _ _ _ _ _ _ _
      | exact ih3 _ _ _ _ _ _ _
      | exact ih4 _ _ _ _ _ _ _
      | exact spec_HasWitness.mono _ _ _ _ _
      | exact spec_VarInt.mono _ _
      | exact spec_little.mono _ _ _
      | exact spec_outBytes.mono _ _ _
      | exact spec_witnessBytes.mono _ _
      | exact LeO.none _
      | refine LeO.ite ?_ ?_
      | refine LeO.bind ?_ (fun _ => ?_)
    · intro y0 y1 y2 y3 y4 y5
      unfold spec_TxBytes.j1
      repeat' first
      | (with_reducible exact ih0 _ _ _ _ _)
      | (with_reducible exact ih1 _ _ _ _ _ _)
      | (with_reducible exact ih2 _ _ _ _ _ _ _)
      | (with_reducible exact ih3 _ _ _ _ _ _ _)
      | (with_reducible exact ih4 _ _ _ _ _ _ _)
      | (with_reducible exact spec_HasWitness.mono _ _ _ _ _)
      | (with_reducible exact spec_VarInt.mono _ _)
      | (with_reducible exact spec_little.mono _ _ _)
      | (with_reducible exact spec_outBytes.mono _ _ _)
      | (with_reducible exact spec_witnessBytes.mono _ _)
      | (with_reducible exact LeO.refl _)
      | (with_reducible exact LeO.none _)
      | (with_reducible refine LeO.ite ?_ ?_)
      | (with_reducible refine LeO.bind ?_ (fun _ => ?_))
      | exact ih0 _ _ _ _ _
      | exact ih1 _ _ _ _ _ _
      | exact ih2 _ _ _ _ _ _ _
      | exact ih3 _ _ _ _ _ _ _
      | exact ih4 _ _ _ _ _ _ _
      | exact spec_HasWitness.mono _ _ _ _ _
      | exact spec_VarInt.mono _ _
      | exact spec_little.mono _ _ _
      | exact spec_outBytes.mono _ _ _
      | exact spec_witnessBytes.mono _ _
      | exact LeO.none _
      | refine LeO.ite ?_ ?_
      | refine LeO.bind ?_ (fun _ => ?_)
    · intro y0 y1 y2 y3 y4 y5 y6
      unfold spec_TxBytes.l0
      repeat' first
      | (with_reducible exact ih0 _ _ _ _ _)
      | (with_reducible exact ih1 _ _ _ _ _ _)
      | (with_reducible exact ih2 _ _ _ _ _ _ _)
      | (with_reducible exact ih3 _ _ _ _ _ _ _)
      | (with_reducible exact ih4 _ _ _ _ _ _ _)
      | (with_reducible exact spec_HasWitness.mono _ _ _ _ _)
      | (with_reducible exact spec_VarInt.mono _ _)
      | (with_reducible exact spec_little.mono _ _ _)
      | (with_reducible exact spec_outBytes.mono _ _ _)
      | (with_reducible exact spec_witnessBytes.mono _ _)
      | (with_reducible exact LeO.refl _)
      | (with_reducible exact LeO.none _)
      | (with_reducible refine LeO.ite ?_ ?_)
      | (with_reducible refine LeO.bind ?_ (fun _ => ?_))
      | exact ih0 _ _ _ _ _
      | exact ih1 _ _ _ _ _ _
      | exact ih2 _ _ _ _ _ _ _
      | exact ih3 _ _ _ _ _ _ _
      | exact ih4 _ _ _ _ _ _ _
      | exact spec_HasWitness.mono _ _ _ _ _
      | exact spec_VarInt.mono _ _
      | exact spec_little.mono _ _ _
      | exact spec_outBytes.mono _ _ _
      | exact spec_witnessBytes.mono _ _
      | exact LeO.none _
      | refine LeO.ite ?_ ?_
      | refine LeO.bind ?_ (fun _ => ?_)
    · intro y0 y1 y2 y3 y4 y5 y6
      unfold spec_TxBytes.l1
      repeat' first
      | (with_reducible exact ih0 _ _ _ _ _)
      | (with_reducible exact ih1 _ _ _ _ _ _)
      | (with_reducible exact ih2 _ _ _ _ _ _ _)
      | (with_reducible exact ih3 _ _ _ _ _ _ _)
      | (with_reducible exact ih4 _ _ _ _ _ _ _)
      | (with_reducible exact spec_HasWitness.mono _ _ _ _ _)
      | (with_reducible exact spec_VarInt.mono _ _)
      | (with_reducible exact spec_little.mono _ _ _)
      | (with_reducible exact spec_outBytes.mono _ _ _)
      | (with_reducible exact spec_witnessBytes.mono _ _)
      | (with_reducible exact LeO.refl _)
      | (with_reducible exact LeO.none _)
      | (with_reducible refine LeO.ite ?_ ?_)
      | (with_reducible refine LeO.bind ?_ (fun _ => ?_))
      | exact ih0 _ _ _ _ _
      | exact ih1 _ _ _ _ _ _
      | exact ih2 _ _ _ _ _ _ _
      | exact ih3 _ _ _ _ _ _ _
      | exact ih4 _ _ _ _ _ _ _
      | exact spec_HasWitness.mono _ _ _ _ _
      | exact spec_VarInt.mono _ _
      | exact spec_little.mono _ _ _
      | exact spec_outBytes.mono _ _ _
      | exact spec_witnessBytes.mono _ _
      | exact LeO.none _
      | refine LeO.ite ?_ ?_
      | refine LeO.bind ?_ (fun _ => ?_)
    · intro y0 y1 y2 y3 y4 y5 y6
      unfold spec_TxBytes.l2
      repeat' first
      | (with_reducible exact ih0 _ _ _ _ _)
      | (with_reducible exact ih1 _ _ _ _ _ _)
      | (with_reducible exact ih2 _ _ _ _ _ _ _)
      | (with_reducible exact ih3 _ _ _ _ _ _ _)
      | (with_reducible exact ih4 _ _ _ _ _ _ _)
      | (with_reducible exact spec_HasWitness.mono _ _ _ _ _)
      | (with_reducible exact spec_VarInt.mono _ _)
      | (with_reducible exact spec_little.mono _ _ _)
      | (with_reducible exact spec_outBytes.mono _ _ _)
      | (with_reducible exact spec_witnessBytes.mono _ _)
      | (with_reducible exact LeO.refl _)
      | (with_reducible exact LeO.none _)
      | (with_reducible refine LeO.ite ?_ ?_)
      | (with_reducible refine LeO.bind ?_ (fun _ => ?_))
      | exact ih0 _ _ _ _ _
      | exact ih1 _ _ _ _ _ _
      | exact ih2 _ _ _ _ _ _ _
      | exact ih3 _ _ _ _ _ _ _
      | exact ih4 _ _ _ _ _ _ _
      | exact spec_HasWitness.mono _ _ _ _ _
      | exact spec_VarInt.mono _ _
      | exact spec_little.mono _ _ _
      | exact spec_outBytes.mono _ _ _
      | exact spec_witnessBytes.mono _ _
      | exact LeO.none _
      | refine LeO.ite ?_ ?_
      | refine LeO.bind ?_ (fun _ => ?_)
theorem spec_TxBytes.mono : ∀ a0 a1 a2 a3 a4 k, LeO (spec_TxBytes.f k a0 a1 a2 a3 a4) (spec_TxBytes.f (k + 1) a0 a1 a2 a3 a4) := by
  intro a0 a1 a2 a3 a4 k
  obtain ⟨ih0, ih1, ih2, ih3, ih4⟩ := spec_TxBytes.mono_l k
  unfold spec_TxBytes.f
  repeat' first
      | (with_reducible exact ih0 _ _ _ _ _)
      | (with_reducible exact ih1 _ _ _ _ _ _)
      | (with_reducible exact ih2 _ _ _ _ _ _ _)
      | (with_reducible exact ih3 _ _ _ _ _ _ _)
      | (with_reducible exact ih4 _ _ _ _ _ _ _)
      | (with_reducible exact spec_HasWitness.mono _ _ _ _ _)
      | (with_reducible exact spec_VarInt.mono _ _)
      | (with_reducible exact spec_little.mono _ _ _)
      | (with_reducible exact spec_outBytes.mono _ _ _)
      | (with_reducible exact spec_witnessBytes.mono _ _)
      | (with_reducible exact LeO.refl _)
      | (with_reducible exact LeO.none _)
      | (with_reducible refine LeO.ite ?_ ?_)
      | (with_reducible refine LeO.bind ?_ (fun _ => ?_))
      | exact ih0 _ _ _ _ _
      | exact ih1 _ _ _ _ _ _
      | exact ih2 _ _ _ _ _ _ _
      | exact ih3 _ _ _ _ _ _ _
      | exact ih4 _ _ _ _ _ _ _
      | exact spec_HasWitness.mono _ _ _ _ _
      | exact spec_VarInt.mono _ _
      | exact spec_little.mono _ _ _
      | exact spec_outBytes.mono _ _ _
      | exact spec_witnessBytes.mono _ _
      | exact LeO.none _
      | refine LeO.ite ?_ ?_
      | refine LeO.bind ?_ (fun _ => ?_)
set_option maxHeartbeats 8000000 in
set_option maxRecDepth 100000 in
theorem spec_TxBytes.calls (k : Nat) (a0_0 : Int) (A0_1 : Option Addr) (c0_1 : Nat) (l0_1 : List (S35)) (A0_2 : Option Addr) (c0_2 : Nat) (l0_2 : List (S41)) (a0_3 : Int) (a1 : Bool) (r : List Int) (w : World) (hr0_1 : Kd.C k35 w A0_1 l0_1.length l0_1) (hc0_1 : l0_1.length ≤ c0_1) (hr0_2 : Kd.C k41 w A0_2 l0_2.length l0_2) (hc0_2 : l0_2.length ≤ c0_2) (h : spec_TxBytes.f k a0_0 l0_1 l0_2 a0_3 a1 = some r) :
    Calls Try.prog 10 #[.agg #[.int .i32 a0_0, .slice A0_1 l0_1.length c0_1, .slice A0_2 l0_2.length c0_2, .int .u32 a0_3], .bool a1] w fun e w' => ∃ v0_ : Value, e = .returned (v0_) ∧ Kd.R (Kd.int .u8) 5 w' w.heap.size (fun _ => True) v0_ r ∧ Below w.heap.size w w' := by
  have hu26 := Try.underlying26
  have hu41 := Try.underlying41
  have HR0_1 := Aside0.mk hr0_1
  have HC0_1 := Aside0.mk hc0_1
  clear hr0_1 hc0_1
  have HR0_2 := Aside0.mk hr0_2
  have HC0_2 := Aside0.mk hc0_2
  clear hr0_2 hc0_2
  have HB := Aside0.mk (Below.refl w.heap.size w)
  have H : (if a1 = true then ((spec_HasWitness.f k a0_0 l0_1 l0_2 a0_3).bind fun t210 => (spec_TxBytes.j0 k t210 a0_0 l0_1 l0_2 a0_3)) else (spec_TxBytes.j0 k false a0_0 l0_1 l0_2 a0_3)) = some r := h
  clear h
  have HC3 := Aside0.mk H
  clear H
  go_enter Try.func10, Try.ntmps10
  go_upto_region 1 with (first | ((with_reducible refine gate_dst (N := 2) rfl ?_); (try (refine gate_guard (by rfl) ?_; dsimp only)); refine box_event ?hg (N := 2) ?hd (cs := #[.int .i32 a0_0, .slice A0_1 l0_1.length c0_1, .slice A0_2 l0_2.length c0_2, .int .u32 a0_3]) (t := 26) ?hr ?_; (case hd => rfl); (case hg => rfl); (case hr => first | (go_simp; done) | (go_simp; rfl)); intro gb209 hg w4 hbox hb; have n0_ := Aside0.mk (below_step (by repeat (first | (with_reducible first | exact HB.out | apply below_alloc | apply pw_below_drewN | apply below_drew1) | exact HB.out)) hb); have n1_ := Aside0.mk (hbox); have n2_ := Aside0.mk ((by rw [hg]; exact (below_size (by repeat (first | (with_reducible first | exact HB.out | apply below_alloc | apply pw_below_drewN | apply below_drew1) | exact HB.out))) : w.heap.size ≤ gb209)); have n3_ := Aside0.mk ((by rw [hg]; exact (below_size (by repeat (first | (with_reducible first | exact HB.out | apply below_alloc | apply pw_below_drewN | apply below_drew1) | exact HB.out))) : w.heap.size ≤ gb209)); clear HB; have HB := n0_; have BK209 := n1_; have GW209 := n2_; have GE209 := n3_; clear n0_ n1_ n2_ n3_; clear hb hbox hg))
  (try simp only [Act.put, List.setIfInBounds_toArray, List.set_cons_zero, List.set_cons_succ])
  go_cut [5] (fun v5 wc => ∃ (kq : Nat) (x5_2 : Bool), v5 = .bool x5_2 ∧ Aside0 (spec_TxBytes.j0 kq x5_2 a0_0 l0_1 l0_2 a0_3 = some r) ∧ Aside0 (kq ≤ k) ∧ Aside0 (wc.heap[gb209]? = some (.cells #[.int .i32 a0_0, (.slice A0_1 l0_1.length c0_1), (.slice A0_2 l0_2.length c0_2), .int .u32 a0_3] 26 (0, 0))) ∧ Aside0 (Below w.heap.size w wc))
  case first =>
    have H := HC3.out
    clear HC3
    by_cases c5 : a1 = true
    · subst c5
      have H1 : ((spec_HasWitness.f k a0_0 l0_1 l0_2 a0_3).bind fun t210 => (spec_TxBytes.j0 k t210 a0_0 l0_1 l0_2 a0_3)) = some r := by rw [if_pos rfl] at H; exact H
      clear H
      have H := H1
      clear H1
      replace H := Option.bind_eq_some_iff.mp H
      obtain ⟨t210, A60, H⟩ := H
      replace H : (spec_TxBytes.j0 k t210 a0_0 l0_1 l0_2 a0_3) = some r := H
      have A6 := Aside0.mk A60
      clear A60
      have H' := Aside0.mk H
      clear H
      have hcz7_0 : w4.cell? ⟨gb209, 0, none⟩ = some (.int .i32 a0_0) := (blk_cell BK209.out 0).trans rfl
      have hcz7_1 : w4.cell? ⟨gb209, 1, none⟩ = some (.slice A0_1 l0_1.length c0_1) := (blk_cell BK209.out 1).trans rfl
      have hcz7_2 : w4.cell? ⟨gb209, 2, none⟩ = some (.slice A0_2 l0_2.length c0_2) := (blk_cell BK209.out 2).trans rfl
      have hcz7_3 : w4.cell? ⟨gb209, 3, none⟩ = some (.int .u32 a0_3) := (blk_cell BK209.out 3).trans rfl
      have hfz7_0 := blk_frozen BK209.out 0
      have hfz7_1 := blk_frozen BK209.out 1
      have hfz7_2 := blk_frozen BK209.out 2
      have hfz7_3 := blk_frozen BK209.out 3
      go_wp2_with (first | (go_at_call 8; (with_reducible refine (spec_HasWitness.calls k a0_0 _ _ l0_1 _ _ l0_2 a0_3 t210 _ ?side1 ?side2 ?side3 ?side4 A6.out).mono ?_); (case side1 => repeat (first | exact (Kd.C_below HR0_1.out HB.out) | (with_reducible refine Kd.C_alloc ?_ _) | (with_reducible refine Kd.C_drewN ?_ _) | (with_reducible refine Kd.C_drew ?_))); (case side2 => exact HC0_1.out); (case side3 => repeat (first | exact (Kd.C_below HR0_2.out HB.out) | (with_reducible refine Kd.C_alloc ?_ _) | (with_reducible refine Kd.C_drewN ?_ _) | (with_reducible refine Kd.C_drew ?_))); (case side4 => exact HC0_2.out); rintro e w8 ⟨rfl, hb⟩; have n0_ := Aside0.mk (blk_below (g := gb209) (o := .cells #[.int .i32 a0_0, .slice A0_1 l0_1.length c0_1, .slice A0_2 l0_2.length c0_2, .int .u32 a0_3] 26 (0, 0)) (by (with_reducible repeat (first | refine blk_drewN ?_ _ | refine blk_drew ?_ | refine blk_alloc ?_ _)); exact BK209.out) hb); have n1_ := Aside0.mk (below_step (by repeat (first | (with_reducible first | exact HB.out | apply below_alloc | apply pw_below_drewN | apply below_drew1 | refine below_set ?_ GE209.out) | exact HB.out)) hb); clear BK209; clear HB; have BK209 := n0_; have HB := n1_; clear n0_ n1_; (try clear hb); (try clear hb2); (try clear hk); (try clear hi)))
      go_meet
      case rel => exact ⟨_, (t210), (by first | rfl | (simp; done) | (simp [*]; done)), (by first | exact H' | (subst_vars; exact H')), ⟨by first | omega | exact Nat.le_refl _⟩, ⟨by (with_reducible repeat (first | refine blk_drewN ?_ _ | refine blk_drew ?_ | refine blk_alloc ?_ _)); exact BK209.out⟩, ⟨by repeat (first | (with_reducible first | exact HB.out | apply below_alloc | apply pw_below_drewN | apply below_drew1 | refine below_set ?_ GE209.out) | exact HB.out)⟩⟩
    · replace c5 := Bool.eq_false_iff.mpr c5
      subst c5
      have H1 : (spec_TxBytes.j0 k false a0_0 l0_1 l0_2 a0_3) = some r := by rw [if_neg (show ¬ (false = true) by decide)] at H; exact H
      clear H
      have H := H1
      clear H1
      have H' := Aside0.mk H
      clear H
      go_wp2
      go_meet
      case rel => exact ⟨_, (false), (by first | rfl | (simp; done) | (simp [*]; done)), (by first | exact H' | (subst_vars; exact H')), ⟨by first | omega | exact Nat.le_refl _⟩, ⟨by (with_reducible repeat (first | refine blk_drewN ?_ _ | refine blk_drew ?_ | refine blk_alloc ?_ _)); exact BK209.out⟩, ⟨by repeat (first | (with_reducible first | exact HB.out | apply below_alloc | apply pw_below_drewN | apply below_drew1 | refine below_set ?_ GE209.out) | exact HB.out)⟩⟩
  case rest =>
    clear HC3
    try clear c1
    try clear p2
    try clear c5
    try clear hcz7_0
    try clear hcz7_1
    try clear hcz7_2
    try clear hcz7_3
    try clear hfz7_0
    try clear hfz7_1
    try clear hfz7_2
    try clear hfz7_3
    obtain ⟨kq, x5_2, rfl, HA, HJ2, BK209, HB⟩ := hcut
    cases kq with
    | zero => exact absurd HA.out (by simp [spec_TxBytes.j0])
    | succ kj2 =>
      have H := HA.out
      clear HA
      simp only [spec_TxBytes.j0] at H
      replace H := Option.bind_eq_some_iff.mp H
      obtain ⟨t211, A90, H⟩ := H
      replace H : (if x5_2 = true then ((some (([0, 1] : List Int) : List Int)).bind fun y214 => (if t211.length + y214.length < 140737488355328 then (spec_TxBytes.j1 kj2 x5_2 (t211 ++ y214) a0_0 l0_1 l0_2 a0_3) else (none))) else (spec_TxBytes.j1 kj2 x5_2 t211 a0_0 l0_1 l0_2 a0_3)) = some r := H
      have A9 := Aside0.mk A90
      clear A90
      have HC10 := Aside0.mk H
      clear H
      have hcz11_0 : wc.cell? ⟨gb209, 0, none⟩ = some (.int .i32 a0_0) := (blk_cell BK209.out 0).trans rfl
      have hcz11_1 : wc.cell? ⟨gb209, 1, none⟩ = some (.slice A0_1 l0_1.length c0_1) := (blk_cell BK209.out 1).trans rfl
      have hcz11_2 : wc.cell? ⟨gb209, 2, none⟩ = some (.slice A0_2 l0_2.length c0_2) := (blk_cell BK209.out 2).trans rfl
      have hcz11_3 : wc.cell? ⟨gb209, 3, none⟩ = some (.int .u32 a0_3) := (blk_cell BK209.out 3).trans rfl
      have hfz11_0 := blk_frozen BK209.out 0
      have hfz11_1 := blk_frozen BK209.out 1
      have hfz11_2 := blk_frozen BK209.out 2
      have hfz11_3 := blk_frozen BK209.out 3
      go_upto_if 20 with (first | ((with_reducible refine gate_callee (f := 26) rfl ?_); refine goesL_ (some 19) rfl rfl Try.func26 (by kernel_rfl) rfl #[.int .u64 ((a0_0) % 4294967296), .int .i64 4] rfl (by (try simp only [List.map_toArray, List.map_cons, List.map_nil]); first | done | rfl | (simp only [List.length_drop, List.length_take]; rfl)) ?_; (with_reducible refine (spec_little.calls kj2 ((a0_0) % 4294967296) 4 t211 _ A9.out).mono ?_); rintro e w12 ⟨v212, rfl, ho0, hb⟩; refine ⟨_, rfl, ?_⟩; have n0_ := Aside0.mk (Kd.R_lower ho0 (below_size (by repeat (first | (with_reducible first | exact HB.out | apply below_alloc | apply pw_below_drewN | apply below_drew1 | refine below_set ?_ GE209.out) | exact HB.out)))); have n1_ := Aside0.mk (blk_below (g := gb209) (o := .cells #[.int .i32 a0_0, .slice A0_1 l0_1.length c0_1, .slice A0_2 l0_2.length c0_2, .int .u32 a0_3] 26 (0, 0)) (by (with_reducible repeat (first | refine blk_drewN ?_ _ | refine blk_drew ?_ | refine blk_alloc ?_ _)); exact BK209.out) hb); have n2_ := Aside0.mk (below_step (by repeat (first | (with_reducible first | exact HB.out | apply below_alloc | apply pw_below_drewN | apply below_drew1 | refine below_set ?_ GE209.out) | exact HB.out)) hb); clear BK209; clear HB; have HO213 := n0_; have BK209 := n1_; have HB := n2_; clear n0_ n1_ n2_; (try clear hb); (try clear hb2); (try clear hk); (try clear hi); (try clear ho0)))
      (try simp only [Act.put, List.setIfInBounds_toArray, List.set_cons_zero, List.set_cons_succ])
      go_cut [6] (fun v6 wc => ∃ (kq : Nat) (x6_9 : List Int), Aside0 (spec_TxBytes.j1 kq x5_2 x6_9 a0_0 l0_1 l0_2 a0_3 = some r) ∧ Aside0 (kq ≤ kj2) ∧ Aside0 (Kd.R (Kd.int .u8) 5 wc w.heap.size (fun _ => True) v6 x6_9) ∧ Aside0 (wc.heap[gb209]? = some (.cells #[.int .i32 a0_0, (.slice A0_1 l0_1.length c0_1), (.slice A0_2 l0_2.length c0_2), .int .u32 a0_3] 26 (0, 0))) ∧ Aside0 (Below w.heap.size w wc))
      case first =>
        have H := HC10.out
        clear HC10
        by_cases c13 : x5_2 = true
        · subst c13
          have H1 : ((some (([0, 1] : List Int) : List Int)).bind fun y214 => (if t211.length + y214.length < 140737488355328 then (spec_TxBytes.j1 kj2 true (t211 ++ y214) a0_0 l0_1 l0_2 a0_3) else (none))) = some r := by rw [if_pos rfl] at H; exact H
          clear H
          have H := H1
          clear H1
          obtain ⟨y214, hy214⟩ : ∃ y_ : List Int, y_ = (([0, 1] : List Int)) := ⟨_, rfl⟩
          replace H : (if t211.length + y214.length < 140737488355328 then (spec_TxBytes.j1 kj2 true (t211 ++ y214) a0_0 l0_1 l0_2 a0_3) else (none)) = some r := by first | (rw [hy214]; with_reducible exact H) | (have H2_ := (Option.bind_some _ _).symm.trans H; rw [hy214]; with_reducible exact H2_) | (have H2_ := (Option.bind_some _ _).symm.trans H; with_reducible exact H2_) | with_reducible exact H | (rw [hy214]; exact H) | exact H
          have Ny214 := Aside0.mk hy214
          clear hy214
          by_cases c14 : t211.length + y214.length < 140737488355328
          · rw [if_pos c14] at H
            have LMc14 := Aside0.mk c14
            clear c14
            obtain ⟨y217, hy217⟩ : ∃ y_ : List Int, y_ = (t211 ++ y214) := ⟨_, rfl⟩
            replace H : (spec_TxBytes.j1 kj2 true y217 a0_0 l0_1 l0_2 a0_3) = some r := by first | (rw [hy217]; with_reducible exact H) | (have H2_ := (Option.bind_some _ _).symm.trans H; rw [hy217]; with_reducible exact H2_) | (have H2_ := (Option.bind_some _ _).symm.trans H; with_reducible exact H2_) | with_reducible exact H | (rw [hy217]; exact H) | exact H
            have Ny217 := Aside0.mk hy217
            clear hy217
            have H' := Aside0.mk H
            clear H
            go_wp2_with (first | ((with_reducible refine gate_dst (N := 22) rfl ?_); (try (refine gate_guard (by rfl) ?_; dsimp only)); refine Kd.R_lit (Kd.int .u8) _ 5 ?hg (N := 22) ?hd (xs := ([0, 1] : List Int)) (inner := [.int .u8 0, .int .u8 1]) (ok := fun _ => True) (okp := fun _ => True) ?hr ?hp (fun _ hk => hk) trivial (Below.refl _ _) (Nat.le_refl _) (by simp) ?_; (case hd => rfl); (case hg => rfl); (case hr => first | (go_simp; done) | (go_simp; rfl)); (case hp => exact (Reps.one (show Kd.M (Kd.int .u8) _ _ _ 0 [.int .u8 0] from rfl) (Reps.one (show Kd.M (Kd.int .u8) _ _ _ 1 [.int .u8 1] from rfl) (Reps.none _ _)))); intro v215 w15 ho16 hb hg_ hnew_; clear hg_ hnew_; (first | rw [← Ny214.out] at ho16 | (simp only [Int.reduceToNat] at ho16; rw [← Ny214.out] at ho16)); have n0_ := Aside0.mk (Kd.R_elder' (by (with_reducible repeat (first | apply Kd.R_alloc | apply Kd.R_drewN | apply Kd.R_drew)); exact HO213.out) (Kd.R_base ho16) hb); have n1_ := Aside0.mk (Kd.R_lower (Kd.R_new' ho16 (Kd.R_lt (by (with_reducible repeat (first | apply Kd.R_alloc | apply Kd.R_drewN | apply Kd.R_drew)); exact HO213.out))) (below_size (by repeat (first | (with_reducible first | exact HB.out | apply below_alloc | apply pw_below_drewN | apply below_drew1 | refine below_set ?_ GE209.out) | exact HB.out)))); have n2_ := Aside0.mk (blk_below (g := gb209) (o := .cells #[.int .i32 a0_0, .slice A0_1 l0_1.length c0_1, .slice A0_2 l0_2.length c0_2, .int .u32 a0_3] 26 (0, 0)) (by (with_reducible repeat (first | refine blk_drewN ?_ _ | refine blk_drew ?_ | refine blk_alloc ?_ _)); exact BK209.out) hb); have n3_ := Aside0.mk (below_step (by repeat (first | (with_reducible first | exact HB.out | apply below_alloc | apply pw_below_drewN | apply below_drew1 | refine below_set ?_ GE209.out) | exact HB.out)) hb); clear HO213; clear BK209; clear HB; have HO213 := n0_; have HO216 := n1_; have BK209 := n2_; have HB := n3_; clear n0_ n1_ n2_ n3_; clear hb ho16; obtain ⟨Ao18, co18, eo18⟩ := Kd.R_slice HO216.out; subst eo18) | ((with_reducible refine gate_builtin (b := .append) (xs := #[.tmp 21, .tmp 22]) rfl ?_); (try (refine gate_guard (by rfl) ?_; dsimp only)); at_builtin; refine Kd.R_append_rows (Kd.int .u8) (w0 := w) w.heap.size rfl (.tmp 21) (.tmp 22) 32 5 (.int .u8 0) 1 rfl Try.underlying32 info5 rfl (by decide) (by omega) v212 t211 y214 _ _ _ (fun k_ => some k_ ≠ (.slice Ao18 y214.length co18 : Value).ownBlock) (fun _ => False) rfl rfl ?aO ?aR (fun _ _ h => h) (fun _ h => h.elim) ?aF ?aB ?aS ?aL ?_; (case aR => repeat (first | exact (Kd.R_reads' HO216.out).2.2 | (with_reducible refine Kd.C_alloc ?_ _) | (with_reducible refine Kd.C_drewN ?_ _) | (with_reducible refine Kd.C_drew ?_))); (case aB => exact (by repeat (first | (with_reducible first | exact HB.out | apply below_alloc | apply pw_below_drewN | apply below_drew1 | refine below_set ?_ GE209.out) | exact HB.out))); (case aF => exact (fun k_ hk => Kd.fresh' (Kd.R_lt (by (with_reducible repeat (first | apply Kd.R_alloc | apply Kd.R_drewN | apply Kd.R_drew)); exact HO216.out)) k_ hk)); (case aO => exact (by (with_reducible repeat (first | apply Kd.R_alloc | apply Kd.R_drewN | apply Kd.R_drew)); exact Kd.R_mono HO213.out (fun _ hk => hk.2))); (case aS => exact (below_size (by repeat (first | (with_reducible first | exact HB.out | apply below_alloc | apply pw_below_drewN | apply below_drew1 | refine below_set ?_ GE209.out) | exact HB.out)))); (case aL => have := LMc14.out; omega); intro v218 w17 ho hb hg hat; rw [← Ny217.out] at ho; have n0_ := Aside0.mk (blk_grown (g := gb209) (o := .cells #[.int .i32 a0_0, .slice A0_1 l0_1.length c0_1, .slice A0_2 l0_2.length c0_2, .int .u32 a0_3] 26 (0, 0)) (by (with_reducible repeat (first | refine blk_drewN ?_ _ | refine blk_drew ?_ | refine blk_alloc ?_ _)); exact BK209.out) hg (Kd.R_ne HO213.out BK209.out (by decide))); have n1_ := Aside0.mk (Kd.R_after (ok := (fun _ => True)) (by (with_reducible repeat (first | apply Kd.R_alloc | apply Kd.R_drewN | apply Kd.R_drew)); exact HO216.out) hg hat); have n2_ := Aside0.mk (hb); have n3_ := Aside0.mk (ho); clear BK209; clear HO216; clear HB; clear HO213; have BK209 := n0_; have HO216 := n1_; have HB := n2_; have HO219 := n3_; clear n0_ n1_ n2_ n3_; clear ho hb hg hat))
            go_meet
            case rel => exact ⟨_, (y217), (by first | exact H' | (subst_vars; exact H')), ⟨by have := HJ2.out; first | omega | exact Nat.le_refl _⟩, ⟨by (with_reducible repeat (first | apply Kd.R_alloc | apply Kd.R_drewN | apply Kd.R_drew)); exact Kd.R_mono HO219.out (fun _ hk => trivial)⟩, ⟨by (with_reducible repeat (first | refine blk_drewN ?_ _ | refine blk_drew ?_ | refine blk_alloc ?_ _)); exact BK209.out⟩, ⟨by repeat (first | (with_reducible first | exact HB.out | apply below_alloc | apply pw_below_drewN | apply below_drew1 | refine below_set ?_ GE209.out) | exact HB.out)⟩⟩
          · rw [if_neg c14] at H
            exact absurd H (by simp)
        · replace c13 := Bool.eq_false_iff.mpr c13
          subst c13
          have H1 : (spec_TxBytes.j1 kj2 false t211 a0_0 l0_1 l0_2 a0_3) = some r := by rw [if_neg (show ¬ (false = true) by decide)] at H; exact H
          clear H
          have H := H1
          clear H1
          have H' := Aside0.mk H
          clear H
          go_wp2
          go_meet
          case rel => exact ⟨_, (t211), (by first | exact H' | (subst_vars; exact H')), ⟨by have := HJ2.out; first | omega | exact Nat.le_refl _⟩, ⟨by (with_reducible repeat (first | apply Kd.R_alloc | apply Kd.R_drewN | apply Kd.R_drew)); exact HO213.out⟩, ⟨by (with_reducible repeat (first | refine blk_drewN ?_ _ | refine blk_drew ?_ | refine blk_alloc ?_ _)); exact BK209.out⟩, ⟨by repeat (first | (with_reducible first | exact HB.out | apply below_alloc | apply pw_below_drewN | apply below_drew1 | refine below_set ?_ GE209.out) | exact HB.out)⟩⟩
      case rest =>
        clear HC10
        try clear c1
        try clear c2
        try clear p2
        try clear c5
        try clear c10
        try clear c13
        try clear c14
        try clear hcz11_0
        try clear hcz11_1
        try clear hcz11_2
        try clear hcz11_3
        try clear hcz7_0
        try clear hcz7_1
        try clear hcz7_2
        try clear hcz7_3
        try clear hfz11_0
        try clear hfz11_1
        try clear hfz11_2
        try clear hfz11_3
        try clear hfz7_0
        try clear hfz7_1
        try clear hfz7_2
        try clear hfz7_3
        try clear p2
        obtain ⟨kq, x6_9, HA, HJ9, HO_6, BK209, HB⟩ := hcut
        cases kq with
        | zero => exact absurd HA.out (by simp [spec_TxBytes.j1])
        | succ kj9 =>
          have H := HA.out
          clear HA
          simp only [spec_TxBytes.j1] at H
          replace H := Option.bind_eq_some_iff.mp H
          obtain ⟨t220, A190, H⟩ := H
          replace H : (if x6_9.length + t220.length < 140737488355328 then (spec_TxBytes.l0 kj9 x5_2 (x6_9 ++ t220) 0 a0_0 l0_1 l0_2 a0_3) else (none)) = some r := H
          have A19 := Aside0.mk A190
          clear A190
          by_cases c20 : x6_9.length + t220.length < 140737488355328
          · rw [if_pos c20] at H
            have LMc20 := Aside0.mk c20
            clear c20
            obtain ⟨y223, hy223⟩ : ∃ y_ : List Int, y_ = (x6_9 ++ t220) := ⟨_, rfl⟩
            replace H : (spec_TxBytes.l0 kj9 x5_2 y223 0 a0_0 l0_1 l0_2 a0_3) = some r := by first | (rw [hy223]; with_reducible exact H) | (have H2_ := (Option.bind_some _ _).symm.trans H; rw [hy223]; with_reducible exact H2_) | (have H2_ := (Option.bind_some _ _).symm.trans H; with_reducible exact H2_) | with_reducible exact H | (rw [hy223]; exact H) | exact H
            have Ny223 := Aside0.mk hy223
            clear hy223
            have H' := Aside0.mk H
            clear H
            have hcz21_0 : wc.cell? ⟨gb209, 0, none⟩ = some (.int .i32 a0_0) := (blk_cell BK209.out 0).trans rfl
            have hcz21_1 : wc.cell? ⟨gb209, 1, none⟩ = some (.slice A0_1 l0_1.length c0_1) := (blk_cell BK209.out 1).trans rfl
            have hcz21_2 : wc.cell? ⟨gb209, 2, none⟩ = some (.slice A0_2 l0_2.length c0_2) := (blk_cell BK209.out 2).trans rfl
            have hcz21_3 : wc.cell? ⟨gb209, 3, none⟩ = some (.int .u32 a0_3) := (blk_cell BK209.out 3).trans rfl
            have hfz21_0 := blk_frozen BK209.out 0
            have hfz21_1 := blk_frozen BK209.out 1
            have hfz21_2 := blk_frozen BK209.out 2
            have hfz21_3 := blk_frozen BK209.out 3
            go_wp2_with (first | ((with_reducible refine gate_callee (f := 27) rfl ?_); refine goesL_ (some 29) rfl rfl Try.func27 (by kernel_rfl) rfl #[.int .u64 (IntKind.u64.wrap ((l0_1.length : Int)))] rfl (by (try simp only [List.map_toArray, List.map_cons, List.map_nil]); first | done | rfl | (simp only [List.length_drop, List.length_take]; rfl)) ?_; (with_reducible refine (spec_VarInt.calls kj9 (IntKind.u64.wrap ((l0_1.length : Int))) t220 _ A19.out).mono ?_); rintro e w22 ⟨v221, rfl, ho0, hb⟩; refine ⟨_, rfl, ?_⟩; have n0_ := Aside0.mk (Kd.R_elder' (by (with_reducible repeat (first | apply Kd.R_alloc | apply Kd.R_drewN | apply Kd.R_drew)); exact HO_6.out) (Kd.R_base ho0) hb); have n1_ := Aside0.mk (Kd.R_lower (Kd.R_new' ho0 (Kd.R_lt (by (with_reducible repeat (first | apply Kd.R_alloc | apply Kd.R_drewN | apply Kd.R_drew)); exact HO_6.out))) (below_size (by repeat (first | (with_reducible first | exact HB.out | apply below_alloc | apply pw_below_drewN | apply below_drew1 | refine below_set ?_ GE209.out) | exact HB.out)))); have n2_ := Aside0.mk (blk_below (g := gb209) (o := .cells #[.int .i32 a0_0, .slice A0_1 l0_1.length c0_1, .slice A0_2 l0_2.length c0_2, .int .u32 a0_3] 26 (0, 0)) (by (with_reducible repeat (first | refine blk_drewN ?_ _ | refine blk_drew ?_ | refine blk_alloc ?_ _)); exact BK209.out) hb); have n3_ := Aside0.mk (below_step (by repeat (first | (with_reducible first | exact HB.out | apply below_alloc | apply pw_below_drewN | apply below_drew1 | refine below_set ?_ GE209.out) | exact HB.out)) hb); clear HO_6; clear BK209; clear HB; have HO_6 := n0_; have HO222 := n1_; have BK209 := n2_; have HB := n3_; clear n0_ n1_ n2_ n3_; (try clear hb); (try clear hb2); (try clear hk); (try clear hi); (try clear ho0); obtain ⟨Ao24, co24, eo24⟩ := Kd.R_slice HO222.out; subst eo24) | ((with_reducible refine gate_builtin (b := .append) (xs := #[.tmp 24, .tmp 29]) rfl ?_); (try (refine gate_guard (by rfl) ?_; dsimp only)); at_builtin; refine Kd.R_append_rows (Kd.int .u8) (w0 := w) w.heap.size rfl (.tmp 24) (.tmp 29) 32 5 (.int .u8 0) 1 rfl Try.underlying32 info5 rfl (by decide) (by omega) u6 x6_9 t220 _ _ _ (fun k_ => some k_ ≠ (.slice Ao24 t220.length co24 : Value).ownBlock) (fun _ => False) rfl rfl ?aO ?aR (fun _ _ h => h) (fun _ h => h.elim) ?aF ?aB ?aS ?aL ?_; (case aR => repeat (first | exact (Kd.R_reads' HO222.out).2.2 | (with_reducible refine Kd.C_alloc ?_ _) | (with_reducible refine Kd.C_drewN ?_ _) | (with_reducible refine Kd.C_drew ?_))); (case aB => exact (by repeat (first | (with_reducible first | exact HB.out | apply below_alloc | apply pw_below_drewN | apply below_drew1 | refine below_set ?_ GE209.out) | exact HB.out))); (case aF => exact (fun k_ hk => Kd.fresh' (Kd.R_lt (by (with_reducible repeat (first | apply Kd.R_alloc | apply Kd.R_drewN | apply Kd.R_drew)); exact HO222.out)) k_ hk)); (case aO => exact (by (with_reducible repeat (first | apply Kd.R_alloc | apply Kd.R_drewN | apply Kd.R_drew)); exact Kd.R_mono HO_6.out (fun _ hk => hk.2))); (case aS => exact (below_size (by repeat (first | (with_reducible first | exact HB.out | apply below_alloc | apply pw_below_drewN | apply below_drew1 | refine below_set ?_ GE209.out) | exact HB.out)))); (case aL => have := LMc20.out; omega); intro v224 w23 ho hb hg hat; rw [← Ny223.out] at ho; have n0_ := Aside0.mk (blk_grown (g := gb209) (o := .cells #[.int .i32 a0_0, .slice A0_1 l0_1.length c0_1, .slice A0_2 l0_2.length c0_2, .int .u32 a0_3] 26 (0, 0)) (by (with_reducible repeat (first | refine blk_drewN ?_ _ | refine blk_drew ?_ | refine blk_alloc ?_ _)); exact BK209.out) hg (Kd.R_ne HO_6.out BK209.out (by decide))); have n1_ := Aside0.mk (Kd.R_after (ok := (fun _ => True)) (by (with_reducible repeat (first | apply Kd.R_alloc | apply Kd.R_drewN | apply Kd.R_drew)); exact HO222.out) hg hat); have n2_ := Aside0.mk (hb); have n3_ := Aside0.mk (ho); clear BK209; clear HO222; clear HB; clear HO_6; have BK209 := n0_; have HO222 := n1_; have HB := n2_; have HO225 := n3_; clear n0_ n1_ n2_ n3_; clear ho hb hg hat))
            go_loopg [6, 7] kj9 (fun kq v6 v7 w' => ∃ (x6_3 : List Int) (x7_3 : Int), v7 = .int .i64 x7_3 ∧ Aside0 (spec_TxBytes.l0 kq x5_2 x6_3 x7_3 a0_0 l0_1 l0_2 a0_3 = some r) ∧ Aside0 (kq ≤ kj9) ∧ Aside0 (Kd.R (Kd.int .u8) 5 w' w.heap.size (fun _ => True) v6 x6_3) ∧ Aside0 (w'.heap[gb209]? = some (.cells #[.int .i32 a0_0, (.slice A0_1 l0_1.length c0_1), (.slice A0_2 l0_2.length c0_2), .int .u32 a0_3] 26 (0, 0))) ∧ Aside0 (Below w.heap.size w w'))
            case atStart => exact ⟨(y223), (0), (by first | rfl | (simp; done) | (simp [*]; done)), H', ⟨Nat.le_refl _⟩, ⟨by (with_reducible repeat (first | apply Kd.R_alloc | apply Kd.R_drewN | apply Kd.R_drew)); exact Kd.R_mono HO225.out (fun _ hk => trivial)⟩, ⟨by (with_reducible repeat (first | refine blk_drewN ?_ _ | refine blk_drew ?_ | refine blk_alloc ?_ _)); exact BK209.out⟩, ⟨by repeat (first | (with_reducible first | exact HB.out | apply below_alloc | apply pw_below_drewN | apply below_drew1 | refine below_set ?_ GE209.out) | exact HB.out)⟩⟩
            case round =>
              clear H'
              try clear c1
              try clear c2
              try clear p2
              try clear c5
              try clear c10
              try clear c13
              try clear c14
              try clear c20
              try clear hcz11_0
              try clear hcz11_1
              try clear hcz11_2
              try clear hcz11_3
              try clear hcz21_0
              try clear hcz21_1
              try clear hcz21_2
              try clear hcz21_3
              try clear hcz7_0
              try clear hcz7_1
              try clear hcz7_2
              try clear hcz7_3
              try clear hfz11_0
              try clear hfz11_1
              try clear hfz11_2
              try clear hfz11_3
              try clear hfz21_0
              try clear hfz21_1
              try clear hfz21_2
              try clear hfz21_3
              try clear hfz7_0
              try clear hfz7_1
              try clear hfz7_2
              try clear hfz7_3
              try clear p2
              obtain ⟨x6_3, x7_3, rfl, HA, HK3, HO_6, BK209, HB⟩ := hrel
              cases gk with
              | zero => exact absurd HA.out (by simp [spec_TxBytes.l0])
              | succ k3 =>
                have H := HA.out
                clear HA
                simp only [spec_TxBytes.l0] at H
                by_cases c25 : x7_3 < (l0_1.length : Int)
                · rw [if_pos c25] at H
                  have c25b0 : decide (x7_3 < (l0_1.length : Int)) = true := decide_eq_true c25
                  clear c25
                  by_cases c26 : 0 ≤ x7_3
                  · rw [if_pos c26] at H
                    have c26b0 : decide (0 ≤ x7_3) = true := decide_eq_true c26
                    clear c26
                    replace H := Option.bind_eq_some_iff.mp H
                    obtain ⟨t227, A270, H⟩ := H
                    replace H : (if x6_3.length + t227.length < 140737488355328 then (spec_TxBytes.l0 k3 x5_2 (x6_3 ++ t227) (wrap64 (x7_3 + 1)) a0_0 l0_1 l0_2 a0_3) else (none)) = some r := H
                    have A27 := Aside0.mk A270
                    clear A270
                    by_cases c28 : x6_3.length + t227.length < 140737488355328
                    · rw [if_pos c28] at H
                      have LMc28 := Aside0.mk c28
                      clear c28
                      obtain ⟨y230, hy230⟩ : ∃ y_ : List Int, y_ = (x6_3 ++ t227) := ⟨_, rfl⟩
                      replace H : (spec_TxBytes.l0 k3 x5_2 y230 (wrap64 (x7_3 + 1)) a0_0 l0_1 l0_2 a0_3) = some r := by first | (rw [hy230]; with_reducible exact H) | (have H2_ := (Option.bind_some _ _).symm.trans H; rw [hy230]; with_reducible exact H2_) | (have H2_ := (Option.bind_some _ _).symm.trans H; with_reducible exact H2_) | with_reducible exact H | (rw [hy230]; exact H) | exact H
                      have Ny230 := Aside0.mk hy230
                      clear hy230
                      have H' := Aside0.mk H
                      clear H
                      have hcz29_0 : wr.cell? ⟨gb209, 0, none⟩ = some (.int .i32 a0_0) := (blk_cell BK209.out 0).trans rfl
                      have hcz29_1 : wr.cell? ⟨gb209, 1, none⟩ = some (.slice A0_1 l0_1.length c0_1) := (blk_cell BK209.out 1).trans rfl
                      have hcz29_2 : wr.cell? ⟨gb209, 2, none⟩ = some (.slice A0_2 l0_2.length c0_2) := (blk_cell BK209.out 2).trans rfl
                      have hcz29_3 : wr.cell? ⟨gb209, 3, none⟩ = some (.int .u32 a0_3) := (blk_cell BK209.out 3).trans rfl
                      have hfz29_0 := blk_frozen BK209.out 0
                      have hfz29_1 := blk_frozen BK209.out 1
                      have hfz29_2 := blk_frozen BK209.out 2
                      have hfz29_3 := blk_frozen BK209.out 3
                      have p226 : 0 ≤ (x7_3 : Int) := of_decide_eq_true (by first | (with_reducible assumption) | assumption)
                      have q226 : x7_3 < (l0_1.length : Int) := of_decide_eq_true (by first | (with_reducible assumption) | assumption)
                      obtain ⟨ad226, A226_33, c226_33, A226_34, c226_34, e226, hx226_32, hx226_33, hx226_34, hx226_35, hl226_33, hi226_33, hl226_34, hi226_34⟩ := at_T35 HR0_1.out x7_3 p226 q226
                      cases e226
                      replace hx226_32 := (HB.out.cell (World.block_lt_of_cell? w _ hx226_32)).trans hx226_32
                      replace hx226_33 := (HB.out.cell (World.block_lt_of_cell? w _ hx226_33)).trans hx226_33
                      replace hx226_34 := (HB.out.cell (World.block_lt_of_cell? w _ hx226_34)).trans hx226_34
                      replace hx226_35 := (HB.out.cell (World.block_lt_of_cell? w _ hx226_35)).trans hx226_35
                      have HR226_33 := Aside0.mk hi226_33
                      have HC226_33 := Aside0.mk hl226_33
                      clear hi226_33 hl226_33
                      have HR226_34 := Aside0.mk hi226_34
                      have HC226_34 := Aside0.mk hl226_34
                      clear hi226_34 hl226_34
                      replace p226 := eq_true p226
                      replace q226 := eq_true q226
                      go_wp2_with (first | ((with_reducible refine at_dst (N := 43) rfl ?_); (obtain ⟨adq, csq, A1q, c1q, A2q, c2q, eq_, hIq, hcq⟩ := cells_at (Kd.C_below HR0_1.out HB.out) x7_3 (of_eq_true p226) (of_eq_true q226)); cases eq_; have HIQ := Aside0.mk hIq; have HCQ := Aside0.mk hcq; clear hIq hcq; refine wpList_load_at rfl 35 (.tmp 42) rfl _ rfl csq _ HCQ.out Try.underlying35 rfl (by rw [HIQ.out.len]; exact size35) ?_) | ((with_reducible refine gate_callee (f := 28) rfl ?_); refine goesL_ (some 44) rfl rfl Try.func28 (by kernel_rfl) rfl #[.agg csq.toArray] rfl (by (try simp only [List.map_toArray, List.map_cons, List.map_nil]); first | done | rfl | (simp only [List.length_drop, List.length_take]; rfl)) ?_; (with_reducible refine (spec_inBytes.calls l0_1 x7_3 csq _ _ _ _ t227 _ HIQ.out A27.out).mono ?_); rintro e w30 ⟨v228, rfl, ho0, hb⟩; refine ⟨_, rfl, ?_⟩; have n0_ := Aside0.mk (Kd.R_elder' (by (with_reducible repeat (first | apply Kd.R_alloc | apply Kd.R_drewN | apply Kd.R_drew)); exact HO_6.out) (Kd.R_base ho0) hb); have n1_ := Aside0.mk (Kd.R_lower (Kd.R_new' ho0 (Kd.R_lt (by (with_reducible repeat (first | apply Kd.R_alloc | apply Kd.R_drewN | apply Kd.R_drew)); exact HO_6.out))) (below_size (by repeat (first | (with_reducible first | exact HB.out | apply below_alloc | apply pw_below_drewN | apply below_drew1 | refine below_set ?_ GE209.out) | exact HB.out)))); have n2_ := Aside0.mk (blk_below (g := gb209) (o := .cells #[.int .i32 a0_0, .slice (some ad226) l0_1.length c0_1, .slice A0_2 l0_2.length c0_2, .int .u32 a0_3] 26 (0, 0)) (by (with_reducible repeat (first | refine blk_drewN ?_ _ | refine blk_drew ?_ | refine blk_alloc ?_ _)); exact BK209.out) hb); have n3_ := Aside0.mk (below_step (by repeat (first | (with_reducible first | exact HB.out | apply below_alloc | apply pw_below_drewN | apply below_drew1 | refine below_set ?_ GE209.out) | exact HB.out)) hb); clear HO_6; clear BK209; clear HB; have HO_6 := n0_; have HO229 := n1_; have BK209 := n2_; have HB := n3_; clear n0_ n1_ n2_ n3_; (try clear hb); (try clear hb2); (try clear hk); (try clear hi); (try clear ho0); obtain ⟨Ao32, co32, eo32⟩ := Kd.R_slice HO229.out; subst eo32) | ((with_reducible refine gate_builtin (b := .append) (xs := #[.tmp 38, .tmp 44]) rfl ?_); (try (refine gate_guard (by rfl) ?_; dsimp only)); at_builtin; refine Kd.R_append_rows (Kd.int .u8) (w0 := w) w.heap.size rfl (.tmp 38) (.tmp 44) 32 5 (.int .u8 0) 1 rfl Try.underlying32 info5 rfl (by decide) (by omega) u6 x6_3 t227 _ _ _ (fun k_ => some k_ ≠ (.slice Ao32 t227.length co32 : Value).ownBlock) (fun _ => False) rfl rfl ?aO ?aR (fun _ _ h => h) (fun _ h => h.elim) ?aF ?aB ?aS ?aL ?_; (case aR => repeat (first | exact (Kd.R_reads' HO229.out).2.2 | (with_reducible refine Kd.C_alloc ?_ _) | (with_reducible refine Kd.C_drewN ?_ _) | (with_reducible refine Kd.C_drew ?_))); (case aB => exact (by repeat (first | (with_reducible first | exact HB.out | apply below_alloc | apply pw_below_drewN | apply below_drew1 | refine below_set ?_ GE209.out) | exact HB.out))); (case aF => exact (fun k_ hk => Kd.fresh' (Kd.R_lt (by (with_reducible repeat (first | apply Kd.R_alloc | apply Kd.R_drewN | apply Kd.R_drew)); exact HO229.out)) k_ hk)); (case aO => exact (by (with_reducible repeat (first | apply Kd.R_alloc | apply Kd.R_drewN | apply Kd.R_drew)); exact Kd.R_mono HO_6.out (fun _ hk => hk.2))); (case aS => exact (below_size (by repeat (first | (with_reducible first | exact HB.out | apply below_alloc | apply pw_below_drewN | apply below_drew1 | refine below_set ?_ GE209.out) | exact HB.out)))); (case aL => have := LMc28.out; omega); intro v231 w31 ho hb hg hat; rw [← Ny230.out] at ho; have n0_ := Aside0.mk (blk_grown (g := gb209) (o := .cells #[.int .i32 a0_0, .slice (some ad226) l0_1.length c0_1, .slice A0_2 l0_2.length c0_2, .int .u32 a0_3] 26 (0, 0)) (by (with_reducible repeat (first | refine blk_drewN ?_ _ | refine blk_drew ?_ | refine blk_alloc ?_ _)); exact BK209.out) hg (Kd.R_ne HO_6.out BK209.out (by decide))); have n1_ := Aside0.mk (Kd.R_after (ok := (fun _ => True)) (by (with_reducible repeat (first | apply Kd.R_alloc | apply Kd.R_drewN | apply Kd.R_drew)); exact HO229.out) hg hat); have n2_ := Aside0.mk (hb); have n3_ := Aside0.mk (ho); clear BK209; clear HO229; clear HB; clear HO_6; have BK209 := n0_; have HO229 := n1_; have HB := n2_; have HO232 := n3_; clear n0_ n1_ n2_ n3_; clear ho hb hg hat))
                      go_roundg k3
                      case measure => have := HJ2.out; have := HJ9.out; have := HK3.out; omega
                      case rel => exact ⟨(y230), (wrap64 (x7_3 + 1)), (by first | rfl | (simp; done) | (simp [*]; done)), (by first | exact H' | (subst_vars; exact H')), ⟨by have := HJ2.out; have := HJ9.out; have := HK3.out; omega⟩, ⟨by (with_reducible repeat (first | apply Kd.R_alloc | apply Kd.R_drewN | apply Kd.R_drew)); exact Kd.R_mono HO232.out (fun _ hk => trivial)⟩, ⟨by (with_reducible repeat (first | refine blk_drewN ?_ _ | refine blk_drew ?_ | refine blk_alloc ?_ _)); exact BK209.out⟩, ⟨by repeat (first | (with_reducible first | exact HB.out | apply below_alloc | apply pw_below_drewN | apply below_drew1 | refine below_set ?_ GE209.out) | exact HB.out)⟩⟩
                    · rw [if_neg c28] at H
                      exact absurd H (by simp)
                  · rw [if_neg c26] at H
                    exact absurd H (by simp)
                · rw [if_neg c25] at H
                  have c25b0 : decide (x7_3 < (l0_1.length : Int)) = false := decide_eq_false c25
                  clear c25
                  replace H := Option.bind_eq_some_iff.mp H
                  obtain ⟨t233, A330, H⟩ := H
                  replace H : (if x6_3.length + t233.length < 140737488355328 then (spec_TxBytes.l1 k3 x5_2 (x6_3 ++ t233) 0 a0_0 l0_1 l0_2 a0_3) else (none)) = some r := H
                  have A33 := Aside0.mk A330
                  clear A330
                  by_cases c34 : x6_3.length + t233.length < 140737488355328
                  · rw [if_pos c34] at H
                    have LMc34 := Aside0.mk c34
                    clear c34
                    obtain ⟨y236, hy236⟩ : ∃ y_ : List Int, y_ = (x6_3 ++ t233) := ⟨_, rfl⟩
                    replace H : (spec_TxBytes.l1 k3 x5_2 y236 0 a0_0 l0_1 l0_2 a0_3) = some r := by first | (rw [hy236]; with_reducible exact H) | (have H2_ := (Option.bind_some _ _).symm.trans H; rw [hy236]; with_reducible exact H2_) | (have H2_ := (Option.bind_some _ _).symm.trans H; with_reducible exact H2_) | with_reducible exact H | (rw [hy236]; exact H) | exact H
                    have Ny236 := Aside0.mk hy236
                    clear hy236
                    have H' := Aside0.mk H
                    clear H
                    have hcz35_0 : wr.cell? ⟨gb209, 0, none⟩ = some (.int .i32 a0_0) := (blk_cell BK209.out 0).trans rfl
                    have hcz35_1 : wr.cell? ⟨gb209, 1, none⟩ = some (.slice A0_1 l0_1.length c0_1) := (blk_cell BK209.out 1).trans rfl
                    have hcz35_2 : wr.cell? ⟨gb209, 2, none⟩ = some (.slice A0_2 l0_2.length c0_2) := (blk_cell BK209.out 2).trans rfl
                    have hcz35_3 : wr.cell? ⟨gb209, 3, none⟩ = some (.int .u32 a0_3) := (blk_cell BK209.out 3).trans rfl
                    have hfz35_0 := blk_frozen BK209.out 0
                    have hfz35_1 := blk_frozen BK209.out 1
                    have hfz35_2 := blk_frozen BK209.out 2
                    have hfz35_3 := blk_frozen BK209.out 3
                    go_wp2_with (first | ((with_reducible refine gate_callee (f := 27) rfl ?_); refine goesL_ (some 51) rfl rfl Try.func27 (by kernel_rfl) rfl #[.int .u64 (IntKind.u64.wrap ((l0_2.length : Int)))] rfl (by (try simp only [List.map_toArray, List.map_cons, List.map_nil]); first | done | rfl | (simp only [List.length_drop, List.length_take]; rfl)) ?_; (with_reducible refine (spec_VarInt.calls k3 (IntKind.u64.wrap ((l0_2.length : Int))) t233 _ A33.out).mono ?_); rintro e w36 ⟨v234, rfl, ho0, hb⟩; refine ⟨_, rfl, ?_⟩; have n0_ := Aside0.mk (Kd.R_elder' (by (with_reducible repeat (first | apply Kd.R_alloc | apply Kd.R_drewN | apply Kd.R_drew)); exact HO_6.out) (Kd.R_base ho0) hb); have n1_ := Aside0.mk (Kd.R_lower (Kd.R_new' ho0 (Kd.R_lt (by (with_reducible repeat (first | apply Kd.R_alloc | apply Kd.R_drewN | apply Kd.R_drew)); exact HO_6.out))) (below_size (by repeat (first | (with_reducible first | exact HB.out | apply below_alloc | apply pw_below_drewN | apply below_drew1 | refine below_set ?_ GE209.out) | exact HB.out)))); have n2_ := Aside0.mk (blk_below (g := gb209) (o := .cells #[.int .i32 a0_0, .slice A0_1 l0_1.length c0_1, .slice A0_2 l0_2.length c0_2, .int .u32 a0_3] 26 (0, 0)) (by (with_reducible repeat (first | refine blk_drewN ?_ _ | refine blk_drew ?_ | refine blk_alloc ?_ _)); exact BK209.out) hb); have n3_ := Aside0.mk (below_step (by repeat (first | (with_reducible first | exact HB.out | apply below_alloc | apply pw_below_drewN | apply below_drew1 | refine below_set ?_ GE209.out) | exact HB.out)) hb); clear HO_6; clear BK209; clear HB; have HO_6 := n0_; have HO235 := n1_; have BK209 := n2_; have HB := n3_; clear n0_ n1_ n2_ n3_; (try clear hb); (try clear hb2); (try clear hk); (try clear hi); (try clear ho0); obtain ⟨Ao38, co38, eo38⟩ := Kd.R_slice HO235.out; subst eo38) | ((with_reducible refine gate_builtin (b := .append) (xs := #[.tmp 46, .tmp 51]) rfl ?_); (try (refine gate_guard (by rfl) ?_; dsimp only)); at_builtin; refine Kd.R_append_rows (Kd.int .u8) (w0 := w) w.heap.size rfl (.tmp 46) (.tmp 51) 32 5 (.int .u8 0) 1 rfl Try.underlying32 info5 rfl (by decide) (by omega) u6 x6_3 t233 _ _ _ (fun k_ => some k_ ≠ (.slice Ao38 t233.length co38 : Value).ownBlock) (fun _ => False) rfl rfl ?aO ?aR (fun _ _ h => h) (fun _ h => h.elim) ?aF ?aB ?aS ?aL ?_; (case aR => repeat (first | exact (Kd.R_reads' HO235.out).2.2 | (with_reducible refine Kd.C_alloc ?_ _) | (with_reducible refine Kd.C_drewN ?_ _) | (with_reducible refine Kd.C_drew ?_))); (case aB => exact (by repeat (first | (with_reducible first | exact HB.out | apply below_alloc | apply pw_below_drewN | apply below_drew1 | refine below_set ?_ GE209.out) | exact HB.out))); (case aF => exact (fun k_ hk => Kd.fresh' (Kd.R_lt (by (with_reducible repeat (first | apply Kd.R_alloc | apply Kd.R_drewN | apply Kd.R_drew)); exact HO235.out)) k_ hk)); (case aO => exact (by (with_reducible repeat (first | apply Kd.R_alloc | apply Kd.R_drewN | apply Kd.R_drew)); exact Kd.R_mono HO_6.out (fun _ hk => hk.2))); (case aS => exact (below_size (by repeat (first | (with_reducible first | exact HB.out | apply below_alloc | apply pw_below_drewN | apply below_drew1 | refine below_set ?_ GE209.out) | exact HB.out)))); (case aL => have := LMc34.out; omega); intro v237 w37 ho hb hg hat; rw [← Ny236.out] at ho; have n0_ := Aside0.mk (blk_grown (g := gb209) (o := .cells #[.int .i32 a0_0, .slice A0_1 l0_1.length c0_1, .slice A0_2 l0_2.length c0_2, .int .u32 a0_3] 26 (0, 0)) (by (with_reducible repeat (first | refine blk_drewN ?_ _ | refine blk_drew ?_ | refine blk_alloc ?_ _)); exact BK209.out) hg (Kd.R_ne HO_6.out BK209.out (by decide))); have n1_ := Aside0.mk (Kd.R_after (ok := (fun _ => True)) (by (with_reducible repeat (first | apply Kd.R_alloc | apply Kd.R_drewN | apply Kd.R_drew)); exact HO235.out) hg hat); have n2_ := Aside0.mk (hb); have n3_ := Aside0.mk (ho); clear BK209; clear HO235; clear HB; clear HO_6; have BK209 := n0_; have HO235 := n1_; have HB := n2_; have HO238 := n3_; clear n0_ n1_ n2_ n3_; clear ho hb hg hat))
                    go_loopg [6, 8] k3 (fun kq v6 v8 w' => ∃ (x6_4 : List Int) (x8_4 : Int), v8 = .int .i64 x8_4 ∧ Aside0 (spec_TxBytes.l1 kq x5_2 x6_4 x8_4 a0_0 l0_1 l0_2 a0_3 = some r) ∧ Aside0 (kq ≤ k3) ∧ Aside0 (Kd.R (Kd.int .u8) 5 w' w.heap.size (fun _ => True) v6 x6_4) ∧ Aside0 (w'.heap[gb209]? = some (.cells #[.int .i32 a0_0, (.slice A0_1 l0_1.length c0_1), (.slice A0_2 l0_2.length c0_2), .int .u32 a0_3] 26 (0, 0))) ∧ Aside0 (Below w.heap.size w w'))
                    case atStart => exact ⟨(y236), (0), (by first | rfl | (simp; done) | (simp [*]; done)), H', ⟨Nat.le_refl _⟩, ⟨by (with_reducible repeat (first | apply Kd.R_alloc | apply Kd.R_drewN | apply Kd.R_drew)); exact Kd.R_mono HO238.out (fun _ hk => trivial)⟩, ⟨by (with_reducible repeat (first | refine blk_drewN ?_ _ | refine blk_drew ?_ | refine blk_alloc ?_ _)); exact BK209.out⟩, ⟨by repeat (first | (with_reducible first | exact HB.out | apply below_alloc | apply pw_below_drewN | apply below_drew1 | refine below_set ?_ GE209.out) | exact HB.out)⟩⟩
                    case round =>
                      clear H'
                      try clear c1
                      try clear c2
                      try clear p2
                      try clear q2
                      try clear hx2
                      try clear c3
                      try clear c5
                      try clear p6
                      try clear c10
                      try clear c13
                      try clear c14
                      try clear c20
                      try clear c22
                      try clear p22
                      try clear q22
                      try clear hx22
                      try clear c25
                      try clear c25b0
                      try clear c26
                      try clear c26b0
                      try clear c27
                      try clear c28
                      try clear c34
                      try clear hcz11_0
                      try clear hcz11_1
                      try clear hcz11_2
                      try clear hcz11_3
                      try clear hcz21_0
                      try clear hcz21_1
                      try clear hcz21_2
                      try clear hcz21_3
                      try clear hcz29_0
                      try clear hcz29_1
                      try clear hcz29_2
                      try clear hcz29_3
                      try clear hcz35_0
                      try clear hcz35_1
                      try clear hcz35_2
                      try clear hcz35_3
                      try clear hcz7_0
                      try clear hcz7_1
                      try clear hcz7_2
                      try clear hcz7_3
                      try clear hfz11_0
                      try clear hfz11_1
                      try clear hfz11_2
                      try clear hfz11_3
                      try clear hfz21_0
                      try clear hfz21_1
                      try clear hfz21_2
                      try clear hfz21_3
                      try clear hfz29_0
                      try clear hfz29_1
                      try clear hfz29_2
                      try clear hfz29_3
                      try clear hfz35_0
                      try clear hfz35_1
                      try clear hfz35_2
                      try clear hfz35_3
                      try clear hfz7_0
                      try clear hfz7_1
                      try clear hfz7_2
                      try clear hfz7_3
                      try clear hx226_0
                      try clear hx226_1
                      try clear hx226_10
                      try clear hx226_11
                      try clear hx226_12
                      try clear hx226_13
                      try clear hx226_14
                      try clear hx226_15
                      try clear hx226_16
                      try clear hx226_17
                      try clear hx226_18
                      try clear hx226_19
                      try clear hx226_2
                      try clear hx226_20
                      try clear hx226_21
                      try clear hx226_22
                      try clear hx226_23
                      try clear hx226_24
                      try clear hx226_25
                      try clear hx226_26
                      try clear hx226_27
                      try clear hx226_28
                      try clear hx226_29
                      try clear hx226_3
                      try clear hx226_30
                      try clear hx226_31
                      try clear hx226_32
                      try clear hx226_33
                      try clear hx226_34
                      try clear hx226_35
                      try clear hx226_4
                      try clear hx226_5
                      try clear hx226_6
                      try clear hx226_7
                      try clear hx226_8
                      try clear hx226_9
                      try clear p2
                      try clear p226
                      try clear q226
                      obtain ⟨x6_4, x8_4, rfl, HA, HK4, HO_6, BK209, HB⟩ := hrel
                      cases gk with
                      | zero => exact absurd HA.out (by simp [spec_TxBytes.l1])
                      | succ k4 =>
                        have H := HA.out
                        clear HA
                        simp only [spec_TxBytes.l1] at H
                        by_cases c39 : x8_4 < (l0_2.length : Int)
                        · rw [if_pos c39] at H
                          have c39b0 : decide (x8_4 < (l0_2.length : Int)) = true := decide_eq_true c39
                          clear c39
                          by_cases c40 : 0 ≤ x8_4
                          · rw [if_pos c40] at H
                            have c40b0 : decide (0 ≤ x8_4) = true := decide_eq_true c40
                            clear c40
                            replace H := Option.bind_eq_some_iff.mp H
                            obtain ⟨t240, A410, H⟩ := H
                            replace H : (if x6_4.length + t240.length < 140737488355328 then (spec_TxBytes.l1 k4 x5_2 (x6_4 ++ t240) (wrap64 (x8_4 + 1)) a0_0 l0_1 l0_2 a0_3) else (none)) = some r := H
                            have A41 := Aside0.mk A410
                            clear A410
                            by_cases c42 : x6_4.length + t240.length < 140737488355328
                            · rw [if_pos c42] at H
                              have LMc42 := Aside0.mk c42
                              clear c42
                              obtain ⟨y243, hy243⟩ : ∃ y_ : List Int, y_ = (x6_4 ++ t240) := ⟨_, rfl⟩
                              replace H : (spec_TxBytes.l1 k4 x5_2 y243 (wrap64 (x8_4 + 1)) a0_0 l0_1 l0_2 a0_3) = some r := by first | (rw [hy243]; with_reducible exact H) | (have H2_ := (Option.bind_some _ _).symm.trans H; rw [hy243]; with_reducible exact H2_) | (have H2_ := (Option.bind_some _ _).symm.trans H; with_reducible exact H2_) | with_reducible exact H | (rw [hy243]; exact H) | exact H
                              have Ny243 := Aside0.mk hy243
                              clear hy243
                              have H' := Aside0.mk H
                              clear H
                              have hcz43_0 : wr.cell? ⟨gb209, 0, none⟩ = some (.int .i32 a0_0) := (blk_cell BK209.out 0).trans rfl
                              have hcz43_1 : wr.cell? ⟨gb209, 1, none⟩ = some (.slice A0_1 l0_1.length c0_1) := (blk_cell BK209.out 1).trans rfl
                              have hcz43_2 : wr.cell? ⟨gb209, 2, none⟩ = some (.slice A0_2 l0_2.length c0_2) := (blk_cell BK209.out 2).trans rfl
                              have hcz43_3 : wr.cell? ⟨gb209, 3, none⟩ = some (.int .u32 a0_3) := (blk_cell BK209.out 3).trans rfl
                              have hfz43_0 := blk_frozen BK209.out 0
                              have hfz43_1 := blk_frozen BK209.out 1
                              have hfz43_2 := blk_frozen BK209.out 2
                              have hfz43_3 := blk_frozen BK209.out 3
                              have p239 : 0 ≤ (x8_4 : Int) := of_decide_eq_true (by first | (with_reducible assumption) | assumption)
                              have q239 : x8_4 < (l0_2.length : Int) := of_decide_eq_true (by first | (with_reducible assumption) | assumption)
                              obtain ⟨ad239, A239_1, c239_1, e239, hx239_0, hx239_1, hl239_1, hi239_1⟩ := at_T41 HR0_2.out x8_4 p239 q239
                              cases e239
                              replace hx239_0 := (HB.out.cell (World.block_lt_of_cell? w _ hx239_0)).trans hx239_0
                              replace hx239_1 := (HB.out.cell (World.block_lt_of_cell? w _ hx239_1)).trans hx239_1
                              have HR239_1 := Aside0.mk hi239_1
                              have HC239_1 := Aside0.mk hl239_1
                              clear hi239_1 hl239_1
                              replace p239 := eq_true p239
                              replace q239 := eq_true q239
                              go_wp2_with (first | ((with_reducible refine gate_callee (f := 29) rfl ?_); refine goesL_ (some 66) rfl rfl Try.func29 (by kernel_rfl) rfl #[.agg #[.int .i64 ((rd_T41 l0_2 x8_4).f0), .slice A239_1 ((rd_T41 l0_2 x8_4).f1).length c239_1]] rfl (by (try simp only [List.map_toArray, List.map_cons, List.map_nil]); first | done | rfl | (simp only [List.length_drop, List.length_take]; rfl)) ?_; (with_reducible refine (spec_outBytes.calls k4 ((rd_T41 l0_2 x8_4).f0) _ _ ((rd_T41 l0_2 x8_4).f1) t240 _ ?side1 ?side2 A41.out).mono ?_); (case side1 => repeat (first | exact (Kd.C_below HR239_1.out HB.out) | (with_reducible refine Kd.C_alloc ?_ _) | (with_reducible refine Kd.C_drewN ?_ _) | (with_reducible refine Kd.C_drew ?_))); (case side2 => exact HC239_1.out); rintro e w44 ⟨v241, rfl, ho0, hb⟩; refine ⟨_, rfl, ?_⟩; have n0_ := Aside0.mk (Kd.R_elder' (by (with_reducible repeat (first | apply Kd.R_alloc | apply Kd.R_drewN | apply Kd.R_drew)); exact HO_6.out) (Kd.R_base ho0) hb); have n1_ := Aside0.mk (Kd.R_lower (Kd.R_new' ho0 (Kd.R_lt (by (with_reducible repeat (first | apply Kd.R_alloc | apply Kd.R_drewN | apply Kd.R_drew)); exact HO_6.out))) (below_size (by repeat (first | (with_reducible first | exact HB.out | apply below_alloc | apply pw_below_drewN | apply below_drew1 | refine below_set ?_ GE209.out) | exact HB.out)))); have n2_ := Aside0.mk (blk_below (g := gb209) (o := .cells #[.int .i32 a0_0, .slice A0_1 l0_1.length c0_1, .slice (some ad239) l0_2.length c0_2, .int .u32 a0_3] 26 (0, 0)) (by (with_reducible repeat (first | refine blk_drewN ?_ _ | refine blk_drew ?_ | refine blk_alloc ?_ _)); exact BK209.out) hb); have n3_ := Aside0.mk (below_step (by repeat (first | (with_reducible first | exact HB.out | apply below_alloc | apply pw_below_drewN | apply below_drew1 | refine below_set ?_ GE209.out) | exact HB.out)) hb); clear HO_6; clear BK209; clear HB; have HO_6 := n0_; have HO242 := n1_; have BK209 := n2_; have HB := n3_; clear n0_ n1_ n2_ n3_; (try clear hb); (try clear hb2); (try clear hk); (try clear hi); (try clear ho0); obtain ⟨Ao46, co46, eo46⟩ := Kd.R_slice HO242.out; subst eo46) | ((with_reducible refine gate_builtin (b := .append) (xs := #[.tmp 60, .tmp 66]) rfl ?_); (try (refine gate_guard (by rfl) ?_; dsimp only)); at_builtin; refine Kd.R_append_rows (Kd.int .u8) (w0 := w) w.heap.size rfl (.tmp 60) (.tmp 66) 32 5 (.int .u8 0) 1 rfl Try.underlying32 info5 rfl (by decide) (by omega) u6 x6_4 t240 _ _ _ (fun k_ => some k_ ≠ (.slice Ao46 t240.length co46 : Value).ownBlock) (fun _ => False) rfl rfl ?aO ?aR (fun _ _ h => h) (fun _ h => h.elim) ?aF ?aB ?aS ?aL ?_; (case aR => repeat (first | exact (Kd.R_reads' HO242.out).2.2 | (with_reducible refine Kd.C_alloc ?_ _) | (with_reducible refine Kd.C_drewN ?_ _) | (with_reducible refine Kd.C_drew ?_))); (case aB => exact (by repeat (first | (with_reducible first | exact HB.out | apply below_alloc | apply pw_below_drewN | apply below_drew1 | refine below_set ?_ GE209.out) | exact HB.out))); (case aF => exact (fun k_ hk => Kd.fresh' (Kd.R_lt (by (with_reducible repeat (first | apply Kd.R_alloc | apply Kd.R_drewN | apply Kd.R_drew)); exact HO242.out)) k_ hk)); (case aO => exact (by (with_reducible repeat (first | apply Kd.R_alloc | apply Kd.R_drewN | apply Kd.R_drew)); exact Kd.R_mono HO_6.out (fun _ hk => hk.2))); (case aS => exact (below_size (by repeat (first | (with_reducible first | exact HB.out | apply below_alloc | apply pw_below_drewN | apply below_drew1 | refine below_set ?_ GE209.out) | exact HB.out)))); (case aL => have := LMc42.out; omega); intro v244 w45 ho hb hg hat; rw [← Ny243.out] at ho; have n0_ := Aside0.mk (blk_grown (g := gb209) (o := .cells #[.int .i32 a0_0, .slice A0_1 l0_1.length c0_1, .slice (some ad239) l0_2.length c0_2, .int .u32 a0_3] 26 (0, 0)) (by (with_reducible repeat (first | refine blk_drewN ?_ _ | refine blk_drew ?_ | refine blk_alloc ?_ _)); exact BK209.out) hg (Kd.R_ne HO_6.out BK209.out (by decide))); have n1_ := Aside0.mk (Kd.R_after (ok := (fun _ => True)) (by (with_reducible repeat (first | apply Kd.R_alloc | apply Kd.R_drewN | apply Kd.R_drew)); exact HO242.out) hg hat); have n2_ := Aside0.mk (hb); have n3_ := Aside0.mk (ho); clear BK209; clear HO242; clear HB; clear HO_6; have BK209 := n0_; have HO242 := n1_; have HB := n2_; have HO245 := n3_; clear n0_ n1_ n2_ n3_; clear ho hb hg hat))
                              go_roundg k4
                              case measure => have := HJ2.out; have := HJ9.out; have := HK3.out; have := HK4.out; omega
                              case rel => exact ⟨(y243), (wrap64 (x8_4 + 1)), (by first | rfl | (simp; done) | (simp [*]; done)), (by first | exact H' | (subst_vars; exact H')), ⟨by have := HJ2.out; have := HJ9.out; have := HK3.out; have := HK4.out; omega⟩, ⟨by (with_reducible repeat (first | apply Kd.R_alloc | apply Kd.R_drewN | apply Kd.R_drew)); exact Kd.R_mono HO245.out (fun _ hk => trivial)⟩, ⟨by (with_reducible repeat (first | refine blk_drewN ?_ _ | refine blk_drew ?_ | refine blk_alloc ?_ _)); exact BK209.out⟩, ⟨by repeat (first | (with_reducible first | exact HB.out | apply below_alloc | apply pw_below_drewN | apply below_drew1 | refine below_set ?_ GE209.out) | exact HB.out)⟩⟩
                            · rw [if_neg c42] at H
                              exact absurd H (by simp)
                          · rw [if_neg c40] at H
                            exact absurd H (by simp)
                        · rw [if_neg c39] at H
                          have c39b0 : decide (x8_4 < (l0_2.length : Int)) = false := decide_eq_false c39
                          clear c39
                          have H' := Aside0.mk H
                          clear H
                          have hcz47_0 : wr.cell? ⟨gb209, 0, none⟩ = some (.int .i32 a0_0) := (blk_cell BK209.out 0).trans rfl
                          have hcz47_1 : wr.cell? ⟨gb209, 1, none⟩ = some (.slice A0_1 l0_1.length c0_1) := (blk_cell BK209.out 1).trans rfl
                          have hcz47_2 : wr.cell? ⟨gb209, 2, none⟩ = some (.slice A0_2 l0_2.length c0_2) := (blk_cell BK209.out 2).trans rfl
                          have hcz47_3 : wr.cell? ⟨gb209, 3, none⟩ = some (.int .u32 a0_3) := (blk_cell BK209.out 3).trans rfl
                          have hfz47_0 := blk_frozen BK209.out 0
                          have hfz47_1 := blk_frozen BK209.out 1
                          have hfz47_2 := blk_frozen BK209.out 2
                          have hfz47_3 := blk_frozen BK209.out 3
                          go_wp2
                          go_loopg [6, 9] k4 (fun kq v6 v9 w' => ∃ (x6_5 : List Int) (x9_5 : Int), v9 = .int .i64 x9_5 ∧ Aside0 (spec_TxBytes.l2 kq x5_2 x6_5 x9_5 a0_0 l0_1 l0_2 a0_3 = some r) ∧ Aside0 (kq ≤ k4) ∧ Aside0 (Kd.R (Kd.int .u8) 5 w' w.heap.size (fun _ => True) v6 x6_5) ∧ Aside0 (w'.heap[gb209]? = some (.cells #[.int .i32 a0_0, (.slice A0_1 l0_1.length c0_1), (.slice A0_2 l0_2.length c0_2), .int .u32 a0_3] 26 (0, 0))) ∧ Aside0 (Below w.heap.size w w'))
                          case atStart => exact ⟨(x6_4), (0), (by first | rfl | (simp; done) | (simp [*]; done)), H', ⟨Nat.le_refl _⟩, ⟨by (with_reducible repeat (first | apply Kd.R_alloc | apply Kd.R_drewN | apply Kd.R_drew)); exact HO_6.out⟩, ⟨by (with_reducible repeat (first | refine blk_drewN ?_ _ | refine blk_drew ?_ | refine blk_alloc ?_ _)); exact BK209.out⟩, ⟨by repeat (first | (with_reducible first | exact HB.out | apply below_alloc | apply pw_below_drewN | apply below_drew1 | refine below_set ?_ GE209.out) | exact HB.out)⟩⟩
                          case round =>
                            clear H'
                            try clear c1
                            try clear c2
                            try clear p2
                            try clear q2
                            try clear hx2
                            try clear c3
                            try clear c4
                            try clear c5
                            try clear p6
                            try clear c10
                            try clear c13
                            try clear c14
                            try clear c20
                            try clear c22
                            try clear p22
                            try clear q22
                            try clear hx22
                            try clear c23
                            try clear p23
                            try clear q23
                            try clear hx23
                            try clear c25
                            try clear c25b0
                            try clear c26
                            try clear c26b0
                            try clear c27
                            try clear c28
                            try clear c29
                            try clear c34
                            try clear c39
                            try clear c39b0
                            try clear c40
                            try clear c40b0
                            try clear c42
                            try clear hcz11_0
                            try clear hcz11_1
                            try clear hcz11_2
                            try clear hcz11_3
                            try clear hcz21_0
                            try clear hcz21_1
                            try clear hcz21_2
                            try clear hcz21_3
                            try clear hcz29_0
                            try clear hcz29_1
                            try clear hcz29_2
                            try clear hcz29_3
                            try clear hcz35_0
                            try clear hcz35_1
                            try clear hcz35_2
                            try clear hcz35_3
                            try clear hcz43_0
                            try clear hcz43_1
                            try clear hcz43_2
                            try clear hcz43_3
                            try clear hcz47_0
                            try clear hcz47_1
                            try clear hcz47_2
                            try clear hcz47_3
                            try clear hcz7_0
                            try clear hcz7_1
                            try clear hcz7_2
                            try clear hcz7_3
                            try clear hfz11_0
                            try clear hfz11_1
                            try clear hfz11_2
                            try clear hfz11_3
                            try clear hfz21_0
                            try clear hfz21_1
                            try clear hfz21_2
                            try clear hfz21_3
                            try clear hfz29_0
                            try clear hfz29_1
                            try clear hfz29_2
                            try clear hfz29_3
                            try clear hfz35_0
                            try clear hfz35_1
                            try clear hfz35_2
                            try clear hfz35_3
                            try clear hfz43_0
                            try clear hfz43_1
                            try clear hfz43_2
                            try clear hfz43_3
                            try clear hfz47_0
                            try clear hfz47_1
                            try clear hfz47_2
                            try clear hfz47_3
                            try clear hfz7_0
                            try clear hfz7_1
                            try clear hfz7_2
                            try clear hfz7_3
                            try clear hx226_0
                            try clear hx226_1
                            try clear hx226_10
                            try clear hx226_11
                            try clear hx226_12
                            try clear hx226_13
                            try clear hx226_14
                            try clear hx226_15
                            try clear hx226_16
                            try clear hx226_17
                            try clear hx226_18
                            try clear hx226_19
                            try clear hx226_2
                            try clear hx226_20
                            try clear hx226_21
                            try clear hx226_22
                            try clear hx226_23
                            try clear hx226_24
                            try clear hx226_25
                            try clear hx226_26
                            try clear hx226_27
                            try clear hx226_28
                            try clear hx226_29
                            try clear hx226_3
                            try clear hx226_30
                            try clear hx226_31
                            try clear hx226_32
                            try clear hx226_33
                            try clear hx226_34
                            try clear hx226_35
                            try clear hx226_4
                            try clear hx226_5
                            try clear hx226_6
                            try clear hx226_7
                            try clear hx226_8
                            try clear hx226_9
                            try clear hx239_0
                            try clear hx239_1
                            try clear p2
                            try clear p22
                            try clear p226
                            try clear p239
                            try clear p6
                            try clear q2
                            try clear q22
                            try clear q226
                            try clear q239
                            obtain ⟨x6_5, x9_5, rfl, HA, HK5, HO_6, BK209, HB⟩ := hrel
                            cases gk with
                            | zero => exact absurd HA.out (by simp [spec_TxBytes.l2])
                            | succ k5 =>
                              have H := HA.out
                              clear HA
                              simp only [spec_TxBytes.l2] at H
                              by_cases c48 : x5_2 = true
                              · subst c48
                                have H1 : (if x9_5 < (l0_1.length : Int) then (if 0 ≤ x9_5 then ((spec_witnessBytes.f k5 ((rd_T35 l0_1 x9_5).f2)).bind fun t247 => (if x6_5.length + t247.length < 140737488355328 then (spec_TxBytes.l2 k5 true (x6_5 ++ t247) (wrap64 (x9_5 + 1)) a0_0 l0_1 l0_2 a0_3) else (none))) else (none)) else ((spec_little.f k5 (IntKind.u64.wrap (a0_3)) 4).bind fun t253 => (if x6_5.length + t253.length < 140737488355328 then (some (x6_5 ++ t253)) else (none)))) = some r := by rw [if_pos rfl] at H; exact H
                                clear H
                                have H := H1
                                clear H1
                                by_cases c49 : x9_5 < (l0_1.length : Int)
                                · rw [if_pos c49] at H
                                  have c49b0 : decide (x9_5 < (l0_1.length : Int)) = true := decide_eq_true c49
                                  clear c49
                                  by_cases c50 : 0 ≤ x9_5
                                  · rw [if_pos c50] at H
                                    have c50b0 : decide (0 ≤ x9_5) = true := decide_eq_true c50
                                    clear c50
                                    replace H := Option.bind_eq_some_iff.mp H
                                    obtain ⟨t247, A510, H⟩ := H
                                    replace H : (if x6_5.length + t247.length < 140737488355328 then (spec_TxBytes.l2 k5 true (x6_5 ++ t247) (wrap64 (x9_5 + 1)) a0_0 l0_1 l0_2 a0_3) else (none)) = some r := H
                                    have A51 := Aside0.mk A510
                                    clear A510
                                    by_cases c52 : x6_5.length + t247.length < 140737488355328
                                    · rw [if_pos c52] at H
                                      have LMc52 := Aside0.mk c52
                                      clear c52
                                      obtain ⟨y250, hy250⟩ : ∃ y_ : List Int, y_ = (x6_5 ++ t247) := ⟨_, rfl⟩
                                      replace H : (spec_TxBytes.l2 k5 true y250 (wrap64 (x9_5 + 1)) a0_0 l0_1 l0_2 a0_3) = some r := by first | (rw [hy250]; with_reducible exact H) | (have H2_ := (Option.bind_some _ _).symm.trans H; rw [hy250]; with_reducible exact H2_) | (have H2_ := (Option.bind_some _ _).symm.trans H; with_reducible exact H2_) | with_reducible exact H | (rw [hy250]; exact H) | exact H
                                      have Ny250 := Aside0.mk hy250
                                      clear hy250
                                      have H' := Aside0.mk H
                                      clear H
                                      have hcz53_0 : wr.cell? ⟨gb209, 0, none⟩ = some (.int .i32 a0_0) := (blk_cell BK209.out 0).trans rfl
                                      have hcz53_1 : wr.cell? ⟨gb209, 1, none⟩ = some (.slice A0_1 l0_1.length c0_1) := (blk_cell BK209.out 1).trans rfl
                                      have hcz53_2 : wr.cell? ⟨gb209, 2, none⟩ = some (.slice A0_2 l0_2.length c0_2) := (blk_cell BK209.out 2).trans rfl
                                      have hcz53_3 : wr.cell? ⟨gb209, 3, none⟩ = some (.int .u32 a0_3) := (blk_cell BK209.out 3).trans rfl
                                      have hfz53_0 := blk_frozen BK209.out 0
                                      have hfz53_1 := blk_frozen BK209.out 1
                                      have hfz53_2 := blk_frozen BK209.out 2
                                      have hfz53_3 := blk_frozen BK209.out 3
                                      have p246 : 0 ≤ (x9_5 : Int) := of_decide_eq_true (by first | (with_reducible assumption) | assumption)
                                      have q246 : x9_5 < (l0_1.length : Int) := of_decide_eq_true (by first | (with_reducible assumption) | assumption)
                                      obtain ⟨ad246, A246_33, c246_33, A246_34, c246_34, e246, hx246_32, hx246_33, hx246_34, hx246_35, hl246_33, hi246_33, hl246_34, hi246_34⟩ := at_T35 HR0_1.out x9_5 p246 q246
                                      cases e246
                                      replace hx246_32 := (HB.out.cell (World.block_lt_of_cell? w _ hx246_32)).trans hx246_32
                                      replace hx246_33 := (HB.out.cell (World.block_lt_of_cell? w _ hx246_33)).trans hx246_33
                                      replace hx246_34 := (HB.out.cell (World.block_lt_of_cell? w _ hx246_34)).trans hx246_34
                                      replace hx246_35 := (HB.out.cell (World.block_lt_of_cell? w _ hx246_35)).trans hx246_35
                                      have HR246_33 := Aside0.mk hi246_33
                                      have HC246_33 := Aside0.mk hl246_33
                                      clear hi246_33 hl246_33
                                      have HR246_34 := Aside0.mk hi246_34
                                      have HC246_34 := Aside0.mk hl246_34
                                      clear hi246_34 hl246_34
                                      replace p246 := eq_true p246
                                      replace q246 := eq_true q246
                                      go_wp2_with (first | ((with_reducible refine gate_callee (f := 30) rfl ?_); refine goesL_ (some 85) rfl rfl Try.func30 (by kernel_rfl) rfl #[.slice A246_34 ((rd_T35 l0_1 x9_5).f2).length c246_34] rfl (by (try simp only [List.map_toArray, List.map_cons, List.map_nil]); first | done | rfl | (simp only [List.length_drop, List.length_take]; rfl)) ?_; (with_reducible refine (spec_witnessBytes.calls k5 _ _ ((rd_T35 l0_1 x9_5).f2) t247 _ ?side1 ?side2 A51.out).mono ?_); (case side1 => repeat (first | exact (Kd.C_below HR246_34.out HB.out) | (with_reducible refine Kd.C_alloc ?_ _) | (with_reducible refine Kd.C_drewN ?_ _) | (with_reducible refine Kd.C_drew ?_))); (case side2 => exact HC246_34.out); rintro e w54 ⟨v248, rfl, ho0, hb⟩; refine ⟨_, rfl, ?_⟩; have n0_ := Aside0.mk (Kd.R_elder' (by (with_reducible repeat (first | apply Kd.R_alloc | apply Kd.R_drewN | apply Kd.R_drew)); exact HO_6.out) (Kd.R_base ho0) hb); have n1_ := Aside0.mk (Kd.R_lower (Kd.R_new' ho0 (Kd.R_lt (by (with_reducible repeat (first | apply Kd.R_alloc | apply Kd.R_drewN | apply Kd.R_drew)); exact HO_6.out))) (below_size (by repeat (first | (with_reducible first | exact HB.out | apply below_alloc | apply pw_below_drewN | apply below_drew1 | refine below_set ?_ GE209.out) | exact HB.out)))); have n2_ := Aside0.mk (blk_below (g := gb209) (o := .cells #[.int .i32 a0_0, .slice (some ad246) l0_1.length c0_1, .slice A0_2 l0_2.length c0_2, .int .u32 a0_3] 26 (0, 0)) (by (with_reducible repeat (first | refine blk_drewN ?_ _ | refine blk_drew ?_ | refine blk_alloc ?_ _)); exact BK209.out) hb); have n3_ := Aside0.mk (below_step (by repeat (first | (with_reducible first | exact HB.out | apply below_alloc | apply pw_below_drewN | apply below_drew1 | refine below_set ?_ GE209.out) | exact HB.out)) hb); clear HO_6; clear BK209; clear HB; have HO_6 := n0_; have HO249 := n1_; have BK209 := n2_; have HB := n3_; clear n0_ n1_ n2_ n3_; (try clear hb); (try clear hb2); (try clear hk); (try clear hi); (try clear ho0); obtain ⟨Ao56, co56, eo56⟩ := Kd.R_slice HO249.out; subst eo56) | ((with_reducible refine gate_builtin (b := .append) (xs := #[.tmp 78, .tmp 85]) rfl ?_); (try (refine gate_guard (by rfl) ?_; dsimp only)); at_builtin; refine Kd.R_append_rows (Kd.int .u8) (w0 := w) w.heap.size rfl (.tmp 78) (.tmp 85) 32 5 (.int .u8 0) 1 rfl Try.underlying32 info5 rfl (by decide) (by omega) u6 x6_5 t247 _ _ _ (fun k_ => some k_ ≠ (.slice Ao56 t247.length co56 : Value).ownBlock) (fun _ => False) rfl rfl ?aO ?aR (fun _ _ h => h) (fun _ h => h.elim) ?aF ?aB ?aS ?aL ?_; (case aR => repeat (first | exact (Kd.R_reads' HO249.out).2.2 | (with_reducible refine Kd.C_alloc ?_ _) | (with_reducible refine Kd.C_drewN ?_ _) | (with_reducible refine Kd.C_drew ?_))); (case aB => exact (by repeat (first | (with_reducible first | exact HB.out | apply below_alloc | apply pw_below_drewN | apply below_drew1 | refine below_set ?_ GE209.out) | exact HB.out))); (case aF => exact (fun k_ hk => Kd.fresh' (Kd.R_lt (by (with_reducible repeat (first | apply Kd.R_alloc | apply Kd.R_drewN | apply Kd.R_drew)); exact HO249.out)) k_ hk)); (case aO => exact (by (with_reducible repeat (first | apply Kd.R_alloc | apply Kd.R_drewN | apply Kd.R_drew)); exact Kd.R_mono HO_6.out (fun _ hk => hk.2))); (case aS => exact (below_size (by repeat (first | (with_reducible first | exact HB.out | apply below_alloc | apply pw_below_drewN | apply below_drew1 | refine below_set ?_ GE209.out) | exact HB.out)))); (case aL => have := LMc52.out; omega); intro v251 w55 ho hb hg hat; rw [← Ny250.out] at ho; have n0_ := Aside0.mk (blk_grown (g := gb209) (o := .cells #[.int .i32 a0_0, .slice (some ad246) l0_1.length c0_1, .slice A0_2 l0_2.length c0_2, .int .u32 a0_3] 26 (0, 0)) (by (with_reducible repeat (first | refine blk_drewN ?_ _ | refine blk_drew ?_ | refine blk_alloc ?_ _)); exact BK209.out) hg (Kd.R_ne HO_6.out BK209.out (by decide))); have n1_ := Aside0.mk (Kd.R_after (ok := (fun _ => True)) (by (with_reducible repeat (first | apply Kd.R_alloc | apply Kd.R_drewN | apply Kd.R_drew)); exact HO249.out) hg hat); have n2_ := Aside0.mk (hb); have n3_ := Aside0.mk (ho); clear BK209; clear HO249; clear HB; clear HO_6; have BK209 := n0_; have HO249 := n1_; have HB := n2_; have HO252 := n3_; clear n0_ n1_ n2_ n3_; clear ho hb hg hat))
                                      go_roundg k5
                                      case measure => have := HJ2.out; have := HJ9.out; have := HK3.out; have := HK4.out; have := HK5.out; omega
                                      case rel => exact ⟨(y250), (wrap64 (x9_5 + 1)), (by first | rfl | (simp; done) | (simp [*]; done)), (by first | exact H' | (subst_vars; exact H')), ⟨by have := HJ2.out; have := HJ9.out; have := HK3.out; have := HK4.out; have := HK5.out; omega⟩, ⟨by (with_reducible repeat (first | apply Kd.R_alloc | apply Kd.R_drewN | apply Kd.R_drew)); exact Kd.R_mono HO252.out (fun _ hk => trivial)⟩, ⟨by (with_reducible repeat (first | refine blk_drewN ?_ _ | refine blk_drew ?_ | refine blk_alloc ?_ _)); exact BK209.out⟩, ⟨by repeat (first | (with_reducible first | exact HB.out | apply below_alloc | apply pw_below_drewN | apply below_drew1 | refine below_set ?_ GE209.out) | exact HB.out)⟩⟩
                                    · rw [if_neg c52] at H
                                      exact absurd H (by simp)
                                  · rw [if_neg c50] at H
                                    exact absurd H (by simp)
                                · rw [if_neg c49] at H
                                  have c49b0 : decide (x9_5 < (l0_1.length : Int)) = false := decide_eq_false c49
                                  clear c49
                                  replace H := Option.bind_eq_some_iff.mp H
                                  obtain ⟨t253, A570, H⟩ := H
                                  replace H : (if x6_5.length + t253.length < 140737488355328 then (some (x6_5 ++ t253)) else (none)) = some r := H
                                  have A57 := Aside0.mk A570
                                  clear A570
                                  by_cases c58 : x6_5.length + t253.length < 140737488355328
                                  · rw [if_pos c58] at H
                                    have LMc58 := Aside0.mk c58
                                    clear c58
                                    obtain ⟨y256, hy256⟩ : ∃ y_ : List Int, y_ = (x6_5 ++ t253) := ⟨_, rfl⟩
                                    replace H : (some y256) = some r := by first | (rw [hy256]; with_reducible exact H) | (have H2_ := (Option.bind_some _ _).symm.trans H; rw [hy256]; with_reducible exact H2_) | (have H2_ := (Option.bind_some _ _).symm.trans H; with_reducible exact H2_) | with_reducible exact H | (rw [hy256]; exact H) | exact H
                                    have Ny256 := Aside0.mk hy256
                                    clear hy256
                                    obtain rfl := Option.some.inj H
                                    have hcz59_0 : wr.cell? ⟨gb209, 0, none⟩ = some (.int .i32 a0_0) := (blk_cell BK209.out 0).trans rfl
                                    have hcz59_1 : wr.cell? ⟨gb209, 1, none⟩ = some (.slice A0_1 l0_1.length c0_1) := (blk_cell BK209.out 1).trans rfl
                                    have hcz59_2 : wr.cell? ⟨gb209, 2, none⟩ = some (.slice A0_2 l0_2.length c0_2) := (blk_cell BK209.out 2).trans rfl
                                    have hcz59_3 : wr.cell? ⟨gb209, 3, none⟩ = some (.int .u32 a0_3) := (blk_cell BK209.out 3).trans rfl
                                    have hfz59_0 := blk_frozen BK209.out 0
                                    have hfz59_1 := blk_frozen BK209.out 1
                                    have hfz59_2 := blk_frozen BK209.out 2
                                    have hfz59_3 := blk_frozen BK209.out 3
                                    go_wp2_with (first | ((with_reducible refine gate_callee (f := 26) rfl ?_); refine goesL_ (some 91) rfl rfl Try.func26 (by kernel_rfl) rfl #[.int .u64 (IntKind.u64.wrap (a0_3)), .int .i64 4] rfl (by (try simp only [List.map_toArray, List.map_cons, List.map_nil]); first | done | rfl | (simp only [List.length_drop, List.length_take]; rfl)) ?_; (with_reducible refine (spec_little.calls k5 (IntKind.u64.wrap (a0_3)) 4 t253 _ A57.out).mono ?_); rintro e w60 ⟨v254, rfl, ho0, hb⟩; refine ⟨_, rfl, ?_⟩; have n0_ := Aside0.mk (Kd.R_elder' (by (with_reducible repeat (first | apply Kd.R_alloc | apply Kd.R_drewN | apply Kd.R_drew)); exact HO_6.out) (Kd.R_base ho0) hb); have n1_ := Aside0.mk (Kd.R_lower (Kd.R_new' ho0 (Kd.R_lt (by (with_reducible repeat (first | apply Kd.R_alloc | apply Kd.R_drewN | apply Kd.R_drew)); exact HO_6.out))) (below_size (by repeat (first | (with_reducible first | exact HB.out | apply below_alloc | apply pw_below_drewN | apply below_drew1 | refine below_set ?_ GE209.out) | exact HB.out)))); have n2_ := Aside0.mk (blk_below (g := gb209) (o := .cells #[.int .i32 a0_0, .slice A0_1 l0_1.length c0_1, .slice A0_2 l0_2.length c0_2, .int .u32 a0_3] 26 (0, 0)) (by (with_reducible repeat (first | refine blk_drewN ?_ _ | refine blk_drew ?_ | refine blk_alloc ?_ _)); exact BK209.out) hb); have n3_ := Aside0.mk (below_step (by repeat (first | (with_reducible first | exact HB.out | apply below_alloc | apply pw_below_drewN | apply below_drew1 | refine below_set ?_ GE209.out) | exact HB.out)) hb); clear HO_6; clear BK209; clear HB; have HO_6 := n0_; have HO255 := n1_; have BK209 := n2_; have HB := n3_; clear n0_ n1_ n2_ n3_; (try clear hb); (try clear hb2); (try clear hk); (try clear hi); (try clear ho0); obtain ⟨Ao62, co62, eo62⟩ := Kd.R_slice HO255.out; subst eo62) | ((with_reducible refine gate_builtin (b := .append) (xs := #[.tmp 87, .tmp 91]) rfl ?_); (try (refine gate_guard (by rfl) ?_; dsimp only)); at_builtin; refine Kd.R_append_rows (Kd.int .u8) (w0 := w) w.heap.size rfl (.tmp 87) (.tmp 91) 32 5 (.int .u8 0) 1 rfl Try.underlying32 info5 rfl (by decide) (by omega) u6 x6_5 t253 _ _ _ (fun k_ => some k_ ≠ (.slice Ao62 t253.length co62 : Value).ownBlock) (fun _ => False) rfl rfl ?aO ?aR (fun _ _ h => h) (fun _ h => h.elim) ?aF ?aB ?aS ?aL ?_; (case aR => repeat (first | exact (Kd.R_reads' HO255.out).2.2 | (with_reducible refine Kd.C_alloc ?_ _) | (with_reducible refine Kd.C_drewN ?_ _) | (with_reducible refine Kd.C_drew ?_))); (case aB => exact (by repeat (first | (with_reducible first | exact HB.out | apply below_alloc | apply pw_below_drewN | apply below_drew1 | refine below_set ?_ GE209.out) | exact HB.out))); (case aF => exact (fun k_ hk => Kd.fresh' (Kd.R_lt (by (with_reducible repeat (first | apply Kd.R_alloc | apply Kd.R_drewN | apply Kd.R_drew)); exact HO255.out)) k_ hk)); (case aO => exact (by (with_reducible repeat (first | apply Kd.R_alloc | apply Kd.R_drewN | apply Kd.R_drew)); exact Kd.R_mono HO_6.out (fun _ hk => hk.2))); (case aS => exact (below_size (by repeat (first | (with_reducible first | exact HB.out | apply below_alloc | apply pw_below_drewN | apply below_drew1 | refine below_set ?_ GE209.out) | exact HB.out)))); (case aL => have := LMc58.out; omega); intro v257 w61 ho hb hg hat; rw [← Ny256.out] at ho; have n0_ := Aside0.mk (blk_grown (g := gb209) (o := .cells #[.int .i32 a0_0, .slice A0_1 l0_1.length c0_1, .slice A0_2 l0_2.length c0_2, .int .u32 a0_3] 26 (0, 0)) (by (with_reducible repeat (first | refine blk_drewN ?_ _ | refine blk_drew ?_ | refine blk_alloc ?_ _)); exact BK209.out) hg (Kd.R_ne HO_6.out BK209.out (by decide))); have n1_ := Aside0.mk (Kd.R_after (ok := (fun _ => True)) (by (with_reducible repeat (first | apply Kd.R_alloc | apply Kd.R_drewN | apply Kd.R_drew)); exact HO255.out) hg hat); have n2_ := Aside0.mk (hb); have n3_ := Aside0.mk (ho); clear BK209; clear HO255; clear HB; clear HO_6; have BK209 := n0_; have HO255 := n1_; have HB := n2_; have HO258 := n3_; clear n0_ n1_ n2_ n3_; clear ho hb hg hat))
                                    go_ret
                                    exact ⟨_, by first | rfl | (simp [errW_none, errW_some] <;> rfl) | (simp [*, errW_none, errW_some] <;> rfl), by (with_reducible repeat (first | apply Kd.R_alloc | apply Kd.R_drewN | apply Kd.R_drew)); exact Kd.R_mono HO258.out (fun _ hk => trivial), by repeat (first | (with_reducible first | exact HB.out | apply below_alloc | apply pw_below_drewN | apply below_drew1 | refine below_set ?_ GE209.out) | exact HB.out)⟩
                                  · rw [if_neg c58] at H
                                    exact absurd H (by simp)
                              · replace c48 := Bool.eq_false_iff.mpr c48
                                subst c48
                                have H1 : ((spec_little.f k5 (IntKind.u64.wrap (a0_3)) 4).bind fun t259 => (if x6_5.length + t259.length < 140737488355328 then (some (x6_5 ++ t259)) else (none))) = some r := by rw [if_neg (show ¬ (false = true) by decide)] at H; exact H
                                clear H
                                have H := H1
                                clear H1
                                replace H := Option.bind_eq_some_iff.mp H
                                obtain ⟨t259, A630, H⟩ := H
                                replace H : (if x6_5.length + t259.length < 140737488355328 then (some (x6_5 ++ t259)) else (none)) = some r := H
                                have A63 := Aside0.mk A630
                                clear A630
                                by_cases c64 : x6_5.length + t259.length < 140737488355328
                                · rw [if_pos c64] at H
                                  have LMc64 := Aside0.mk c64
                                  clear c64
                                  obtain ⟨y262, hy262⟩ : ∃ y_ : List Int, y_ = (x6_5 ++ t259) := ⟨_, rfl⟩
                                  replace H : (some y262) = some r := by first | (rw [hy262]; with_reducible exact H) | (have H2_ := (Option.bind_some _ _).symm.trans H; rw [hy262]; with_reducible exact H2_) | (have H2_ := (Option.bind_some _ _).symm.trans H; with_reducible exact H2_) | with_reducible exact H | (rw [hy262]; exact H) | exact H
                                  have Ny262 := Aside0.mk hy262
                                  clear hy262
                                  obtain rfl := Option.some.inj H
                                  have hcz65_0 : wr.cell? ⟨gb209, 0, none⟩ = some (.int .i32 a0_0) := (blk_cell BK209.out 0).trans rfl
                                  have hcz65_1 : wr.cell? ⟨gb209, 1, none⟩ = some (.slice A0_1 l0_1.length c0_1) := (blk_cell BK209.out 1).trans rfl
                                  have hcz65_2 : wr.cell? ⟨gb209, 2, none⟩ = some (.slice A0_2 l0_2.length c0_2) := (blk_cell BK209.out 2).trans rfl
                                  have hcz65_3 : wr.cell? ⟨gb209, 3, none⟩ = some (.int .u32 a0_3) := (blk_cell BK209.out 3).trans rfl
                                  have hfz65_0 := blk_frozen BK209.out 0
                                  have hfz65_1 := blk_frozen BK209.out 1
                                  have hfz65_2 := blk_frozen BK209.out 2
                                  have hfz65_3 := blk_frozen BK209.out 3
                                  go_wp2_with (first | ((with_reducible refine gate_callee (f := 26) rfl ?_); refine goesL_ (some 91) rfl rfl Try.func26 (by kernel_rfl) rfl #[.int .u64 (IntKind.u64.wrap (a0_3)), .int .i64 4] rfl (by (try simp only [List.map_toArray, List.map_cons, List.map_nil]); first | done | rfl | (simp only [List.length_drop, List.length_take]; rfl)) ?_; (with_reducible refine (spec_little.calls k5 (IntKind.u64.wrap (a0_3)) 4 t259 _ A63.out).mono ?_); rintro e w66 ⟨v260, rfl, ho0, hb⟩; refine ⟨_, rfl, ?_⟩; have n0_ := Aside0.mk (Kd.R_elder' (by (with_reducible repeat (first | apply Kd.R_alloc | apply Kd.R_drewN | apply Kd.R_drew)); exact HO_6.out) (Kd.R_base ho0) hb); have n1_ := Aside0.mk (Kd.R_lower (Kd.R_new' ho0 (Kd.R_lt (by (with_reducible repeat (first | apply Kd.R_alloc | apply Kd.R_drewN | apply Kd.R_drew)); exact HO_6.out))) (below_size (by repeat (first | (with_reducible first | exact HB.out | apply below_alloc | apply pw_below_drewN | apply below_drew1 | refine below_set ?_ GE209.out) | exact HB.out)))); have n2_ := Aside0.mk (blk_below (g := gb209) (o := .cells #[.int .i32 a0_0, .slice A0_1 l0_1.length c0_1, .slice A0_2 l0_2.length c0_2, .int .u32 a0_3] 26 (0, 0)) (by (with_reducible repeat (first | refine blk_drewN ?_ _ | refine blk_drew ?_ | refine blk_alloc ?_ _)); exact BK209.out) hb); have n3_ := Aside0.mk (below_step (by repeat (first | (with_reducible first | exact HB.out | apply below_alloc | apply pw_below_drewN | apply below_drew1 | refine below_set ?_ GE209.out) | exact HB.out)) hb); clear HO_6; clear BK209; clear HB; have HO_6 := n0_; have HO261 := n1_; have BK209 := n2_; have HB := n3_; clear n0_ n1_ n2_ n3_; (try clear hb); (try clear hb2); (try clear hk); (try clear hi); (try clear ho0); obtain ⟨Ao68, co68, eo68⟩ := Kd.R_slice HO261.out; subst eo68) | ((with_reducible refine gate_builtin (b := .append) (xs := #[.tmp 87, .tmp 91]) rfl ?_); (try (refine gate_guard (by rfl) ?_; dsimp only)); at_builtin; refine Kd.R_append_rows (Kd.int .u8) (w0 := w) w.heap.size rfl (.tmp 87) (.tmp 91) 32 5 (.int .u8 0) 1 rfl Try.underlying32 info5 rfl (by decide) (by omega) u6 x6_5 t259 _ _ _ (fun k_ => some k_ ≠ (.slice Ao68 t259.length co68 : Value).ownBlock) (fun _ => False) rfl rfl ?aO ?aR (fun _ _ h => h) (fun _ h => h.elim) ?aF ?aB ?aS ?aL ?_; (case aR => repeat (first | exact (Kd.R_reads' HO261.out).2.2 | (with_reducible refine Kd.C_alloc ?_ _) | (with_reducible refine Kd.C_drewN ?_ _) | (with_reducible refine Kd.C_drew ?_))); (case aB => exact (by repeat (first | (with_reducible first | exact HB.out | apply below_alloc | apply pw_below_drewN | apply below_drew1 | refine below_set ?_ GE209.out) | exact HB.out))); (case aF => exact (fun k_ hk => Kd.fresh' (Kd.R_lt (by (with_reducible repeat (first | apply Kd.R_alloc | apply Kd.R_drewN | apply Kd.R_drew)); exact HO261.out)) k_ hk)); (case aO => exact (by (with_reducible repeat (first | apply Kd.R_alloc | apply Kd.R_drewN | apply Kd.R_drew)); exact Kd.R_mono HO_6.out (fun _ hk => hk.2))); (case aS => exact (below_size (by repeat (first | (with_reducible first | exact HB.out | apply below_alloc | apply pw_below_drewN | apply below_drew1 | refine below_set ?_ GE209.out) | exact HB.out)))); (case aL => have := LMc64.out; omega); intro v263 w67 ho hb hg hat; rw [← Ny262.out] at ho; have n0_ := Aside0.mk (blk_grown (g := gb209) (o := .cells #[.int .i32 a0_0, .slice A0_1 l0_1.length c0_1, .slice A0_2 l0_2.length c0_2, .int .u32 a0_3] 26 (0, 0)) (by (with_reducible repeat (first | refine blk_drewN ?_ _ | refine blk_drew ?_ | refine blk_alloc ?_ _)); exact BK209.out) hg (Kd.R_ne HO_6.out BK209.out (by decide))); have n1_ := Aside0.mk (Kd.R_after (ok := (fun _ => True)) (by (with_reducible repeat (first | apply Kd.R_alloc | apply Kd.R_drewN | apply Kd.R_drew)); exact HO261.out) hg hat); have n2_ := Aside0.mk (hb); have n3_ := Aside0.mk (ho); clear BK209; clear HO261; clear HB; clear HO_6; have BK209 := n0_; have HO261 := n1_; have HB := n2_; have HO264 := n3_; clear n0_ n1_ n2_ n3_; clear ho hb hg hat))
                                  go_ret
                                  exact ⟨_, by first | rfl | (simp [errW_none, errW_some] <;> rfl) | (simp [*, errW_none, errW_some] <;> rfl), by (with_reducible repeat (first | apply Kd.R_alloc | apply Kd.R_drewN | apply Kd.R_drew)); exact Kd.R_mono HO264.out (fun _ hk => trivial), by repeat (first | (with_reducible first | exact HB.out | apply below_alloc | apply pw_below_drewN | apply below_drew1 | refine below_set ?_ GE209.out) | exact HB.out)⟩
                                · rw [if_neg c64] at H
                                  exact absurd H (by simp)
                  · rw [if_neg c34] at H
                    exact absurd H (by simp)
          · rw [if_neg c20] at H
            exact absurd H (by simp)

end Go.Proofs.Ytdheoajaaofmbaa.QFnScriptPlaces
