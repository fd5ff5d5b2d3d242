/- Printed functions over contracts that were proved by hand. -/
import Derived.Test.YtdheoajaaofmbaaTx7
import Derived.Test.YtdheoajaaofmbaaTxP
namespace Go.Proofs.Ytdheoajaaofmbaa.QFnScriptPlaces
open Go.RowKit Go.Proofs.YtdheoajaaofmbaaW.PrintWords Go.Proofs.YtdheoajaaofmbaaW.PrintLast Go.Proofs.YtdheoajaaofmbaaW.PrintMore
attribute [local go_sem] nn_mod256 nn_mod65536 nn_mod32 max2_int min2_int max_two min_two max_three min_three max_four min_four   -- for this text's walks alone
set_option linter.unusedVariables false
set_option linter.unusedSimpArgs false
/-! ### laws_FnScriptPlaces: function 3 -/
mutual
def laws_FnScriptPlaces.j0 : Nat → Bool → Int → List (S35) → List (S41) → Int → Option (Bool)
  | 0, _, _, _, _, _ => none
  | k + 1, x25, x287000, x287001, x287002, x287003 => if x25 = true then (some true) else ((impl_ScriptPlaces.f x287000 x287001 x287002 x287003).bind fun t291 => ((spec_TxBytes.f k x287000 x287001 x287002 x287003 true).bind fun t294 => ((spec_ScriptPlaces.f k x287000 x287001 x287002 x287003).bind fun t297 => ((laws_sameInts.f k t291 t297).bind fun t300 => (if t300 = true then (laws_FnScriptPlaces.l0 k t291 t294 0 x287000 x287001 x287002 x287003) else (some false))))))
def laws_FnScriptPlaces.l0 : Nat → List Int → List Int → Int → Int → List (S35) → List (S41) → Int → Option (Bool)
  | 0, _, _, _, _, _, _, _ => none
  | k + 1, x3, x4, x5, x287000, x287001, x287002, x287003 => if x5 < (x3.length : Int) then (if 0 ≤ x5 then (if x5 < (x287002.length : Int) then (if (rd x3 x5) < 0 then (some false) else (if (wrap64 ((rd x3 x5) + (((rd_T41 x287002 x5).f1).length : Int))) > (x4.length : Int) then (some false) else (if 0 ≤ (rd x3 x5) then (if (rd x3 x5) ≤ (wrap64 ((rd x3 x5) + (((rd_T41 x287002 x5).f1).length : Int))) then (if (wrap64 ((rd x3 x5) + (((rd_T41 x287002 x5).f1).length : Int))) ≤ (x4.length : Int) then ((laws_same.f k ((x4.take ((wrap64 ((rd x3 x5) + (((rd_T41 x287002 x5).f1).length : Int))) : Int).toNat).drop ((rd x3 x5) : Int).toNat) ((rd_T41 x287002 x5).f1)).bind fun t310 => (if t310 = true then (laws_FnScriptPlaces.l0 k x3 x4 (wrap64 (x5 + 1)) x287000 x287001 x287002 x287003) else (some false))) else (none)) else (none)) else (none)))) else (none)) else (none)) else (some true)
end
def laws_FnScriptPlaces.f (k : Nat) (a0_0 : Int) (l0_1 : List (S35)) (l0_2 : List (S41)) (a0_3 : Int) : Option (Bool) := (laws_zzFits2.f k a0_0 l0_1 l0_2 a0_3).bind fun t287 => (if t287 = true then ((laws_txSize.f k a0_0 l0_1 l0_2 a0_3).bind fun t288 => (if t288 > 100000 then (laws_FnScriptPlaces.j0 k true a0_0 l0_1 l0_2 a0_3) else ((spec_HasWitness.f k a0_0 l0_1 l0_2 a0_3).bind fun t289 => (if t289 = true then (if 0 < (l0_1.length : Int) then (laws_FnScriptPlaces.j0 k ((((rd_T35 l0_1 0).f2).length : Int) == 0) a0_0 l0_1 l0_2 a0_3) else (none)) else (laws_FnScriptPlaces.j0 k false a0_0 l0_1 l0_2 a0_3))))) else (some true))
theorem laws_FnScriptPlaces.mono_l : ∀ k, (∀ y0 y1 y2 y3 y4, LeO (laws_FnScriptPlaces.j0 k y0 y1 y2 y3 y4) (laws_FnScriptPlaces.j0 (k + 1) y0 y1 y2 y3 y4)) ∧ (∀ y0 y1 y2 y3 y4 y5 y6, LeO (laws_FnScriptPlaces.l0 k y0 y1 y2 y3 y4 y5 y6) (laws_FnScriptPlaces.l0 (k + 1) y0 y1 y2 y3 y4 y5 y6))
  | 0 => ⟨fun _ _ _ _ _ r h => by simp [laws_FnScriptPlaces.j0] at h, fun _ _ _ _ _ _ _ r h => by simp [laws_FnScriptPlaces.l0] at h⟩
  | k + 1 => by
    obtain ⟨ih0, ih1⟩ := laws_FnScriptPlaces.mono_l k
    refine ⟨?_, ?_⟩
    · intro y0 y1 y2 y3 y4
      unfold laws_FnScriptPlaces.j0
      repeat' first
      | (with_reducible exact ih0 _ _ _ _ _)
      | (with_reducible exact ih1 _ _ _ _ _ _ _)
      | (with_reducible exact laws_same.mono _ _ _)
      | (with_reducible exact laws_sameInts.mono _ _ _)
      | (with_reducible exact laws_txSize.mono _ _ _ _ _)
      | (with_reducible exact laws_zzFits2.mono _ _ _ _ _)
      | (with_reducible exact spec_HasWitness.mono _ _ _ _ _)
      | (with_reducible exact spec_ScriptPlaces.mono _ _ _ _ _)
      | (with_reducible exact spec_TxBytes.mono _ _ _ _ _ _)
      | (with_reducible exact LeO.refl _)
      | (with_reducible exact LeO.none _)
      | (with_reducible refine LeO.ite ?_ ?_)
      | (with_reducible refine LeO.bind ?_ (fun _ => ?_))
      | exact ih0 _ _ _ _ _
      | exact ih1 _ _ _ _ _ _ _
      | exact laws_same.mono _ _ _
      | exact laws_sameInts.mono _ _ _
      | exact laws_txSize.mono _ _ _ _ _
      | exact laws_zzFits2.mono _ _ _ _ _
      | exact spec_HasWitness.mono _ _ _ _ _
      | exact spec_ScriptPlaces.mono _ _ _ _ _
      | exact spec_TxBytes.mono _ _ _ _ _ _
      | exact LeO.none _
      | refine LeO.ite ?_ ?_
      | refine LeO.bind ?_ (fun _ => ?_)
    · intro y0 y1 y2 y3 y4 y5 y6
      unfold laws_FnScriptPlaces.l0
      repeat' first
      | (with_reducible exact ih0 _ _ _ _ _)
      | (with_reducible exact ih1 _ _ _ _ _ _ _)
      | (with_reducible exact laws_same.mono _ _ _)
      | (with_reducible exact laws_sameInts.mono _ _ _)
      | (with_reducible exact laws_txSize.mono _ _ _ _ _)
      | (with_reducible exact laws_zzFits2.mono _ _ _ _ _)
      | (with_reducible exact spec_HasWitness.mono _ _ _ _ _)
      | (with_reducible exact spec_ScriptPlaces.mono _ _ _ _ _)
      | (with_reducible exact spec_TxBytes.mono _ _ _ _ _ _)
      | (with_reducible exact LeO.refl _)
      | (with_reducible exact LeO.none _)
      | (with_reducible refine LeO.ite ?_ ?_)
      | (with_reducible refine LeO.bind ?_ (fun _ => ?_))
      | exact ih0 _ _ _ _ _
      | exact ih1 _ _ _ _ _ _ _
      | exact laws_same.mono _ _ _
      | exact laws_sameInts.mono _ _ _
      | exact laws_txSize.mono _ _ _ _ _
      | exact laws_zzFits2.mono _ _ _ _ _
      | exact spec_HasWitness.mono _ _ _ _ _
      | exact spec_ScriptPlaces.mono _ _ _ _ _
      | exact spec_TxBytes.mono _ _ _ _ _ _
      | exact LeO.none _
      | refine LeO.ite ?_ ?_
      | refine LeO.bind ?_ (fun _ => ?_)
theorem laws_FnScriptPlaces.mono : ∀ a0 a1 a2 a3 k, LeO (laws_FnScriptPlaces.f k a0 a1 a2 a3) (laws_FnScriptPlaces.f (k + 1) a0 a1 a2 a3) := by
  intro a0 a1 a2 a3 k
  obtain ⟨ih0, ih1⟩ := laws_FnScriptPlaces.mono_l k
  unfold laws_FnScriptPlaces.f
  repeat' first
      | (with_reducible exact ih0 _ _ _ _ _)
      | (with_reducible exact ih1 _ _ _ _ _ _ _)
      | (with_reducible exact laws_same.mono _ _ _)
      | (with_reducible exact laws_sameInts.mono _ _ _)
      | (with_reducible exact laws_txSize.mono _ _ _ _ _)
      | (with_reducible exact laws_zzFits2.mono _ _ _ _ _)
      | (with_reducible exact spec_HasWitness.mono _ _ _ _ _)
      | (with_reducible exact spec_ScriptPlaces.mono _ _ _ _ _)
      | (with_reducible exact spec_TxBytes.mono _ _ _ _ _ _)
      | (with_reducible exact LeO.refl _)
      | (with_reducible exact LeO.none _)
      | (with_reducible refine LeO.ite ?_ ?_)
      | (with_reducible refine LeO.bind ?_ (fun _ => ?_))
      | exact ih0 _ _ _ _ _
      | exact ih1 _ _ _ _ _ _ _
      | exact laws_same.mono _ _ _
      | exact laws_sameInts.mono _ _ _
      | exact laws_txSize.mono _ _ _ _ _
      | exact laws_zzFits2.mono _ _ _ _ _
      | exact spec_HasWitness.mono _ _ _ _ _
      | exact spec_ScriptPlaces.mono _ _ _ _ _
      | exact spec_TxBytes.mono _ _ _ _ _ _
      | exact LeO.none _
      | refine LeO.ite ?_ ?_
      | refine LeO.bind ?_ (fun _ => ?_)
def laws_FnScriptPlaces.T13 : Bool × List (List Nat × List Nat) := (true, [([], []), ([], []), ([0, 1], [0, 1]), ([2], [2]), ([3], [3]), ([4], [4]), ([5], [5]), ([5], [5]), ([6, 7, 5], [5, 6, 7]), ([8, 5], [5, 8]), ([5], [5]), ([10, 5], [5, 10]), ([9, 11, 5], [5, 9, 11]), ([5], [5]), ([13, 5], [5, 13]), ([12, 14, 5], [5, 12, 14]), ([5, 15], [5, 15]), ([16, 5], [16]), ([17], [17]), ([17], [17]), ([17], [17]), ([19, 20, 17], [17, 19, 20]), ([21, 17], [17, 21]), ([17], [17]), ([17], [17]), ([23, 24, 17], [17, 23, 24]), ([25, 17], [17, 25]), ([17], [17]), ([27, 17], [17, 27]), ([26, 28, 17], [17, 26, 28]), ([18, 22, 29, 17], [17, 18, 22, 29]), ([17], [17]), ([30, 31, 17, 17], [17, 30, 31]), ([32, 17], [17, 32]), ([17, 33], [17, 33])])
def laws_FnScriptPlaces.B13 : List Nat := [0, 0, 3, 7, 15, 31, 63, 63, 255, 511, 63, 1087, 4095, 63, 8255, 32767, 65535, 131071, 262143, 262143, 262143, 1835007, 3932159, 262143, 262143, 25427967, 58982399, 262143, 134479871, 528744447, 1073741823, 262143, 4294967295, 8589934591, 17179869183]
theorem laws_FnScriptPlaces.tab13 : rtab .any (opsOf Try.f3 13) = laws_FnScriptPlaces.T13 := by kernel_rfl
theorem laws_FnScriptPlaces.bits13 : waitsOk laws_FnScriptPlaces.T13.2 laws_FnScriptPlaces.B13 = true := by kernel_rfl
set_option maxHeartbeats 8000000 in
set_option maxRecDepth 100000 in
theorem laws_FnScriptPlaces.calls (k : Nat) (a0_0 : Int) (A0_1 : Option Addr) (c0_1 : Nat) (l0_1 : List (S35)) (A0_2 : Option Addr) (c0_2 : Nat) (l0_2 : List (S41)) (a0_3 : Int) (r : Bool) (w : World) (hr0_1 : Kd.C k35 w A0_1 l0_1.length l0_1) (hc0_1 : l0_1.length ≤ c0_1) (hr0_2 : Kd.C k41 w A0_2 l0_2.length l0_2) (hc0_2 : l0_2.length ≤ c0_2) (h : laws_FnScriptPlaces.f k a0_0 l0_1 l0_2 a0_3 = some r) :
    Calls Try.prog 3 #[.agg #[.int .i32 a0_0, .slice A0_1 l0_1.length c0_1, .slice A0_2 l0_2.length c0_2, .int .u32 a0_3]] w fun e w' => e = .returned (.bool r) ∧ Below w.heap.size w w' := by
  have hu26 := Try.underlying26
  have HR0_1 := Aside0.mk hr0_1
  have HC0_1 := Aside0.mk hc0_1
  clear hr0_1 hc0_1
  have HR0_2 := Aside0.mk hr0_2
  have HC0_2 := Aside0.mk hc0_2
  clear hr0_2 hc0_2
  have HB := Aside0.mk (Below.refl w.heap.size w)
  have H : ((laws_zzFits2.f k a0_0 l0_1 l0_2 a0_3).bind fun t287 => (if t287 = true then ((laws_txSize.f k a0_0 l0_1 l0_2 a0_3).bind fun t288 => (if t288 > 100000 then (laws_FnScriptPlaces.j0 k true a0_0 l0_1 l0_2 a0_3) else ((spec_HasWitness.f k a0_0 l0_1 l0_2 a0_3).bind fun t289 => (if t289 = true then (if 0 < (l0_1.length : Int) then (laws_FnScriptPlaces.j0 k ((((rd_T35 l0_1 0).f2).length : Int) == 0) a0_0 l0_1 l0_2 a0_3) else (none)) else (laws_FnScriptPlaces.j0 k false a0_0 l0_1 l0_2 a0_3))))) else (some true))) = some r := h
  clear h
  replace H := Option.bind_eq_some_iff.mp H
  obtain ⟨t287, A20, H⟩ := H
  replace H : (if t287 = true then ((laws_txSize.f k a0_0 l0_1 l0_2 a0_3).bind fun t288 => (if t288 > 100000 then (laws_FnScriptPlaces.j0 k true a0_0 l0_1 l0_2 a0_3) else ((spec_HasWitness.f k a0_0 l0_1 l0_2 a0_3).bind fun t289 => (if t289 = true then (if 0 < (l0_1.length : Int) then (laws_FnScriptPlaces.j0 k ((((rd_T35 l0_1 0).f2).length : Int) == 0) a0_0 l0_1 l0_2 a0_3) else (none)) else (laws_FnScriptPlaces.j0 k false a0_0 l0_1 l0_2 a0_3))))) else (some true)) = some r := H
  have A2 := Aside0.mk A20
  clear A20
  by_cases c3 : t287 = true
  · subst c3
    have H1 : ((laws_txSize.f k a0_0 l0_1 l0_2 a0_3).bind fun t288 => (if t288 > 100000 then (laws_FnScriptPlaces.j0 k true a0_0 l0_1 l0_2 a0_3) else ((spec_HasWitness.f k a0_0 l0_1 l0_2 a0_3).bind fun t289 => (if t289 = true then (if 0 < (l0_1.length : Int) then (laws_FnScriptPlaces.j0 k ((((rd_T35 l0_1 0).f2).length : Int) == 0) a0_0 l0_1 l0_2 a0_3) else (none)) else (laws_FnScriptPlaces.j0 k false a0_0 l0_1 l0_2 a0_3))))) = some r := by rw [if_pos rfl] at H; exact H
    clear H
    have H := H1
    clear H1
    have HC4 := Aside0.mk H
    clear H
    go_enter Try.func3, Try.ntmps3
    go_upto_region 3 with (first | ((with_reducible refine gate_dst (N := 1) rfl ?_); (try (refine gate_guard (by rfl) ?_; dsimp only)); refine box_event ?hg (N := 1) ?hd (cs := #[.int .i32 a0_0, .slice A0_1 l0_1.length c0_1, .slice A0_2 l0_2.length c0_2, .int .u32 a0_3]) (t := 26) ?hr ?_; (case hd => rfl); (case hg => rfl); (case hr => first | (go_simp; done) | (go_simp; rfl)); intro gb286 hg w5 hbox hb; have n0_ := Aside0.mk (below_step (by repeat (first | (with_reducible first | exact HB.out | apply below_alloc | apply pw_below_drewN | apply below_drew1) | exact HB.out)) hb); have n1_ := Aside0.mk (hbox); have n2_ := Aside0.mk ((by rw [hg]; exact (below_size (by repeat (first | (with_reducible first | exact HB.out | apply below_alloc | apply pw_below_drewN | apply below_drew1) | exact HB.out))) : w.heap.size ≤ gb286)); have n3_ := Aside0.mk ((by rw [hg]; exact (below_size (by repeat (first | (with_reducible first | exact HB.out | apply below_alloc | apply pw_below_drewN | apply below_drew1) | exact HB.out))) : w.heap.size ≤ gb286)); clear HB; have HB := n0_; have BK286 := n1_; have GW286 := n2_; have GE286 := n3_; clear n0_ n1_ n2_ n3_; clear hb hbox hg; have hcz6_0 : w5.cell? ⟨gb286, 0, none⟩ = some (.int .i32 a0_0) := (blk_cell BK286.out 0).trans rfl; have hcz6_1 : w5.cell? ⟨gb286, 1, none⟩ = some (.slice A0_1 l0_1.length c0_1) := (blk_cell BK286.out 1).trans rfl; have hcz6_2 : w5.cell? ⟨gb286, 2, none⟩ = some (.slice A0_2 l0_2.length c0_2) := (blk_cell BK286.out 2).trans rfl; have hcz6_3 : w5.cell? ⟨gb286, 3, none⟩ = some (.int .u32 a0_3) := (blk_cell BK286.out 3).trans rfl; have hfz6_0 := blk_frozen BK286.out 0; have hfz6_1 := blk_frozen BK286.out 1; have hfz6_2 := blk_frozen BK286.out 2; have hfz6_3 := blk_frozen BK286.out 3) | ((with_reducible refine gate_callee (f := 6) rfl ?_); refine goesL_ (some 8) rfl rfl Try.func6 (by kernel_rfl) rfl #[.agg #[.int .i32 a0_0, .slice A0_1 l0_1.length c0_1, .slice A0_2 l0_2.length c0_2, .int .u32 a0_3]] rfl (by (try simp only [List.map_toArray, List.map_cons, List.map_nil]); first | done | rfl | (simp only [List.length_drop, List.length_take]; rfl)) ?_; (with_reducible refine (laws_zzFits2.calls k a0_0 _ _ l0_1 _ _ l0_2 a0_3 true _ ?side1 ?side2 ?side3 ?side4 A2.out).mono ?_); (case side1 => repeat (first | exact (Kd.C_below HR0_1.out HB.out) | (with_reducible refine Kd.C_alloc ?_ _) | (with_reducible refine Kd.C_drewN ?_ _) | (with_reducible refine Kd.C_drew ?_))); (case side2 => exact HC0_1.out); (case side3 => repeat (first | exact (Kd.C_below HR0_2.out HB.out) | (with_reducible refine Kd.C_alloc ?_ _) | (with_reducible refine Kd.C_drewN ?_ _) | (with_reducible refine Kd.C_drew ?_))); (case side4 => exact HC0_2.out); rintro e w7 ⟨rfl, hb⟩; refine ⟨_, rfl, ?_⟩; have n0_ := Aside0.mk (blk_below (g := gb286) (o := .cells #[.int .i32 a0_0, .slice A0_1 l0_1.length c0_1, .slice A0_2 l0_2.length c0_2, .int .u32 a0_3] 26 (0, 0)) (by (with_reducible repeat (first | refine blk_drewN ?_ _ | refine blk_drew ?_ | refine blk_alloc ?_ _)); exact BK286.out) hb); have n1_ := Aside0.mk (below_step (by repeat (first | (with_reducible first | exact HB.out | apply below_alloc | apply pw_below_drewN | apply below_drew1 | refine below_set ?_ GE286.out) | exact HB.out)) hb); clear BK286; clear HB; have BK286 := n0_; have HB := n1_; clear n0_ n1_; (try clear hb); (try clear hb2); (try clear hk); (try clear hi)))
    (try simp only [Act.put, List.setIfInBounds_toArray, List.set_cons_zero, List.set_cons_succ])
    go_cut [25] (fun v25 wc => ∃ (kq : Nat) (x25_3 : Bool), v25 = .bool x25_3 ∧ Aside0 (laws_FnScriptPlaces.j0 kq x25_3 a0_0 l0_1 l0_2 a0_3 = some r) ∧ Aside0 (kq ≤ k) ∧ Aside0 (wc.heap[gb286]? = some (.cells #[.int .i32 a0_0, (.slice A0_1 l0_1.length c0_1), (.slice A0_2 l0_2.length c0_2), .int .u32 a0_3] 26 (0, 0))) ∧ Aside0 (Below w.heap.size w wc))
    case first =>
      have H := HC4.out
      clear HC4
      replace H := Option.bind_eq_some_iff.mp H
      obtain ⟨t288, A80, H⟩ := H
      replace H : (if t288 > 100000 then (laws_FnScriptPlaces.j0 k true a0_0 l0_1 l0_2 a0_3) else ((spec_HasWitness.f k a0_0 l0_1 l0_2 a0_3).bind fun t289 => (if t289 = true then (if 0 < (l0_1.length : Int) then (laws_FnScriptPlaces.j0 k ((((rd_T35 l0_1 0).f2).length : Int) == 0) a0_0 l0_1 l0_2 a0_3) else (none)) else (laws_FnScriptPlaces.j0 k false a0_0 l0_1 l0_2 a0_3)))) = some r := H
      have A8 := Aside0.mk A80
      clear A80
      by_cases c9 : t288 > 100000
      · rw [if_pos c9] at H
        have c9b0 : decide (100000 < t288) = true := decide_eq_true c9
        clear c9
        (first | rw [c9b0] | (simp only [i64_w, i32_w]; rw [c9b0]) | skip)
        have H' := Aside0.mk H
        clear H
        have hcz10_0 : w7.cell? ⟨gb286, 0, none⟩ = some (.int .i32 a0_0) := (blk_cell BK286.out 0).trans rfl
        have hcz10_1 : w7.cell? ⟨gb286, 1, none⟩ = some (.slice A0_1 l0_1.length c0_1) := (blk_cell BK286.out 1).trans rfl
        have hcz10_2 : w7.cell? ⟨gb286, 2, none⟩ = some (.slice A0_2 l0_2.length c0_2) := (blk_cell BK286.out 2).trans rfl
        have hcz10_3 : w7.cell? ⟨gb286, 3, none⟩ = some (.int .u32 a0_3) := (blk_cell BK286.out 3).trans rfl
        have hfz10_0 := blk_frozen BK286.out 0
        have hfz10_1 := blk_frozen BK286.out 1
        have hfz10_2 := blk_frozen BK286.out 2
        have hfz10_3 := blk_frozen BK286.out 3
        go_wp2_with (first | ((with_reducible refine gate_callee (f := 7) rfl ?_); refine goesL_ (some 11) rfl rfl Try.func7 (by kernel_rfl) rfl #[.agg #[.int .i32 a0_0, .slice A0_1 l0_1.length c0_1, .slice A0_2 l0_2.length c0_2, .int .u32 a0_3]] rfl (by (try simp only [List.map_toArray, List.map_cons, List.map_nil]); first | done | rfl | (simp only [List.length_drop, List.length_take]; rfl)) ?_; (with_reducible refine (laws_txSize.calls k a0_0 _ _ l0_1 _ _ l0_2 a0_3 t288 _ ?side1 ?side2 ?side3 ?side4 A8.out).mono ?_); (case side1 => repeat (first | exact (Kd.C_below HR0_1.out HB.out) | (with_reducible refine Kd.C_alloc ?_ _) | (with_reducible refine Kd.C_drewN ?_ _) | (with_reducible refine Kd.C_drew ?_))); (case side2 => exact HC0_1.out); (case side3 => repeat (first | exact (Kd.C_below HR0_2.out HB.out) | (with_reducible refine Kd.C_alloc ?_ _) | (with_reducible refine Kd.C_drewN ?_ _) | (with_reducible refine Kd.C_drew ?_))); (case side4 => exact HC0_2.out); rintro e w11 ⟨rfl, hb⟩; refine ⟨_, rfl, ?_⟩; have n0_ := Aside0.mk (blk_below (g := gb286) (o := .cells #[.int .i32 a0_0, .slice A0_1 l0_1.length c0_1, .slice A0_2 l0_2.length c0_2, .int .u32 a0_3] 26 (0, 0)) (by (with_reducible repeat (first | refine blk_drewN ?_ _ | refine blk_drew ?_ | refine blk_alloc ?_ _)); exact BK286.out) hb); have n1_ := Aside0.mk (below_step (by repeat (first | (with_reducible first | exact HB.out | apply below_alloc | apply pw_below_drewN | apply below_drew1 | refine below_set ?_ GE286.out) | exact HB.out)) hb); clear BK286; clear HB; have BK286 := n0_; have HB := n1_; clear n0_ n1_; (try clear hb); (try clear hb2); (try clear hk); (try clear hi)))
        go_meet
        case rel => exact ⟨_, (true), (by first | rfl | (simp; done) | (simp [*]; done)), (by first | exact H' | (subst_vars; exact H')), ⟨by first | omega | exact Nat.le_refl _⟩, ⟨by (with_reducible repeat (first | refine blk_drewN ?_ _ | refine blk_drew ?_ | refine blk_alloc ?_ _)); exact BK286.out⟩, ⟨by repeat (first | (with_reducible first | exact HB.out | apply below_alloc | apply pw_below_drewN | apply below_drew1 | refine below_set ?_ GE286.out) | exact HB.out)⟩⟩
      · rw [if_neg c9] at H
        have c9b0 : decide (100000 < t288) = false := decide_eq_false c9
        clear c9
        (first | rw [c9b0] | (simp only [i64_w, i32_w]; rw [c9b0]) | skip)
        replace H := Option.bind_eq_some_iff.mp H
        obtain ⟨t289, A120, H⟩ := H
        replace H : (if t289 = true then (if 0 < (l0_1.length : Int) then (laws_FnScriptPlaces.j0 k ((((rd_T35 l0_1 0).f2).length : Int) == 0) a0_0 l0_1 l0_2 a0_3) else (none)) else (laws_FnScriptPlaces.j0 k false a0_0 l0_1 l0_2 a0_3)) = some r := H
        have A12 := Aside0.mk A120
        clear A120
        by_cases c13 : t289 = true
        · subst c13
          have H1 : (if 0 < (l0_1.length : Int) then (laws_FnScriptPlaces.j0 k ((((rd_T35 l0_1 0).f2).length : Int) == 0) a0_0 l0_1 l0_2 a0_3) else (none)) = some r := by rw [if_pos rfl] at H; exact H
          clear H
          have H := H1
          clear H1
          by_cases c14 : 0 < (l0_1.length : Int)
          · rw [if_pos c14] at H
            have c14b0 : decide (0 < (l0_1.length : Int)) = true := decide_eq_true c14
            have c14b1 : decide (0 < l0_1.length) = true := decide_eq_true (by omega)
            clear c14
            have H' := Aside0.mk H
            clear H
            have hcz15_0 : w7.cell? ⟨gb286, 0, none⟩ = some (.int .i32 a0_0) := (blk_cell BK286.out 0).trans rfl
            have hcz15_1 : w7.cell? ⟨gb286, 1, none⟩ = some (.slice A0_1 l0_1.length c0_1) := (blk_cell BK286.out 1).trans rfl
            have hcz15_2 : w7.cell? ⟨gb286, 2, none⟩ = some (.slice A0_2 l0_2.length c0_2) := (blk_cell BK286.out 2).trans rfl
            have hcz15_3 : w7.cell? ⟨gb286, 3, none⟩ = some (.int .u32 a0_3) := (blk_cell BK286.out 3).trans rfl
            have hfz15_0 := blk_frozen BK286.out 0
            have hfz15_1 := blk_frozen BK286.out 1
            have hfz15_2 := blk_frozen BK286.out 2
            have hfz15_3 := blk_frozen BK286.out 3
            go_wp2_with (first | ((with_reducible refine gate_callee (f := 7) rfl ?_); refine goesL_ (some 11) rfl rfl Try.func7 (by kernel_rfl) rfl #[.agg #[.int .i32 a0_0, .slice A0_1 l0_1.length c0_1, .slice A0_2 l0_2.length c0_2, .int .u32 a0_3]] rfl (by (try simp only [List.map_toArray, List.map_cons, List.map_nil]); first | done | rfl | (simp only [List.length_drop, List.length_take]; rfl)) ?_; (with_reducible refine (laws_txSize.calls k a0_0 _ _ l0_1 _ _ l0_2 a0_3 t288 _ ?side1 ?side2 ?side3 ?side4 A8.out).mono ?_); (case side1 => repeat (first | exact (Kd.C_below HR0_1.out HB.out) | (with_reducible refine Kd.C_alloc ?_ _) | (with_reducible refine Kd.C_drewN ?_ _) | (with_reducible refine Kd.C_drew ?_))); (case side2 => exact HC0_1.out); (case side3 => repeat (first | exact (Kd.C_below HR0_2.out HB.out) | (with_reducible refine Kd.C_alloc ?_ _) | (with_reducible refine Kd.C_drewN ?_ _) | (with_reducible refine Kd.C_drew ?_))); (case side4 => exact HC0_2.out); rintro e w16 ⟨rfl, hb⟩; refine ⟨_, rfl, ?_⟩; have n0_ := Aside0.mk (blk_below (g := gb286) (o := .cells #[.int .i32 a0_0, .slice A0_1 l0_1.length c0_1, .slice A0_2 l0_2.length c0_2, .int .u32 a0_3] 26 (0, 0)) (by (with_reducible repeat (first | refine blk_drewN ?_ _ | refine blk_drew ?_ | refine blk_alloc ?_ _)); exact BK286.out) hb); have n1_ := Aside0.mk (below_step (by repeat (first | (with_reducible first | exact HB.out | apply below_alloc | apply pw_below_drewN | apply below_drew1 | refine below_set ?_ GE286.out) | exact HB.out)) hb); clear BK286; clear HB; have BK286 := n0_; have HB := n1_; clear n0_ n1_; (try clear hb); (try clear hb2); (try clear hk); (try clear hi); have hcz17_0 : w16.cell? ⟨gb286, 0, none⟩ = some (.int .i32 a0_0) := (blk_cell BK286.out 0).trans rfl; have hcz17_1 : w16.cell? ⟨gb286, 1, none⟩ = some (.slice A0_1 l0_1.length c0_1) := (blk_cell BK286.out 1).trans rfl; have hcz17_2 : w16.cell? ⟨gb286, 2, none⟩ = some (.slice A0_2 l0_2.length c0_2) := (blk_cell BK286.out 2).trans rfl; have hcz17_3 : w16.cell? ⟨gb286, 3, none⟩ = some (.int .u32 a0_3) := (blk_cell BK286.out 3).trans rfl; have hfz17_0 := blk_frozen BK286.out 0; have hfz17_1 := blk_frozen BK286.out 1; have hfz17_2 := blk_frozen BK286.out 2; have hfz17_3 := blk_frozen BK286.out 3) | (go_at_call 8; (with_reducible refine (spec_HasWitness.calls k a0_0 _ _ l0_1 _ _ l0_2 a0_3 true _ ?side1 ?side2 ?side3 ?side4 A12.out).mono ?_); (case side1 => repeat (first | exact (Kd.C_below HR0_1.out HB.out) | (with_reducible refine Kd.C_alloc ?_ _) | (with_reducible refine Kd.C_drewN ?_ _) | (with_reducible refine Kd.C_drew ?_))); (case side2 => exact HC0_1.out); (case side3 => repeat (first | exact (Kd.C_below HR0_2.out HB.out) | (with_reducible refine Kd.C_alloc ?_ _) | (with_reducible refine Kd.C_drewN ?_ _) | (with_reducible refine Kd.C_drew ?_))); (case side4 => exact HC0_2.out); rintro e w18 ⟨rfl, hb⟩; have n0_ := Aside0.mk (blk_below (g := gb286) (o := .cells #[.int .i32 a0_0, .slice A0_1 l0_1.length c0_1, .slice A0_2 l0_2.length c0_2, .int .u32 a0_3] 26 (0, 0)) (by (with_reducible repeat (first | refine blk_drewN ?_ _ | refine blk_drew ?_ | refine blk_alloc ?_ _)); exact BK286.out) hb); have n1_ := Aside0.mk (below_step (by repeat (first | (with_reducible first | exact HB.out | apply below_alloc | apply pw_below_drewN | apply below_drew1 | refine below_set ?_ GE286.out) | exact HB.out)) hb); clear BK286; clear HB; have BK286 := n0_; have HB := n1_; clear n0_ n1_; (try clear hb); (try clear hb2); (try clear hk); (try clear hi); have hcz19_0 : w18.cell? ⟨gb286, 0, none⟩ = some (.int .i32 a0_0) := (blk_cell BK286.out 0).trans rfl; have hcz19_1 : w18.cell? ⟨gb286, 1, none⟩ = some (.slice A0_1 l0_1.length c0_1) := (blk_cell BK286.out 1).trans rfl; have hcz19_2 : w18.cell? ⟨gb286, 2, none⟩ = some (.slice A0_2 l0_2.length c0_2) := (blk_cell BK286.out 2).trans rfl; have hcz19_3 : w18.cell? ⟨gb286, 3, none⟩ = some (.int .u32 a0_3) := (blk_cell BK286.out 3).trans rfl; have hfz19_0 := blk_frozen BK286.out 0; have hfz19_1 := blk_frozen BK286.out 1; have hfz19_2 := blk_frozen BK286.out 2; have hfz19_3 := blk_frozen BK286.out 3; have p290 : 0 ≤ (0 : Int) := (by omega); have q290 : 0 < (l0_1.length : Int) := of_decide_eq_true (by first | (with_reducible assumption) | assumption); obtain ⟨ad290, A290_33, c290_33, A290_34, c290_34, e290, hx290_32, hx290_33, hx290_34, hx290_35, hl290_33, hi290_33, hl290_34, hi290_34⟩ := at_T35 HR0_1.out 0 p290 q290; cases e290; have qi290 : (0 < l0_1.length) = True := eq_true (by omega); (try rw [show ((0 : Int)).toNat = 0 from rfl] at hx290_0); (try rw [show 0 * 36 = 0 from rfl] at hx290_0); (try rw [Addr.add_zero'] at hx290_0); (try rw [show ((0 : Int)).toNat = 0 from rfl] at hx290_1); (try rw [show 0 * 36 = 0 from rfl] at hx290_1); (try rw [Addr.add_zero'] at hx290_1); (try rw [show ((0 : Int)).toNat = 0 from rfl] at hx290_2); (try rw [show 0 * 36 = 0 from rfl] at hx290_2); (try rw [Addr.add_zero'] at hx290_2); (try rw [show ((0 : Int)).toNat = 0 from rfl] at hx290_3); (try rw [show 0 * 36 = 0 from rfl] at hx290_3); (try rw [Addr.add_zero'] at hx290_3); (try rw [show ((0 : Int)).toNat = 0 from rfl] at hx290_4); (try rw [show 0 * 36 = 0 from rfl] at hx290_4); (try rw [Addr.add_zero'] at hx290_4); (try rw [show ((0 : Int)).toNat = 0 from rfl] at hx290_5); (try rw [show 0 * 36 = 0 from rfl] at hx290_5); (try rw [Addr.add_zero'] at hx290_5); (try rw [show ((0 : Int)).toNat = 0 from rfl] at hx290_6); (try rw [show 0 * 36 = 0 from rfl] at hx290_6); (try rw [Addr.add_zero'] at hx290_6); (try rw [show ((0 : Int)).toNat = 0 from rfl] at hx290_7); (try rw [show 0 * 36 = 0 from rfl] at hx290_7); (try rw [Addr.add_zero'] at hx290_7); (try rw [show ((0 : Int)).toNat = 0 from rfl] at hx290_8); (try rw [show 0 * 36 = 0 from rfl] at hx290_8); (try rw [Addr.add_zero'] at hx290_8); (try rw [show ((0 : Int)).toNat = 0 from rfl] at hx290_9); (try rw [show 0 * 36 = 0 from rfl] at hx290_9); (try rw [Addr.add_zero'] at hx290_9); (try rw [show ((0 : Int)).toNat = 0 from rfl] at hx290_10); (try rw [show 0 * 36 = 0 from rfl] at hx290_10); (try rw [Addr.add_zero'] at hx290_10); (try rw [show ((0 : Int)).toNat = 0 from rfl] at hx290_11); (try rw [show 0 * 36 = 0 from rfl] at hx290_11); (try rw [Addr.add_zero'] at hx290_11); (try rw [show ((0 : Int)).toNat = 0 from rfl] at hx290_12); (try rw [show 0 * 36 = 0 from rfl] at hx290_12); (try rw [Addr.add_zero'] at hx290_12); (try rw [show ((0 : Int)).toNat = 0 from rfl] at hx290_13); (try rw [show 0 * 36 = 0 from rfl] at hx290_13); (try rw [Addr.add_zero'] at hx290_13); (try rw [show ((0 : Int)).toNat = 0 from rfl] at hx290_14); (try rw [show 0 * 36 = 0 from rfl] at hx290_14); (try rw [Addr.add_zero'] at hx290_14); (try rw [show ((0 : Int)).toNat = 0 from rfl] at hx290_15); (try rw [show 0 * 36 = 0 from rfl] at hx290_15); (try rw [Addr.add_zero'] at hx290_15); (try rw [show ((0 : Int)).toNat = 0 from rfl] at hx290_16); (try rw [show 0 * 36 = 0 from rfl] at hx290_16); (try rw [Addr.add_zero'] at hx290_16); (try rw [show ((0 : Int)).toNat = 0 from rfl] at hx290_17); (try rw [show 0 * 36 = 0 from rfl] at hx290_17); (try rw [Addr.add_zero'] at hx290_17); (try rw [show ((0 : Int)).toNat = 0 from rfl] at hx290_18); (try rw [show 0 * 36 = 0 from rfl] at hx290_18); (try rw [Addr.add_zero'] at hx290_18); (try rw [show ((0 : Int)).toNat = 0 from rfl] at hx290_19); (try rw [show 0 * 36 = 0 from rfl] at hx290_19); (try rw [Addr.add_zero'] at hx290_19); (try rw [show ((0 : Int)).toNat = 0 from rfl] at hx290_20); (try rw [show 0 * 36 = 0 from rfl] at hx290_20); (try rw [Addr.add_zero'] at hx290_20); (try rw [show ((0 : Int)).toNat = 0 from rfl] at hx290_21); (try rw [show 0 * 36 = 0 from rfl] at hx290_21); (try rw [Addr.add_zero'] at hx290_21); (try rw [show ((0 : Int)).toNat = 0 from rfl] at hx290_22); (try rw [show 0 * 36 = 0 from rfl] at hx290_22); (try rw [Addr.add_zero'] at hx290_22); (try rw [show ((0 : Int)).toNat = 0 from rfl] at hx290_23); (try rw [show 0 * 36 = 0 from rfl] at hx290_23); (try rw [Addr.add_zero'] at hx290_23); (try rw [show ((0 : Int)).toNat = 0 from rfl] at hx290_24); (try rw [show 0 * 36 = 0 from rfl] at hx290_24); (try rw [Addr.add_zero'] at hx290_24); (try rw [show ((0 : Int)).toNat = 0 from rfl] at hx290_25); (try rw [show 0 * 36 = 0 from rfl] at hx290_25); (try rw [Addr.add_zero'] at hx290_25); (try rw [show ((0 : Int)).toNat = 0 from rfl] at hx290_26); (try rw [show 0 * 36 = 0 from rfl] at hx290_26); (try rw [Addr.add_zero'] at hx290_26); (try rw [show ((0 : Int)).toNat = 0 from rfl] at hx290_27); (try rw [show 0 * 36 = 0 from rfl] at hx290_27); (try rw [Addr.add_zero'] at hx290_27); (try rw [show ((0 : Int)).toNat = 0 from rfl] at hx290_28); (try rw [show 0 * 36 = 0 from rfl] at hx290_28); (try rw [Addr.add_zero'] at hx290_28); (try rw [show ((0 : Int)).toNat = 0 from rfl] at hx290_29); (try rw [show 0 * 36 = 0 from rfl] at hx290_29); (try rw [Addr.add_zero'] at hx290_29); (try rw [show ((0 : Int)).toNat = 0 from rfl] at hx290_30); (try rw [show 0 * 36 = 0 from rfl] at hx290_30); (try rw [Addr.add_zero'] at hx290_30); (try rw [show ((0 : Int)).toNat = 0 from rfl] at hx290_31); (try rw [show 0 * 36 = 0 from rfl] at hx290_31); (try rw [Addr.add_zero'] at hx290_31); (try rw [show ((0 : Int)).toNat = 0 from rfl] at hx290_32); (try rw [show 0 * 36 = 0 from rfl] at hx290_32); (try rw [Addr.add_zero'] at hx290_32); (try rw [show ((0 : Int)).toNat = 0 from rfl] at hx290_33); (try rw [show 0 * 36 = 0 from rfl] at hx290_33); (try rw [Addr.add_zero'] at hx290_33); (try rw [show ((0 : Int)).toNat = 0 from rfl] at hx290_34); (try rw [show 0 * 36 = 0 from rfl] at hx290_34); (try rw [Addr.add_zero'] at hx290_34); (try rw [show ((0 : Int)).toNat = 0 from rfl] at hx290_35); (try rw [show 0 * 36 = 0 from rfl] at hx290_35); (try rw [Addr.add_zero'] at hx290_35); replace hx290_32 := (HB.out.cell (World.block_lt_of_cell? w _ hx290_32)).trans hx290_32; replace hx290_33 := (HB.out.cell (World.block_lt_of_cell? w _ hx290_33)).trans hx290_33; replace hx290_34 := (HB.out.cell (World.block_lt_of_cell? w _ hx290_34)).trans hx290_34; replace hx290_35 := (HB.out.cell (World.block_lt_of_cell? w _ hx290_35)).trans hx290_35; have HR290_33 := Aside0.mk hi290_33; have HC290_33 := Aside0.mk hl290_33; clear hi290_33 hl290_33; have HR290_34 := Aside0.mk hi290_34; have HC290_34 := Aside0.mk hl290_34; clear hi290_34 hl290_34; replace p290 := eq_true p290; replace q290 := eq_true q290))
            go_meet
            case rel => exact ⟨_, (((((rd_T35 l0_1 0).f2).length : Int) == 0)), (by first | rfl | (simp; done) | (simp [*]; done)), (by first | exact H' | (subst_vars; exact H')), ⟨by first | omega | exact Nat.le_refl _⟩, ⟨by (with_reducible repeat (first | refine blk_drewN ?_ _ | refine blk_drew ?_ | refine blk_alloc ?_ _)); exact BK286.out⟩, ⟨by repeat (first | (with_reducible first | exact HB.out | apply below_alloc | apply pw_below_drewN | apply below_drew1 | refine below_set ?_ GE286.out) | exact HB.out)⟩⟩
          · rw [if_neg c14] at H
            exact absurd H (by simp)
        · replace c13 := Bool.eq_false_iff.mpr c13
          subst c13
          have H1 : (laws_FnScriptPlaces.j0 k false a0_0 l0_1 l0_2 a0_3) = some r := by rw [if_neg (show ¬ (false = true) by decide)] at H; exact H
          clear H
          have H := H1
          clear H1
          have H' := Aside0.mk H
          clear H
          have hcz20_0 : w7.cell? ⟨gb286, 0, none⟩ = some (.int .i32 a0_0) := (blk_cell BK286.out 0).trans rfl
          have hcz20_1 : w7.cell? ⟨gb286, 1, none⟩ = some (.slice A0_1 l0_1.length c0_1) := (blk_cell BK286.out 1).trans rfl
          have hcz20_2 : w7.cell? ⟨gb286, 2, none⟩ = some (.slice A0_2 l0_2.length c0_2) := (blk_cell BK286.out 2).trans rfl
          have hcz20_3 : w7.cell? ⟨gb286, 3, none⟩ = some (.int .u32 a0_3) := (blk_cell BK286.out 3).trans rfl
          have hfz20_0 := blk_frozen BK286.out 0
          have hfz20_1 := blk_frozen BK286.out 1
          have hfz20_2 := blk_frozen BK286.out 2
          have hfz20_3 := blk_frozen BK286.out 3
          go_wp2_with (first | ((with_reducible refine gate_callee (f := 7) rfl ?_); refine goesL_ (some 11) rfl rfl Try.func7 (by kernel_rfl) rfl #[.agg #[.int .i32 a0_0, .slice A0_1 l0_1.length c0_1, .slice A0_2 l0_2.length c0_2, .int .u32 a0_3]] rfl (by (try simp only [List.map_toArray, List.map_cons, List.map_nil]); first | done | rfl | (simp only [List.length_drop, List.length_take]; rfl)) ?_; (with_reducible refine (laws_txSize.calls k a0_0 _ _ l0_1 _ _ l0_2 a0_3 t288 _ ?side1 ?side2 ?side3 ?side4 A8.out).mono ?_); (case side1 => repeat (first | exact (Kd.C_below HR0_1.out HB.out) | (with_reducible refine Kd.C_alloc ?_ _) | (with_reducible refine Kd.C_drewN ?_ _) | (with_reducible refine Kd.C_drew ?_))); (case side2 => exact HC0_1.out); (case side3 => repeat (first | exact (Kd.C_below HR0_2.out HB.out) | (with_reducible refine Kd.C_alloc ?_ _) | (with_reducible refine Kd.C_drewN ?_ _) | (with_reducible refine Kd.C_drew ?_))); (case side4 => exact HC0_2.out); rintro e w21 ⟨rfl, hb⟩; refine ⟨_, rfl, ?_⟩; have n0_ := Aside0.mk (blk_below (g := gb286) (o := .cells #[.int .i32 a0_0, .slice A0_1 l0_1.length c0_1, .slice A0_2 l0_2.length c0_2, .int .u32 a0_3] 26 (0, 0)) (by (with_reducible repeat (first | refine blk_drewN ?_ _ | refine blk_drew ?_ | refine blk_alloc ?_ _)); exact BK286.out) hb); have n1_ := Aside0.mk (below_step (by repeat (first | (with_reducible first | exact HB.out | apply below_alloc | apply pw_below_drewN | apply below_drew1 | refine below_set ?_ GE286.out) | exact HB.out)) hb); clear BK286; clear HB; have BK286 := n0_; have HB := n1_; clear n0_ n1_; (try clear hb); (try clear hb2); (try clear hk); (try clear hi); have hcz22_0 : w21.cell? ⟨gb286, 0, none⟩ = some (.int .i32 a0_0) := (blk_cell BK286.out 0).trans rfl; have hcz22_1 : w21.cell? ⟨gb286, 1, none⟩ = some (.slice A0_1 l0_1.length c0_1) := (blk_cell BK286.out 1).trans rfl; have hcz22_2 : w21.cell? ⟨gb286, 2, none⟩ = some (.slice A0_2 l0_2.length c0_2) := (blk_cell BK286.out 2).trans rfl; have hcz22_3 : w21.cell? ⟨gb286, 3, none⟩ = some (.int .u32 a0_3) := (blk_cell BK286.out 3).trans rfl; have hfz22_0 := blk_frozen BK286.out 0; have hfz22_1 := blk_frozen BK286.out 1; have hfz22_2 := blk_frozen BK286.out 2; have hfz22_3 := blk_frozen BK286.out 3) | (go_at_call 8; (with_reducible refine (spec_HasWitness.calls k a0_0 _ _ l0_1 _ _ l0_2 a0_3 false _ ?side1 ?side2 ?side3 ?side4 A12.out).mono ?_); (case side1 => repeat (first | exact (Kd.C_below HR0_1.out HB.out) | (with_reducible refine Kd.C_alloc ?_ _) | (with_reducible refine Kd.C_drewN ?_ _) | (with_reducible refine Kd.C_drew ?_))); (case side2 => exact HC0_1.out); (case side3 => repeat (first | exact (Kd.C_below HR0_2.out HB.out) | (with_reducible refine Kd.C_alloc ?_ _) | (with_reducible refine Kd.C_drewN ?_ _) | (with_reducible refine Kd.C_drew ?_))); (case side4 => exact HC0_2.out); rintro e w23 ⟨rfl, hb⟩; have n0_ := Aside0.mk (blk_below (g := gb286) (o := .cells #[.int .i32 a0_0, .slice A0_1 l0_1.length c0_1, .slice A0_2 l0_2.length c0_2, .int .u32 a0_3] 26 (0, 0)) (by (with_reducible repeat (first | refine blk_drewN ?_ _ | refine blk_drew ?_ | refine blk_alloc ?_ _)); exact BK286.out) hb); have n1_ := Aside0.mk (below_step (by repeat (first | (with_reducible first | exact HB.out | apply below_alloc | apply pw_below_drewN | apply below_drew1 | refine below_set ?_ GE286.out) | exact HB.out)) hb); clear BK286; clear HB; have BK286 := n0_; have HB := n1_; clear n0_ n1_; (try clear hb); (try clear hb2); (try clear hk); (try clear hi)))
          go_meet
          case rel => exact ⟨_, (false), (by first | rfl | (simp; done) | (simp [*]; done)), (by first | exact H' | (subst_vars; exact H')), ⟨by first | omega | exact Nat.le_refl _⟩, ⟨by (with_reducible repeat (first | refine blk_drewN ?_ _ | refine blk_drew ?_ | refine blk_alloc ?_ _)); exact BK286.out⟩, ⟨by repeat (first | (with_reducible first | exact HB.out | apply below_alloc | apply pw_below_drewN | apply below_drew1 | refine below_set ?_ GE286.out) | exact HB.out)⟩⟩
    case rest =>
      clear HC4
      try clear c1
      try clear c2
      try clear p2
      try clear q2
      try clear hx2
      try clear qi2
      try clear c3
      try clear c6
      try clear c7
      try clear c9
      try clear c9b0
      try clear c13
      try clear c14
      try clear c14b0
      try clear c14b1
      try clear hcz10_0
      try clear hcz10_1
      try clear hcz10_2
      try clear hcz10_3
      try clear hcz15_0
      try clear hcz15_1
      try clear hcz15_2
      try clear hcz15_3
      try clear hcz17_0
      try clear hcz17_1
      try clear hcz17_2
      try clear hcz17_3
      try clear hcz19_0
      try clear hcz19_1
      try clear hcz19_2
      try clear hcz19_3
      try clear hcz20_0
      try clear hcz20_1
      try clear hcz20_2
      try clear hcz20_3
      try clear hcz22_0
      try clear hcz22_1
      try clear hcz22_2
      try clear hcz22_3
      try clear hcz6_0
      try clear hcz6_1
      try clear hcz6_2
      try clear hcz6_3
      try clear hfz10_0
      try clear hfz10_1
      try clear hfz10_2
      try clear hfz10_3
      try clear hfz15_0
      try clear hfz15_1
      try clear hfz15_2
      try clear hfz15_3
      try clear hfz17_0
      try clear hfz17_1
      try clear hfz17_2
      try clear hfz17_3
      try clear hfz19_0
      try clear hfz19_1
      try clear hfz19_2
      try clear hfz19_3
      try clear hfz20_0
      try clear hfz20_1
      try clear hfz20_2
      try clear hfz20_3
      try clear hfz22_0
      try clear hfz22_1
      try clear hfz22_2
      try clear hfz22_3
      try clear hfz6_0
      try clear hfz6_1
      try clear hfz6_2
      try clear hfz6_3
      try clear hx290_0
      try clear hx290_1
      try clear hx290_10
      try clear hx290_11
      try clear hx290_12
      try clear hx290_13
      try clear hx290_14
      try clear hx290_15
      try clear hx290_16
      try clear hx290_17
      try clear hx290_18
      try clear hx290_19
      try clear hx290_2
      try clear hx290_20
      try clear hx290_21
      try clear hx290_22
      try clear hx290_23
      try clear hx290_24
      try clear hx290_25
      try clear hx290_26
      try clear hx290_27
      try clear hx290_28
      try clear hx290_29
      try clear hx290_3
      try clear hx290_30
      try clear hx290_31
      try clear hx290_32
      try clear hx290_33
      try clear hx290_34
      try clear hx290_35
      try clear hx290_4
      try clear hx290_5
      try clear hx290_6
      try clear hx290_7
      try clear hx290_8
      try clear hx290_9
      try clear p290
      try clear q290
      obtain ⟨kq, x25_3, rfl, HA, HJ3, BK286, HB⟩ := hcut
      cases kq with
      | zero => exact absurd HA.out (by simp [laws_FnScriptPlaces.j0])
      | succ kj3 =>
        have H := HA.out
        clear HA
        simp only [laws_FnScriptPlaces.j0] at H
        by_cases c24 : x25_3 = true
        · subst c24
          have H1 : (some true) = some r := by rw [if_pos rfl] at H; exact H
          clear H
          have H := H1
          clear H1
          obtain rfl := Option.some.inj H
          go_wp2
          go_ret
          exact ⟨by first | rfl | (simp [errW_none, errW_some] <;> rfl) | (simp [*, errW_none, errW_some] <;> rfl), by repeat (first | (with_reducible first | exact HB.out | apply below_alloc | apply pw_below_drewN | apply below_drew1 | refine below_set ?_ GE286.out) | exact HB.out)⟩
        · replace c24 := Bool.eq_false_iff.mpr c24
          subst c24
          have H1 : ((impl_ScriptPlaces.f a0_0 l0_1 l0_2 a0_3).bind fun t291 => ((spec_TxBytes.f kj3 a0_0 l0_1 l0_2 a0_3 true).bind fun t294 => ((spec_ScriptPlaces.f kj3 a0_0 l0_1 l0_2 a0_3).bind fun t297 => ((laws_sameInts.f kj3 t291 t297).bind fun t300 => (if t300 = true then (laws_FnScriptPlaces.l0 kj3 t291 t294 0 a0_0 l0_1 l0_2 a0_3) else (some false)))))) = some r := by rw [if_neg (show ¬ (false = true) by decide)] at H; exact H
          clear H
          have H := H1
          clear H1
          replace H := Option.bind_eq_some_iff.mp H
          obtain ⟨t291, A250, H⟩ := H
          replace H : ((spec_TxBytes.f kj3 a0_0 l0_1 l0_2 a0_3 true).bind fun t294 => ((spec_ScriptPlaces.f kj3 a0_0 l0_1 l0_2 a0_3).bind fun t297 => ((laws_sameInts.f kj3 t291 t297).bind fun t300 => (if t300 = true then (laws_FnScriptPlaces.l0 kj3 t291 t294 0 a0_0 l0_1 l0_2 a0_3) else (some false))))) = some r := H
          have A25 := Aside0.mk A250
          clear A250
          replace H := Option.bind_eq_some_iff.mp H
          obtain ⟨t294, A260, H⟩ := H
          replace H : ((spec_ScriptPlaces.f kj3 a0_0 l0_1 l0_2 a0_3).bind fun t297 => ((laws_sameInts.f kj3 t291 t297).bind fun t300 => (if t300 = true then (laws_FnScriptPlaces.l0 kj3 t291 t294 0 a0_0 l0_1 l0_2 a0_3) else (some false)))) = some r := H
          have A26 := Aside0.mk A260
          clear A260
          replace H := Option.bind_eq_some_iff.mp H
          obtain ⟨t297, A270, H⟩ := H
          replace H : ((laws_sameInts.f kj3 t291 t297).bind fun t300 => (if t300 = true then (laws_FnScriptPlaces.l0 kj3 t291 t294 0 a0_0 l0_1 l0_2 a0_3) else (some false))) = some r := H
          have A27 := Aside0.mk A270
          clear A270
          replace H := Option.bind_eq_some_iff.mp H
          obtain ⟨t300, A280, H⟩ := H
          replace H : (if t300 = true then (laws_FnScriptPlaces.l0 kj3 t291 t294 0 a0_0 l0_1 l0_2 a0_3) else (some false)) = some r := H
          have A28 := Aside0.mk A280
          clear A280
          by_cases c29 : t300 = true
          · subst c29
            have H1 : (laws_FnScriptPlaces.l0 kj3 t291 t294 0 a0_0 l0_1 l0_2 a0_3) = some r := by rw [if_pos rfl] at H; exact H
            clear H
            have H := H1
            clear H1
            have H' := Aside0.mk H
            clear H
            have hcz30_0 : wc.cell? ⟨gb286, 0, none⟩ = some (.int .i32 a0_0) := (blk_cell BK286.out 0).trans rfl
            have hcz30_1 : wc.cell? ⟨gb286, 1, none⟩ = some (.slice A0_1 l0_1.length c0_1) := (blk_cell BK286.out 1).trans rfl
            have hcz30_2 : wc.cell? ⟨gb286, 2, none⟩ = some (.slice A0_2 l0_2.length c0_2) := (blk_cell BK286.out 2).trans rfl
            have hcz30_3 : wc.cell? ⟨gb286, 3, none⟩ = some (.int .u32 a0_3) := (blk_cell BK286.out 3).trans rfl
            have hfz30_0 := blk_frozen BK286.out 0
            have hfz30_1 := blk_frozen BK286.out 1
            have hfz30_2 := blk_frozen BK286.out 2
            have hfz30_3 := blk_frozen BK286.out 3
            go_wp2_with (first | ((with_reducible refine gate_callee (f := 9) rfl ?_); refine goesL_ (some 27) rfl rfl Try.func9 (by kernel_rfl) rfl #[.agg #[.int .i32 a0_0, .slice A0_1 l0_1.length c0_1, .slice A0_2 l0_2.length c0_2, .int .u32 a0_3]] rfl (by (try simp only [List.map_toArray, List.map_cons, List.map_nil]); first | done | rfl | (simp only [List.length_drop, List.length_take]; rfl)) ?_; (with_reducible refine (impl_ScriptPlaces.calls a0_0 _ _ l0_1 _ _ l0_2 a0_3 t291 _ ?side1 ?side2 ?side3 ?side4 A25.out).mono ?_); (case side1 => repeat (first | exact (Kd.C_below HR0_1.out HB.out) | (with_reducible refine Kd.C_alloc ?_ _) | (with_reducible refine Kd.C_drewN ?_ _) | (with_reducible refine Kd.C_drew ?_))); (case side2 => exact HC0_1.out); (case side3 => repeat (first | exact (Kd.C_below HR0_2.out HB.out) | (with_reducible refine Kd.C_alloc ?_ _) | (with_reducible refine Kd.C_drewN ?_ _) | (with_reducible refine Kd.C_drew ?_))); (case side4 => exact HC0_2.out); rintro e w31 ⟨v292, rfl, ho0, hb⟩; refine ⟨_, rfl, ?_⟩; have n0_ := Aside0.mk (Kd.R_lower ho0 (below_size (by repeat (first | (with_reducible first | exact HB.out | apply below_alloc | apply pw_below_drewN | apply below_drew1 | refine below_set ?_ GE286.out) | exact HB.out)))); have n1_ := Aside0.mk (blk_below (g := gb286) (o := .cells #[.int .i32 a0_0, .slice A0_1 l0_1.length c0_1, .slice A0_2 l0_2.length c0_2, .int .u32 a0_3] 26 (0, 0)) (by (with_reducible repeat (first | refine blk_drewN ?_ _ | refine blk_drew ?_ | refine blk_alloc ?_ _)); exact BK286.out) hb); have n2_ := Aside0.mk (below_step (by repeat (first | (with_reducible first | exact HB.out | apply below_alloc | apply pw_below_drewN | apply below_drew1 | refine below_set ?_ GE286.out) | exact HB.out)) hb); clear BK286; clear HB; have HO293 := n0_; have BK286 := n1_; have HB := n2_; clear n0_ n1_ n2_; (try clear hb); (try clear hb2); (try clear hk); (try clear hi); (try clear ho0); have hcz32_0 : w31.cell? ⟨gb286, 0, none⟩ = some (.int .i32 a0_0) := (blk_cell BK286.out 0).trans rfl; have hcz32_1 : w31.cell? ⟨gb286, 1, none⟩ = some (.slice A0_1 l0_1.length c0_1) := (blk_cell BK286.out 1).trans rfl; have hcz32_2 : w31.cell? ⟨gb286, 2, none⟩ = some (.slice A0_2 l0_2.length c0_2) := (blk_cell BK286.out 2).trans rfl; have hcz32_3 : w31.cell? ⟨gb286, 3, none⟩ = some (.int .u32 a0_3) := (blk_cell BK286.out 3).trans rfl; have hfz32_0 := blk_frozen BK286.out 0; have hfz32_1 := blk_frozen BK286.out 1; have hfz32_2 := blk_frozen BK286.out 2; have hfz32_3 := blk_frozen BK286.out 3) | ((with_reducible refine gate_callee (f := 10) rfl ?_); refine goesL_ (some 29) rfl rfl Try.func10 (by kernel_rfl) rfl #[.agg #[.int .i32 a0_0, .slice A0_1 l0_1.length c0_1, .slice A0_2 l0_2.length c0_2, .int .u32 a0_3], .bool true] rfl (by (try simp only [List.map_toArray, List.map_cons, List.map_nil]); first | done | rfl | (simp only [List.length_drop, List.length_take]; rfl)) ?_; (with_reducible refine (spec_TxBytes.calls kj3 a0_0 _ _ l0_1 _ _ l0_2 a0_3 true t294 _ ?side1 ?side2 ?side3 ?side4 A26.out).mono ?_); (case side1 => repeat (first | exact (Kd.C_below HR0_1.out HB.out) | (with_reducible refine Kd.C_alloc ?_ _) | (with_reducible refine Kd.C_drewN ?_ _) | (with_reducible refine Kd.C_drew ?_))); (case side2 => exact HC0_1.out); (case side3 => repeat (first | exact (Kd.C_below HR0_2.out HB.out) | (with_reducible refine Kd.C_alloc ?_ _) | (with_reducible refine Kd.C_drewN ?_ _) | (with_reducible refine Kd.C_drew ?_))); (case side4 => exact HC0_2.out); rintro e w33 ⟨v295, rfl, ho0, hb⟩; refine ⟨_, rfl, ?_⟩; have n0_ := Aside0.mk (Kd.R_below (by (with_reducible repeat (first | apply Kd.R_alloc | apply Kd.R_drewN | apply Kd.R_drew)); exact HO293.out) hb); have n1_ := Aside0.mk (Kd.R_lower ho0 (below_size (by repeat (first | (with_reducible first | exact HB.out | apply below_alloc | apply pw_below_drewN | apply below_drew1 | refine below_set ?_ GE286.out) | exact HB.out)))); have n2_ := Aside0.mk (blk_below (g := gb286) (o := .cells #[.int .i32 a0_0, .slice A0_1 l0_1.length c0_1, .slice A0_2 l0_2.length c0_2, .int .u32 a0_3] 26 (0, 0)) (by (with_reducible repeat (first | refine blk_drewN ?_ _ | refine blk_drew ?_ | refine blk_alloc ?_ _)); exact BK286.out) hb); have n3_ := Aside0.mk (below_step (by repeat (first | (with_reducible first | exact HB.out | apply below_alloc | apply pw_below_drewN | apply below_drew1 | refine below_set ?_ GE286.out) | exact HB.out)) hb); clear HO293; clear BK286; clear HB; have HO293 := n0_; have HO296 := n1_; have BK286 := n2_; have HB := n3_; clear n0_ n1_ n2_ n3_; (try clear hb); (try clear hb2); (try clear hk); (try clear hi); (try clear ho0); have hcz34_0 : w33.cell? ⟨gb286, 0, none⟩ = some (.int .i32 a0_0) := (blk_cell BK286.out 0).trans rfl; have hcz34_1 : w33.cell? ⟨gb286, 1, none⟩ = some (.slice A0_1 l0_1.length c0_1) := (blk_cell BK286.out 1).trans rfl; have hcz34_2 : w33.cell? ⟨gb286, 2, none⟩ = some (.slice A0_2 l0_2.length c0_2) := (blk_cell BK286.out 2).trans rfl; have hcz34_3 : w33.cell? ⟨gb286, 3, none⟩ = some (.int .u32 a0_3) := (blk_cell BK286.out 3).trans rfl; have hfz34_0 := blk_frozen BK286.out 0; have hfz34_1 := blk_frozen BK286.out 1; have hfz34_2 := blk_frozen BK286.out 2; have hfz34_3 := blk_frozen BK286.out 3) | ((with_reducible refine gate_callee (f := 12) rfl ?_); refine goesL_ (some 32) rfl rfl Try.func12 (by kernel_rfl) rfl #[.agg #[.int .i32 a0_0, .slice A0_1 l0_1.length c0_1, .slice A0_2 l0_2.length c0_2, .int .u32 a0_3]] rfl (by (try simp only [List.map_toArray, List.map_cons, List.map_nil]); first | done | rfl | (simp only [List.length_drop, List.length_take]; rfl)) ?_; (with_reducible refine (spec_ScriptPlaces.calls kj3 a0_0 _ _ l0_1 _ _ l0_2 a0_3 t297 _ ?side1 ?side2 ?side3 ?side4 A27.out).mono ?_); (case side1 => repeat (first | exact (Kd.C_below HR0_1.out HB.out) | (with_reducible refine Kd.C_alloc ?_ _) | (with_reducible refine Kd.C_drewN ?_ _) | (with_reducible refine Kd.C_drew ?_))); (case side2 => exact HC0_1.out); (case side3 => repeat (first | exact (Kd.C_below HR0_2.out HB.out) | (with_reducible refine Kd.C_alloc ?_ _) | (with_reducible refine Kd.C_drewN ?_ _) | (with_reducible refine Kd.C_drew ?_))); (case side4 => exact HC0_2.out); rintro e w35 ⟨v298, rfl, ho0, hb⟩; refine ⟨_, rfl, ?_⟩; have n0_ := Aside0.mk (Kd.R_elder' (by (with_reducible repeat (first | apply Kd.R_alloc | apply Kd.R_drewN | apply Kd.R_drew)); exact HO293.out) (Kd.R_base ho0) hb); have n1_ := Aside0.mk (Kd.R_below (by (with_reducible repeat (first | apply Kd.R_alloc | apply Kd.R_drewN | apply Kd.R_drew)); exact HO296.out) hb); have n2_ := Aside0.mk (Kd.R_lower (Kd.R_new' ho0 (Kd.R_lt (by (with_reducible repeat (first | apply Kd.R_alloc | apply Kd.R_drewN | apply Kd.R_drew)); exact HO293.out))) (below_size (by repeat (first | (with_reducible first | exact HB.out | apply below_alloc | apply pw_below_drewN | apply below_drew1 | refine below_set ?_ GE286.out) | exact HB.out)))); have n3_ := Aside0.mk (blk_below (g := gb286) (o := .cells #[.int .i32 a0_0, .slice A0_1 l0_1.length c0_1, .slice A0_2 l0_2.length c0_2, .int .u32 a0_3] 26 (0, 0)) (by (with_reducible repeat (first | refine blk_drewN ?_ _ | refine blk_drew ?_ | refine blk_alloc ?_ _)); exact BK286.out) hb); have n4_ := Aside0.mk (below_step (by repeat (first | (with_reducible first | exact HB.out | apply below_alloc | apply pw_below_drewN | apply below_drew1 | refine below_set ?_ GE286.out) | exact HB.out)) hb); clear HO293; clear HO296; clear BK286; clear HB; have HO293 := n0_; have HO296 := n1_; have HO299 := n2_; have BK286 := n3_; have HB := n4_; clear n0_ n1_ n2_ n3_ n4_; (try clear hb); (try clear hb2); (try clear hk); (try clear hi); (try clear ho0); obtain ⟨Ao36, co36, eo36⟩ := Kd.R_slice HO293.out; subst eo36; obtain ⟨Ao37, co37, eo37⟩ := Kd.R_slice HO299.out; subst eo37) | ((with_reducible refine gate_callee (f := 11) rfl ?_); refine goesL_ (some 33) rfl rfl Try.func11 (by kernel_rfl) rfl #[.slice Ao36 t291.length co36, .slice Ao37 t297.length co37] rfl (by (try simp only [List.map_toArray, List.map_cons, List.map_nil]); first | done | rfl | (simp only [List.length_drop, List.length_take]; rfl)) ?_; (with_reducible refine (laws_sameInts.calls kj3 _ _ t291 _ _ t297 true _ ?side1 ?side2 ?side3 ?side4 A28.out).mono ?_); (case side1 => repeat (first | exact (Kd.R_reads' HO293.out).2.2 | (with_reducible refine Kd.C_alloc ?_ _) | (with_reducible refine Kd.C_drewN ?_ _) | (with_reducible refine Kd.C_drew ?_))); (case side2 => exact (Kd.R_reads' HO293.out).2.1); (case side3 => repeat (first | exact (Kd.R_reads' HO299.out).2.2 | (with_reducible refine Kd.C_alloc ?_ _) | (with_reducible refine Kd.C_drewN ?_ _) | (with_reducible refine Kd.C_drew ?_))); (case side4 => exact (Kd.R_reads' HO299.out).2.1); rintro e w' ⟨rfl, ⟨nd, rfl⟩⟩; refine ⟨_, rfl, ?_⟩))
            go_loopg [5] kj3 (fun kq v5 w' => ∃ (x5_2 : Int), v5 = .int .i64 x5_2 ∧ Aside0 (laws_FnScriptPlaces.l0 kq t291 t294 x5_2 a0_0 l0_1 l0_2 a0_3 = some r) ∧ Aside0 (kq ≤ kj3) ∧ Aside0 (Kd.R (Kd.int .i64) 3 w' w.heap.size (fun _ => True) (.slice Ao36 t291.length co36) t291) ∧ Aside0 (Kd.R (Kd.int .u8) 5 w' w.heap.size (fun _ => True) v295 t294) ∧ Aside0 (w'.heap[gb286]? = some (.cells #[.int .i32 a0_0, (.slice A0_1 l0_1.length c0_1), (.slice A0_2 l0_2.length c0_2), .int .u32 a0_3] 26 (0, 0))) ∧ Aside0 (Below w.heap.size w w'))
            case atStart => exact ⟨(0), (by first | rfl | (simp; done) | (simp [*]; done)), H', ⟨Nat.le_refl _⟩, ⟨by (with_reducible repeat (first | apply Kd.R_alloc | apply Kd.R_drewN | apply Kd.R_drew)); exact Kd.R_mono HO293.out (fun _ hk => trivial)⟩, ⟨by (with_reducible repeat (first | apply Kd.R_alloc | apply Kd.R_drewN | apply Kd.R_drew)); exact HO296.out⟩, ⟨by (with_reducible repeat (first | refine blk_drewN ?_ _ | refine blk_drew ?_ | refine blk_alloc ?_ _)); exact BK286.out⟩, ⟨by repeat (first | (with_reducible first | exact HB.out | apply below_alloc | apply pw_below_drewN | apply below_drew1 | refine below_set ?_ GE286.out) | exact HB.out)⟩⟩
            case round =>
              clear H'
              try clear c1
              try clear c2
              try clear p2
              try clear q2
              try clear hx2
              try clear qi2
              try clear c3
              try clear c6
              try clear c7
              try clear c9
              try clear c9b0
              try clear c10
              try clear c11
              try clear c12
              try clear c13
              try clear c14
              try clear c14b0
              try clear c14b1
              try clear c24
              try clear c29
              try clear p29
              try clear q29
              try clear hx29
              try clear qi29
              try clear hcz10_0
              try clear hcz10_1
              try clear hcz10_2
              try clear hcz10_3
              try clear hcz15_0
              try clear hcz15_1
              try clear hcz15_2
              try clear hcz15_3
              try clear hcz17_0
              try clear hcz17_1
              try clear hcz17_2
              try clear hcz17_3
              try clear hcz19_0
              try clear hcz19_1
              try clear hcz19_2
              try clear hcz19_3
              try clear hcz20_0
              try clear hcz20_1
              try clear hcz20_2
              try clear hcz20_3
              try clear hcz22_0
              try clear hcz22_1
              try clear hcz22_2
              try clear hcz22_3
              try clear hcz30_0
              try clear hcz30_1
              try clear hcz30_2
              try clear hcz30_3
              try clear hcz32_0
              try clear hcz32_1
              try clear hcz32_2
              try clear hcz32_3
              try clear hcz34_0
              try clear hcz34_1
              try clear hcz34_2
              try clear hcz34_3
              try clear hcz6_0
              try clear hcz6_1
              try clear hcz6_2
              try clear hcz6_3
              try clear hfz10_0
              try clear hfz10_1
              try clear hfz10_2
              try clear hfz10_3
              try clear hfz15_0
              try clear hfz15_1
              try clear hfz15_2
              try clear hfz15_3
              try clear hfz17_0
              try clear hfz17_1
              try clear hfz17_2
              try clear hfz17_3
              try clear hfz19_0
              try clear hfz19_1
              try clear hfz19_2
              try clear hfz19_3
              try clear hfz20_0
              try clear hfz20_1
              try clear hfz20_2
              try clear hfz20_3
              try clear hfz22_0
              try clear hfz22_1
              try clear hfz22_2
              try clear hfz22_3
              try clear hfz30_0
              try clear hfz30_1
              try clear hfz30_2
              try clear hfz30_3
              try clear hfz32_0
              try clear hfz32_1
              try clear hfz32_2
              try clear hfz32_3
              try clear hfz34_0
              try clear hfz34_1
              try clear hfz34_2
              try clear hfz34_3
              try clear hfz6_0
              try clear hfz6_1
              try clear hfz6_2
              try clear hfz6_3
              try clear hx290_0
              try clear hx290_1
              try clear hx290_10
              try clear hx290_11
              try clear hx290_12
              try clear hx290_13
              try clear hx290_14
              try clear hx290_15
              try clear hx290_16
              try clear hx290_17
              try clear hx290_18
              try clear hx290_19
              try clear hx290_2
              try clear hx290_20
              try clear hx290_21
              try clear hx290_22
              try clear hx290_23
              try clear hx290_24
              try clear hx290_25
              try clear hx290_26
              try clear hx290_27
              try clear hx290_28
              try clear hx290_29
              try clear hx290_3
              try clear hx290_30
              try clear hx290_31
              try clear hx290_32
              try clear hx290_33
              try clear hx290_34
              try clear hx290_35
              try clear hx290_4
              try clear hx290_5
              try clear hx290_6
              try clear hx290_7
              try clear hx290_8
              try clear hx290_9
              try clear p2
              try clear p290
              try clear q2
              try clear q290
              obtain ⟨x5_2, rfl, HA, HK2, HO_3, HO_4, BK286, HB⟩ := hrel
              cases gk with
              | zero => exact absurd HA.out (by simp [laws_FnScriptPlaces.l0])
              | succ k2 =>
                have H := HA.out
                clear HA
                simp only [laws_FnScriptPlaces.l0] at H
                by_cases c38 : x5_2 < (t291.length : Int)
                · rw [if_pos c38] at H
                  have c38b0 : decide (x5_2 < (t291.length : Int)) = true := decide_eq_true c38
                  clear c38
                  by_cases c39 : 0 ≤ x5_2
                  · rw [if_pos c39] at H
                    have c39b0 : decide (0 ≤ x5_2) = true := decide_eq_true c39
                    clear c39
                    by_cases c40 : x5_2 < (l0_2.length : Int)
                    · rw [if_pos c40] at H
                      have c40b0 : decide (x5_2 < (l0_2.length : Int)) = true := decide_eq_true c40
                      clear c40
                      by_cases c41 : (rd t291 x5_2) < 0
                      · rw [if_pos c41] at H
                        have c41b0 : decide ((rd t291 x5_2) < 0) = true := decide_eq_true c41
                        clear c41
                        obtain rfl := Option.some.inj H
                        have hcz42_0 : wr.cell? ⟨gb286, 0, none⟩ = some (.int .i32 a0_0) := (blk_cell BK286.out 0).trans rfl
                        have hcz42_1 : wr.cell? ⟨gb286, 1, none⟩ = some (.slice A0_1 l0_1.length c0_1) := (blk_cell BK286.out 1).trans rfl
                        have hcz42_2 : wr.cell? ⟨gb286, 2, none⟩ = some (.slice A0_2 l0_2.length c0_2) := (blk_cell BK286.out 2).trans rfl
                        have hcz42_3 : wr.cell? ⟨gb286, 3, none⟩ = some (.int .u32 a0_3) := (blk_cell BK286.out 3).trans rfl
                        have hfz42_0 := blk_frozen BK286.out 0
                        have hfz42_1 := blk_frozen BK286.out 1
                        have hfz42_2 := blk_frozen BK286.out 2
                        have hfz42_3 := blk_frozen BK286.out 3
                        have p301 : 0 ≤ (x5_2 : Int) := of_decide_eq_true (by first | (with_reducible assumption) | assumption)
                        have q301 : x5_2 < (l0_2.length : Int) := of_decide_eq_true (by first | (with_reducible assumption) | assumption)
                        obtain ⟨ad301, A301_1, c301_1, e301, hx301_0, hx301_1, hl301_1, hi301_1⟩ := at_T41 HR0_2.out x5_2 p301 q301
                        cases e301
                        replace hx301_0 := (HB.out.cell (World.block_lt_of_cell? w _ hx301_0)).trans hx301_0
                        replace hx301_1 := (HB.out.cell (World.block_lt_of_cell? w _ hx301_1)).trans hx301_1
                        have HR301_1 := Aside0.mk hi301_1
                        have HC301_1 := Aside0.mk hl301_1
                        clear hi301_1 hl301_1
                        replace p301 := eq_true p301
                        replace q301 := eq_true q301
                        try go_wp2
                        have n0_ := Aside0.mk (Kd.R_drew HO_3.out)
                        have n1_ := Aside0.mk (Kd.R_drew HO_4.out)
                        have n2_ := Aside0.mk (blk_drew BK286.out)
                        have n3_ := Aside0.mk (below_drew1 HB.out)
                        clear HO_3
                        clear HO_4
                        clear BK286
                        clear HB
                        have HO_3 := n0_
                        have HO_4 := n1_
                        have BK286 := n2_
                        have HB := n3_
                        clear n0_ n1_ n2_ n3_
                        have p302 : 0 ≤ (x5_2 : Int) := of_decide_eq_true (by first | (with_reducible assumption) | assumption)
                        have q302 : x5_2 < (t291.length : Int) := of_decide_eq_true (by first | (with_reducible assumption) | assumption)
                        obtain ⟨ad302, e302, hx302_0⟩ := Kd.at_int (Kd.R_reads' HO_3.out).2.2 x5_2 p302 q302
                        cases e302
                        replace p302 := eq_true p302
                        replace q302 := eq_true q302
                        refine start_ (n := 35) (S := fun w' => w'.cell? (ad302.add (x5_2).toNat) = some (.int .i64 (rd t291 x5_2))) (ds := []) #[false, false, false, false, false, false, false, false, false, false, false, false, false, false, false, false, false, false, false, false, false, false, false, false, false, false, false, false, false, false, false, false, false, false, false] (by kernel_rfl) rfl rfl (hx302_0) (fun hHeld => ?_); refine with_tabW laws_FnScriptPlaces.tab13 laws_FnScriptPlaces.bits13 (fun HT_ HW_ => ?_)
                        generalize wr.drew = w43 at HO_3 HO_4 BK286 HB hx302_0 hHeld ⊢
                        refine pure_ (i := 0) (N := some 47) (v := ?_) (a' := ?_) #[true, false, false, false, false, false, false, false, false, false, false, false, false, false, false, false, false, false, false, false, false, false, false, false, false, false, false, false, false, false, false, false, false, false, false] rfl rfl (any_of HT_.out (by kernel_rfl)) (fun _ _ _ h => h) (Or.inl ⟨by rfl, ?_⟩) ?_ ?_
                        rotate_left
                        · intro w'
                          go_simp
                          with_reducible rfl
                        rotate_left
                        · simp only [Act.put, List.setIfInBounds_toArray, List.set_cons_zero, List.set_cons_succ, i64_w, i32_w]
                          rfl
                        refine pure_ (i := 1) (N := some 48) (v := ?_) (a' := ?_) #[true, true, false, false, false, false, false, false, false, false, false, false, false, false, false, false, false, false, false, false, false, false, false, false, false, false, false, false, false, false, false, false, false, false, false] rfl rfl (any_of HT_.out (by kernel_rfl)) (fun _ _ _ h => h) (Or.inl ⟨by rfl, ?_⟩) ?_ ?_
                        rotate_left
                        · intro w'
                          go_simp
                          with_reducible rfl
                        rotate_left
                        · simp only [Act.put, List.setIfInBounds_toArray, List.set_cons_zero, List.set_cons_succ, i64_w, i32_w]
                          rfl
                        refine pure_ (i := 2) (N := some 49) (v := ?_) (a' := ?_) #[true, true, true, false, false, false, false, false, false, false, false, false, false, false, false, false, false, false, false, false, false, false, false, false, false, false, false, false, false, false, false, false, false, false, false] rfl rfl (any_of HT_.out (by kernel_rfl)) (fun _ _ _ h => h) (Or.inl ⟨by rfl, ?_⟩) ?_ ?_
                        rotate_left
                        · intro w'
                          go_simp
                          with_reducible rfl
                        rotate_left
                        · simp only [Act.put, List.setIfInBounds_toArray, List.set_cons_zero, List.set_cons_succ, i64_w, i32_w]
                          rfl
                        refine take_ (i := 3) (N := some 50) (v := ?_) (a' := ?_) #[true, true, true, true, false, false, false, false, false, false, false, false, false, false, false, false, false, false, false, false, false, false, false, false, false, false, false, false, false, false, false, false, false, false, false] rfl rfl (take_ofW HT_.out HW_.out (by kernel_rfl)) (fun _ _ _ h => h) (Or.inl ⟨by rfl, ?_⟩) hHeld ?_ ?_
                        rotate_left
                        · intro w' s0
                          go_simp
                          with_reducible rfl
                        rotate_left
                        · simp only [Act.put, List.setIfInBounds_toArray, List.set_cons_zero, List.set_cons_succ, i64_w, i32_w]
                          rfl
                        refine pure_ (i := 4) (N := some 51) (v := ?_) (a' := ?_) #[true, true, true, true, true, false, false, false, false, false, false, false, false, false, false, false, false, false, false, false, false, false, false, false, false, false, false, false, false, false, false, false, false, false, false] rfl rfl (any_of HT_.out (by kernel_rfl)) (fun _ _ _ h => h) (Or.inl ⟨by rfl, ?_⟩) ?_ ?_
                        rotate_left
                        · intro w'
                          go_simp
                          with_reducible rfl
                        rotate_left
                        · simp only [Act.put, List.setIfInBounds_toArray, List.set_cons_zero, List.set_cons_succ, i64_w, i32_w]
                          rfl
                        refine pure_ (i := 5) (N := some 52) (v := ?_) (a' := ?_) #[true, true, true, true, true, true, false, false, false, false, false, false, false, false, false, false, false, false, false, false, false, false, false, false, false, false, false, false, false, false, false, false, false, false, false] rfl rfl (any_of HT_.out (by kernel_rfl)) (fun _ _ _ h => h) (Or.inl ⟨by rfl, ?_⟩) ?_ ?_
                        rotate_left
                        · intro w'
                          go_simp
                          with_reducible rfl
                        rotate_left
                        · simp only [Act.put, List.setIfInBounds_toArray, List.set_cons_zero, List.set_cons_succ, i64_w, i32_w]
                          rfl
                        refine pure_ (i := 6) (N := some 53) (v := undef) (a' := ?_) #[true, true, true, true, true, true, true, false, false, false, false, false, false, false, false, false, false, false, false, false, false, false, false, false, false, false, false, false, false, false, false, false, false, false, false] rfl rfl (any_of HT_.out (by kernel_rfl)) (fun _ _ _ h => h) (Or.inr ⟨by rfl, rfl⟩) ?_ ?_
                        rotate_left
                        · simp only [Act.put, List.setIfInBounds_toArray, List.set_cons_zero, List.set_cons_succ, i64_w, i32_w]
                          rfl
                        refine pure_ (i := 7) (N := some 54) (v := undef) (a' := ?_) #[true, true, true, true, true, true, true, true, false, false, false, false, false, false, false, false, false, false, false, false, false, false, false, false, false, false, false, false, false, false, false, false, false, false, false] rfl rfl (any_of HT_.out (by kernel_rfl)) (fun _ _ _ h => h) (Or.inr ⟨by rfl, rfl⟩) ?_ ?_
                        rotate_left
                        · simp only [Act.put, List.setIfInBounds_toArray, List.set_cons_zero, List.set_cons_succ, i64_w, i32_w]
                          rfl
                        refine pure_ (i := 8) (N := some 55) (v := undef) (a' := ?_) #[true, true, true, true, true, true, true, true, true, false, false, false, false, false, false, false, false, false, false, false, false, false, false, false, false, false, false, false, false, false, false, false, false, false, false] rfl rfl (any_of HT_.out (by kernel_rfl)) (fun _ _ _ h => h) (Or.inr ⟨by rfl, rfl⟩) ?_ ?_
                        rotate_left
                        · simp only [Act.put, List.setIfInBounds_toArray, List.set_cons_zero, List.set_cons_succ, i64_w, i32_w]
                          rfl
                        refine pure_ (i := 9) (N := some 56) (v := undef) (a' := ?_) #[true, true, true, true, true, true, true, true, true, true, false, false, false, false, false, false, false, false, false, false, false, false, false, false, false, false, false, false, false, false, false, false, false, false, false] rfl rfl (any_of HT_.out (by kernel_rfl)) (fun _ _ _ h => h) (Or.inr ⟨by rfl, rfl⟩) ?_ ?_
                        rotate_left
                        · simp only [Act.put, List.setIfInBounds_toArray, List.set_cons_zero, List.set_cons_succ, i64_w, i32_w]
                          rfl
                        refine pure_ (i := 10) (N := some 57) (v := undef) (a' := ?_) #[true, true, true, true, true, true, true, true, true, true, true, false, false, false, false, false, false, false, false, false, false, false, false, false, false, false, false, false, false, false, false, false, false, false, false] rfl rfl (any_of HT_.out (by kernel_rfl)) (fun _ _ _ h => h) (Or.inr ⟨by rfl, rfl⟩) ?_ ?_
                        rotate_left
                        · simp only [Act.put, List.setIfInBounds_toArray, List.set_cons_zero, List.set_cons_succ, i64_w, i32_w]
                          rfl
                        refine pure_ (i := 11) (N := some 58) (v := undef) (a' := ?_) #[true, true, true, true, true, true, true, true, true, true, true, true, false, false, false, false, false, false, false, false, false, false, false, false, false, false, false, false, false, false, false, false, false, false, false] rfl rfl (any_of HT_.out (by kernel_rfl)) (fun _ _ _ h => h) (Or.inr ⟨by rfl, rfl⟩) ?_ ?_
                        rotate_left
                        · simp only [Act.put, List.setIfInBounds_toArray, List.set_cons_zero, List.set_cons_succ, i64_w, i32_w]
                          rfl
                        refine pure_ (i := 12) (N := some 59) (v := undef) (a' := ?_) #[true, true, true, true, true, true, true, true, true, true, true, true, true, false, false, false, false, false, false, false, false, false, false, false, false, false, false, false, false, false, false, false, false, false, false] rfl rfl (any_of HT_.out (by kernel_rfl)) (fun _ _ _ h => h) (Or.inr ⟨by rfl, rfl⟩) ?_ ?_
                        rotate_left
                        · simp only [Act.put, List.setIfInBounds_toArray, List.set_cons_zero, List.set_cons_succ, i64_w, i32_w]
                          rfl
                        refine pure_ (i := 13) (N := some 60) (v := undef) (a' := ?_) #[true, true, true, true, true, true, true, true, true, true, true, true, true, true, false, false, false, false, false, false, false, false, false, false, false, false, false, false, false, false, false, false, false, false, false] rfl rfl (any_of HT_.out (by kernel_rfl)) (fun _ _ _ h => h) (Or.inr ⟨by rfl, rfl⟩) ?_ ?_
                        rotate_left
                        · simp only [Act.put, List.setIfInBounds_toArray, List.set_cons_zero, List.set_cons_succ, i64_w, i32_w]
                          rfl
                        refine pure_ (i := 14) (N := some 61) (v := undef) (a' := ?_) #[true, true, true, true, true, true, true, true, true, true, true, true, true, true, true, false, false, false, false, false, false, false, false, false, false, false, false, false, false, false, false, false, false, false, false] rfl rfl (any_of HT_.out (by kernel_rfl)) (fun _ _ _ h => h) (Or.inr ⟨by rfl, rfl⟩) ?_ ?_
                        rotate_left
                        · simp only [Act.put, List.setIfInBounds_toArray, List.set_cons_zero, List.set_cons_succ, i64_w, i32_w]
                          rfl
                        refine pure_ (i := 15) (N := some 62) (v := undef) (a' := ?_) #[true, true, true, true, true, true, true, true, true, true, true, true, true, true, true, true, false, false, false, false, false, false, false, false, false, false, false, false, false, false, false, false, false, false, false] rfl rfl (any_of HT_.out (by kernel_rfl)) (fun _ _ _ h => h) (Or.inr ⟨by rfl, rfl⟩) ?_ ?_
                        rotate_left
                        · simp only [Act.put, List.setIfInBounds_toArray, List.set_cons_zero, List.set_cons_succ, i64_w, i32_w]
                          rfl
                        refine pure_ (i := 16) (N := some 63) (v := ?_) (a' := ?_) #[true, true, true, true, true, true, true, true, true, true, true, true, true, true, true, true, true, false, false, false, false, false, false, false, false, false, false, false, false, false, false, false, false, false, false] rfl rfl (any_of HT_.out (by kernel_rfl)) (fun _ _ _ h => h) (Or.inl ⟨by rfl, ?_⟩) ?_ ?_
                        rotate_left
                        · intro w'
                          go_simp
                          with_reducible rfl
                        rotate_left
                        · simp only [Act.put, List.setIfInBounds_toArray, List.set_cons_zero, List.set_cons_succ, i64_w, i32_w]
                          rfl
                        refine pure_ (i := 17) (N := some 64) (v := ?_) (a' := ?_) #[true, true, true, true, true, true, true, true, true, true, true, true, true, true, true, true, true, true, false, false, false, false, false, false, false, false, false, false, false, false, false, false, false, false, false] rfl rfl (any_of HT_.out (by kernel_rfl)) (fun _ _ _ h => h) (Or.inl ⟨by rfl, ?_⟩) ?_ ?_
                        rotate_left
                        · intro w'
                          go_simp
                          with_reducible rfl
                        rotate_left
                        · simp only [Act.put, List.setIfInBounds_toArray, List.set_cons_zero, List.set_cons_succ, i64_w, i32_w]
                          rfl
                        refine pure_ (i := 18) (N := some 65) (v := undef) (a' := ?_) #[true, true, true, true, true, true, true, true, true, true, true, true, true, true, true, true, true, true, true, false, false, false, false, false, false, false, false, false, false, false, false, false, false, false, false] rfl rfl (any_of HT_.out (by kernel_rfl)) (fun _ _ _ h => h) (Or.inr ⟨by rfl, rfl⟩) ?_ ?_
                        rotate_left
                        · simp only [Act.put, List.setIfInBounds_toArray, List.set_cons_zero, List.set_cons_succ, i64_w, i32_w]
                          rfl
                        refine pure_ (i := 19) (N := some 66) (v := undef) (a' := ?_) #[true, true, true, true, true, true, true, true, true, true, true, true, true, true, true, true, true, true, true, true, false, false, false, false, false, false, false, false, false, false, false, false, false, false, false] rfl rfl (any_of HT_.out (by kernel_rfl)) (fun _ _ _ h => h) (Or.inr ⟨by rfl, rfl⟩) ?_ ?_
                        rotate_left
                        · simp only [Act.put, List.setIfInBounds_toArray, List.set_cons_zero, List.set_cons_succ, i64_w, i32_w]
                          rfl
                        refine pure_ (i := 20) (N := some 67) (v := undef) (a' := ?_) #[true, true, true, true, true, true, true, true, true, true, true, true, true, true, true, true, true, true, true, true, true, false, false, false, false, false, false, false, false, false, false, false, false, false, false] rfl rfl (any_of HT_.out (by kernel_rfl)) (fun _ _ _ h => h) (Or.inr ⟨by rfl, rfl⟩) ?_ ?_
                        rotate_left
                        · simp only [Act.put, List.setIfInBounds_toArray, List.set_cons_zero, List.set_cons_succ, i64_w, i32_w]
                          rfl
                        refine pure_ (i := 21) (N := some 68) (v := undef) (a' := ?_) #[true, true, true, true, true, true, true, true, true, true, true, true, true, true, true, true, true, true, true, true, true, true, false, false, false, false, false, false, false, false, false, false, false, false, false] rfl rfl (any_of HT_.out (by kernel_rfl)) (fun _ _ _ h => h) (Or.inr ⟨by rfl, rfl⟩) ?_ ?_
                        rotate_left
                        · simp only [Act.put, List.setIfInBounds_toArray, List.set_cons_zero, List.set_cons_succ, i64_w, i32_w]
                          rfl
                        refine pure_ (i := 22) (N := some 69) (v := undef) (a' := ?_) #[true, true, true, true, true, true, true, true, true, true, true, true, true, true, true, true, true, true, true, true, true, true, true, false, false, false, false, false, false, false, false, false, false, false, false] rfl rfl (any_of HT_.out (by kernel_rfl)) (fun _ _ _ h => h) (Or.inr ⟨by rfl, rfl⟩) ?_ ?_
                        rotate_left
                        · simp only [Act.put, List.setIfInBounds_toArray, List.set_cons_zero, List.set_cons_succ, i64_w, i32_w]
                          rfl
                        refine pure_ (i := 23) (N := some 70) (v := undef) (a' := ?_) #[true, true, true, true, true, true, true, true, true, true, true, true, true, true, true, true, true, true, true, true, true, true, true, true, false, false, false, false, false, false, false, false, false, false, false] rfl rfl (any_of HT_.out (by kernel_rfl)) (fun _ _ _ h => h) (Or.inr ⟨by rfl, rfl⟩) ?_ ?_
                        rotate_left
                        · simp only [Act.put, List.setIfInBounds_toArray, List.set_cons_zero, List.set_cons_succ, i64_w, i32_w]
                          rfl
                        refine pure_ (i := 24) (N := some 71) (v := undef) (a' := ?_) #[true, true, true, true, true, true, true, true, true, true, true, true, true, true, true, true, true, true, true, true, true, true, true, true, true, false, false, false, false, false, false, false, false, false, false] rfl rfl (any_of HT_.out (by kernel_rfl)) (fun _ _ _ h => h) (Or.inr ⟨by rfl, rfl⟩) ?_ ?_
                        rotate_left
                        · simp only [Act.put, List.setIfInBounds_toArray, List.set_cons_zero, List.set_cons_succ, i64_w, i32_w]
                          rfl
                        refine pure_ (i := 25) (N := some 72) (v := undef) (a' := ?_) #[true, true, true, true, true, true, true, true, true, true, true, true, true, true, true, true, true, true, true, true, true, true, true, true, true, true, false, false, false, false, false, false, false, false, false] rfl rfl (any_of HT_.out (by kernel_rfl)) (fun _ _ _ h => h) (Or.inr ⟨by rfl, rfl⟩) ?_ ?_
                        rotate_left
                        · simp only [Act.put, List.setIfInBounds_toArray, List.set_cons_zero, List.set_cons_succ, i64_w, i32_w]
                          rfl
                        refine pure_ (i := 26) (N := some 73) (v := undef) (a' := ?_) #[true, true, true, true, true, true, true, true, true, true, true, true, true, true, true, true, true, true, true, true, true, true, true, true, true, true, true, false, false, false, false, false, false, false, false] rfl rfl (any_of HT_.out (by kernel_rfl)) (fun _ _ _ h => h) (Or.inr ⟨by rfl, rfl⟩) ?_ ?_
                        rotate_left
                        · simp only [Act.put, List.setIfInBounds_toArray, List.set_cons_zero, List.set_cons_succ, i64_w, i32_w]
                          rfl
                        refine pure_ (i := 27) (N := some 74) (v := undef) (a' := ?_) #[true, true, true, true, true, true, true, true, true, true, true, true, true, true, true, true, true, true, true, true, true, true, true, true, true, true, true, true, false, false, false, false, false, false, false] rfl rfl (any_of HT_.out (by kernel_rfl)) (fun _ _ _ h => h) (Or.inr ⟨by rfl, rfl⟩) ?_ ?_
                        rotate_left
                        · simp only [Act.put, List.setIfInBounds_toArray, List.set_cons_zero, List.set_cons_succ, i64_w, i32_w]
                          rfl
                        refine pure_ (i := 28) (N := some 75) (v := undef) (a' := ?_) #[true, true, true, true, true, true, true, true, true, true, true, true, true, true, true, true, true, true, true, true, true, true, true, true, true, true, true, true, true, false, false, false, false, false, false] rfl rfl (any_of HT_.out (by kernel_rfl)) (fun _ _ _ h => h) (Or.inr ⟨by rfl, rfl⟩) ?_ ?_
                        rotate_left
                        · simp only [Act.put, List.setIfInBounds_toArray, List.set_cons_zero, List.set_cons_succ, i64_w, i32_w]
                          rfl
                        refine pure_ (i := 29) (N := some 76) (v := undef) (a' := ?_) #[true, true, true, true, true, true, true, true, true, true, true, true, true, true, true, true, true, true, true, true, true, true, true, true, true, true, true, true, true, true, false, false, false, false, false] rfl rfl (any_of HT_.out (by kernel_rfl)) (fun _ _ _ h => h) (Or.inr ⟨by rfl, rfl⟩) ?_ ?_
                        rotate_left
                        · simp only [Act.put, List.setIfInBounds_toArray, List.set_cons_zero, List.set_cons_succ, i64_w, i32_w]
                          rfl
                        refine pure_ (i := 30) (N := some 77) (v := undef) (a' := ?_) #[true, true, true, true, true, true, true, true, true, true, true, true, true, true, true, true, true, true, true, true, true, true, true, true, true, true, true, true, true, true, true, false, false, false, false] rfl rfl (any_of HT_.out (by kernel_rfl)) (fun _ _ _ h => h) (Or.inr ⟨by rfl, rfl⟩) ?_ ?_
                        rotate_left
                        · simp only [Act.put, List.setIfInBounds_toArray, List.set_cons_zero, List.set_cons_succ, i64_w, i32_w]
                          rfl
                        refine pure_ (i := 31) (N := some 78) (v := undef) (a' := ?_) #[true, true, true, true, true, true, true, true, true, true, true, true, true, true, true, true, true, true, true, true, true, true, true, true, true, true, true, true, true, true, true, true, false, false, false] rfl rfl (any_of HT_.out (by kernel_rfl)) (fun _ _ _ h => h) (Or.inr ⟨by rfl, rfl⟩) ?_ ?_
                        rotate_left
                        · simp only [Act.put, List.setIfInBounds_toArray, List.set_cons_zero, List.set_cons_succ, i64_w, i32_w]
                          rfl
                        refine pure_ (i := 32) (N := some 79) (v := undef) (a' := ?_) #[true, true, true, true, true, true, true, true, true, true, true, true, true, true, true, true, true, true, true, true, true, true, true, true, true, true, true, true, true, true, true, true, true, false, false] rfl rfl (any_of HT_.out (by kernel_rfl)) (fun _ _ _ h => h) (Or.inr ⟨by rfl, rfl⟩) ?_ ?_
                        rotate_left
                        · simp only [Act.put, List.setIfInBounds_toArray, List.set_cons_zero, List.set_cons_succ, i64_w, i32_w]
                          rfl
                        refine pure_ (i := 33) (N := some 80) (v := undef) (a' := ?_) #[true, true, true, true, true, true, true, true, true, true, true, true, true, true, true, true, true, true, true, true, true, true, true, true, true, true, true, true, true, true, true, true, true, true, false] rfl rfl (any_of HT_.out (by kernel_rfl)) (fun _ _ _ h => h) (Or.inr ⟨by rfl, rfl⟩) ?_ ?_
                        rotate_left
                        · simp only [Act.put, List.setIfInBounds_toArray, List.set_cons_zero, List.set_cons_succ, i64_w, i32_w]
                          rfl
                        refine pure_ (i := 34) (N := some 81) (v := ?_) (a' := ?_) #[true, true, true, true, true, true, true, true, true, true, true, true, true, true, true, true, true, true, true, true, true, true, true, true, true, true, true, true, true, true, true, true, true, true, true] rfl rfl (any_of HT_.out (by kernel_rfl)) (fun _ _ _ h => h) (Or.inl ⟨by rfl, ?_⟩) ?_ ?_
                        rotate_left
                        · intro w'
                          go_simp
                          with_reducible rfl
                        rotate_left
                        · simp only [Act.put, List.setIfInBounds_toArray, List.set_cons_zero, List.set_cons_succ, i64_w, i32_w]
                          rfl
                        refine done_ (done_of HT_.out (by kernel_rfl)) ?_
                        try go_wp2
                        go_ret
                        exact ⟨by first | rfl | (simp [errW_none, errW_some] <;> rfl) | (simp [*, errW_none, errW_some] <;> rfl), by repeat (first | (with_reducible first | exact HB.out | apply below_alloc | apply pw_below_drewN | apply below_drew1 | refine below_set ?_ GE286.out) | exact HB.out)⟩
                      · rw [if_neg c41] at H
                        have c41b0 : decide ((rd t291 x5_2) < 0) = false := decide_eq_false c41
                        clear c41
                        by_cases c44 : (wrap64 ((rd t291 x5_2) + (((rd_T41 l0_2 x5_2).f1).length : Int))) > (t294.length : Int)
                        · rw [if_pos c44] at H
                          have c44b0 : decide ((t294.length : Int) < (wrap64 ((rd t291 x5_2) + (((rd_T41 l0_2 x5_2).f1).length : Int)))) = true := decide_eq_true c44
                          clear c44
                          obtain rfl := Option.some.inj H
                          have hcz45_0 : wr.cell? ⟨gb286, 0, none⟩ = some (.int .i32 a0_0) := (blk_cell BK286.out 0).trans rfl
                          have hcz45_1 : wr.cell? ⟨gb286, 1, none⟩ = some (.slice A0_1 l0_1.length c0_1) := (blk_cell BK286.out 1).trans rfl
                          have hcz45_2 : wr.cell? ⟨gb286, 2, none⟩ = some (.slice A0_2 l0_2.length c0_2) := (blk_cell BK286.out 2).trans rfl
                          have hcz45_3 : wr.cell? ⟨gb286, 3, none⟩ = some (.int .u32 a0_3) := (blk_cell BK286.out 3).trans rfl
                          have hfz45_0 := blk_frozen BK286.out 0
                          have hfz45_1 := blk_frozen BK286.out 1
                          have hfz45_2 := blk_frozen BK286.out 2
                          have hfz45_3 := blk_frozen BK286.out 3
                          have p301 : 0 ≤ (x5_2 : Int) := of_decide_eq_true (by first | (with_reducible assumption) | assumption)
                          have q301 : x5_2 < (l0_2.length : Int) := of_decide_eq_true (by first | (with_reducible assumption) | assumption)
                          obtain ⟨ad301, A301_1, c301_1, e301, hx301_0, hx301_1, hl301_1, hi301_1⟩ := at_T41 HR0_2.out x5_2 p301 q301
                          cases e301
                          replace hx301_0 := (HB.out.cell (World.block_lt_of_cell? w _ hx301_0)).trans hx301_0
                          replace hx301_1 := (HB.out.cell (World.block_lt_of_cell? w _ hx301_1)).trans hx301_1
                          have HR301_1 := Aside0.mk hi301_1
                          have HC301_1 := Aside0.mk hl301_1
                          clear hi301_1 hl301_1
                          replace p301 := eq_true p301
                          replace q301 := eq_true q301
                          try go_wp2
                          have n0_ := Aside0.mk (Kd.R_drew HO_3.out)
                          have n1_ := Aside0.mk (Kd.R_drew HO_4.out)
                          have n2_ := Aside0.mk (blk_drew BK286.out)
                          have n3_ := Aside0.mk (below_drew1 HB.out)
                          clear HO_3
                          clear HO_4
                          clear BK286
                          clear HB
                          have HO_3 := n0_
                          have HO_4 := n1_
                          have BK286 := n2_
                          have HB := n3_
                          clear n0_ n1_ n2_ n3_
                          have p302 : 0 ≤ (x5_2 : Int) := of_decide_eq_true (by first | (with_reducible assumption) | assumption)
                          have q302 : x5_2 < (t291.length : Int) := of_decide_eq_true (by first | (with_reducible assumption) | assumption)
                          obtain ⟨ad302, e302, hx302_0⟩ := Kd.at_int (Kd.R_reads' HO_3.out).2.2 x5_2 p302 q302
                          cases e302
                          replace p302 := eq_true p302
                          replace q302 := eq_true q302
                          have p303 : 0 ≤ (x5_2 : Int) := of_decide_eq_true (by first | (with_reducible assumption) | assumption)
                          have q303 : x5_2 < (t291.length : Int) := of_decide_eq_true (by first | (with_reducible assumption) | assumption)
                          obtain ⟨ad303, e303, hx303_0⟩ := Kd.at_int (Kd.R_reads' HO_3.out).2.2 x5_2 p303 q303
                          obtain rfl : ad302 = ad303 := (by injection e303)
                          replace p303 := eq_true p303
                          replace q303 := eq_true q303
                          obtain ⟨Ao47, co47, eo47⟩ := Kd.R_slice HO_4.out
                          (first | subst eo47 | (injection eo47 with f1_ f2_ f3_; have f4_ := f1_.symm; have f5_ := f3_.symm; clear f1_ f2_ f3_; subst f4_; subst f5_))
                          refine start_ (n := 35) (S := fun w' => w'.cell? (ad302.add (x5_2).toNat) = some (.int .i64 (rd t291 x5_2)) ∧ w'.cell? (ad302.add (x5_2).toNat) = some (.int .i64 (rd t291 x5_2))) (ds := []) #[false, false, false, false, false, false, false, false, false, false, false, false, false, false, false, false, false, false, false, false, false, false, false, false, false, false, false, false, false, false, false, false, false, false, false] (by kernel_rfl) rfl rfl ⟨hx302_0, hx303_0⟩ (fun hHeld => ?_); refine with_tabW laws_FnScriptPlaces.tab13 laws_FnScriptPlaces.bits13 (fun HT_ HW_ => ?_)
                          generalize wr.drew = w46 at HO_3 HO_4 BK286 HB hx302_0 hx303_0 hHeld ⊢
                          refine pure_ (i := 0) (N := some 47) (v := ?_) (a' := ?_) #[true, false, false, false, false, false, false, false, false, false, false, false, false, false, false, false, false, false, false, false, false, false, false, false, false, false, false, false, false, false, false, false, false, false, false] rfl rfl (any_of HT_.out (by kernel_rfl)) (fun _ _ _ h => h) (Or.inl ⟨by rfl, ?_⟩) ?_ ?_
                          rotate_left
                          · intro w'
                            go_simp
                            with_reducible rfl
                          rotate_left
                          · simp only [Act.put, List.setIfInBounds_toArray, List.set_cons_zero, List.set_cons_succ, i64_w, i32_w]
                            rfl
                          refine pure_ (i := 1) (N := some 48) (v := ?_) (a' := ?_) #[true, true, false, false, false, false, false, false, false, false, false, false, false, false, false, false, false, false, false, false, false, false, false, false, false, false, false, false, false, false, false, false, false, false, false] rfl rfl (any_of HT_.out (by kernel_rfl)) (fun _ _ _ h => h) (Or.inl ⟨by rfl, ?_⟩) ?_ ?_
                          rotate_left
                          · intro w'
                            go_simp
                            with_reducible rfl
                          rotate_left
                          · simp only [Act.put, List.setIfInBounds_toArray, List.set_cons_zero, List.set_cons_succ, i64_w, i32_w]
                            rfl
                          refine pure_ (i := 2) (N := some 49) (v := ?_) (a' := ?_) #[true, true, true, false, false, false, false, false, false, false, false, false, false, false, false, false, false, false, false, false, false, false, false, false, false, false, false, false, false, false, false, false, false, false, false] rfl rfl (any_of HT_.out (by kernel_rfl)) (fun _ _ _ h => h) (Or.inl ⟨by rfl, ?_⟩) ?_ ?_
                          rotate_left
                          · intro w'
                            go_simp
                            with_reducible rfl
                          rotate_left
                          · simp only [Act.put, List.setIfInBounds_toArray, List.set_cons_zero, List.set_cons_succ, i64_w, i32_w]
                            rfl
                          refine take_ (i := 3) (N := some 50) (v := ?_) (a' := ?_) #[true, true, true, true, false, false, false, false, false, false, false, false, false, false, false, false, false, false, false, false, false, false, false, false, false, false, false, false, false, false, false, false, false, false, false] rfl rfl (take_ofW HT_.out HW_.out (by kernel_rfl)) (fun _ _ _ h => h) (Or.inl ⟨by rfl, ?_⟩) hHeld ?_ ?_
                          rotate_left
                          · rintro w' ⟨s0, s1⟩
                            go_simp
                            with_reducible rfl
                          rotate_left
                          · simp only [Act.put, List.setIfInBounds_toArray, List.set_cons_zero, List.set_cons_succ, i64_w, i32_w]
                            rfl
                          refine pure_ (i := 4) (N := some 51) (v := ?_) (a' := ?_) #[true, true, true, true, true, false, false, false, false, false, false, false, false, false, false, false, false, false, false, false, false, false, false, false, false, false, false, false, false, false, false, false, false, false, false] rfl rfl (any_of HT_.out (by kernel_rfl)) (fun _ _ _ h => h) (Or.inl ⟨by rfl, ?_⟩) ?_ ?_
                          rotate_left
                          · intro w'
                            go_simp
                            with_reducible rfl
                          rotate_left
                          · simp only [Act.put, List.setIfInBounds_toArray, List.set_cons_zero, List.set_cons_succ, i64_w, i32_w]
                            rfl
                          refine pure_ (i := 5) (N := some 52) (v := ?_) (a' := ?_) #[true, true, true, true, true, true, false, false, false, false, false, false, false, false, false, false, false, false, false, false, false, false, false, false, false, false, false, false, false, false, false, false, false, false, false] rfl rfl (any_of HT_.out (by kernel_rfl)) (fun _ _ _ h => h) (Or.inl ⟨by rfl, ?_⟩) ?_ ?_
                          rotate_left
                          · intro w'
                            go_simp
                            with_reducible rfl
                          rotate_left
                          · simp only [Act.put, List.setIfInBounds_toArray, List.set_cons_zero, List.set_cons_succ, i64_w, i32_w]
                            rfl
                          refine pure_ (i := 6) (N := some 53) (v := ?_) (a' := ?_) #[true, true, true, true, true, true, true, false, false, false, false, false, false, false, false, false, false, false, false, false, false, false, false, false, false, false, false, false, false, false, false, false, false, false, false] rfl rfl (any_of HT_.out (by kernel_rfl)) (fun _ _ _ h => h) (Or.inl ⟨by rfl, ?_⟩) ?_ ?_
                          rotate_left
                          · intro w'
                            go_simp
                            with_reducible rfl
                          rotate_left
                          · simp only [Act.put, List.setIfInBounds_toArray, List.set_cons_zero, List.set_cons_succ, i64_w, i32_w]
                            rfl
                          refine pure_ (i := 7) (N := some 54) (v := ?_) (a' := ?_) #[true, true, true, true, true, true, true, true, false, false, false, false, false, false, false, false, false, false, false, false, false, false, false, false, false, false, false, false, false, false, false, false, false, false, false] rfl rfl (any_of HT_.out (by kernel_rfl)) (fun _ _ _ h => h) (Or.inl ⟨by rfl, ?_⟩) ?_ ?_
                          rotate_left
                          · intro w'
                            go_simp
                            with_reducible rfl
                          rotate_left
                          · simp only [Act.put, List.setIfInBounds_toArray, List.set_cons_zero, List.set_cons_succ, i64_w, i32_w]
                            rfl
                          refine pure_ (i := 8) (N := some 55) (v := ?_) (a' := ?_) #[true, true, true, true, true, true, true, true, true, false, false, false, false, false, false, false, false, false, false, false, false, false, false, false, false, false, false, false, false, false, false, false, false, false, false] rfl rfl (any_of HT_.out (by kernel_rfl)) (fun _ _ _ h => h) (Or.inl ⟨by rfl, ?_⟩) ?_ ?_
                          rotate_left
                          · intro w'
                            go_simp
                            with_reducible rfl
                          rotate_left
                          · simp only [Act.put, List.setIfInBounds_toArray, List.set_cons_zero, List.set_cons_succ, i64_w, i32_w]
                            rfl
                          refine pure_ (i := 10) (N := some 57) (v := ?_) (a' := ?_) #[true, true, true, true, true, true, true, true, true, false, true, false, false, false, false, false, false, false, false, false, false, false, false, false, false, false, false, false, false, false, false, false, false, false, false] rfl rfl (any_of HT_.out (by kernel_rfl)) (fun _ _ _ h => h) (Or.inl ⟨by rfl, ?_⟩) ?_ ?_
                          rotate_left
                          · intro w'
                            go_simp
                            with_reducible rfl
                          rotate_left
                          · simp only [Act.put, List.setIfInBounds_toArray, List.set_cons_zero, List.set_cons_succ, i64_w, i32_w]
                            rfl
                          refine pure_ (i := 11) (N := some 58) (v := ?_) (a' := ?_) #[true, true, true, true, true, true, true, true, true, false, true, true, false, false, false, false, false, false, false, false, false, false, false, false, false, false, false, false, false, false, false, false, false, false, false] rfl rfl (any_of HT_.out (by kernel_rfl)) (fun _ _ _ h => h) (Or.inl ⟨by rfl, ?_⟩) ?_ ?_
                          rotate_left
                          · intro w'
                            go_simp
                            with_reducible rfl
                          rotate_left
                          · simp only [Act.put, List.setIfInBounds_toArray, List.set_cons_zero, List.set_cons_succ, i64_w, i32_w]
                            rfl
                          refine pure_ (i := 13) (N := some 60) (v := ?_) (a' := ?_) #[true, true, true, true, true, true, true, true, true, false, true, true, false, true, false, false, false, false, false, false, false, false, false, false, false, false, false, false, false, false, false, false, false, false, false] rfl rfl (any_of HT_.out (by kernel_rfl)) (fun _ _ _ h => h) (Or.inl ⟨by rfl, ?_⟩) ?_ ?_
                          rotate_left
                          · intro w'
                            go_simp
                            with_reducible rfl
                          rotate_left
                          · simp only [Act.put, List.setIfInBounds_toArray, List.set_cons_zero, List.set_cons_succ, i64_w, i32_w]
                            rfl
                          refine pure_ (i := 14) (N := some 61) (v := ?_) (a' := ?_) #[true, true, true, true, true, true, true, true, true, false, true, true, false, true, true, false, false, false, false, false, false, false, false, false, false, false, false, false, false, false, false, false, false, false, false] rfl rfl (any_of HT_.out (by kernel_rfl)) (fun _ _ _ h => h) (Or.inl ⟨by rfl, ?_⟩) ?_ ?_
                          rotate_left
                          · intro w'
                            go_simp
                            with_reducible rfl
                          rotate_left
                          · simp only [Act.put, List.setIfInBounds_toArray, List.set_cons_zero, List.set_cons_succ, i64_w, i32_w]
                            rfl
                          refine take_ (i := 9) (N := some 56) (v := ?_) (a' := ?_) #[true, true, true, true, true, true, true, true, true, true, true, true, false, true, true, false, false, false, false, false, false, false, false, false, false, false, false, false, false, false, false, false, false, false, false] rfl rfl (take_ofW HT_.out HW_.out (by kernel_rfl)) (fun _ _ _ h => h) (Or.inl ⟨by rfl, ?_⟩) hHeld ?_ ?_
                          rotate_left
                          · rintro w' ⟨s0, s1⟩
                            go_simp
                            with_reducible rfl
                          rotate_left
                          · simp only [Act.put, List.setIfInBounds_toArray, List.set_cons_zero, List.set_cons_succ, i64_w, i32_w]
                            rfl
                          refine pure_ (i := 12) (N := some 59) (v := ?_) (a' := ?_) #[true, true, true, true, true, true, true, true, true, true, true, true, true, true, true, false, false, false, false, false, false, false, false, false, false, false, false, false, false, false, false, false, false, false, false] rfl rfl (any_of HT_.out (by kernel_rfl)) (fun _ _ _ h => h) (Or.inl ⟨by rfl, ?_⟩) ?_ ?_
                          rotate_left
                          · intro w'
                            go_simp
                            with_reducible rfl
                          rotate_left
                          · simp only [Act.put, List.setIfInBounds_toArray, List.set_cons_zero, List.set_cons_succ, i64_w, i32_w]
                            rfl
                          refine pure_ (i := 15) (N := some 62) (v := ?_) (a' := ?_) #[true, true, true, true, true, true, true, true, true, true, true, true, true, true, true, true, false, false, false, false, false, false, false, false, false, false, false, false, false, false, false, false, false, false, false] rfl rfl (any_of HT_.out (by kernel_rfl)) (fun _ _ _ h => h) (Or.inl ⟨by rfl, ?_⟩) ?_ ?_
                          rotate_left
                          · intro w'
                            go_simp
                            with_reducible rfl
                          rotate_left
                          · simp only [Act.put, List.setIfInBounds_toArray, List.set_cons_zero, List.set_cons_succ, i64_w, i32_w]
                            rfl
                          refine pure_ (i := 16) (N := some 63) (v := ?_) (a' := ?_) #[true, true, true, true, true, true, true, true, true, true, true, true, true, true, true, true, true, false, false, false, false, false, false, false, false, false, false, false, false, false, false, false, false, false, false] rfl rfl (any_of HT_.out (by kernel_rfl)) (fun _ _ _ h => h) (Or.inl ⟨by rfl, ?_⟩) ?_ ?_
                          rotate_left
                          · intro w'
                            go_simp
                            with_reducible rfl
                          rotate_left
                          · simp only [Act.put, List.setIfInBounds_toArray, List.set_cons_zero, List.set_cons_succ, i64_w, i32_w]
                            rfl
                          refine pure_ (i := 17) (N := some 64) (v := ?_) (a' := ?_) #[true, true, true, true, true, true, true, true, true, true, true, true, true, true, true, true, true, true, false, false, false, false, false, false, false, false, false, false, false, false, false, false, false, false, false] rfl rfl (any_of HT_.out (by kernel_rfl)) (fun _ _ _ h => h) (Or.inl ⟨by rfl, ?_⟩) ?_ ?_
                          rotate_left
                          · intro w'
                            go_simp
                            with_reducible rfl
                          rotate_left
                          · simp only [Act.put, List.setIfInBounds_toArray, List.set_cons_zero, List.set_cons_succ, i64_w, i32_w]
                            rfl
                          refine pure_ (i := 18) (N := some 65) (v := undef) (a' := ?_) #[true, true, true, true, true, true, true, true, true, true, true, true, true, true, true, true, true, true, true, false, false, false, false, false, false, false, false, false, false, false, false, false, false, false, false] rfl rfl (any_of HT_.out (by kernel_rfl)) (fun _ _ _ h => h) (Or.inr ⟨by rfl, rfl⟩) ?_ ?_
                          rotate_left
                          · simp only [Act.put, List.setIfInBounds_toArray, List.set_cons_zero, List.set_cons_succ, i64_w, i32_w]
                            rfl
                          refine pure_ (i := 19) (N := some 66) (v := undef) (a' := ?_) #[true, true, true, true, true, true, true, true, true, true, true, true, true, true, true, true, true, true, true, true, false, false, false, false, false, false, false, false, false, false, false, false, false, false, false] rfl rfl (any_of HT_.out (by kernel_rfl)) (fun _ _ _ h => h) (Or.inr ⟨by rfl, rfl⟩) ?_ ?_
                          rotate_left
                          · simp only [Act.put, List.setIfInBounds_toArray, List.set_cons_zero, List.set_cons_succ, i64_w, i32_w]
                            rfl
                          refine pure_ (i := 20) (N := some 67) (v := undef) (a' := ?_) #[true, true, true, true, true, true, true, true, true, true, true, true, true, true, true, true, true, true, true, true, true, false, false, false, false, false, false, false, false, false, false, false, false, false, false] rfl rfl (any_of HT_.out (by kernel_rfl)) (fun _ _ _ h => h) (Or.inr ⟨by rfl, rfl⟩) ?_ ?_
                          rotate_left
                          · simp only [Act.put, List.setIfInBounds_toArray, List.set_cons_zero, List.set_cons_succ, i64_w, i32_w]
                            rfl
                          refine pure_ (i := 21) (N := some 68) (v := undef) (a' := ?_) #[true, true, true, true, true, true, true, true, true, true, true, true, true, true, true, true, true, true, true, true, true, true, false, false, false, false, false, false, false, false, false, false, false, false, false] rfl rfl (any_of HT_.out (by kernel_rfl)) (fun _ _ _ h => h) (Or.inr ⟨by rfl, rfl⟩) ?_ ?_
                          rotate_left
                          · simp only [Act.put, List.setIfInBounds_toArray, List.set_cons_zero, List.set_cons_succ, i64_w, i32_w]
                            rfl
                          refine pure_ (i := 22) (N := some 69) (v := undef) (a' := ?_) #[true, true, true, true, true, true, true, true, true, true, true, true, true, true, true, true, true, true, true, true, true, true, true, false, false, false, false, false, false, false, false, false, false, false, false] rfl rfl (any_of HT_.out (by kernel_rfl)) (fun _ _ _ h => h) (Or.inr ⟨by rfl, rfl⟩) ?_ ?_
                          rotate_left
                          · simp only [Act.put, List.setIfInBounds_toArray, List.set_cons_zero, List.set_cons_succ, i64_w, i32_w]
                            rfl
                          refine pure_ (i := 23) (N := some 70) (v := undef) (a' := ?_) #[true, true, true, true, true, true, true, true, true, true, true, true, true, true, true, true, true, true, true, true, true, true, true, true, false, false, false, false, false, false, false, false, false, false, false] rfl rfl (any_of HT_.out (by kernel_rfl)) (fun _ _ _ h => h) (Or.inr ⟨by rfl, rfl⟩) ?_ ?_
                          rotate_left
                          · simp only [Act.put, List.setIfInBounds_toArray, List.set_cons_zero, List.set_cons_succ, i64_w, i32_w]
                            rfl
                          refine pure_ (i := 24) (N := some 71) (v := undef) (a' := ?_) #[true, true, true, true, true, true, true, true, true, true, true, true, true, true, true, true, true, true, true, true, true, true, true, true, true, false, false, false, false, false, false, false, false, false, false] rfl rfl (any_of HT_.out (by kernel_rfl)) (fun _ _ _ h => h) (Or.inr ⟨by rfl, rfl⟩) ?_ ?_
                          rotate_left
                          · simp only [Act.put, List.setIfInBounds_toArray, List.set_cons_zero, List.set_cons_succ, i64_w, i32_w]
                            rfl
                          refine pure_ (i := 25) (N := some 72) (v := undef) (a' := ?_) #[true, true, true, true, true, true, true, true, true, true, true, true, true, true, true, true, true, true, true, true, true, true, true, true, true, true, false, false, false, false, false, false, false, false, false] rfl rfl (any_of HT_.out (by kernel_rfl)) (fun _ _ _ h => h) (Or.inr ⟨by rfl, rfl⟩) ?_ ?_
                          rotate_left
                          · simp only [Act.put, List.setIfInBounds_toArray, List.set_cons_zero, List.set_cons_succ, i64_w, i32_w]
                            rfl
                          refine pure_ (i := 26) (N := some 73) (v := undef) (a' := ?_) #[true, true, true, true, true, true, true, true, true, true, true, true, true, true, true, true, true, true, true, true, true, true, true, true, true, true, true, false, false, false, false, false, false, false, false] rfl rfl (any_of HT_.out (by kernel_rfl)) (fun _ _ _ h => h) (Or.inr ⟨by rfl, rfl⟩) ?_ ?_
                          rotate_left
                          · simp only [Act.put, List.setIfInBounds_toArray, List.set_cons_zero, List.set_cons_succ, i64_w, i32_w]
                            rfl
                          refine pure_ (i := 27) (N := some 74) (v := undef) (a' := ?_) #[true, true, true, true, true, true, true, true, true, true, true, true, true, true, true, true, true, true, true, true, true, true, true, true, true, true, true, true, false, false, false, false, false, false, false] rfl rfl (any_of HT_.out (by kernel_rfl)) (fun _ _ _ h => h) (Or.inr ⟨by rfl, rfl⟩) ?_ ?_
                          rotate_left
                          · simp only [Act.put, List.setIfInBounds_toArray, List.set_cons_zero, List.set_cons_succ, i64_w, i32_w]
                            rfl
                          refine pure_ (i := 28) (N := some 75) (v := undef) (a' := ?_) #[true, true, true, true, true, true, true, true, true, true, true, true, true, true, true, true, true, true, true, true, true, true, true, true, true, true, true, true, true, false, false, false, false, false, false] rfl rfl (any_of HT_.out (by kernel_rfl)) (fun _ _ _ h => h) (Or.inr ⟨by rfl, rfl⟩) ?_ ?_
                          rotate_left
                          · simp only [Act.put, List.setIfInBounds_toArray, List.set_cons_zero, List.set_cons_succ, i64_w, i32_w]
                            rfl
                          refine pure_ (i := 29) (N := some 76) (v := undef) (a' := ?_) #[true, true, true, true, true, true, true, true, true, true, true, true, true, true, true, true, true, true, true, true, true, true, true, true, true, true, true, true, true, true, false, false, false, false, false] rfl rfl (any_of HT_.out (by kernel_rfl)) (fun _ _ _ h => h) (Or.inr ⟨by rfl, rfl⟩) ?_ ?_
                          rotate_left
                          · simp only [Act.put, List.setIfInBounds_toArray, List.set_cons_zero, List.set_cons_succ, i64_w, i32_w]
                            rfl
                          refine pure_ (i := 30) (N := some 77) (v := undef) (a' := ?_) #[true, true, true, true, true, true, true, true, true, true, true, true, true, true, true, true, true, true, true, true, true, true, true, true, true, true, true, true, true, true, true, false, false, false, false] rfl rfl (any_of HT_.out (by kernel_rfl)) (fun _ _ _ h => h) (Or.inr ⟨by rfl, rfl⟩) ?_ ?_
                          rotate_left
                          · simp only [Act.put, List.setIfInBounds_toArray, List.set_cons_zero, List.set_cons_succ, i64_w, i32_w]
                            rfl
                          refine pure_ (i := 31) (N := some 78) (v := undef) (a' := ?_) #[true, true, true, true, true, true, true, true, true, true, true, true, true, true, true, true, true, true, true, true, true, true, true, true, true, true, true, true, true, true, true, true, false, false, false] rfl rfl (any_of HT_.out (by kernel_rfl)) (fun _ _ _ h => h) (Or.inr ⟨by rfl, rfl⟩) ?_ ?_
                          rotate_left
                          · simp only [Act.put, List.setIfInBounds_toArray, List.set_cons_zero, List.set_cons_succ, i64_w, i32_w]
                            rfl
                          refine pure_ (i := 32) (N := some 79) (v := undef) (a' := ?_) #[true, true, true, true, true, true, true, true, true, true, true, true, true, true, true, true, true, true, true, true, true, true, true, true, true, true, true, true, true, true, true, true, true, false, false] rfl rfl (any_of HT_.out (by kernel_rfl)) (fun _ _ _ h => h) (Or.inr ⟨by rfl, rfl⟩) ?_ ?_
                          rotate_left
                          · simp only [Act.put, List.setIfInBounds_toArray, List.set_cons_zero, List.set_cons_succ, i64_w, i32_w]
                            rfl
                          refine pure_ (i := 33) (N := some 80) (v := undef) (a' := ?_) #[true, true, true, true, true, true, true, true, true, true, true, true, true, true, true, true, true, true, true, true, true, true, true, true, true, true, true, true, true, true, true, true, true, true, false] rfl rfl (any_of HT_.out (by kernel_rfl)) (fun _ _ _ h => h) (Or.inr ⟨by rfl, rfl⟩) ?_ ?_
                          rotate_left
                          · simp only [Act.put, List.setIfInBounds_toArray, List.set_cons_zero, List.set_cons_succ, i64_w, i32_w]
                            rfl
                          refine pure_ (i := 34) (N := some 81) (v := ?_) (a' := ?_) #[true, true, true, true, true, true, true, true, true, true, true, true, true, true, true, true, true, true, true, true, true, true, true, true, true, true, true, true, true, true, true, true, true, true, true] rfl rfl (any_of HT_.out (by kernel_rfl)) (fun _ _ _ h => h) (Or.inl ⟨by rfl, ?_⟩) ?_ ?_
                          rotate_left
                          · intro w'
                            go_simp
                            with_reducible rfl
                          rotate_left
                          · simp only [Act.put, List.setIfInBounds_toArray, List.set_cons_zero, List.set_cons_succ, i64_w, i32_w]
                            rfl
                          refine done_ (done_of HT_.out (by kernel_rfl)) ?_
                          try go_wp2
                          go_ret
                          exact ⟨by first | rfl | (simp [errW_none, errW_some] <;> rfl) | (simp [*, errW_none, errW_some] <;> rfl), by repeat (first | (with_reducible first | exact HB.out | apply below_alloc | apply pw_below_drewN | apply below_drew1 | refine below_set ?_ GE286.out) | exact HB.out)⟩
                        · rw [if_neg c44] at H
                          have c44b0 : decide ((t294.length : Int) < (wrap64 ((rd t291 x5_2) + (((rd_T41 l0_2 x5_2).f1).length : Int)))) = false := decide_eq_false c44
                          clear c44
                          by_cases c48 : 0 ≤ (rd t291 x5_2)
                          · rw [if_pos c48] at H
                            have c48b0 := eq_true c48
                            have c48b1 : decide (0 ≤ (rd t291 x5_2)) = true := decide_eq_true c48
                            clear c48
                            by_cases c49 : (rd t291 x5_2) ≤ (wrap64 ((rd t291 x5_2) + (((rd_T41 l0_2 x5_2).f1).length : Int)))
                            · rw [if_pos c49] at H
                              have c49b0 := eq_true c49
                              have c49b1 : decide ((rd t291 x5_2) ≤ (wrap64 ((rd t291 x5_2) + (((rd_T41 l0_2 x5_2).f1).length : Int)))) = true := decide_eq_true c49
                              by_cases c50 : (wrap64 ((rd t291 x5_2) + (((rd_T41 l0_2 x5_2).f1).length : Int))) ≤ (t294.length : Int)
                              · rw [if_pos c50] at H
                                have c50b0 := eq_true c50
                                have c50b1 : decide ((wrap64 ((rd t291 x5_2) + (((rd_T41 l0_2 x5_2).f1).length : Int))) ≤ (t294.length : Int)) = true := decide_eq_true c50
                                obtain ⟨y306, hy306⟩ : ∃ y_ : List Int, y_ = ((t294.take ((wrap64 ((rd t291 x5_2) + (((rd_T41 l0_2 x5_2).f1).length : Int))) : Int).toNat).drop ((rd t291 x5_2) : Int).toNat) := ⟨_, rfl⟩
                                replace H : ((laws_same.f k2 y306 ((rd_T41 l0_2 x5_2).f1)).bind fun t310 => (if t310 = true then (laws_FnScriptPlaces.l0 k2 t291 t294 (wrap64 (x5_2 + 1)) a0_0 l0_1 l0_2 a0_3) else (some false))) = some r := by first | (rw [hy306]; with_reducible exact H) | (have H2_ := (Option.bind_some _ _).symm.trans H; rw [hy306]; with_reducible exact H2_) | (have H2_ := (Option.bind_some _ _).symm.trans H; with_reducible exact H2_) | with_reducible exact H | (rw [hy306]; exact H) | exact H
                                have Ny306 := Aside0.mk hy306
                                clear hy306
                                replace H := Option.bind_eq_some_iff.mp H
                                obtain ⟨t310, A510, H⟩ := H
                                replace H : (if t310 = true then (laws_FnScriptPlaces.l0 k2 t291 t294 (wrap64 (x5_2 + 1)) a0_0 l0_1 l0_2 a0_3) else (some false)) = some r := H
                                have A51 := Aside0.mk A510
                                clear A510
                                by_cases c52 : t310 = true
                                · subst c52
                                  have H1 : (laws_FnScriptPlaces.l0 k2 t291 t294 (wrap64 (x5_2 + 1)) a0_0 l0_1 l0_2 a0_3) = some r := by rw [if_pos rfl] at H; exact H
                                  clear H
                                  have H := H1
                                  clear H1
                                  have H' := Aside0.mk H
                                  clear H
                                  have hcz53_0 : wr.cell? ⟨gb286, 0, none⟩ = some (.int .i32 a0_0) := (blk_cell BK286.out 0).trans rfl
                                  have hcz53_1 : wr.cell? ⟨gb286, 1, none⟩ = some (.slice A0_1 l0_1.length c0_1) := (blk_cell BK286.out 1).trans rfl
                                  have hcz53_2 : wr.cell? ⟨gb286, 2, none⟩ = some (.slice A0_2 l0_2.length c0_2) := (blk_cell BK286.out 2).trans rfl
                                  have hcz53_3 : wr.cell? ⟨gb286, 3, none⟩ = some (.int .u32 a0_3) := (blk_cell BK286.out 3).trans rfl
                                  have hfz53_0 := blk_frozen BK286.out 0
                                  have hfz53_1 := blk_frozen BK286.out 1
                                  have hfz53_2 := blk_frozen BK286.out 2
                                  have hfz53_3 := blk_frozen BK286.out 3
                                  have p301 : 0 ≤ (x5_2 : Int) := of_decide_eq_true (by first | (with_reducible assumption) | assumption)
                                  have q301 : x5_2 < (l0_2.length : Int) := of_decide_eq_true (by first | (with_reducible assumption) | assumption)
                                  obtain ⟨ad301, A301_1, c301_1, e301, hx301_0, hx301_1, hl301_1, hi301_1⟩ := at_T41 HR0_2.out x5_2 p301 q301
                                  cases e301
                                  replace hx301_0 := (HB.out.cell (World.block_lt_of_cell? w _ hx301_0)).trans hx301_0
                                  replace hx301_1 := (HB.out.cell (World.block_lt_of_cell? w _ hx301_1)).trans hx301_1
                                  have HR301_1 := Aside0.mk hi301_1
                                  have HC301_1 := Aside0.mk hl301_1
                                  clear hi301_1 hl301_1
                                  replace p301 := eq_true p301
                                  replace q301 := eq_true q301
                                  try go_wp2
                                  have n0_ := Aside0.mk (Kd.R_drew HO_3.out)
                                  have n1_ := Aside0.mk (Kd.R_drew HO_4.out)
                                  have n2_ := Aside0.mk (blk_drew BK286.out)
                                  have n3_ := Aside0.mk (below_drew1 HB.out)
                                  clear HO_3
                                  clear HO_4
                                  clear BK286
                                  clear HB
                                  have HO_3 := n0_
                                  have HO_4 := n1_
                                  have BK286 := n2_
                                  have HB := n3_
                                  clear n0_ n1_ n2_ n3_
                                  have p302 : 0 ≤ (x5_2 : Int) := of_decide_eq_true (by first | (with_reducible assumption) | assumption)
                                  have q302 : x5_2 < (t291.length : Int) := of_decide_eq_true (by first | (with_reducible assumption) | assumption)
                                  obtain ⟨ad302, e302, hx302_0⟩ := Kd.at_int (Kd.R_reads' HO_3.out).2.2 x5_2 p302 q302
                                  cases e302
                                  replace p302 := eq_true p302
                                  replace q302 := eq_true q302
                                  have p303 : 0 ≤ (x5_2 : Int) := of_decide_eq_true (by first | (with_reducible assumption) | assumption)
                                  have q303 : x5_2 < (t291.length : Int) := of_decide_eq_true (by first | (with_reducible assumption) | assumption)
                                  obtain ⟨ad303, e303, hx303_0⟩ := Kd.at_int (Kd.R_reads' HO_3.out).2.2 x5_2 p303 q303
                                  obtain rfl : ad302 = ad303 := (by injection e303)
                                  replace p303 := eq_true p303
                                  replace q303 := eq_true q303
                                  obtain ⟨Ao55, co55, eo55⟩ := Kd.R_slice HO_4.out
                                  (first | subst eo55 | (injection eo55 with f1_ f2_ f3_; have f4_ := f1_.symm; have f5_ := f3_.symm; clear f1_ f2_ f3_; subst f4_; subst f5_))
                                  have p304 : 0 ≤ (x5_2 : Int) := of_decide_eq_true (by first | (with_reducible assumption) | assumption)
                                  have q304 : x5_2 < (t291.length : Int) := of_decide_eq_true (by first | (with_reducible assumption) | assumption)
                                  obtain ⟨ad304, e304, hx304_0⟩ := Kd.at_int (Kd.R_reads' HO_3.out).2.2 x5_2 p304 q304
                                  obtain rfl : ad302 = ad304 := (by injection e304)
                                  replace p304 := eq_true p304
                                  replace q304 := eq_true q304
                                  have p305 : 0 ≤ (x5_2 : Int) := of_decide_eq_true (by first | (with_reducible assumption) | assumption)
                                  have q305 : x5_2 < (t291.length : Int) := of_decide_eq_true (by first | (with_reducible assumption) | assumption)
                                  obtain ⟨ad305, e305, hx305_0⟩ := Kd.at_int (Kd.R_reads' HO_3.out).2.2 x5_2 p305 q305
                                  obtain rfl : ad302 = ad305 := (by injection e305)
                                  replace p305 := eq_true p305
                                  replace q305 := eq_true q305
                                  have q56 : ((wrap64 ((rd t291 x5_2) + (((rd_T41 l0_2 x5_2).f1).length : Int))) : Int) ≤ ((t294.length : Int) : Int) := of_decide_eq_true (by first | (with_reducible assumption) | assumption)
                                  obtain ⟨i056, hi056, _, hsz56, _⟩ := info_parts info5
                                  have hroom56 : t294.length ≤ co55 := (Kd.R_reads' HO_4.out).2.1
                                  have hC56 : Kd.C (Kd.int .u8) _ Ao55 t294.length t294 := (Kd.R_reads' HO_4.out).2.2
                                  have ql56 : ((rd t291 x5_2) : Int) ≤ ((wrap64 ((rd t291 x5_2) + (((rd_T41 l0_2 x5_2).f1).length : Int))) : Int) := of_decide_eq_true (by first | (with_reducible assumption) | assumption)
                                  have q056 : (0 : Int) ≤ ((rd t291 x5_2) : Int) := of_decide_eq_true (by first | (with_reducible assumption) | assumption)
                                  have hcut56 := cut_mid (P := Try.prog) 32 5 .i64 .i64 Try.underlying32 hi056 1 hsz56 Ao55 t294.length co55 (rd t291 x5_2) (wrap64 ((rd t291 x5_2) + (((rd_T41 l0_2 x5_2).f1).length : Int))) q056 ql56 q56 hroom56
                                  have hr56 := Kd.C_mid (lo := ((rd t291 x5_2) : Int).toNat) (hi := ((wrap64 ((rd t291 x5_2) + (((rd_T41 l0_2 x5_2).f1).length : Int))) : Int).toNat) (c := co55) hC56 (by omega) (by omega) hroom56
                                  obtain ⟨A56, hA56⟩ : ∃ A1, A1 = (if co55 = ((rd t291 x5_2) : Int).toNat then Ao55 else (Ao55 : Option Addr).map (·.add (((rd t291 x5_2) : Int).toNat * 1))) := ⟨_, rfl⟩
                                  obtain ⟨c56, hc56⟩ : ∃ c1, c1 = co55 - ((rd t291 x5_2) : Int).toNat := ⟨_, rfl⟩
                                  have hy56 : y306.length = ((wrap64 ((rd t291 x5_2) + (((rd_T41 l0_2 x5_2).f1).length : Int))) : Int).toNat - ((rd t291 x5_2) : Int).toNat := (by rw [Ny306.out, List.length_drop, List.length_take] <;> omega)
                                  rw [show ((t294).take ((wrap64 ((rd t291 x5_2) + (((rd_T41 l0_2 x5_2).f1).length : Int))) : Int).toNat).drop ((rd t291 x5_2) : Int).toNat = y306 from Ny306.out.symm] at hr56
                                  replace hr56 : Kd.C (Kd.int .u8) _ A56 y306.length y306 := (by rw [hA56]; exact hr56)
                                  rw [← hy56, ← hA56, ← hc56] at hcut56
                                  have HR309 := Aside0.mk hr56
                                  have HC309 := Aside0.mk (show y306.length ≤ c56 from by rw [hy56, hc56]; exact Nat.sub_le_sub_right (Nat.le_trans (by omega) hroom56) _)
                                  clear hr56 hC56 hroom56 hi056 hsz56 hc56
                                  have KY56 := Aside0.mk hy56
                                  have KA56 := Aside0.mk hA56
                                  clear hy56 hA56
                                  have KL56 := Aside0.mk (show ((wrap64 ((rd t291 x5_2) + (((rd_T41 l0_2 x5_2).f1).length : Int))) : Int).toNat ≤ t294.length from by omega)
                                  have KM56 := Aside0.mk (show ((rd t291 x5_2) : Int).toNat ≤ ((wrap64 ((rd t291 x5_2) + (((rd_T41 l0_2 x5_2).f1).length : Int))) : Int).toNat from by omega)
                                  replace q56 := eq_true q56
                                  refine start_ (n := 35) (S := fun w' => w'.cell? (ad302.add (x5_2).toNat) = some (.int .i64 (rd t291 x5_2)) ∧ w'.cell? (ad302.add (x5_2).toNat) = some (.int .i64 (rd t291 x5_2)) ∧ w'.cell? (ad302.add (x5_2).toNat) = some (.int .i64 (rd t291 x5_2)) ∧ w'.cell? (ad302.add (x5_2).toNat) = some (.int .i64 (rd t291 x5_2))) (ds := []) #[false, false, false, false, false, false, false, false, false, false, false, false, false, false, false, false, false, false, false, false, false, false, false, false, false, false, false, false, false, false, false, false, false, false, false] (by kernel_rfl) rfl rfl ⟨hx302_0, hx303_0, hx304_0, hx305_0⟩ (fun hHeld => ?_); refine with_tabW laws_FnScriptPlaces.tab13 laws_FnScriptPlaces.bits13 (fun HT_ HW_ => ?_)
                                  generalize wr.drew = w54 at HO_3 HO_4 BK286 HB HR309 hx302_0 hx303_0 hx304_0 hx305_0 hHeld ⊢
                                  refine pure_ (i := 0) (N := some 47) (v := ?_) (a' := ?_) #[true, false, false, false, false, false, false, false, false, false, false, false, false, false, false, false, false, false, false, false, false, false, false, false, false, false, false, false, false, false, false, false, false, false, false] rfl rfl (any_of HT_.out (by kernel_rfl)) (fun _ _ _ h => h) (Or.inl ⟨by rfl, ?_⟩) ?_ ?_
                                  rotate_left
                                  · intro w'
                                    go_simp
                                    with_reducible rfl
                                  rotate_left
                                  · simp only [Act.put, List.setIfInBounds_toArray, List.set_cons_zero, List.set_cons_succ, i64_w, i32_w]
                                    rfl
                                  refine pure_ (i := 1) (N := some 48) (v := ?_) (a' := ?_) #[true, true, false, false, false, false, false, false, false, false, false, false, false, false, false, false, false, false, false, false, false, false, false, false, false, false, false, false, false, false, false, false, false, false, false] rfl rfl (any_of HT_.out (by kernel_rfl)) (fun _ _ _ h => h) (Or.inl ⟨by rfl, ?_⟩) ?_ ?_
                                  rotate_left
                                  · intro w'
                                    go_simp
                                    with_reducible rfl
                                  rotate_left
                                  · simp only [Act.put, List.setIfInBounds_toArray, List.set_cons_zero, List.set_cons_succ, i64_w, i32_w]
                                    rfl
                                  refine pure_ (i := 2) (N := some 49) (v := ?_) (a' := ?_) #[true, true, true, false, false, false, false, false, false, false, false, false, false, false, false, false, false, false, false, false, false, false, false, false, false, false, false, false, false, false, false, false, false, false, false] rfl rfl (any_of HT_.out (by kernel_rfl)) (fun _ _ _ h => h) (Or.inl ⟨by rfl, ?_⟩) ?_ ?_
                                  rotate_left
                                  · intro w'
                                    go_simp
                                    with_reducible rfl
                                  rotate_left
                                  · simp only [Act.put, List.setIfInBounds_toArray, List.set_cons_zero, List.set_cons_succ, i64_w, i32_w]
                                    rfl
                                  refine take_ (i := 3) (N := some 50) (v := ?_) (a' := ?_) #[true, true, true, true, false, false, false, false, false, false, false, false, false, false, false, false, false, false, false, false, false, false, false, false, false, false, false, false, false, false, false, false, false, false, false] rfl rfl (take_ofW HT_.out HW_.out (by kernel_rfl)) (fun _ _ _ h => h) (Or.inl ⟨by rfl, ?_⟩) hHeld ?_ ?_
                                  rotate_left
                                  · rintro w' ⟨s0, s1, s2, s3⟩
                                    go_simp
                                    with_reducible rfl
                                  rotate_left
                                  · simp only [Act.put, List.setIfInBounds_toArray, List.set_cons_zero, List.set_cons_succ, i64_w, i32_w]
                                    rfl
                                  refine pure_ (i := 4) (N := some 51) (v := ?_) (a' := ?_) #[true, true, true, true, true, false, false, false, false, false, false, false, false, false, false, false, false, false, false, false, false, false, false, false, false, false, false, false, false, false, false, false, false, false, false] rfl rfl (any_of HT_.out (by kernel_rfl)) (fun _ _ _ h => h) (Or.inl ⟨by rfl, ?_⟩) ?_ ?_
                                  rotate_left
                                  · intro w'
                                    go_simp
                                    with_reducible rfl
                                  rotate_left
                                  · simp only [Act.put, List.setIfInBounds_toArray, List.set_cons_zero, List.set_cons_succ, i64_w, i32_w]
                                    rfl
                                  refine pure_ (i := 5) (N := some 52) (v := ?_) (a' := ?_) #[true, true, true, true, true, true, false, false, false, false, false, false, false, false, false, false, false, false, false, false, false, false, false, false, false, false, false, false, false, false, false, false, false, false, false] rfl rfl (any_of HT_.out (by kernel_rfl)) (fun _ _ _ h => h) (Or.inl ⟨by rfl, ?_⟩) ?_ ?_
                                  rotate_left
                                  · intro w'
                                    go_simp
                                    with_reducible rfl
                                  rotate_left
                                  · simp only [Act.put, List.setIfInBounds_toArray, List.set_cons_zero, List.set_cons_succ, i64_w, i32_w]
                                    rfl
                                  refine pure_ (i := 6) (N := some 53) (v := ?_) (a' := ?_) #[true, true, true, true, true, true, true, false, false, false, false, false, false, false, false, false, false, false, false, false, false, false, false, false, false, false, false, false, false, false, false, false, false, false, false] rfl rfl (any_of HT_.out (by kernel_rfl)) (fun _ _ _ h => h) (Or.inl ⟨by rfl, ?_⟩) ?_ ?_
                                  rotate_left
                                  · intro w'
                                    go_simp
                                    with_reducible rfl
                                  rotate_left
                                  · simp only [Act.put, List.setIfInBounds_toArray, List.set_cons_zero, List.set_cons_succ, i64_w, i32_w]
                                    rfl
                                  refine pure_ (i := 7) (N := some 54) (v := ?_) (a' := ?_) #[true, true, true, true, true, true, true, true, false, false, false, false, false, false, false, false, false, false, false, false, false, false, false, false, false, false, false, false, false, false, false, false, false, false, false] rfl rfl (any_of HT_.out (by kernel_rfl)) (fun _ _ _ h => h) (Or.inl ⟨by rfl, ?_⟩) ?_ ?_
                                  rotate_left
                                  · intro w'
                                    go_simp
                                    with_reducible rfl
                                  rotate_left
                                  · simp only [Act.put, List.setIfInBounds_toArray, List.set_cons_zero, List.set_cons_succ, i64_w, i32_w]
                                    rfl
                                  refine pure_ (i := 8) (N := some 55) (v := ?_) (a' := ?_) #[true, true, true, true, true, true, true, true, true, false, false, false, false, false, false, false, false, false, false, false, false, false, false, false, false, false, false, false, false, false, false, false, false, false, false] rfl rfl (any_of HT_.out (by kernel_rfl)) (fun _ _ _ h => h) (Or.inl ⟨by rfl, ?_⟩) ?_ ?_
                                  rotate_left
                                  · intro w'
                                    go_simp
                                    with_reducible rfl
                                  rotate_left
                                  · simp only [Act.put, List.setIfInBounds_toArray, List.set_cons_zero, List.set_cons_succ, i64_w, i32_w]
                                    rfl
                                  refine pure_ (i := 10) (N := some 57) (v := ?_) (a' := ?_) #[true, true, true, true, true, true, true, true, true, false, true, false, false, false, false, false, false, false, false, false, false, false, false, false, false, false, false, false, false, false, false, false, false, false, false] rfl rfl (any_of HT_.out (by kernel_rfl)) (fun _ _ _ h => h) (Or.inl ⟨by rfl, ?_⟩) ?_ ?_
                                  rotate_left
                                  · intro w'
                                    go_simp
                                    with_reducible rfl
                                  rotate_left
                                  · simp only [Act.put, List.setIfInBounds_toArray, List.set_cons_zero, List.set_cons_succ, i64_w, i32_w]
                                    rfl
                                  refine pure_ (i := 11) (N := some 58) (v := ?_) (a' := ?_) #[true, true, true, true, true, true, true, true, true, false, true, true, false, false, false, false, false, false, false, false, false, false, false, false, false, false, false, false, false, false, false, false, false, false, false] rfl rfl (any_of HT_.out (by kernel_rfl)) (fun _ _ _ h => h) (Or.inl ⟨by rfl, ?_⟩) ?_ ?_
                                  rotate_left
                                  · intro w'
                                    go_simp
                                    with_reducible rfl
                                  rotate_left
                                  · simp only [Act.put, List.setIfInBounds_toArray, List.set_cons_zero, List.set_cons_succ, i64_w, i32_w]
                                    rfl
                                  refine pure_ (i := 13) (N := some 60) (v := ?_) (a' := ?_) #[true, true, true, true, true, true, true, true, true, false, true, true, false, true, false, false, false, false, false, false, false, false, false, false, false, false, false, false, false, false, false, false, false, false, false] rfl rfl (any_of HT_.out (by kernel_rfl)) (fun _ _ _ h => h) (Or.inl ⟨by rfl, ?_⟩) ?_ ?_
                                  rotate_left
                                  · intro w'
                                    go_simp
                                    with_reducible rfl
                                  rotate_left
                                  · simp only [Act.put, List.setIfInBounds_toArray, List.set_cons_zero, List.set_cons_succ, i64_w, i32_w]
                                    rfl
                                  refine pure_ (i := 14) (N := some 61) (v := ?_) (a' := ?_) #[true, true, true, true, true, true, true, true, true, false, true, true, false, true, true, false, false, false, false, false, false, false, false, false, false, false, false, false, false, false, false, false, false, false, false] rfl rfl (any_of HT_.out (by kernel_rfl)) (fun _ _ _ h => h) (Or.inl ⟨by rfl, ?_⟩) ?_ ?_
                                  rotate_left
                                  · intro w'
                                    go_simp
                                    with_reducible rfl
                                  rotate_left
                                  · simp only [Act.put, List.setIfInBounds_toArray, List.set_cons_zero, List.set_cons_succ, i64_w, i32_w]
                                    rfl
                                  refine take_ (i := 9) (N := some 56) (v := ?_) (a' := ?_) #[true, true, true, true, true, true, true, true, true, true, true, true, false, true, true, false, false, false, false, false, false, false, false, false, false, false, false, false, false, false, false, false, false, false, false] rfl rfl (take_ofW HT_.out HW_.out (by kernel_rfl)) (fun _ _ _ h => h) (Or.inl ⟨by rfl, ?_⟩) hHeld ?_ ?_
                                  rotate_left
                                  · rintro w' ⟨s0, s1, s2, s3⟩
                                    go_simp
                                    with_reducible rfl
                                  rotate_left
                                  · simp only [Act.put, List.setIfInBounds_toArray, List.set_cons_zero, List.set_cons_succ, i64_w, i32_w]
                                    rfl
                                  refine pure_ (i := 12) (N := some 59) (v := ?_) (a' := ?_) #[true, true, true, true, true, true, true, true, true, true, true, true, true, true, true, false, false, false, false, false, false, false, false, false, false, false, false, false, false, false, false, false, false, false, false] rfl rfl (any_of HT_.out (by kernel_rfl)) (fun _ _ _ h => h) (Or.inl ⟨by rfl, ?_⟩) ?_ ?_
                                  rotate_left
                                  · intro w'
                                    go_simp
                                    with_reducible rfl
                                  rotate_left
                                  · simp only [Act.put, List.setIfInBounds_toArray, List.set_cons_zero, List.set_cons_succ, i64_w, i32_w]
                                    rfl
                                  refine pure_ (i := 15) (N := some 62) (v := ?_) (a' := ?_) #[true, true, true, true, true, true, true, true, true, true, true, true, true, true, true, true, false, false, false, false, false, false, false, false, false, false, false, false, false, false, false, false, false, false, false] rfl rfl (any_of HT_.out (by kernel_rfl)) (fun _ _ _ h => h) (Or.inl ⟨by rfl, ?_⟩) ?_ ?_
                                  rotate_left
                                  · intro w'
                                    go_simp
                                    with_reducible rfl
                                  rotate_left
                                  · simp only [Act.put, List.setIfInBounds_toArray, List.set_cons_zero, List.set_cons_succ, i64_w, i32_w]
                                    rfl
                                  refine pure_ (i := 16) (N := some 63) (v := ?_) (a' := ?_) #[true, true, true, true, true, true, true, true, true, true, true, true, true, true, true, true, true, false, false, false, false, false, false, false, false, false, false, false, false, false, false, false, false, false, false] rfl rfl (any_of HT_.out (by kernel_rfl)) (fun _ _ _ h => h) (Or.inl ⟨by rfl, ?_⟩) ?_ ?_
                                  rotate_left
                                  · intro w'
                                    go_simp
                                    with_reducible rfl
                                  rotate_left
                                  · simp only [Act.put, List.setIfInBounds_toArray, List.set_cons_zero, List.set_cons_succ, i64_w, i32_w]
                                    rfl
                                  refine pure_ (i := 17) (N := some 64) (v := ?_) (a' := ?_) #[true, true, true, true, true, true, true, true, true, true, true, true, true, true, true, true, true, true, false, false, false, false, false, false, false, false, false, false, false, false, false, false, false, false, false] rfl rfl (any_of HT_.out (by kernel_rfl)) (fun _ _ _ h => h) (Or.inl ⟨by rfl, ?_⟩) ?_ ?_
                                  rotate_left
                                  · intro w'
                                    go_simp
                                    with_reducible rfl
                                  rotate_left
                                  · simp only [Act.put, List.setIfInBounds_toArray, List.set_cons_zero, List.set_cons_succ, i64_w, i32_w]
                                    rfl
                                  refine pure_ (i := 18) (N := some 65) (v := ?_) (a' := ?_) #[true, true, true, true, true, true, true, true, true, true, true, true, true, true, true, true, true, true, true, false, false, false, false, false, false, false, false, false, false, false, false, false, false, false, false] rfl rfl (any_of HT_.out (by kernel_rfl)) (fun _ _ _ h => h) (Or.inl ⟨by rfl, ?_⟩) ?_ ?_
                                  rotate_left
                                  · intro w'
                                    go_simp
                                    with_reducible rfl
                                  rotate_left
                                  · simp only [Act.put, List.setIfInBounds_toArray, List.set_cons_zero, List.set_cons_succ, i64_w, i32_w]
                                    rfl
                                  refine pure_ (i := 19) (N := some 66) (v := ?_) (a' := ?_) #[true, true, true, true, true, true, true, true, true, true, true, true, true, true, true, true, true, true, true, true, false, false, false, false, false, false, false, false, false, false, false, false, false, false, false] rfl rfl (any_of HT_.out (by kernel_rfl)) (fun _ _ _ h => h) (Or.inl ⟨by rfl, ?_⟩) ?_ ?_
                                  rotate_left
                                  · intro w'
                                    go_simp
                                    with_reducible rfl
                                  rotate_left
                                  · simp only [Act.put, List.setIfInBounds_toArray, List.set_cons_zero, List.set_cons_succ, i64_w, i32_w]
                                    rfl
                                  refine pure_ (i := 20) (N := some 67) (v := ?_) (a' := ?_) #[true, true, true, true, true, true, true, true, true, true, true, true, true, true, true, true, true, true, true, true, true, false, false, false, false, false, false, false, false, false, false, false, false, false, false] rfl rfl (any_of HT_.out (by kernel_rfl)) (fun _ _ _ h => h) (Or.inl ⟨by rfl, ?_⟩) ?_ ?_
                                  rotate_left
                                  · intro w'
                                    go_simp
                                    with_reducible rfl
                                  rotate_left
                                  · simp only [Act.put, List.setIfInBounds_toArray, List.set_cons_zero, List.set_cons_succ, i64_w, i32_w]
                                    rfl
                                  refine pure_ (i := 21) (N := some 68) (v := ?_) (a' := ?_) #[true, true, true, true, true, true, true, true, true, true, true, true, true, true, true, true, true, true, true, true, true, true, false, false, false, false, false, false, false, false, false, false, false, false, false] rfl rfl (any_of HT_.out (by kernel_rfl)) (fun _ _ _ h => h) (Or.inl ⟨by rfl, ?_⟩) ?_ ?_
                                  rotate_left
                                  · intro w'
                                    go_simp
                                    with_reducible rfl
                                  rotate_left
                                  · simp only [Act.put, List.setIfInBounds_toArray, List.set_cons_zero, List.set_cons_succ, i64_w, i32_w]
                                    rfl
                                  refine pure_ (i := 23) (N := some 70) (v := ?_) (a' := ?_) #[true, true, true, true, true, true, true, true, true, true, true, true, true, true, true, true, true, true, true, true, true, true, false, true, false, false, false, false, false, false, false, false, false, false, false] rfl rfl (any_of HT_.out (by kernel_rfl)) (fun _ _ _ h => h) (Or.inl ⟨by rfl, ?_⟩) ?_ ?_
                                  rotate_left
                                  · intro w'
                                    go_simp
                                    with_reducible rfl
                                  rotate_left
                                  · simp only [Act.put, List.setIfInBounds_toArray, List.set_cons_zero, List.set_cons_succ, i64_w, i32_w]
                                    rfl
                                  refine pure_ (i := 24) (N := some 71) (v := ?_) (a' := ?_) #[true, true, true, true, true, true, true, true, true, true, true, true, true, true, true, true, true, true, true, true, true, true, false, true, true, false, false, false, false, false, false, false, false, false, false] rfl rfl (any_of HT_.out (by kernel_rfl)) (fun _ _ _ h => h) (Or.inl ⟨by rfl, ?_⟩) ?_ ?_
                                  rotate_left
                                  · intro w'
                                    go_simp
                                    with_reducible rfl
                                  rotate_left
                                  · simp only [Act.put, List.setIfInBounds_toArray, List.set_cons_zero, List.set_cons_succ, i64_w, i32_w]
                                    rfl
                                  refine pure_ (i := 25) (N := some 72) (v := ?_) (a' := ?_) #[true, true, true, true, true, true, true, true, true, true, true, true, true, true, true, true, true, true, true, true, true, true, false, true, true, true, false, false, false, false, false, false, false, false, false] rfl rfl (any_of HT_.out (by kernel_rfl)) (fun _ _ _ h => h) (Or.inl ⟨by rfl, ?_⟩) ?_ ?_
                                  rotate_left
                                  · intro w'
                                    go_simp
                                    with_reducible rfl
                                  rotate_left
                                  · simp only [Act.put, List.setIfInBounds_toArray, List.set_cons_zero, List.set_cons_succ, i64_w, i32_w]
                                    rfl
                                  refine pure_ (i := 27) (N := some 74) (v := ?_) (a' := ?_) #[true, true, true, true, true, true, true, true, true, true, true, true, true, true, true, true, true, true, true, true, true, true, false, true, true, true, false, true, false, false, false, false, false, false, false] rfl rfl (any_of HT_.out (by kernel_rfl)) (fun _ _ _ h => h) (Or.inl ⟨by rfl, ?_⟩) ?_ ?_
                                  rotate_left
                                  · intro w'
                                    go_simp
                                    with_reducible rfl
                                  rotate_left
                                  · simp only [Act.put, List.setIfInBounds_toArray, List.set_cons_zero, List.set_cons_succ, i64_w, i32_w]
                                    rfl
                                  refine pure_ (i := 28) (N := some 75) (v := ?_) (a' := ?_) #[true, true, true, true, true, true, true, true, true, true, true, true, true, true, true, true, true, true, true, true, true, true, false, true, true, true, false, true, true, false, false, false, false, false, false] rfl rfl (any_of HT_.out (by kernel_rfl)) (fun _ _ _ h => h) (Or.inl ⟨by rfl, ?_⟩) ?_ ?_
                                  rotate_left
                                  · intro w'
                                    go_simp
                                    with_reducible rfl
                                  rotate_left
                                  · simp only [Act.put, List.setIfInBounds_toArray, List.set_cons_zero, List.set_cons_succ, i64_w, i32_w]
                                    rfl
                                  refine pure_ (i := 31) (N := some 78) (v := ?_) (a' := ?_) #[true, true, true, true, true, true, true, true, true, true, true, true, true, true, true, true, true, true, true, true, true, true, false, true, true, true, false, true, true, false, false, true, false, false, false] rfl rfl (any_of HT_.out (by kernel_rfl)) (fun _ _ _ h => h) (Or.inl ⟨by rfl, ?_⟩) ?_ ?_
                                  rotate_left
                                  · intro w'
                                    go_simp
                                    with_reducible rfl
                                  rotate_left
                                  · simp only [Act.put, List.setIfInBounds_toArray, List.set_cons_zero, List.set_cons_succ, i64_w, i32_w]
                                    rfl
                                  refine take_ (i := 22) (N := some 69) (v := ?_) (a' := ?_) #[true, true, true, true, true, true, true, true, true, true, true, true, true, true, true, true, true, true, true, true, true, true, true, true, true, true, false, true, true, false, false, true, false, false, false] rfl rfl (take_ofW HT_.out HW_.out (by kernel_rfl)) (fun _ _ _ h => h) (Or.inl ⟨by rfl, ?_⟩) hHeld ?_ ?_
                                  rotate_left
                                  · rintro w' ⟨s0, s1, s2, s3⟩
                                    go_simp
                                    with_reducible rfl
                                  rotate_left
                                  · simp only [Act.put, List.setIfInBounds_toArray, List.set_cons_zero, List.set_cons_succ, i64_w, i32_w]
                                    rfl
                                  refine take_ (i := 26) (N := some 73) (v := ?_) (a' := ?_) #[true, true, true, true, true, true, true, true, true, true, true, true, true, true, true, true, true, true, true, true, true, true, true, true, true, true, true, true, true, false, false, true, false, false, false] rfl rfl (take_ofW HT_.out HW_.out (by kernel_rfl)) (fun _ _ _ h => h) (Or.inl ⟨by rfl, ?_⟩) hHeld ?_ ?_
                                  rotate_left
                                  · rintro w' ⟨s0, s1, s2, s3⟩
                                    go_simp
                                    with_reducible rfl
                                  rotate_left
                                  · simp only [Act.put, List.setIfInBounds_toArray, List.set_cons_zero, List.set_cons_succ, i64_w, i32_w]
                                    rfl
                                  refine pure_ (i := 29) (N := some 76) (v := ?_) (a' := ?_) #[true, true, true, true, true, true, true, true, true, true, true, true, true, true, true, true, true, true, true, true, true, true, true, true, true, true, true, true, true, true, false, true, false, false, false] rfl rfl (any_of HT_.out (by kernel_rfl)) (fun _ _ _ h => h) (Or.inl ⟨by rfl, ?_⟩) ?_ ?_
                                  rotate_left
                                  · intro w'
                                    go_simp
                                    with_reducible rfl
                                  rotate_left
                                  · simp only [Act.put, List.setIfInBounds_toArray, List.set_cons_zero, List.set_cons_succ, i64_w, i32_w]
                                    rfl
                                  refine pure_ (i := 30) (N := some 77) (v := ?_) (a' := ?_) #[true, true, true, true, true, true, true, true, true, true, true, true, true, true, true, true, true, true, true, true, true, true, true, true, true, true, true, true, true, true, true, true, false, false, false] rfl rfl (any_of HT_.out (by kernel_rfl)) (fun _ _ _ h => h) (Or.inl ⟨by rfl, ?_⟩) ?_ ?_
                                  rotate_left
                                  · intro w'
                                    go_simp
                                    with_reducible rfl
                                  rotate_left
                                  · simp only [Act.put, List.setIfInBounds_toArray, List.set_cons_zero, List.set_cons_succ, i64_w, i32_w]
                                    rfl
                                  refine one_ (i := 32) (N := some 79) #[true, true, true, true, true, true, true, true, true, true, true, true, true, true, true, true, true, true, true, true, true, true, true, true, true, true, true, true, true, true, true, true, true, false, false] rfl rfl (one_of HT_.out (by kernel_rfl)) (by decide) (fun K hK => ?_)
                                  refine goes_ Try.func13 (by kernel_rfl) rfl #[.slice A56 y306.length c56, .slice A301_1 ((rd_T41 l0_2 x5_2).f1).length c301_1] (by rfl) rfl rfl (by (try simp only [List.map_toArray, List.map_cons, List.map_nil]); first | done | rfl | (simp only [List.length_drop, List.length_take]; rfl)) ?_
                                  with_reducible refine (laws_same.calls k2 _ _ y306 _ _ ((rd_T41 l0_2 x5_2).f1) true _ ?side1 ?side2 ?side3 ?side4 A51.out).mono ?_
                                  (case side1 => repeat (first | exact (by repeat (first | (with_reducible exact HR309.out) | (with_reducible refine Kd.C_alloc ?_ _) | (with_reducible refine Kd.C_drewN ?_ _) | (with_reducible refine Kd.C_drew ?_) | exact HR309.out)) | (with_reducible refine Kd.C_alloc ?_ _) | (with_reducible refine Kd.C_drewN ?_ _) | (with_reducible refine Kd.C_drew ?_)))
                                  (case side2 => exact HC309.out)
                                  (case side3 => repeat (first | exact (Kd.C_below HR301_1.out HB.out) | (with_reducible refine Kd.C_alloc ?_ _) | (with_reducible refine Kd.C_drewN ?_ _) | (with_reducible refine Kd.C_drew ?_)))
                                  (case side4 => exact HC301_1.out)
                                  rintro e w' ⟨rfl, ⟨nd, rfl⟩⟩
                                  refine ⟨_, rfl, ?_⟩
                                  refine hK.out _ _ ⟨hHeld.1, hHeld.2.1, hHeld.2.2.1, hHeld.2.2.2⟩ (fun hHeld => ?_)
                                  clear hK K
                                  refine norm_ (a' := ?_) ?_ ?_
                                  rotate_left
                                  · show Act.put _ (some 79) _ = _
                                    simp only [Act.put, List.setIfInBounds_toArray, List.set_cons_zero, List.set_cons_succ, i64_w, i32_w]
                                    rfl
                                  refine pure_ (i := 33) (N := some 80) (v := ?_) (a' := ?_) #[true, true, true, true, true, true, true, true, true, true, true, true, true, true, true, true, true, true, true, true, true, true, true, true, true, true, true, true, true, true, true, true, true, true, false] rfl rfl (any_of HT_.out (by kernel_rfl)) (fun _ _ _ h => h) (Or.inl ⟨by rfl, ?_⟩) ?_ ?_
                                  rotate_left
                                  · intro w'
                                    go_simp
                                    with_reducible rfl
                                  rotate_left
                                  · simp only [Act.put, List.setIfInBounds_toArray, List.set_cons_zero, List.set_cons_succ, i64_w, i32_w]
                                    rfl
                                  refine pure_ (i := 34) (N := some 81) (v := ?_) (a' := ?_) #[true, true, true, true, true, true, true, true, true, true, true, true, true, true, true, true, true, true, true, true, true, true, true, true, true, true, true, true, true, true, true, true, true, true, true] rfl rfl (any_of HT_.out (by kernel_rfl)) (fun _ _ _ h => h) (Or.inl ⟨by rfl, ?_⟩) ?_ ?_
                                  rotate_left
                                  · intro w'
                                    go_simp
                                    with_reducible rfl
                                  rotate_left
                                  · simp only [Act.put, List.setIfInBounds_toArray, List.set_cons_zero, List.set_cons_succ, i64_w, i32_w]
                                    rfl
                                  refine done_ (done_of HT_.out (by kernel_rfl)) ?_
                                  try go_wp2
                                  go_roundg k2
                                  case measure => have := HJ3.out; have := HK2.out; omega
                                  case rel => exact ⟨(wrap64 (x5_2 + 1)), (by first | rfl | (simp; done) | (simp [*]; done)), (by first | exact H' | (subst_vars; exact H')), ⟨by have := HJ3.out; have := HK2.out; omega⟩, ⟨by (with_reducible repeat (first | apply Kd.R_alloc | apply Kd.R_drewN | apply Kd.R_drew)); exact HO_3.out⟩, ⟨by (with_reducible repeat (first | apply Kd.R_alloc | apply Kd.R_drewN | apply Kd.R_drew)); exact HO_4.out⟩, ⟨by (with_reducible repeat (first | refine blk_drewN ?_ _ | refine blk_drew ?_ | refine blk_alloc ?_ _)); exact BK286.out⟩, ⟨by repeat (first | (with_reducible first | exact HB.out | apply below_alloc | apply pw_below_drewN | apply below_drew1 | refine below_set ?_ GE286.out) | exact HB.out)⟩⟩
                                · replace c52 := Bool.eq_false_iff.mpr c52
                                  subst c52
                                  have H1 : (some false) = some r := by rw [if_neg (show ¬ (false = true) by decide)] at H; exact H
                                  clear H
                                  have H := H1
                                  clear H1
                                  obtain rfl := Option.some.inj H
                                  have hcz57_0 : wr.cell? ⟨gb286, 0, none⟩ = some (.int .i32 a0_0) := (blk_cell BK286.out 0).trans rfl
                                  have hcz57_1 : wr.cell? ⟨gb286, 1, none⟩ = some (.slice A0_1 l0_1.length c0_1) := (blk_cell BK286.out 1).trans rfl
                                  have hcz57_2 : wr.cell? ⟨gb286, 2, none⟩ = some (.slice A0_2 l0_2.length c0_2) := (blk_cell BK286.out 2).trans rfl
                                  have hcz57_3 : wr.cell? ⟨gb286, 3, none⟩ = some (.int .u32 a0_3) := (blk_cell BK286.out 3).trans rfl
                                  have hfz57_0 := blk_frozen BK286.out 0
                                  have hfz57_1 := blk_frozen BK286.out 1
                                  have hfz57_2 := blk_frozen BK286.out 2
                                  have hfz57_3 := blk_frozen BK286.out 3
                                  have p301 : 0 ≤ (x5_2 : Int) := of_decide_eq_true (by first | (with_reducible assumption) | assumption)
                                  have q301 : x5_2 < (l0_2.length : Int) := of_decide_eq_true (by first | (with_reducible assumption) | assumption)
                                  obtain ⟨ad301, A301_1, c301_1, e301, hx301_0, hx301_1, hl301_1, hi301_1⟩ := at_T41 HR0_2.out x5_2 p301 q301
                                  cases e301
                                  replace hx301_0 := (HB.out.cell (World.block_lt_of_cell? w _ hx301_0)).trans hx301_0
                                  replace hx301_1 := (HB.out.cell (World.block_lt_of_cell? w _ hx301_1)).trans hx301_1
                                  have HR301_1 := Aside0.mk hi301_1
                                  have HC301_1 := Aside0.mk hl301_1
                                  clear hi301_1 hl301_1
                                  replace p301 := eq_true p301
                                  replace q301 := eq_true q301
                                  try go_wp2
                                  have n0_ := Aside0.mk (Kd.R_drew HO_3.out)
                                  have n1_ := Aside0.mk (Kd.R_drew HO_4.out)
                                  have n2_ := Aside0.mk (blk_drew BK286.out)
                                  have n3_ := Aside0.mk (below_drew1 HB.out)
                                  clear HO_3
                                  clear HO_4
                                  clear BK286
                                  clear HB
                                  have HO_3 := n0_
                                  have HO_4 := n1_
                                  have BK286 := n2_
                                  have HB := n3_
                                  clear n0_ n1_ n2_ n3_
                                  have p302 : 0 ≤ (x5_2 : Int) := of_decide_eq_true (by first | (with_reducible assumption) | assumption)
                                  have q302 : x5_2 < (t291.length : Int) := of_decide_eq_true (by first | (with_reducible assumption) | assumption)
                                  obtain ⟨ad302, e302, hx302_0⟩ := Kd.at_int (Kd.R_reads' HO_3.out).2.2 x5_2 p302 q302
                                  cases e302
                                  replace p302 := eq_true p302
                                  replace q302 := eq_true q302
                                  have p303 : 0 ≤ (x5_2 : Int) := of_decide_eq_true (by first | (with_reducible assumption) | assumption)
                                  have q303 : x5_2 < (t291.length : Int) := of_decide_eq_true (by first | (with_reducible assumption) | assumption)
                                  obtain ⟨ad303, e303, hx303_0⟩ := Kd.at_int (Kd.R_reads' HO_3.out).2.2 x5_2 p303 q303
                                  obtain rfl : ad302 = ad303 := (by injection e303)
                                  replace p303 := eq_true p303
                                  replace q303 := eq_true q303
                                  obtain ⟨Ao59, co59, eo59⟩ := Kd.R_slice HO_4.out
                                  (first | subst eo59 | (injection eo59 with f1_ f2_ f3_; have f4_ := f1_.symm; have f5_ := f3_.symm; clear f1_ f2_ f3_; subst f4_; subst f5_))
                                  have p304 : 0 ≤ (x5_2 : Int) := of_decide_eq_true (by first | (with_reducible assumption) | assumption)
                                  have q304 : x5_2 < (t291.length : Int) := of_decide_eq_true (by first | (with_reducible assumption) | assumption)
                                  obtain ⟨ad304, e304, hx304_0⟩ := Kd.at_int (Kd.R_reads' HO_3.out).2.2 x5_2 p304 q304
                                  obtain rfl : ad302 = ad304 := (by injection e304)
                                  replace p304 := eq_true p304
                                  replace q304 := eq_true q304
                                  have p305 : 0 ≤ (x5_2 : Int) := of_decide_eq_true (by first | (with_reducible assumption) | assumption)
                                  have q305 : x5_2 < (t291.length : Int) := of_decide_eq_true (by first | (with_reducible assumption) | assumption)
                                  obtain ⟨ad305, e305, hx305_0⟩ := Kd.at_int (Kd.R_reads' HO_3.out).2.2 x5_2 p305 q305
                                  obtain rfl : ad302 = ad305 := (by injection e305)
                                  replace p305 := eq_true p305
                                  replace q305 := eq_true q305
                                  have q60 : ((wrap64 ((rd t291 x5_2) + (((rd_T41 l0_2 x5_2).f1).length : Int))) : Int) ≤ ((t294.length : Int) : Int) := of_decide_eq_true (by first | (with_reducible assumption) | assumption)
                                  obtain ⟨i060, hi060, _, hsz60, _⟩ := info_parts info5
                                  have hroom60 : t294.length ≤ co59 := (Kd.R_reads' HO_4.out).2.1
                                  have hC60 : Kd.C (Kd.int .u8) _ Ao59 t294.length t294 := (Kd.R_reads' HO_4.out).2.2
                                  have ql60 : ((rd t291 x5_2) : Int) ≤ ((wrap64 ((rd t291 x5_2) + (((rd_T41 l0_2 x5_2).f1).length : Int))) : Int) := of_decide_eq_true (by first | (with_reducible assumption) | assumption)
                                  have q060 : (0 : Int) ≤ ((rd t291 x5_2) : Int) := of_decide_eq_true (by first | (with_reducible assumption) | assumption)
                                  have hcut60 := cut_mid (P := Try.prog) 32 5 .i64 .i64 Try.underlying32 hi060 1 hsz60 Ao59 t294.length co59 (rd t291 x5_2) (wrap64 ((rd t291 x5_2) + (((rd_T41 l0_2 x5_2).f1).length : Int))) q060 ql60 q60 hroom60
                                  have hr60 := Kd.C_mid (lo := ((rd t291 x5_2) : Int).toNat) (hi := ((wrap64 ((rd t291 x5_2) + (((rd_T41 l0_2 x5_2).f1).length : Int))) : Int).toNat) (c := co59) hC60 (by omega) (by omega) hroom60
                                  obtain ⟨A60, hA60⟩ : ∃ A1, A1 = (if co59 = ((rd t291 x5_2) : Int).toNat then Ao59 else (Ao59 : Option Addr).map (·.add (((rd t291 x5_2) : Int).toNat * 1))) := ⟨_, rfl⟩
                                  obtain ⟨c60, hc60⟩ : ∃ c1, c1 = co59 - ((rd t291 x5_2) : Int).toNat := ⟨_, rfl⟩
                                  have hy60 : y306.length = ((wrap64 ((rd t291 x5_2) + (((rd_T41 l0_2 x5_2).f1).length : Int))) : Int).toNat - ((rd t291 x5_2) : Int).toNat := (by rw [Ny306.out, List.length_drop, List.length_take] <;> omega)
                                  rw [show ((t294).take ((wrap64 ((rd t291 x5_2) + (((rd_T41 l0_2 x5_2).f1).length : Int))) : Int).toNat).drop ((rd t291 x5_2) : Int).toNat = y306 from Ny306.out.symm] at hr60
                                  replace hr60 : Kd.C (Kd.int .u8) _ A60 y306.length y306 := (by rw [hA60]; exact hr60)
                                  rw [← hy60, ← hA60, ← hc60] at hcut60
                                  have HR309 := Aside0.mk hr60
                                  have HC309 := Aside0.mk (show y306.length ≤ c60 from by rw [hy60, hc60]; exact Nat.sub_le_sub_right (Nat.le_trans (by omega) hroom60) _)
                                  clear hr60 hC60 hroom60 hi060 hsz60 hc60
                                  have KY60 := Aside0.mk hy60
                                  have KA60 := Aside0.mk hA60
                                  clear hy60 hA60
                                  have KL60 := Aside0.mk (show ((wrap64 ((rd t291 x5_2) + (((rd_T41 l0_2 x5_2).f1).length : Int))) : Int).toNat ≤ t294.length from by omega)
                                  have KM60 := Aside0.mk (show ((rd t291 x5_2) : Int).toNat ≤ ((wrap64 ((rd t291 x5_2) + (((rd_T41 l0_2 x5_2).f1).length : Int))) : Int).toNat from by omega)
                                  replace q60 := eq_true q60
                                  refine start_ (n := 35) (S := fun w' => w'.cell? (ad302.add (x5_2).toNat) = some (.int .i64 (rd t291 x5_2)) ∧ w'.cell? (ad302.add (x5_2).toNat) = some (.int .i64 (rd t291 x5_2)) ∧ w'.cell? (ad302.add (x5_2).toNat) = some (.int .i64 (rd t291 x5_2)) ∧ w'.cell? (ad302.add (x5_2).toNat) = some (.int .i64 (rd t291 x5_2))) (ds := []) #[false, false, false, false, false, false, false, false, false, false, false, false, false, false, false, false, false, false, false, false, false, false, false, false, false, false, false, false, false, false, false, false, false, false, false] (by kernel_rfl) rfl rfl ⟨hx302_0, hx303_0, hx304_0, hx305_0⟩ (fun hHeld => ?_); refine with_tabW laws_FnScriptPlaces.tab13 laws_FnScriptPlaces.bits13 (fun HT_ HW_ => ?_)
                                  generalize wr.drew = w58 at HO_3 HO_4 BK286 HB HR309 hx302_0 hx303_0 hx304_0 hx305_0 hHeld ⊢
                                  refine pure_ (i := 0) (N := some 47) (v := ?_) (a' := ?_) #[true, false, false, false, false, false, false, false, false, false, false, false, false, false, false, false, false, false, false, false, false, false, false, false, false, false, false, false, false, false, false, false, false, false, false] rfl rfl (any_of HT_.out (by kernel_rfl)) (fun _ _ _ h => h) (Or.inl ⟨by rfl, ?_⟩) ?_ ?_
                                  rotate_left
                                  · intro w'
                                    go_simp
                                    with_reducible rfl
                                  rotate_left
                                  · simp only [Act.put, List.setIfInBounds_toArray, List.set_cons_zero, List.set_cons_succ, i64_w, i32_w]
                                    rfl
                                  refine pure_ (i := 1) (N := some 48) (v := ?_) (a' := ?_) #[true, true, false, false, false, false, false, false, false, false, false, false, false, false, false, false, false, false, false, false, false, false, false, false, false, false, false, false, false, false, false, false, false, false, false] rfl rfl (any_of HT_.out (by kernel_rfl)) (fun _ _ _ h => h) (Or.inl ⟨by rfl, ?_⟩) ?_ ?_
                                  rotate_left
                                  · intro w'
                                    go_simp
                                    with_reducible rfl
                                  rotate_left
                                  · simp only [Act.put, List.setIfInBounds_toArray, List.set_cons_zero, List.set_cons_succ, i64_w, i32_w]
                                    rfl
                                  refine pure_ (i := 2) (N := some 49) (v := ?_) (a' := ?_) #[true, true, true, false, false, false, false, false, false, false, false, false, false, false, false, false, false, false, false, false, false, false, false, false, false, false, false, false, false, false, false, false, false, false, false] rfl rfl (any_of HT_.out (by kernel_rfl)) (fun _ _ _ h => h) (Or.inl ⟨by rfl, ?_⟩) ?_ ?_
                                  rotate_left
                                  · intro w'
                                    go_simp
                                    with_reducible rfl
                                  rotate_left
                                  · simp only [Act.put, List.setIfInBounds_toArray, List.set_cons_zero, List.set_cons_succ, i64_w, i32_w]
                                    rfl
                                  refine take_ (i := 3) (N := some 50) (v := ?_) (a' := ?_) #[true, true, true, true, false, false, false, false, false, false, false, false, false, false, false, false, false, false, false, false, false, false, false, false, false, false, false, false, false, false, false, false, false, false, false] rfl rfl (take_ofW HT_.out HW_.out (by kernel_rfl)) (fun _ _ _ h => h) (Or.inl ⟨by rfl, ?_⟩) hHeld ?_ ?_
                                  rotate_left
                                  · rintro w' ⟨s0, s1, s2, s3⟩
                                    go_simp
                                    with_reducible rfl
                                  rotate_left
                                  · simp only [Act.put, List.setIfInBounds_toArray, List.set_cons_zero, List.set_cons_succ, i64_w, i32_w]
                                    rfl
                                  refine pure_ (i := 4) (N := some 51) (v := ?_) (a' := ?_) #[true, true, true, true, true, false, false, false, false, false, false, false, false, false, false, false, false, false, false, false, false, false, false, false, false, false, false, false, false, false, false, false, false, false, false] rfl rfl (any_of HT_.out (by kernel_rfl)) (fun _ _ _ h => h) (Or.inl ⟨by rfl, ?_⟩) ?_ ?_
                                  rotate_left
                                  · intro w'
                                    go_simp
                                    with_reducible rfl
                                  rotate_left
                                  · simp only [Act.put, List.setIfInBounds_toArray, List.set_cons_zero, List.set_cons_succ, i64_w, i32_w]
                                    rfl
                                  refine pure_ (i := 5) (N := some 52) (v := ?_) (a' := ?_) #[true, true, true, true, true, true, false, false, false, false, false, false, false, false, false, false, false, false, false, false, false, false, false, false, false, false, false, false, false, false, false, false, false, false, false] rfl rfl (any_of HT_.out (by kernel_rfl)) (fun _ _ _ h => h) (Or.inl ⟨by rfl, ?_⟩) ?_ ?_
                                  rotate_left
                                  · intro w'
                                    go_simp
                                    with_reducible rfl
                                  rotate_left
                                  · simp only [Act.put, List.setIfInBounds_toArray, List.set_cons_zero, List.set_cons_succ, i64_w, i32_w]
                                    rfl
                                  refine pure_ (i := 6) (N := some 53) (v := ?_) (a' := ?_) #[true, true, true, true, true, true, true, false, false, false, false, false, false, false, false, false, false, false, false, false, false, false, false, false, false, false, false, false, false, false, false, false, false, false, false] rfl rfl (any_of HT_.out (by kernel_rfl)) (fun _ _ _ h => h) (Or.inl ⟨by rfl, ?_⟩) ?_ ?_
                                  rotate_left
                                  · intro w'
                                    go_simp
                                    with_reducible rfl
                                  rotate_left
                                  · simp only [Act.put, List.setIfInBounds_toArray, List.set_cons_zero, List.set_cons_succ, i64_w, i32_w]
                                    rfl
                                  refine pure_ (i := 7) (N := some 54) (v := ?_) (a' := ?_) #[true, true, true, true, true, true, true, true, false, false, false, false, false, false, false, false, false, false, false, false, false, false, false, false, false, false, false, false, false, false, false, false, false, false, false] rfl rfl (any_of HT_.out (by kernel_rfl)) (fun _ _ _ h => h) (Or.inl ⟨by rfl, ?_⟩) ?_ ?_
                                  rotate_left
                                  · intro w'
                                    go_simp
                                    with_reducible rfl
                                  rotate_left
                                  · simp only [Act.put, List.setIfInBounds_toArray, List.set_cons_zero, List.set_cons_succ, i64_w, i32_w]
                                    rfl
                                  refine pure_ (i := 8) (N := some 55) (v := ?_) (a' := ?_) #[true, true, true, true, true, true, true, true, true, false, false, false, false, false, false, false, false, false, false, false, false, false, false, false, false, false, false, false, false, false, false, false, false, false, false] rfl rfl (any_of HT_.out (by kernel_rfl)) (fun _ _ _ h => h) (Or.inl ⟨by rfl, ?_⟩) ?_ ?_
                                  rotate_left
                                  · intro w'
                                    go_simp
                                    with_reducible rfl
                                  rotate_left
                                  · simp only [Act.put, List.setIfInBounds_toArray, List.set_cons_zero, List.set_cons_succ, i64_w, i32_w]
                                    rfl
                                  refine pure_ (i := 10) (N := some 57) (v := ?_) (a' := ?_) #[true, true, true, true, true, true, true, true, true, false, true, false, false, false, false, false, false, false, false, false, false, false, false, false, false, false, false, false, false, false, false, false, false, false, false] rfl rfl (any_of HT_.out (by kernel_rfl)) (fun _ _ _ h => h) (Or.inl ⟨by rfl, ?_⟩) ?_ ?_
                                  rotate_left
                                  · intro w'
                                    go_simp
                                    with_reducible rfl
                                  rotate_left
                                  · simp only [Act.put, List.setIfInBounds_toArray, List.set_cons_zero, List.set_cons_succ, i64_w, i32_w]
                                    rfl
                                  refine pure_ (i := 11) (N := some 58) (v := ?_) (a' := ?_) #[true, true, true, true, true, true, true, true, true, false, true, true, false, false, false, false, false, false, false, false, false, false, false, false, false, false, false, false, false, false, false, false, false, false, false] rfl rfl (any_of HT_.out (by kernel_rfl)) (fun _ _ _ h => h) (Or.inl ⟨by rfl, ?_⟩) ?_ ?_
                                  rotate_left
                                  · intro w'
                                    go_simp
                                    with_reducible rfl
                                  rotate_left
                                  · simp only [Act.put, List.setIfInBounds_toArray, List.set_cons_zero, List.set_cons_succ, i64_w, i32_w]
                                    rfl
                                  refine pure_ (i := 13) (N := some 60) (v := ?_) (a' := ?_) #[true, true, true, true, true, true, true, true, true, false, true, true, false, true, false, false, false, false, false, false, false, false, false, false, false, false, false, false, false, false, false, false, false, false, false] rfl rfl (any_of HT_.out (by kernel_rfl)) (fun _ _ _ h => h) (Or.inl ⟨by rfl, ?_⟩) ?_ ?_
                                  rotate_left
                                  · intro w'
                                    go_simp
                                    with_reducible rfl
                                  rotate_left
                                  · simp only [Act.put, List.setIfInBounds_toArray, List.set_cons_zero, List.set_cons_succ, i64_w, i32_w]
                                    rfl
                                  refine pure_ (i := 14) (N := some 61) (v := ?_) (a' := ?_) #[true, true, true, true, true, true, true, true, true, false, true, true, false, true, true, false, false, false, false, false, false, false, false, false, false, false, false, false, false, false, false, false, false, false, false] rfl rfl (any_of HT_.out (by kernel_rfl)) (fun _ _ _ h => h) (Or.inl ⟨by rfl, ?_⟩) ?_ ?_
                                  rotate_left
                                  · intro w'
                                    go_simp
                                    with_reducible rfl
                                  rotate_left
                                  · simp only [Act.put, List.setIfInBounds_toArray, List.set_cons_zero, List.set_cons_succ, i64_w, i32_w]
                                    rfl
                                  refine take_ (i := 9) (N := some 56) (v := ?_) (a' := ?_) #[true, true, true, true, true, true, true, true, true, true, true, true, false, true, true, false, false, false, false, false, false, false, false, false, false, false, false, false, false, false, false, false, false, false, false] rfl rfl (take_ofW HT_.out HW_.out (by kernel_rfl)) (fun _ _ _ h => h) (Or.inl ⟨by rfl, ?_⟩) hHeld ?_ ?_
                                  rotate_left
                                  · rintro w' ⟨s0, s1, s2, s3⟩
                                    go_simp
                                    with_reducible rfl
                                  rotate_left
                                  · simp only [Act.put, List.setIfInBounds_toArray, List.set_cons_zero, List.set_cons_succ, i64_w, i32_w]
                                    rfl
                                  refine pure_ (i := 12) (N := some 59) (v := ?_) (a' := ?_) #[true, true, true, true, true, true, true, true, true, true, true, true, true, true, true, false, false, false, false, false, false, false, false, false, false, false, false, false, false, false, false, false, false, false, false] rfl rfl (any_of HT_.out (by kernel_rfl)) (fun _ _ _ h => h) (Or.inl ⟨by rfl, ?_⟩) ?_ ?_
                                  rotate_left
                                  · intro w'
                                    go_simp
                                    with_reducible rfl
                                  rotate_left
                                  · simp only [Act.put, List.setIfInBounds_toArray, List.set_cons_zero, List.set_cons_succ, i64_w, i32_w]
                                    rfl
                                  refine pure_ (i := 15) (N := some 62) (v := ?_) (a' := ?_) #[true, true, true, true, true, true, true, true, true, true, true, true, true, true, true, true, false, false, false, false, false, false, false, false, false, false, false, false, false, false, false, false, false, false, false] rfl rfl (any_of HT_.out (by kernel_rfl)) (fun _ _ _ h => h) (Or.inl ⟨by rfl, ?_⟩) ?_ ?_
                                  rotate_left
                                  · intro w'
                                    go_simp
                                    with_reducible rfl
                                  rotate_left
                                  · simp only [Act.put, List.setIfInBounds_toArray, List.set_cons_zero, List.set_cons_succ, i64_w, i32_w]
                                    rfl
                                  refine pure_ (i := 16) (N := some 63) (v := ?_) (a' := ?_) #[true, true, true, true, true, true, true, true, true, true, true, true, true, true, true, true, true, false, false, false, false, false, false, false, false, false, false, false, false, false, false, false, false, false, false] rfl rfl (any_of HT_.out (by kernel_rfl)) (fun _ _ _ h => h) (Or.inl ⟨by rfl, ?_⟩) ?_ ?_
                                  rotate_left
                                  · intro w'
                                    go_simp
                                    with_reducible rfl
                                  rotate_left
                                  · simp only [Act.put, List.setIfInBounds_toArray, List.set_cons_zero, List.set_cons_succ, i64_w, i32_w]
                                    rfl
                                  refine pure_ (i := 17) (N := some 64) (v := ?_) (a' := ?_) #[true, true, true, true, true, true, true, true, true, true, true, true, true, true, true, true, true, true, false, false, false, false, false, false, false, false, false, false, false, false, false, false, false, false, false] rfl rfl (any_of HT_.out (by kernel_rfl)) (fun _ _ _ h => h) (Or.inl ⟨by rfl, ?_⟩) ?_ ?_
                                  rotate_left
                                  · intro w'
                                    go_simp
                                    with_reducible rfl
                                  rotate_left
                                  · simp only [Act.put, List.setIfInBounds_toArray, List.set_cons_zero, List.set_cons_succ, i64_w, i32_w]
                                    rfl
                                  refine pure_ (i := 18) (N := some 65) (v := ?_) (a' := ?_) #[true, true, true, true, true, true, true, true, true, true, true, true, true, true, true, true, true, true, true, false, false, false, false, false, false, false, false, false, false, false, false, false, false, false, false] rfl rfl (any_of HT_.out (by kernel_rfl)) (fun _ _ _ h => h) (Or.inl ⟨by rfl, ?_⟩) ?_ ?_
                                  rotate_left
                                  · intro w'
                                    go_simp
                                    with_reducible rfl
                                  rotate_left
                                  · simp only [Act.put, List.setIfInBounds_toArray, List.set_cons_zero, List.set_cons_succ, i64_w, i32_w]
                                    rfl
                                  refine pure_ (i := 19) (N := some 66) (v := ?_) (a' := ?_) #[true, true, true, true, true, true, true, true, true, true, true, true, true, true, true, true, true, true, true, true, false, false, false, false, false, false, false, false, false, false, false, false, false, false, false] rfl rfl (any_of HT_.out (by kernel_rfl)) (fun _ _ _ h => h) (Or.inl ⟨by rfl, ?_⟩) ?_ ?_
                                  rotate_left
                                  · intro w'
                                    go_simp
                                    with_reducible rfl
                                  rotate_left
                                  · simp only [Act.put, List.setIfInBounds_toArray, List.set_cons_zero, List.set_cons_succ, i64_w, i32_w]
                                    rfl
                                  refine pure_ (i := 20) (N := some 67) (v := ?_) (a' := ?_) #[true, true, true, true, true, true, true, true, true, true, true, true, true, true, true, true, true, true, true, true, true, false, false, false, false, false, false, false, false, false, false, false, false, false, false] rfl rfl (any_of HT_.out (by kernel_rfl)) (fun _ _ _ h => h) (Or.inl ⟨by rfl, ?_⟩) ?_ ?_
                                  rotate_left
                                  · intro w'
                                    go_simp
                                    with_reducible rfl
                                  rotate_left
                                  · simp only [Act.put, List.setIfInBounds_toArray, List.set_cons_zero, List.set_cons_succ, i64_w, i32_w]
                                    rfl
                                  refine pure_ (i := 21) (N := some 68) (v := ?_) (a' := ?_) #[true, true, true, true, true, true, true, true, true, true, true, true, true, true, true, true, true, true, true, true, true, true, false, false, false, false, false, false, false, false, false, false, false, false, false] rfl rfl (any_of HT_.out (by kernel_rfl)) (fun _ _ _ h => h) (Or.inl ⟨by rfl, ?_⟩) ?_ ?_
                                  rotate_left
                                  · intro w'
                                    go_simp
                                    with_reducible rfl
                                  rotate_left
                                  · simp only [Act.put, List.setIfInBounds_toArray, List.set_cons_zero, List.set_cons_succ, i64_w, i32_w]
                                    rfl
                                  refine pure_ (i := 23) (N := some 70) (v := ?_) (a' := ?_) #[true, true, true, true, true, true, true, true, true, true, true, true, true, true, true, true, true, true, true, true, true, true, false, true, false, false, false, false, false, false, false, false, false, false, false] rfl rfl (any_of HT_.out (by kernel_rfl)) (fun _ _ _ h => h) (Or.inl ⟨by rfl, ?_⟩) ?_ ?_
                                  rotate_left
                                  · intro w'
                                    go_simp
                                    with_reducible rfl
                                  rotate_left
                                  · simp only [Act.put, List.setIfInBounds_toArray, List.set_cons_zero, List.set_cons_succ, i64_w, i32_w]
                                    rfl
                                  refine pure_ (i := 24) (N := some 71) (v := ?_) (a' := ?_) #[true, true, true, true, true, true, true, true, true, true, true, true, true, true, true, true, true, true, true, true, true, true, false, true, true, false, false, false, false, false, false, false, false, false, false] rfl rfl (any_of HT_.out (by kernel_rfl)) (fun _ _ _ h => h) (Or.inl ⟨by rfl, ?_⟩) ?_ ?_
                                  rotate_left
                                  · intro w'
                                    go_simp
                                    with_reducible rfl
                                  rotate_left
                                  · simp only [Act.put, List.setIfInBounds_toArray, List.set_cons_zero, List.set_cons_succ, i64_w, i32_w]
                                    rfl
                                  refine pure_ (i := 25) (N := some 72) (v := ?_) (a' := ?_) #[true, true, true, true, true, true, true, true, true, true, true, true, true, true, true, true, true, true, true, true, true, true, false, true, true, true, false, false, false, false, false, false, false, false, false] rfl rfl (any_of HT_.out (by kernel_rfl)) (fun _ _ _ h => h) (Or.inl ⟨by rfl, ?_⟩) ?_ ?_
                                  rotate_left
                                  · intro w'
                                    go_simp
                                    with_reducible rfl
                                  rotate_left
                                  · simp only [Act.put, List.setIfInBounds_toArray, List.set_cons_zero, List.set_cons_succ, i64_w, i32_w]
                                    rfl
                                  refine pure_ (i := 27) (N := some 74) (v := ?_) (a' := ?_) #[true, true, true, true, true, true, true, true, true, true, true, true, true, true, true, true, true, true, true, true, true, true, false, true, true, true, false, true, false, false, false, false, false, false, false] rfl rfl (any_of HT_.out (by kernel_rfl)) (fun _ _ _ h => h) (Or.inl ⟨by rfl, ?_⟩) ?_ ?_
                                  rotate_left
                                  · intro w'
                                    go_simp
                                    with_reducible rfl
                                  rotate_left
                                  · simp only [Act.put, List.setIfInBounds_toArray, List.set_cons_zero, List.set_cons_succ, i64_w, i32_w]
                                    rfl
                                  refine pure_ (i := 28) (N := some 75) (v := ?_) (a' := ?_) #[true, true, true, true, true, true, true, true, true, true, true, true, true, true, true, true, true, true, true, true, true, true, false, true, true, true, false, true, true, false, false, false, false, false, false] rfl rfl (any_of HT_.out (by kernel_rfl)) (fun _ _ _ h => h) (Or.inl ⟨by rfl, ?_⟩) ?_ ?_
                                  rotate_left
                                  · intro w'
                                    go_simp
                                    with_reducible rfl
                                  rotate_left
                                  · simp only [Act.put, List.setIfInBounds_toArray, List.set_cons_zero, List.set_cons_succ, i64_w, i32_w]
                                    rfl
                                  refine pure_ (i := 31) (N := some 78) (v := ?_) (a' := ?_) #[true, true, true, true, true, true, true, true, true, true, true, true, true, true, true, true, true, true, true, true, true, true, false, true, true, true, false, true, true, false, false, true, false, false, false] rfl rfl (any_of HT_.out (by kernel_rfl)) (fun _ _ _ h => h) (Or.inl ⟨by rfl, ?_⟩) ?_ ?_
                                  rotate_left
                                  · intro w'
                                    go_simp
                                    with_reducible rfl
                                  rotate_left
                                  · simp only [Act.put, List.setIfInBounds_toArray, List.set_cons_zero, List.set_cons_succ, i64_w, i32_w]
                                    rfl
                                  refine take_ (i := 22) (N := some 69) (v := ?_) (a' := ?_) #[true, true, true, true, true, true, true, true, true, true, true, true, true, true, true, true, true, true, true, true, true, true, true, true, true, true, false, true, true, false, false, true, false, false, false] rfl rfl (take_ofW HT_.out HW_.out (by kernel_rfl)) (fun _ _ _ h => h) (Or.inl ⟨by rfl, ?_⟩) hHeld ?_ ?_
                                  rotate_left
                                  · rintro w' ⟨s0, s1, s2, s3⟩
                                    go_simp
                                    with_reducible rfl
                                  rotate_left
                                  · simp only [Act.put, List.setIfInBounds_toArray, List.set_cons_zero, List.set_cons_succ, i64_w, i32_w]
                                    rfl
                                  refine take_ (i := 26) (N := some 73) (v := ?_) (a' := ?_) #[true, true, true, true, true, true, true, true, true, true, true, true, true, true, true, true, true, true, true, true, true, true, true, true, true, true, true, true, true, false, false, true, false, false, false] rfl rfl (take_ofW HT_.out HW_.out (by kernel_rfl)) (fun _ _ _ h => h) (Or.inl ⟨by rfl, ?_⟩) hHeld ?_ ?_
                                  rotate_left
                                  · rintro w' ⟨s0, s1, s2, s3⟩
                                    go_simp
                                    with_reducible rfl
                                  rotate_left
                                  · simp only [Act.put, List.setIfInBounds_toArray, List.set_cons_zero, List.set_cons_succ, i64_w, i32_w]
                                    rfl
                                  refine pure_ (i := 29) (N := some 76) (v := ?_) (a' := ?_) #[true, true, true, true, true, true, true, true, true, true, true, true, true, true, true, true, true, true, true, true, true, true, true, true, true, true, true, true, true, true, false, true, false, false, false] rfl rfl (any_of HT_.out (by kernel_rfl)) (fun _ _ _ h => h) (Or.inl ⟨by rfl, ?_⟩) ?_ ?_
                                  rotate_left
                                  · intro w'
                                    go_simp
                                    with_reducible rfl
                                  rotate_left
                                  · simp only [Act.put, List.setIfInBounds_toArray, List.set_cons_zero, List.set_cons_succ, i64_w, i32_w]
                                    rfl
                                  refine pure_ (i := 30) (N := some 77) (v := ?_) (a' := ?_) #[true, true, true, true, true, true, true, true, true, true, true, true, true, true, true, true, true, true, true, true, true, true, true, true, true, true, true, true, true, true, true, true, false, false, false] rfl rfl (any_of HT_.out (by kernel_rfl)) (fun _ _ _ h => h) (Or.inl ⟨by rfl, ?_⟩) ?_ ?_
                                  rotate_left
                                  · intro w'
                                    go_simp
                                    with_reducible rfl
                                  rotate_left
                                  · simp only [Act.put, List.setIfInBounds_toArray, List.set_cons_zero, List.set_cons_succ, i64_w, i32_w]
                                    rfl
                                  refine one_ (i := 32) (N := some 79) #[true, true, true, true, true, true, true, true, true, true, true, true, true, true, true, true, true, true, true, true, true, true, true, true, true, true, true, true, true, true, true, true, true, false, false] rfl rfl (one_of HT_.out (by kernel_rfl)) (by decide) (fun K hK => ?_)
                                  refine goes_ Try.func13 (by kernel_rfl) rfl #[.slice A60 y306.length c60, .slice A301_1 ((rd_T41 l0_2 x5_2).f1).length c301_1] (by rfl) rfl rfl (by (try simp only [List.map_toArray, List.map_cons, List.map_nil]); first | done | rfl | (simp only [List.length_drop, List.length_take]; rfl)) ?_
                                  with_reducible refine (laws_same.calls k2 _ _ y306 _ _ ((rd_T41 l0_2 x5_2).f1) false _ ?side1 ?side2 ?side3 ?side4 A51.out).mono ?_
                                  (case side1 => repeat (first | exact (by repeat (first | (with_reducible exact HR309.out) | (with_reducible refine Kd.C_alloc ?_ _) | (with_reducible refine Kd.C_drewN ?_ _) | (with_reducible refine Kd.C_drew ?_) | exact HR309.out)) | (with_reducible refine Kd.C_alloc ?_ _) | (with_reducible refine Kd.C_drewN ?_ _) | (with_reducible refine Kd.C_drew ?_)))
                                  (case side2 => exact HC309.out)
                                  (case side3 => repeat (first | exact (Kd.C_below HR301_1.out HB.out) | (with_reducible refine Kd.C_alloc ?_ _) | (with_reducible refine Kd.C_drewN ?_ _) | (with_reducible refine Kd.C_drew ?_)))
                                  (case side4 => exact HC301_1.out)
                                  rintro e w' ⟨rfl, ⟨nd, rfl⟩⟩
                                  refine ⟨_, rfl, ?_⟩
                                  refine hK.out _ _ ⟨hHeld.1, hHeld.2.1, hHeld.2.2.1, hHeld.2.2.2⟩ (fun hHeld => ?_)
                                  clear hK K
                                  refine norm_ (a' := ?_) ?_ ?_
                                  rotate_left
                                  · show Act.put _ (some 79) _ = _
                                    simp only [Act.put, List.setIfInBounds_toArray, List.set_cons_zero, List.set_cons_succ, i64_w, i32_w]
                                    rfl
                                  refine pure_ (i := 33) (N := some 80) (v := ?_) (a' := ?_) #[true, true, true, true, true, true, true, true, true, true, true, true, true, true, true, true, true, true, true, true, true, true, true, true, true, true, true, true, true, true, true, true, true, true, false] rfl rfl (any_of HT_.out (by kernel_rfl)) (fun _ _ _ h => h) (Or.inl ⟨by rfl, ?_⟩) ?_ ?_
                                  rotate_left
                                  · intro w'
                                    go_simp
                                    with_reducible rfl
                                  rotate_left
                                  · simp only [Act.put, List.setIfInBounds_toArray, List.set_cons_zero, List.set_cons_succ, i64_w, i32_w]
                                    rfl
                                  refine pure_ (i := 34) (N := some 81) (v := ?_) (a' := ?_) #[true, true, true, true, true, true, true, true, true, true, true, true, true, true, true, true, true, true, true, true, true, true, true, true, true, true, true, true, true, true, true, true, true, true, true] rfl rfl (any_of HT_.out (by kernel_rfl)) (fun _ _ _ h => h) (Or.inl ⟨by rfl, ?_⟩) ?_ ?_
                                  rotate_left
                                  · intro w'
                                    go_simp
                                    with_reducible rfl
                                  rotate_left
                                  · simp only [Act.put, List.setIfInBounds_toArray, List.set_cons_zero, List.set_cons_succ, i64_w, i32_w]
                                    rfl
                                  refine done_ (done_of HT_.out (by kernel_rfl)) ?_
                                  try go_wp2
                                  go_ret
                                  exact ⟨by first | rfl | (simp [errW_none, errW_some] <;> rfl) | (simp [*, errW_none, errW_some] <;> rfl), by repeat (first | (with_reducible first | exact HB.out | apply below_alloc | apply pw_below_drewN | apply below_drew1 | refine below_set ?_ GE286.out) | exact HB.out)⟩
                              · rw [if_neg c50] at H
                                exact absurd H (by simp)
                            · rw [if_neg c49] at H
                              exact absurd H (by simp)
                          · rw [if_neg c48] at H
                            exact absurd H (by simp)
                    · rw [if_neg c40] at H
                      exact absurd H (by simp)
                  · rw [if_neg c39] at H
                    exact absurd H (by simp)
                · rw [if_neg c38] at H
                  have c38b0 : decide (x5_2 < (t291.length : Int)) = false := decide_eq_false c38
                  clear c38
                  obtain rfl := Option.some.inj H
                  go_wp2
                  go_ret
                  exact ⟨by first | rfl | (simp [errW_none, errW_some] <;> rfl) | (simp [*, errW_none, errW_some] <;> rfl), by repeat (first | (with_reducible first | exact HB.out | apply below_alloc | apply pw_below_drewN | apply below_drew1 | refine below_set ?_ GE286.out) | exact HB.out)⟩
          · replace c29 := Bool.eq_false_iff.mpr c29
            subst c29
            have H1 : (some false) = some r := by rw [if_neg (show ¬ (false = true) by decide)] at H; exact H
            clear H
            have H := H1
            clear H1
            obtain rfl := Option.some.inj H
            have hcz61_0 : wc.cell? ⟨gb286, 0, none⟩ = some (.int .i32 a0_0) := (blk_cell BK286.out 0).trans rfl
            have hcz61_1 : wc.cell? ⟨gb286, 1, none⟩ = some (.slice A0_1 l0_1.length c0_1) := (blk_cell BK286.out 1).trans rfl
            have hcz61_2 : wc.cell? ⟨gb286, 2, none⟩ = some (.slice A0_2 l0_2.length c0_2) := (blk_cell BK286.out 2).trans rfl
            have hcz61_3 : wc.cell? ⟨gb286, 3, none⟩ = some (.int .u32 a0_3) := (blk_cell BK286.out 3).trans rfl
            have hfz61_0 := blk_frozen BK286.out 0
            have hfz61_1 := blk_frozen BK286.out 1
            have hfz61_2 := blk_frozen BK286.out 2
            have hfz61_3 := blk_frozen BK286.out 3
            go_wp2_with (first | ((with_reducible refine gate_callee (f := 9) rfl ?_); refine goesL_ (some 27) rfl rfl Try.func9 (by kernel_rfl) rfl #[.agg #[.int .i32 a0_0, .slice A0_1 l0_1.length c0_1, .slice A0_2 l0_2.length c0_2, .int .u32 a0_3]] rfl (by (try simp only [List.map_toArray, List.map_cons, List.map_nil]); first | done | rfl | (simp only [List.length_drop, List.length_take]; rfl)) ?_; (with_reducible refine (impl_ScriptPlaces.calls a0_0 _ _ l0_1 _ _ l0_2 a0_3 t291 _ ?side1 ?side2 ?side3 ?side4 A25.out).mono ?_); (case side1 => repeat (first | exact (Kd.C_below HR0_1.out HB.out) | (with_reducible refine Kd.C_alloc ?_ _) | (with_reducible refine Kd.C_drewN ?_ _) | (with_reducible refine Kd.C_drew ?_))); (case side2 => exact HC0_1.out); (case side3 => repeat (first | exact (Kd.C_below HR0_2.out HB.out) | (with_reducible refine Kd.C_alloc ?_ _) | (with_reducible refine Kd.C_drewN ?_ _) | (with_reducible refine Kd.C_drew ?_))); (case side4 => exact HC0_2.out); rintro e w62 ⟨v292, rfl, ho0, hb⟩; refine ⟨_, rfl, ?_⟩; have n0_ := Aside0.mk (Kd.R_lower ho0 (below_size (by repeat (first | (with_reducible first | exact HB.out | apply below_alloc | apply pw_below_drewN | apply below_drew1 | refine below_set ?_ GE286.out) | exact HB.out)))); have n1_ := Aside0.mk (blk_below (g := gb286) (o := .cells #[.int .i32 a0_0, .slice A0_1 l0_1.length c0_1, .slice A0_2 l0_2.length c0_2, .int .u32 a0_3] 26 (0, 0)) (by (with_reducible repeat (first | refine blk_drewN ?_ _ | refine blk_drew ?_ | refine blk_alloc ?_ _)); exact BK286.out) hb); have n2_ := Aside0.mk (below_step (by repeat (first | (with_reducible first | exact HB.out | apply below_alloc | apply pw_below_drewN | apply below_drew1 | refine below_set ?_ GE286.out) | exact HB.out)) hb); clear BK286; clear HB; have HO293 := n0_; have BK286 := n1_; have HB := n2_; clear n0_ n1_ n2_; (try clear hb); (try clear hb2); (try clear hk); (try clear hi); (try clear ho0); have hcz63_0 : w62.cell? ⟨gb286, 0, none⟩ = some (.int .i32 a0_0) := (blk_cell BK286.out 0).trans rfl; have hcz63_1 : w62.cell? ⟨gb286, 1, none⟩ = some (.slice A0_1 l0_1.length c0_1) := (blk_cell BK286.out 1).trans rfl; have hcz63_2 : w62.cell? ⟨gb286, 2, none⟩ = some (.slice A0_2 l0_2.length c0_2) := (blk_cell BK286.out 2).trans rfl; have hcz63_3 : w62.cell? ⟨gb286, 3, none⟩ = some (.int .u32 a0_3) := (blk_cell BK286.out 3).trans rfl; have hfz63_0 := blk_frozen BK286.out 0; have hfz63_1 := blk_frozen BK286.out 1; have hfz63_2 := blk_frozen BK286.out 2; have hfz63_3 := blk_frozen BK286.out 3) | ((with_reducible refine gate_callee (f := 10) rfl ?_); refine goesL_ (some 29) rfl rfl Try.func10 (by kernel_rfl) rfl #[.agg #[.int .i32 a0_0, .slice A0_1 l0_1.length c0_1, .slice A0_2 l0_2.length c0_2, .int .u32 a0_3], .bool true] rfl (by (try simp only [List.map_toArray, List.map_cons, List.map_nil]); first | done | rfl | (simp only [List.length_drop, List.length_take]; rfl)) ?_; (with_reducible refine (spec_TxBytes.calls kj3 a0_0 _ _ l0_1 _ _ l0_2 a0_3 true t294 _ ?side1 ?side2 ?side3 ?side4 A26.out).mono ?_); (case side1 => repeat (first | exact (Kd.C_below HR0_1.out HB.out) | (with_reducible refine Kd.C_alloc ?_ _) | (with_reducible refine Kd.C_drewN ?_ _) | (with_reducible refine Kd.C_drew ?_))); (case side2 => exact HC0_1.out); (case side3 => repeat (first | exact (Kd.C_below HR0_2.out HB.out) | (with_reducible refine Kd.C_alloc ?_ _) | (with_reducible refine Kd.C_drewN ?_ _) | (with_reducible refine Kd.C_drew ?_))); (case side4 => exact HC0_2.out); rintro e w64 ⟨v295, rfl, ho0, hb⟩; refine ⟨_, rfl, ?_⟩; have n0_ := Aside0.mk (Kd.R_below (by (with_reducible repeat (first | apply Kd.R_alloc | apply Kd.R_drewN | apply Kd.R_drew)); exact HO293.out) hb); have n1_ := Aside0.mk (Kd.R_lower ho0 (below_size (by repeat (first | (with_reducible first | exact HB.out | apply below_alloc | apply pw_below_drewN | apply below_drew1 | refine below_set ?_ GE286.out) | exact HB.out)))); have n2_ := Aside0.mk (blk_below (g := gb286) (o := .cells #[.int .i32 a0_0, .slice A0_1 l0_1.length c0_1, .slice A0_2 l0_2.length c0_2, .int .u32 a0_3] 26 (0, 0)) (by (with_reducible repeat (first | refine blk_drewN ?_ _ | refine blk_drew ?_ | refine blk_alloc ?_ _)); exact BK286.out) hb); have n3_ := Aside0.mk (below_step (by repeat (first | (with_reducible first | exact HB.out | apply below_alloc | apply pw_below_drewN | apply below_drew1 | refine below_set ?_ GE286.out) | exact HB.out)) hb); clear HO293; clear BK286; clear HB; have HO293 := n0_; have HO296 := n1_; have BK286 := n2_; have HB := n3_; clear n0_ n1_ n2_ n3_; (try clear hb); (try clear hb2); (try clear hk); (try clear hi); (try clear ho0); have hcz65_0 : w64.cell? ⟨gb286, 0, none⟩ = some (.int .i32 a0_0) := (blk_cell BK286.out 0).trans rfl; have hcz65_1 : w64.cell? ⟨gb286, 1, none⟩ = some (.slice A0_1 l0_1.length c0_1) := (blk_cell BK286.out 1).trans rfl; have hcz65_2 : w64.cell? ⟨gb286, 2, none⟩ = some (.slice A0_2 l0_2.length c0_2) := (blk_cell BK286.out 2).trans rfl; have hcz65_3 : w64.cell? ⟨gb286, 3, none⟩ = some (.int .u32 a0_3) := (blk_cell BK286.out 3).trans rfl; have hfz65_0 := blk_frozen BK286.out 0; have hfz65_1 := blk_frozen BK286.out 1; have hfz65_2 := blk_frozen BK286.out 2; have hfz65_3 := blk_frozen BK286.out 3) | ((with_reducible refine gate_callee (f := 12) rfl ?_); refine goesL_ (some 32) rfl rfl Try.func12 (by kernel_rfl) rfl #[.agg #[.int .i32 a0_0, .slice A0_1 l0_1.length c0_1, .slice A0_2 l0_2.length c0_2, .int .u32 a0_3]] rfl (by (try simp only [List.map_toArray, List.map_cons, List.map_nil]); first | done | rfl | (simp only [List.length_drop, List.length_take]; rfl)) ?_; (with_reducible refine (spec_ScriptPlaces.calls kj3 a0_0 _ _ l0_1 _ _ l0_2 a0_3 t297 _ ?side1 ?side2 ?side3 ?side4 A27.out).mono ?_); (case side1 => repeat (first | exact (Kd.C_below HR0_1.out HB.out) | (with_reducible refine Kd.C_alloc ?_ _) | (with_reducible refine Kd.C_drewN ?_ _) | (with_reducible refine Kd.C_drew ?_))); (case side2 => exact HC0_1.out); (case side3 => repeat (first | exact (Kd.C_below HR0_2.out HB.out) | (with_reducible refine Kd.C_alloc ?_ _) | (with_reducible refine Kd.C_drewN ?_ _) | (with_reducible refine Kd.C_drew ?_))); (case side4 => exact HC0_2.out); rintro e w66 ⟨v298, rfl, ho0, hb⟩; refine ⟨_, rfl, ?_⟩; have n0_ := Aside0.mk (Kd.R_elder' (by (with_reducible repeat (first | apply Kd.R_alloc | apply Kd.R_drewN | apply Kd.R_drew)); exact HO293.out) (Kd.R_base ho0) hb); have n1_ := Aside0.mk (Kd.R_below (by (with_reducible repeat (first | apply Kd.R_alloc | apply Kd.R_drewN | apply Kd.R_drew)); exact HO296.out) hb); have n2_ := Aside0.mk (Kd.R_lower (Kd.R_new' ho0 (Kd.R_lt (by (with_reducible repeat (first | apply Kd.R_alloc | apply Kd.R_drewN | apply Kd.R_drew)); exact HO293.out))) (below_size (by repeat (first | (with_reducible first | exact HB.out | apply below_alloc | apply pw_below_drewN | apply below_drew1 | refine below_set ?_ GE286.out) | exact HB.out)))); have n3_ := Aside0.mk (blk_below (g := gb286) (o := .cells #[.int .i32 a0_0, .slice A0_1 l0_1.length c0_1, .slice A0_2 l0_2.length c0_2, .int .u32 a0_3] 26 (0, 0)) (by (with_reducible repeat (first | refine blk_drewN ?_ _ | refine blk_drew ?_ | refine blk_alloc ?_ _)); exact BK286.out) hb); have n4_ := Aside0.mk (below_step (by repeat (first | (with_reducible first | exact HB.out | apply below_alloc | apply pw_below_drewN | apply below_drew1 | refine below_set ?_ GE286.out) | exact HB.out)) hb); clear HO293; clear HO296; clear BK286; clear HB; have HO293 := n0_; have HO296 := n1_; have HO299 := n2_; have BK286 := n3_; have HB := n4_; clear n0_ n1_ n2_ n3_ n4_; (try clear hb); (try clear hb2); (try clear hk); (try clear hi); (try clear ho0); obtain ⟨Ao67, co67, eo67⟩ := Kd.R_slice HO293.out; subst eo67; obtain ⟨Ao68, co68, eo68⟩ := Kd.R_slice HO299.out; subst eo68) | ((with_reducible refine gate_callee (f := 11) rfl ?_); refine goesL_ (some 33) rfl rfl Try.func11 (by kernel_rfl) rfl #[.slice Ao67 t291.length co67, .slice Ao68 t297.length co68] rfl (by (try simp only [List.map_toArray, List.map_cons, List.map_nil]); first | done | rfl | (simp only [List.length_drop, List.length_take]; rfl)) ?_; (with_reducible refine (laws_sameInts.calls kj3 _ _ t291 _ _ t297 false _ ?side1 ?side2 ?side3 ?side4 A28.out).mono ?_); (case side1 => repeat (first | exact (Kd.R_reads' HO293.out).2.2 | (with_reducible refine Kd.C_alloc ?_ _) | (with_reducible refine Kd.C_drewN ?_ _) | (with_reducible refine Kd.C_drew ?_))); (case side2 => exact (Kd.R_reads' HO293.out).2.1); (case side3 => repeat (first | exact (Kd.R_reads' HO299.out).2.2 | (with_reducible refine Kd.C_alloc ?_ _) | (with_reducible refine Kd.C_drewN ?_ _) | (with_reducible refine Kd.C_drew ?_))); (case side4 => exact (Kd.R_reads' HO299.out).2.1); rintro e w' ⟨rfl, ⟨nd, rfl⟩⟩; refine ⟨_, rfl, ?_⟩))
            go_ret
            exact ⟨by first | rfl | (simp [errW_none, errW_some] <;> rfl) | (simp [*, errW_none, errW_some] <;> rfl), by repeat (first | (with_reducible first | exact HB.out | apply below_alloc | apply pw_below_drewN | apply below_drew1 | refine below_set ?_ GE286.out) | exact HB.out)⟩
  · replace c3 := Bool.eq_false_iff.mpr c3
    subst c3
    have H1 : (some true) = some r := by rw [if_neg (show ¬ (false = true) by decide)] at H; exact H
    clear H
    have H := H1
    clear H1
    obtain rfl := Option.some.inj H
    go_enter Try.func3, Try.ntmps3
    go_wp2_with (first | ((with_reducible refine gate_dst (N := 1) rfl ?_); (try (refine gate_guard (by rfl) ?_; dsimp only)); refine box_event ?hg (N := 1) ?hd (cs := #[.int .i32 a0_0, .slice A0_1 l0_1.length c0_1, .slice A0_2 l0_2.length c0_2, .int .u32 a0_3]) (t := 26) ?hr ?_; (case hd => rfl); (case hg => rfl); (case hr => first | (go_simp; done) | (go_simp; rfl)); intro gb286 hg w69 hbox hb; have n0_ := Aside0.mk (below_step (by repeat (first | (with_reducible first | exact HB.out | apply below_alloc | apply pw_below_drewN | apply below_drew1) | exact HB.out)) hb); have n1_ := Aside0.mk (hbox); have n2_ := Aside0.mk ((by rw [hg]; exact (below_size (by repeat (first | (with_reducible first | exact HB.out | apply below_alloc | apply pw_below_drewN | apply below_drew1) | exact HB.out))) : w.heap.size ≤ gb286)); have n3_ := Aside0.mk ((by rw [hg]; exact (below_size (by repeat (first | (with_reducible first | exact HB.out | apply below_alloc | apply pw_below_drewN | apply below_drew1) | exact HB.out))) : w.heap.size ≤ gb286)); clear HB; have HB := n0_; have BK286 := n1_; have GW286 := n2_; have GE286 := n3_; clear n0_ n1_ n2_ n3_; clear hb hbox hg; have hcz70_0 : w69.cell? ⟨gb286, 0, none⟩ = some (.int .i32 a0_0) := (blk_cell BK286.out 0).trans rfl; have hcz70_1 : w69.cell? ⟨gb286, 1, none⟩ = some (.slice A0_1 l0_1.length c0_1) := (blk_cell BK286.out 1).trans rfl; have hcz70_2 : w69.cell? ⟨gb286, 2, none⟩ = some (.slice A0_2 l0_2.length c0_2) := (blk_cell BK286.out 2).trans rfl; have hcz70_3 : w69.cell? ⟨gb286, 3, none⟩ = some (.int .u32 a0_3) := (blk_cell BK286.out 3).trans rfl; have hfz70_0 := blk_frozen BK286.out 0; have hfz70_1 := blk_frozen BK286.out 1; have hfz70_2 := blk_frozen BK286.out 2; have hfz70_3 := blk_frozen BK286.out 3) | ((with_reducible refine gate_callee (f := 6) rfl ?_); refine goesL_ (some 8) rfl rfl Try.func6 (by kernel_rfl) rfl #[.agg #[.int .i32 a0_0, .slice A0_1 l0_1.length c0_1, .slice A0_2 l0_2.length c0_2, .int .u32 a0_3]] rfl (by (try simp only [List.map_toArray, List.map_cons, List.map_nil]); first | done | rfl | (simp only [List.length_drop, List.length_take]; rfl)) ?_; (with_reducible refine (laws_zzFits2.calls k a0_0 _ _ l0_1 _ _ l0_2 a0_3 false _ ?side1 ?side2 ?side3 ?side4 A2.out).mono ?_); (case side1 => repeat (first | exact (Kd.C_below HR0_1.out HB.out) | (with_reducible refine Kd.C_alloc ?_ _) | (with_reducible refine Kd.C_drewN ?_ _) | (with_reducible refine Kd.C_drew ?_))); (case side2 => exact HC0_1.out); (case side3 => repeat (first | exact (Kd.C_below HR0_2.out HB.out) | (with_reducible refine Kd.C_alloc ?_ _) | (with_reducible refine Kd.C_drewN ?_ _) | (with_reducible refine Kd.C_drew ?_))); (case side4 => exact HC0_2.out); rintro e w71 ⟨rfl, hb⟩; refine ⟨_, rfl, ?_⟩; have n0_ := Aside0.mk (blk_below (g := gb286) (o := .cells #[.int .i32 a0_0, .slice A0_1 l0_1.length c0_1, .slice A0_2 l0_2.length c0_2, .int .u32 a0_3] 26 (0, 0)) (by (with_reducible repeat (first | refine blk_drewN ?_ _ | refine blk_drew ?_ | refine blk_alloc ?_ _)); exact BK286.out) hb); have n1_ := Aside0.mk (below_step (by repeat (first | (with_reducible first | exact HB.out | apply below_alloc | apply pw_below_drewN | apply below_drew1 | refine below_set ?_ GE286.out) | exact HB.out)) hb); clear BK286; clear HB; have BK286 := n0_; have HB := n1_; clear n0_ n1_; (try clear hb); (try clear hb2); (try clear hk); (try clear hi)))
    go_ret
    exact ⟨by first | rfl | (simp [errW_none, errW_some] <;> rfl) | (simp [*, errW_none, errW_some] <;> rfl), by repeat (first | (with_reducible first | exact HB.out | apply below_alloc | apply pw_below_drewN | apply below_drew1 | refine below_set ?_ GE286.out) | exact HB.out)⟩

end Go.Proofs.Ytdheoajaaofmbaa.QFnScriptPlaces
