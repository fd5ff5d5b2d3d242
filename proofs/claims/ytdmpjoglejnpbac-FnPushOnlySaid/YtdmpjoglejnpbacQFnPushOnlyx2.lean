-- Made by a turned print (own tool turnprint.py over the kit print).
import Derived.Test.YtdmpjoglejnpbacQFnPushOnlyx0
import Derived.Test.YtdmpjoglejnpbacQFnPushOnlyx1
namespace Go.Proofs.Ytdmpjoglejnpbac.QFnPushOnly
open Go.RowKit Go.Proofs.YtdmpjoglejnpbacW.PrintWords Go.Proofs.YtdmpjoglejnpbacW.PrintLast Go.Proofs.YtdmpjoglejnpbacW.PrintMore
attribute [local go_sem] nn_mod256 nn_mod65536 nn_mod32 max2_int min2_int max_two min_two max_three min_three max_four min_four   -- for this text's walks alone
set_option linter.unusedVariables false
set_option linter.unusedSimpArgs false

/-! ### spec_PushOnly: function 6 -/
def spec_PushOnly.l0 : Nat → List (S35) → Int → Int → Option (Bool)
  | 0, _, _, _ => none
  | k + 1, x3, x4, x5 => if x5 < (x3.length : Int) then (if 0 ≤ x5 then ((spec_Pushes.f ((rd_T35 x3 x5).f0) ((rd_T35 x3 x5).f1) ((rd_T35 x3 x5).f2)).bind fun t141 => (if t141 = true then (spec_PushOnly.l0 k x3 x4 (wrap64 (x5 + 1))) else (some false))) else (none)) else (some (decide (x4 < 0)))
def spec_PushOnly.f (k : Nat) (l0 : List Int) : Option (Bool) := (spec_Tokens.f k l0).bind fun bt136 => (spec_PushOnly.l0 k bt136.1 bt136.2 0)
theorem spec_PushOnly.mono_l : ∀ k, (∀ y0 y1 y2, LeO (spec_PushOnly.l0 k y0 y1 y2) (spec_PushOnly.l0 (k + 1) y0 y1 y2))
  | 0 => fun _ _ _ r h => by simp [spec_PushOnly.l0] at h
  | k + 1 => by
    have ih0 := spec_PushOnly.mono_l k
    · intro y0 y1 y2
      unfold spec_PushOnly.l0
      repeat' first
      | (with_reducible exact ih0 _ _ _)
      | (with_reducible exact spec_Tokens.mono _ _)
      | (with_reducible exact LeO.refl _)
      | (with_reducible exact LeO.none _)
      | (with_reducible refine LeO.ite ?_ ?_)
      | (with_reducible refine LeO.bind ?_ (fun _ => ?_))
      | exact ih0 _ _ _
      | exact spec_Tokens.mono _ _
      | exact LeO.none _
      | refine LeO.ite ?_ ?_
      | refine LeO.bind ?_ (fun _ => ?_)
theorem spec_PushOnly.mono : ∀ a0 k, LeO (spec_PushOnly.f k a0) (spec_PushOnly.f (k + 1) a0) := by
  intro a0 k
  have ih0 := spec_PushOnly.mono_l k
  unfold spec_PushOnly.f
  repeat' first
      | (with_reducible exact ih0 _ _ _)
      | (with_reducible exact spec_Tokens.mono _ _)
      | (with_reducible exact LeO.refl _)
      | (with_reducible exact LeO.none _)
      | (with_reducible refine LeO.ite ?_ ?_)
      | (with_reducible refine LeO.bind ?_ (fun _ => ?_))
      | exact ih0 _ _ _
      | exact spec_Tokens.mono _ _
      | exact LeO.none _
      | refine LeO.ite ?_ ?_
      | refine LeO.bind ?_ (fun _ => ?_)
set_option maxHeartbeats 8000000 in
set_option maxRecDepth 100000 in
theorem spec_PushOnly.calls (k : Nat) (A0 : Option Addr) (c0 : Nat) (l0 : List Int) (r : Bool) (w : World) (hr0 : Kd.C (Kd.int .u8) w A0 l0.length l0) (hc0 : l0.length ≤ c0) (h : spec_PushOnly.f k l0 = some r) :
    Calls Try.prog 6 #[.slice A0 l0.length c0] w fun e w' => e = .returned (.bool r) ∧ Below w.heap.size w w' := by
  have hu35 := Try.underlying35
  have HR0 := Aside0.mk hr0
  have HC0 := Aside0.mk hc0
  clear hr0 hc0
  have HB := Aside0.mk (Below.refl w.heap.size w)
  have H : ((spec_Tokens.f k l0).bind fun bt136 => (spec_PushOnly.l0 k bt136.1 bt136.2 0)) = some r := h
  clear h
  replace H := Option.bind_eq_some_iff.mp H
  obtain ⟨⟨t136, t139⟩, A20, H⟩ := H
  replace H : (spec_PushOnly.l0 k t136 t139 0) = some r := H
  have A2 := Aside0.mk A20
  clear A20
  have H' := Aside0.mk H
  clear H
  go_enter Try.func6, Try.ntmps6
  go_wp2_with (first | ((with_reducible refine gate_callee (f := 11) rfl ?_); refine goesL_ (some 8) rfl rfl Try.func11 (by kernel_rfl) rfl #[.slice A0 l0.length c0] rfl (by (try simp only [List.map_toArray, List.map_cons, List.map_nil]); first | done | rfl | (simp only [List.length_drop, List.length_take]; rfl)) ?_; (with_reducible refine (spec_Tokens.calls k (fun k_ => k_ < w.heap.size) _ _ l0 t136 t139 _ ?side1 A2.out).mono ?_); (case side1 => exact Kd.V_mk HC0.out (Kd.F_below (Kd.C_F (Kd.heap_int .u8) HR0.out) (by repeat (first | (with_reducible first | exact HB.out | apply below_alloc | apply pw_below_drewN | apply below_drew1) | exact HB.out)))); rintro e w3 ⟨v137, rfl, ho0, hb⟩; refine ⟨_, rfl, ?_⟩; have n0_ := Aside0.mk (Kd.N_lower (Kd.N_mono (ok' := fun k_ => True) ho0 (fun k_ hk_ => trivial)) (below_size (by repeat (first | (with_reducible first | exact HB.out | apply below_alloc | apply pw_below_drewN | apply below_drew1) | exact HB.out)))); have n1_ := Aside0.mk (below_step (by repeat (first | (with_reducible first | exact HB.out | apply below_alloc | apply pw_below_drewN | apply below_drew1) | exact HB.out)) hb); clear HB; have HO138 := n0_; have HB := n1_; clear n0_ n1_; (try clear hb); (try clear hb2); (try clear hk); (try clear hi); (try clear ho0)))
  go_loopg [5] k (fun kq v5 w' => ∃ (x5_1 : Int), v5 = .int .i64 x5_1 ∧ Aside0 (spec_PushOnly.l0 kq t136 t139 x5_1 = some r) ∧ Aside0 (kq ≤ k) ∧ Aside0 (Kd.N k35 35 w' w.heap.size (fun _ => True) v137 t136) ∧ Aside0 (Below w.heap.size w w'))
  case atStart => exact ⟨(0), (by first | rfl | (simp; done) | (simp [*]; done)), H', ⟨Nat.le_refl _⟩, ⟨by (with_reducible repeat (first | apply Kd.N_alloc | apply Kd.N_drewN | apply Kd.N_drew)); exact HO138.out⟩, ⟨by repeat (first | (with_reducible first | exact HB.out | apply below_alloc | apply pw_below_drewN | apply below_drew1) | exact HB.out)⟩⟩
  case round =>
    clear H'
    try clear c1
    try clear p2
    obtain ⟨x5_1, rfl, HA, HK1, HO_3, HB⟩ := hrel
    cases gk with
    | zero => exact absurd HA.out (by simp [spec_PushOnly.l0])
    | succ k1 =>
      have H := HA.out
      clear HA
      simp only [spec_PushOnly.l0] at H
      by_cases c4 : x5_1 < (t136.length : Int)
      · rw [if_pos c4] at H
        have c4b0 : decide (x5_1 < (t136.length : Int)) = true := decide_eq_true c4
        clear c4
        by_cases c5 : 0 ≤ x5_1
        · rw [if_pos c5] at H
          have c5b0 : decide (0 ≤ x5_1) = true := decide_eq_true c5
          clear c5
          replace H := Option.bind_eq_some_iff.mp H
          obtain ⟨t141, A60, H⟩ := H
          replace H : (if t141 = true then (spec_PushOnly.l0 k1 t136 t139 (wrap64 (x5_1 + 1))) else (some false)) = some r := H
          have A6 := Aside0.mk A60
          clear A60
          by_cases c7 : t141 = true
          · subst c7
            have H1 : (spec_PushOnly.l0 k1 t136 t139 (wrap64 (x5_1 + 1))) = some r := by rw [if_pos rfl] at H; exact H
            clear H
            have H := H1
            clear H1
            have H' := Aside0.mk H
            clear H
            obtain ⟨Ao8, co8, eo8⟩ := Kd.N_slice HO_3.out
            subst eo8
            have p140 : 0 ≤ (x5_1 : Int) := of_decide_eq_true (by first | (with_reducible assumption) | assumption)
            have q140 : x5_1 < (t136.length : Int) := of_decide_eq_true (by first | (with_reducible assumption) | assumption)
            obtain ⟨ad140, A140_1, c140_1, e140, hx140_0, hx140_1, hx140_2, hl140_1, hi140_1⟩ := at_T35 (Kd.N_reads' HO_3.out).2.2 x5_1 p140 q140
            cases e140
            obtain ⟨ce140, hce140, hMe140, hcc140⟩ := Kd.N_get HO_3.out z35 x5_1 p140 (by first | exact q140 | exact of_decide_eq_true (by first | (with_reducible assumption) | assumption) | (have e_ := (Kd.N_reads' HO_3.out).1; omega))
            obtain ⟨ua140_1, uc140_1, rfl, ul140_1, ge140_1⟩ := k35_openF hMe140
            have hv140_1 := hcc140 1 _ rfl
            rw [add_field _ _ 1 (by omega)] at hv140_1
            replace hv140_1 := Option.some.inj (hv140_1.symm.trans hx140_1)
            injection hv140_1 with hva_ hvn_ hvc_
            rw [hva_] at ge140_1
            rw [hvc_] at ul140_1
            have HL140_1 := Aside0.mk (show Kd.V (Kd.int .u8) 5 _ w.heap.size _ _ ((rd_T35 t136 x5_1).f1) from Kd.V_mk ul140_1 ge140_1)
            clear hva_ hvn_ hvc_ ge140_1 ul140_1
            clear hcc140 hce140
            have HR140_1 := Aside0.mk hi140_1
            have HC140_1 := Aside0.mk hl140_1
            clear hi140_1 hl140_1
            replace p140 := eq_true p140
            replace q140 := eq_true q140
            go_wp2_with (first | ((with_reducible refine gate_callee (f := 12) rfl ?_); refine goesL_ (some 21) rfl rfl Try.func12 (by kernel_rfl) rfl #[.agg #[.int .i64 ((rd_T35 t136 x5_1).f0), .slice A140_1 ((rd_T35 t136 x5_1).f1).length c140_1, .int .i64 ((rd_T35 t136 x5_1).f2)]] rfl (by (try simp only [List.map_toArray, List.map_cons, List.map_nil]); first | done | rfl | (simp only [List.length_drop, List.length_take]; rfl)) ?_; (with_reducible refine (spec_Pushes.calls ((rd_T35 t136 x5_1).f0) _ _ ((rd_T35 t136 x5_1).f1) ((rd_T35 t136 x5_1).f2) true _ ?side1 ?side2 A6.out).mono ?_); (case side1 => repeat (first | exact (by repeat (first | (with_reducible exact HR140_1.out) | (with_reducible refine Kd.C_alloc ?_ _) | (with_reducible refine Kd.C_drewN ?_ _) | (with_reducible refine Kd.C_drew ?_) | exact HR140_1.out)) | (with_reducible refine Kd.C_alloc ?_ _) | (with_reducible refine Kd.C_drewN ?_ _) | (with_reducible refine Kd.C_drew ?_))); (case side2 => exact HC140_1.out); rintro e w9 ⟨rfl, hb⟩; refine ⟨_, rfl, ?_⟩; have n0_ := Aside0.mk (Kd.N_below (by (with_reducible repeat (first | apply Kd.N_alloc | apply Kd.N_drewN | apply Kd.N_drew)); exact HO_3.out) hb); have n1_ := Aside0.mk (Kd.V_below (by (with_reducible repeat (first | apply Kd.V_alloc | apply Kd.V_drewN | apply Kd.V_drew)); exact HL140_1.out) hb); have n2_ := Aside0.mk (Kd.C_below (by repeat (first | (with_reducible exact HR140_1.out) | (with_reducible refine Kd.C_alloc ?_ _) | (with_reducible refine Kd.C_drewN ?_ _) | (with_reducible refine Kd.C_drew ?_) | exact HR140_1.out)) hb); have n3_ := Aside0.mk (below_step (by repeat (first | (with_reducible first | exact HB.out | apply below_alloc | apply pw_below_drewN | apply below_drew1) | exact HB.out)) hb); clear HO_3; clear HL140_1; clear HR140_1; clear HB; have HO_3 := n0_; have HL140_1 := n1_; have HR140_1 := n2_; have HB := n3_; clear n0_ n1_ n2_ n3_; (try clear hb); (try clear hb2); (try clear hk); (try clear hi)))
            go_roundg k1
            case measure => have := HK1.out; omega
            case rel => exact ⟨(wrap64 (x5_1 + 1)), (by first | rfl | (simp; done) | (simp [*]; done)), (by first | exact H' | (subst_vars; exact H')), ⟨by have := HK1.out; omega⟩, ⟨by (with_reducible repeat (first | apply Kd.N_alloc | apply Kd.N_drewN | apply Kd.N_drew)); exact HO_3.out⟩, ⟨by repeat (first | (with_reducible first | exact HB.out | apply below_alloc | apply pw_below_drewN | apply below_drew1) | exact HB.out)⟩⟩
          · replace c7 := Bool.eq_false_iff.mpr c7
            subst c7
            have H1 : (some false) = some r := by rw [if_neg (show ¬ (false = true) by decide)] at H; exact H
            clear H
            have H := H1
            clear H1
            obtain rfl := Option.some.inj H
            obtain ⟨Ao10, co10, eo10⟩ := Kd.N_slice HO_3.out
            subst eo10
            have p140 : 0 ≤ (x5_1 : Int) := of_decide_eq_true (by first | (with_reducible assumption) | assumption)
            have q140 : x5_1 < (t136.length : Int) := of_decide_eq_true (by first | (with_reducible assumption) | assumption)
            obtain ⟨ad140, A140_1, c140_1, e140, hx140_0, hx140_1, hx140_2, hl140_1, hi140_1⟩ := at_T35 (Kd.N_reads' HO_3.out).2.2 x5_1 p140 q140
            cases e140
            obtain ⟨ce140, hce140, hMe140, hcc140⟩ := Kd.N_get HO_3.out z35 x5_1 p140 (by first | exact q140 | exact of_decide_eq_true (by first | (with_reducible assumption) | assumption) | (have e_ := (Kd.N_reads' HO_3.out).1; omega))
            obtain ⟨ua140_1, uc140_1, rfl, ul140_1, ge140_1⟩ := k35_openF hMe140
            have hv140_1 := hcc140 1 _ rfl
            rw [add_field _ _ 1 (by omega)] at hv140_1
            replace hv140_1 := Option.some.inj (hv140_1.symm.trans hx140_1)
            injection hv140_1 with hva_ hvn_ hvc_
            rw [hva_] at ge140_1
            rw [hvc_] at ul140_1
            have HL140_1 := Aside0.mk (show Kd.V (Kd.int .u8) 5 _ w.heap.size _ _ ((rd_T35 t136 x5_1).f1) from Kd.V_mk ul140_1 ge140_1)
            clear hva_ hvn_ hvc_ ge140_1 ul140_1
            clear hcc140 hce140
            have HR140_1 := Aside0.mk hi140_1
            have HC140_1 := Aside0.mk hl140_1
            clear hi140_1 hl140_1
            replace p140 := eq_true p140
            replace q140 := eq_true q140
            go_wp2_with (first | ((with_reducible refine gate_callee (f := 12) rfl ?_); refine goesL_ (some 21) rfl rfl Try.func12 (by kernel_rfl) rfl #[.agg #[.int .i64 ((rd_T35 t136 x5_1).f0), .slice A140_1 ((rd_T35 t136 x5_1).f1).length c140_1, .int .i64 ((rd_T35 t136 x5_1).f2)]] rfl (by (try simp only [List.map_toArray, List.map_cons, List.map_nil]); first | done | rfl | (simp only [List.length_drop, List.length_take]; rfl)) ?_; (with_reducible refine (spec_Pushes.calls ((rd_T35 t136 x5_1).f0) _ _ ((rd_T35 t136 x5_1).f1) ((rd_T35 t136 x5_1).f2) false _ ?side1 ?side2 A6.out).mono ?_); (case side1 => repeat (first | exact (by repeat (first | (with_reducible exact HR140_1.out) | (with_reducible refine Kd.C_alloc ?_ _) | (with_reducible refine Kd.C_drewN ?_ _) | (with_reducible refine Kd.C_drew ?_) | exact HR140_1.out)) | (with_reducible refine Kd.C_alloc ?_ _) | (with_reducible refine Kd.C_drewN ?_ _) | (with_reducible refine Kd.C_drew ?_))); (case side2 => exact HC140_1.out); rintro e w11 ⟨rfl, hb⟩; refine ⟨_, rfl, ?_⟩; have n0_ := Aside0.mk (Kd.N_below (by (with_reducible repeat (first | apply Kd.N_alloc | apply Kd.N_drewN | apply Kd.N_drew)); exact HO_3.out) hb); have n1_ := Aside0.mk (Kd.V_below (by (with_reducible repeat (first | apply Kd.V_alloc | apply Kd.V_drewN | apply Kd.V_drew)); exact HL140_1.out) hb); have n2_ := Aside0.mk (Kd.C_below (by repeat (first | (with_reducible exact HR140_1.out) | (with_reducible refine Kd.C_alloc ?_ _) | (with_reducible refine Kd.C_drewN ?_ _) | (with_reducible refine Kd.C_drew ?_) | exact HR140_1.out)) hb); have n3_ := Aside0.mk (below_step (by repeat (first | (with_reducible first | exact HB.out | apply below_alloc | apply pw_below_drewN | apply below_drew1) | exact HB.out)) hb); clear HO_3; clear HL140_1; clear HR140_1; clear HB; have HO_3 := n0_; have HL140_1 := n1_; have HR140_1 := n2_; have HB := n3_; clear n0_ n1_ n2_ n3_; (try clear hb); (try clear hb2); (try clear hk); (try clear hi)))
            go_ret
            exact ⟨by first | rfl | (simp [errW_none, errW_some] <;> rfl) | (simp [*, errW_none, errW_some] <;> rfl), by repeat (first | (with_reducible first | exact HB.out | apply below_alloc | apply pw_below_drewN | apply below_drew1) | exact HB.out)⟩
        · rw [if_neg c5] at H
          exact absurd H (by simp)
      · rw [if_neg c4] at H
        have c4b0 : decide (x5_1 < (t136.length : Int)) = false := decide_eq_false c4
        clear c4
        obtain rfl := Option.some.inj H
        obtain ⟨Ao12, co12, eo12⟩ := Kd.N_slice HO_3.out
        subst eo12
        go_wp2
        go_ret
        exact ⟨by first | rfl | (simp [errW_none, errW_some] <;> rfl) | (simp [*, errW_none, errW_some] <;> rfl), by repeat (first | (with_reducible first | exact HB.out | apply below_alloc | apply pw_below_drewN | apply below_drew1) | exact HB.out)⟩

-- NOT PRINTED: function 3 (laws_FnPushOnly)

end Go.Proofs.Ytdmpjoglejnpbac.QFnPushOnly
