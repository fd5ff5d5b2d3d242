-- Made by a turned print (own tool turnprint.py over the kit print).
import Derived.Test.YtfbkjkihcajmdabQFnProgramx0
import Derived.Test.YtfbkjkihcajmdabQFnProgramx1
namespace Go.Proofs.Ytfbkjkihcajmdab.QFnProgram
open Go.RowKit Go.Proofs.YtfbkjkihcajmdabW.PrintWords Go.Proofs.YtfbkjkihcajmdabW.PrintLast Go.Proofs.YtfbkjkihcajmdabW.PrintMore
attribute [local go_sem] nn_mod256 nn_mod65536 nn_mod32 max2_int min2_int max_two min_two max_three min_three max_four min_four   -- for this text's walks alone
set_option linter.unusedVariables false
set_option linter.unusedSimpArgs false

/-! ### spec_Program: function 5 -/
def spec_Program.f (k : Nat) (l0 : List Int) : Option (Int × List Int × Bool) := (spec_Tokens.f k l0).bind fun bt134 => (if bt134.2 ≥ 0 then (some (0, ([] : List Int), false)) else (if (bt134.1.length : Int) = 2 then (if (l0.length : Int) < 4 then (some (0, ([] : List Int), false)) else (if (l0.length : Int) > 42 then (some (0, ([] : List Int), false)) else (if 1 < (bt134.1.length : Int) then (if ((rd_T34 bt134.1 1).f0) < 2 then (some (0, ([] : List Int), false)) else (if ((rd_T34 bt134.1 1).f0) > 40 then (some (0, ([] : List Int), false)) else (if 0 < (bt134.1.length : Int) then ((spec_Small.f ((rd_T34 bt134.1 0).f0)).bind fun bt141 => (some (bt141.1, (rd_T34 bt134.1 1).f1, bt141.2))) else (none)))) else (none)))) else (some (0, ([] : List Int), false))))
theorem spec_Program.mono : ∀ a0 k, LeO (spec_Program.f k a0) (spec_Program.f (k + 1) a0) := by
  intro a0 k
  unfold spec_Program.f
  repeat' first
      | (with_reducible exact spec_Tokens.mono _ _)
      | (with_reducible exact LeO.refl _)
      | (with_reducible exact LeO.none _)
      | (with_reducible refine LeO.ite ?_ ?_)
      | (with_reducible refine LeO.bind ?_ (fun _ => ?_))
      | exact spec_Tokens.mono _ _
      | exact LeO.none _
      | refine LeO.ite ?_ ?_
      | refine LeO.bind ?_ (fun _ => ?_)
set_option maxHeartbeats 8000000 in
set_option maxRecDepth 100000 in
theorem spec_Program.calls (k : Nat) (P0_ : Nat → Prop) (A0 : Option Addr) (c0 : Nat) (l0 : List Int) (r1 : Int) (r2 : List Int) (r3 : Bool) (w : World) (hs0 : Kd.V (Kd.int .u8) 5 w w.heap.size (fun k_ => P0_ k_) (.slice A0 l0.length c0) l0) (h : spec_Program.f k l0 = some (r1, r2, r3)) :
    Calls Try.prog 5 #[.slice A0 l0.length c0] w fun e w' => ∃ v1_ : Value, e = .returned (.tuple #[.int .i64 r1, v1_, .bool r3]) ∧ Kd.V (Kd.int .u8) 5 w' w.heap.size (fun k_ => (P0_ k_ ∨ w.heap.size ≤ k_)) v1_ r2 ∧ Below w.heap.size w w' := by
  have HO0 := Aside0.mk (show Kd.V (Kd.int .u8) 5 w w.heap.size (fun k_ => (P0_ k_ ∨ w.heap.size ≤ k_)) (.slice A0 l0.length c0) l0 from Kd.V_mono hs0 (fun k_ hk => .inl hk))
  have HB := Aside0.mk (Below.refl w.heap.size w)
  have H : ((spec_Tokens.f k l0).bind fun bt134 => (if bt134.2 ≥ 0 then (some (0, ([] : List Int), false)) else (if (bt134.1.length : Int) = 2 then (if (l0.length : Int) < 4 then (some (0, ([] : List Int), false)) else (if (l0.length : Int) > 42 then (some (0, ([] : List Int), false)) else (if 1 < (bt134.1.length : Int) then (if ((rd_T34 bt134.1 1).f0) < 2 then (some (0, ([] : List Int), false)) else (if ((rd_T34 bt134.1 1).f0) > 40 then (some (0, ([] : List Int), false)) else (if 0 < (bt134.1.length : Int) then ((spec_Small.f ((rd_T34 bt134.1 0).f0)).bind fun bt141 => (some (bt141.1, (rd_T34 bt134.1 1).f1, bt141.2))) else (none)))) else (none)))) else (some (0, ([] : List Int), false))))) = some (r1, r2, r3) := h
  clear h
  replace H := Option.bind_eq_some_iff.mp H
  obtain ⟨⟨t134, t137⟩, A20, H⟩ := H
  replace H : (if t137 ≥ 0 then (some (0, ([] : List Int), false)) else (if (t134.length : Int) = 2 then (if (l0.length : Int) < 4 then (some (0, ([] : List Int), false)) else (if (l0.length : Int) > 42 then (some (0, ([] : List Int), false)) else (if 1 < (t134.length : Int) then (if ((rd_T34 t134 1).f0) < 2 then (some (0, ([] : List Int), false)) else (if ((rd_T34 t134 1).f0) > 40 then (some (0, ([] : List Int), false)) else (if 0 < (t134.length : Int) then ((spec_Small.f ((rd_T34 t134 0).f0)).bind fun bt141 => (some (bt141.1, (rd_T34 t134 1).f1, bt141.2))) else (none)))) else (none)))) else (some (0, ([] : List Int), false)))) = some (r1, r2, r3) := H
  have A2 := Aside0.mk A20
  clear A20
  by_cases c3 : t137 ≥ 0
  · rw [if_pos c3] at H
    have c3b0 : decide (0 ≤ t137) = true := decide_eq_true c3
    clear c3
    simp only [Option.some.injEq, Prod.mk.injEq] at H
    obtain ⟨rfl, rfl, rfl⟩ := H
    go_enter Try.func5, Try.ntmps5
    go_wp2_with (first | (go_at_call 11; (with_reducible refine (spec_Tokens.calls k (fun k_ => (P0_ k_ ∨ w.heap.size ≤ k_)) _ _ l0 t134 t137 _ ?side1 A2.out).mono ?_); (case side1 => exact HO0.out); rintro e w4 ⟨v135, rfl, ho0, hb⟩; have n0_ := Aside0.mk (Kd.V_elder' (by (with_reducible repeat (first | apply Kd.V_alloc | apply Kd.V_drewN | apply Kd.V_drew)); exact HO0.out) (Kd.N_base ho0) hb); have n1_ := Aside0.mk (Kd.N_lower (Kd.N_mono (ok' := fun k_ => (P0_ k_ ∨ w.heap.size ≤ k_)) ho0 (fun k_ hk_ => Or.elim hk_ (fun hs_ => hs_) (fun hn_ => (.inr (Nat.le_trans (below_size (by repeat (first | (with_reducible first | exact HB.out | apply below_alloc | apply pw_below_drewN | apply below_drew1) | exact HB.out))) hn_))))) (below_size (by repeat (first | (with_reducible first | exact HB.out | apply below_alloc | apply pw_below_drewN | apply below_drew1) | exact HB.out)))); have n2_ := Aside0.mk (below_step (by repeat (first | (with_reducible first | exact HB.out | apply below_alloc | apply pw_below_drewN | apply below_drew1) | exact HB.out)) hb); clear HO0; clear HB; have HO0 := n0_; have HO136 := n1_; have HB := n2_; clear n0_ n1_ n2_; (try clear hb); (try clear hb2); (try clear hk); (try clear hi); (try clear ho0)))
    repeat (go_quiet (first | (go_at_call 11; (with_reducible refine (spec_Tokens.calls k (fun k_ => (P0_ k_ ∨ w.heap.size ≤ k_)) _ _ l0 t134 t137 _ ?side1 A2.out).mono ?_); (case side1 => exact HO0.out); rintro e w4 ⟨v135, rfl, ho0, hb⟩; have n0_ := Aside0.mk (Kd.V_elder' (by (with_reducible repeat (first | apply Kd.V_alloc | apply Kd.V_drewN | apply Kd.V_drew)); exact HO0.out) (Kd.N_base ho0) hb); have n1_ := Aside0.mk (Kd.N_lower (Kd.N_mono (ok' := fun k_ => (P0_ k_ ∨ w.heap.size ≤ k_)) ho0 (fun k_ hk_ => Or.elim hk_ (fun hs_ => hs_) (fun hn_ => (.inr (Nat.le_trans (below_size (by repeat (first | (with_reducible first | exact HB.out | apply below_alloc | apply pw_below_drewN | apply below_drew1) | exact HB.out))) hn_))))) (below_size (by repeat (first | (with_reducible first | exact HB.out | apply below_alloc | apply pw_below_drewN | apply below_drew1) | exact HB.out)))); have n2_ := Aside0.mk (below_step (by repeat (first | (with_reducible first | exact HB.out | apply below_alloc | apply pw_below_drewN | apply below_drew1) | exact HB.out)) hb); clear HO0; clear HB; have HO0 := n0_; have HO136 := n1_; have HB := n2_; clear n0_ n1_ n2_; (try clear hb); (try clear hb2); (try clear hk); (try clear hi); (try clear ho0))); try go_wp2_with (first | (go_at_call 11; (with_reducible refine (spec_Tokens.calls k (fun k_ => (P0_ k_ ∨ w.heap.size ≤ k_)) _ _ l0 t134 t137 _ ?side1 A2.out).mono ?_); (case side1 => exact HO0.out); rintro e w4 ⟨v135, rfl, ho0, hb⟩; have n0_ := Aside0.mk (Kd.V_elder' (by (with_reducible repeat (first | apply Kd.V_alloc | apply Kd.V_drewN | apply Kd.V_drew)); exact HO0.out) (Kd.N_base ho0) hb); have n1_ := Aside0.mk (Kd.N_lower (Kd.N_mono (ok' := fun k_ => (P0_ k_ ∨ w.heap.size ≤ k_)) ho0 (fun k_ hk_ => Or.elim hk_ (fun hs_ => hs_) (fun hn_ => (.inr (Nat.le_trans (below_size (by repeat (first | (with_reducible first | exact HB.out | apply below_alloc | apply pw_below_drewN | apply below_drew1) | exact HB.out))) hn_))))) (below_size (by repeat (first | (with_reducible first | exact HB.out | apply below_alloc | apply pw_below_drewN | apply below_drew1) | exact HB.out)))); have n2_ := Aside0.mk (below_step (by repeat (first | (with_reducible first | exact HB.out | apply below_alloc | apply pw_below_drewN | apply below_drew1) | exact HB.out)) hb); clear HO0; clear HB; have HO0 := n0_; have HO136 := n1_; have HB := n2_; clear n0_ n1_ n2_; (try clear hb); (try clear hb2); (try clear hk); (try clear hi); (try clear ho0))))
    go_ret3
    exact ⟨_, by first | rfl | (simp [errW_none, errW_some] <;> rfl) | (simp [*, errW_none, errW_some] <;> rfl), Kd.V_nil _ _ _ _ _, by repeat (first | (with_reducible first | exact HB.out | apply below_alloc | apply pw_below_drewN | apply below_drew1) | exact HB.out)⟩
  · rw [if_neg c3] at H
    have c3b0 : decide (0 ≤ t137) = false := decide_eq_false c3
    clear c3
    by_cases c5 : (t134.length : Int) = 2
    · rw [if_pos c5] at H
      have c5b0 : ((t134.length : Int) == 2) = true := beq_iff_eq.mpr c5
      have c5b1 : ((t134.length : Int) != 2) = false := bne_eq_false_iff_eq.mpr c5
      clear c5
      by_cases c6 : (l0.length : Int) < 4
      · rw [if_pos c6] at H
        have c6b0 : decide ((l0.length : Int) < 4) = true := decide_eq_true c6
        have c6b1 : decide (l0.length < 4) = true := decide_eq_true (by omega)
        clear c6
        simp only [Option.some.injEq, Prod.mk.injEq] at H
        obtain ⟨rfl, rfl, rfl⟩ := H
        go_enter Try.func5, Try.ntmps5
        go_wp2_with (first | (go_at_call 11; (with_reducible refine (spec_Tokens.calls k (fun k_ => (P0_ k_ ∨ w.heap.size ≤ k_)) _ _ l0 t134 t137 _ ?side1 A2.out).mono ?_); (case side1 => exact HO0.out); rintro e w7 ⟨v135, rfl, ho0, hb⟩; have n0_ := Aside0.mk (Kd.V_elder' (by (with_reducible repeat (first | apply Kd.V_alloc | apply Kd.V_drewN | apply Kd.V_drew)); exact HO0.out) (Kd.N_base ho0) hb); have n1_ := Aside0.mk (Kd.N_lower (Kd.N_mono (ok' := fun k_ => (P0_ k_ ∨ w.heap.size ≤ k_)) ho0 (fun k_ hk_ => Or.elim hk_ (fun hs_ => hs_) (fun hn_ => (.inr (Nat.le_trans (below_size (by repeat (first | (with_reducible first | exact HB.out | apply below_alloc | apply pw_below_drewN | apply below_drew1) | exact HB.out))) hn_))))) (below_size (by repeat (first | (with_reducible first | exact HB.out | apply below_alloc | apply pw_below_drewN | apply below_drew1) | exact HB.out)))); have n2_ := Aside0.mk (below_step (by repeat (first | (with_reducible first | exact HB.out | apply below_alloc | apply pw_below_drewN | apply below_drew1) | exact HB.out)) hb); clear HO0; clear HB; have HO0 := n0_; have HO136 := n1_; have HB := n2_; clear n0_ n1_ n2_; (try clear hb); (try clear hb2); (try clear hk); (try clear hi); (try clear ho0); obtain ⟨Ao8, co8, eo8⟩ := Kd.N_slice HO136.out; subst eo8))
        repeat (go_quiet (first | (go_at_call 11; (with_reducible refine (spec_Tokens.calls k (fun k_ => (P0_ k_ ∨ w.heap.size ≤ k_)) _ _ l0 t134 t137 _ ?side1 A2.out).mono ?_); (case side1 => exact HO0.out); rintro e w7 ⟨v135, rfl, ho0, hb⟩; have n0_ := Aside0.mk (Kd.V_elder' (by (with_reducible repeat (first | apply Kd.V_alloc | apply Kd.V_drewN | apply Kd.V_drew)); exact HO0.out) (Kd.N_base ho0) hb); have n1_ := Aside0.mk (Kd.N_lower (Kd.N_mono (ok' := fun k_ => (P0_ k_ ∨ w.heap.size ≤ k_)) ho0 (fun k_ hk_ => Or.elim hk_ (fun hs_ => hs_) (fun hn_ => (.inr (Nat.le_trans (below_size (by repeat (first | (with_reducible first | exact HB.out | apply below_alloc | apply pw_below_drewN | apply below_drew1) | exact HB.out))) hn_))))) (below_size (by repeat (first | (with_reducible first | exact HB.out | apply below_alloc | apply pw_below_drewN | apply below_drew1) | exact HB.out)))); have n2_ := Aside0.mk (below_step (by repeat (first | (with_reducible first | exact HB.out | apply below_alloc | apply pw_below_drewN | apply below_drew1) | exact HB.out)) hb); clear HO0; clear HB; have HO0 := n0_; have HO136 := n1_; have HB := n2_; clear n0_ n1_ n2_; (try clear hb); (try clear hb2); (try clear hk); (try clear hi); (try clear ho0); obtain ⟨Ao8, co8, eo8⟩ := Kd.N_slice HO136.out; subst eo8)); try go_wp2_with (first | (go_at_call 11; (with_reducible refine (spec_Tokens.calls k (fun k_ => (P0_ k_ ∨ w.heap.size ≤ k_)) _ _ l0 t134 t137 _ ?side1 A2.out).mono ?_); (case side1 => exact HO0.out); rintro e w7 ⟨v135, rfl, ho0, hb⟩; have n0_ := Aside0.mk (Kd.V_elder' (by (with_reducible repeat (first | apply Kd.V_alloc | apply Kd.V_drewN | apply Kd.V_drew)); exact HO0.out) (Kd.N_base ho0) hb); have n1_ := Aside0.mk (Kd.N_lower (Kd.N_mono (ok' := fun k_ => (P0_ k_ ∨ w.heap.size ≤ k_)) ho0 (fun k_ hk_ => Or.elim hk_ (fun hs_ => hs_) (fun hn_ => (.inr (Nat.le_trans (below_size (by repeat (first | (with_reducible first | exact HB.out | apply below_alloc | apply pw_below_drewN | apply below_drew1) | exact HB.out))) hn_))))) (below_size (by repeat (first | (with_reducible first | exact HB.out | apply below_alloc | apply pw_below_drewN | apply below_drew1) | exact HB.out)))); have n2_ := Aside0.mk (below_step (by repeat (first | (with_reducible first | exact HB.out | apply below_alloc | apply pw_below_drewN | apply below_drew1) | exact HB.out)) hb); clear HO0; clear HB; have HO0 := n0_; have HO136 := n1_; have HB := n2_; clear n0_ n1_ n2_; (try clear hb); (try clear hb2); (try clear hk); (try clear hi); (try clear ho0); obtain ⟨Ao8, co8, eo8⟩ := Kd.N_slice HO136.out; subst eo8)))
        go_ret3
        exact ⟨_, by first | rfl | (simp [errW_none, errW_some] <;> rfl) | (simp [*, errW_none, errW_some] <;> rfl), Kd.V_nil _ _ _ _ _, by repeat (first | (with_reducible first | exact HB.out | apply below_alloc | apply pw_below_drewN | apply below_drew1) | exact HB.out)⟩
      · rw [if_neg c6] at H
        have c6b0 : decide ((l0.length : Int) < 4) = false := decide_eq_false c6
        have c6b1 : decide (l0.length < 4) = false := decide_eq_false (by omega)
        clear c6
        by_cases c9 : (l0.length : Int) > 42
        · rw [if_pos c9] at H
          have c9b0 : decide (42 < (l0.length : Int)) = true := decide_eq_true c9
          have c9b1 : decide (42 < l0.length) = true := decide_eq_true (by omega)
          clear c9
          simp only [Option.some.injEq, Prod.mk.injEq] at H
          obtain ⟨rfl, rfl, rfl⟩ := H
          go_enter Try.func5, Try.ntmps5
          go_wp2_with (first | (go_at_call 11; (with_reducible refine (spec_Tokens.calls k (fun k_ => (P0_ k_ ∨ w.heap.size ≤ k_)) _ _ l0 t134 t137 _ ?side1 A2.out).mono ?_); (case side1 => exact HO0.out); rintro e w10 ⟨v135, rfl, ho0, hb⟩; have n0_ := Aside0.mk (Kd.V_elder' (by (with_reducible repeat (first | apply Kd.V_alloc | apply Kd.V_drewN | apply Kd.V_drew)); exact HO0.out) (Kd.N_base ho0) hb); have n1_ := Aside0.mk (Kd.N_lower (Kd.N_mono (ok' := fun k_ => (P0_ k_ ∨ w.heap.size ≤ k_)) ho0 (fun k_ hk_ => Or.elim hk_ (fun hs_ => hs_) (fun hn_ => (.inr (Nat.le_trans (below_size (by repeat (first | (with_reducible first | exact HB.out | apply below_alloc | apply pw_below_drewN | apply below_drew1) | exact HB.out))) hn_))))) (below_size (by repeat (first | (with_reducible first | exact HB.out | apply below_alloc | apply pw_below_drewN | apply below_drew1) | exact HB.out)))); have n2_ := Aside0.mk (below_step (by repeat (first | (with_reducible first | exact HB.out | apply below_alloc | apply pw_below_drewN | apply below_drew1) | exact HB.out)) hb); clear HO0; clear HB; have HO0 := n0_; have HO136 := n1_; have HB := n2_; clear n0_ n1_ n2_; (try clear hb); (try clear hb2); (try clear hk); (try clear hi); (try clear ho0); obtain ⟨Ao11, co11, eo11⟩ := Kd.N_slice HO136.out; subst eo11))
          repeat (go_quiet (first | (go_at_call 11; (with_reducible refine (spec_Tokens.calls k (fun k_ => (P0_ k_ ∨ w.heap.size ≤ k_)) _ _ l0 t134 t137 _ ?side1 A2.out).mono ?_); (case side1 => exact HO0.out); rintro e w10 ⟨v135, rfl, ho0, hb⟩; have n0_ := Aside0.mk (Kd.V_elder' (by (with_reducible repeat (first | apply Kd.V_alloc | apply Kd.V_drewN | apply Kd.V_drew)); exact HO0.out) (Kd.N_base ho0) hb); have n1_ := Aside0.mk (Kd.N_lower (Kd.N_mono (ok' := fun k_ => (P0_ k_ ∨ w.heap.size ≤ k_)) ho0 (fun k_ hk_ => Or.elim hk_ (fun hs_ => hs_) (fun hn_ => (.inr (Nat.le_trans (below_size (by repeat (first | (with_reducible first | exact HB.out | apply below_alloc | apply pw_below_drewN | apply below_drew1) | exact HB.out))) hn_))))) (below_size (by repeat (first | (with_reducible first | exact HB.out | apply below_alloc | apply pw_below_drewN | apply below_drew1) | exact HB.out)))); have n2_ := Aside0.mk (below_step (by repeat (first | (with_reducible first | exact HB.out | apply below_alloc | apply pw_below_drewN | apply below_drew1) | exact HB.out)) hb); clear HO0; clear HB; have HO0 := n0_; have HO136 := n1_; have HB := n2_; clear n0_ n1_ n2_; (try clear hb); (try clear hb2); (try clear hk); (try clear hi); (try clear ho0); obtain ⟨Ao11, co11, eo11⟩ := Kd.N_slice HO136.out; subst eo11)); try go_wp2_with (first | (go_at_call 11; (with_reducible refine (spec_Tokens.calls k (fun k_ => (P0_ k_ ∨ w.heap.size ≤ k_)) _ _ l0 t134 t137 _ ?side1 A2.out).mono ?_); (case side1 => exact HO0.out); rintro e w10 ⟨v135, rfl, ho0, hb⟩; have n0_ := Aside0.mk (Kd.V_elder' (by (with_reducible repeat (first | apply Kd.V_alloc | apply Kd.V_drewN | apply Kd.V_drew)); exact HO0.out) (Kd.N_base ho0) hb); have n1_ := Aside0.mk (Kd.N_lower (Kd.N_mono (ok' := fun k_ => (P0_ k_ ∨ w.heap.size ≤ k_)) ho0 (fun k_ hk_ => Or.elim hk_ (fun hs_ => hs_) (fun hn_ => (.inr (Nat.le_trans (below_size (by repeat (first | (with_reducible first | exact HB.out | apply below_alloc | apply pw_below_drewN | apply below_drew1) | exact HB.out))) hn_))))) (below_size (by repeat (first | (with_reducible first | exact HB.out | apply below_alloc | apply pw_below_drewN | apply below_drew1) | exact HB.out)))); have n2_ := Aside0.mk (below_step (by repeat (first | (with_reducible first | exact HB.out | apply below_alloc | apply pw_below_drewN | apply below_drew1) | exact HB.out)) hb); clear HO0; clear HB; have HO0 := n0_; have HO136 := n1_; have HB := n2_; clear n0_ n1_ n2_; (try clear hb); (try clear hb2); (try clear hk); (try clear hi); (try clear ho0); obtain ⟨Ao11, co11, eo11⟩ := Kd.N_slice HO136.out; subst eo11)))
          go_ret3
          exact ⟨_, by first | rfl | (simp [errW_none, errW_some] <;> rfl) | (simp [*, errW_none, errW_some] <;> rfl), Kd.V_nil _ _ _ _ _, by repeat (first | (with_reducible first | exact HB.out | apply below_alloc | apply pw_below_drewN | apply below_drew1) | exact HB.out)⟩
        · rw [if_neg c9] at H
          have c9b0 : decide (42 < (l0.length : Int)) = false := decide_eq_false c9
          have c9b1 : decide (42 < l0.length) = false := decide_eq_false (by omega)
          clear c9
          by_cases c12 : 1 < (t134.length : Int)
          · rw [if_pos c12] at H
            have c12b0 : decide (1 < (t134.length : Int)) = true := decide_eq_true c12
            have c12b1 : decide (1 < t134.length) = true := decide_eq_true (by omega)
            clear c12
            by_cases c13 : ((rd_T34 t134 1).f0) < 2
            · rw [if_pos c13] at H
              have c13b0 : decide (((rd_T34 t134 1).f0) < 2) = true := decide_eq_true c13
              clear c13
              simp only [Option.some.injEq, Prod.mk.injEq] at H
              obtain ⟨rfl, rfl, rfl⟩ := H
              go_enter Try.func5, Try.ntmps5
              go_wp2_with (first | (go_at_call 11; (with_reducible refine (spec_Tokens.calls k (fun k_ => (P0_ k_ ∨ w.heap.size ≤ k_)) _ _ l0 t134 t137 _ ?side1 A2.out).mono ?_); (case side1 => exact HO0.out); rintro e w14 ⟨v135, rfl, ho0, hb⟩; have n0_ := Aside0.mk (Kd.V_elder' (by (with_reducible repeat (first | apply Kd.V_alloc | apply Kd.V_drewN | apply Kd.V_drew)); exact HO0.out) (Kd.N_base ho0) hb); have n1_ := Aside0.mk (Kd.N_lower (Kd.N_mono (ok' := fun k_ => (P0_ k_ ∨ w.heap.size ≤ k_)) ho0 (fun k_ hk_ => Or.elim hk_ (fun hs_ => hs_) (fun hn_ => (.inr (Nat.le_trans (below_size (by repeat (first | (with_reducible first | exact HB.out | apply below_alloc | apply pw_below_drewN | apply below_drew1) | exact HB.out))) hn_))))) (below_size (by repeat (first | (with_reducible first | exact HB.out | apply below_alloc | apply pw_below_drewN | apply below_drew1) | exact HB.out)))); have n2_ := Aside0.mk (below_step (by repeat (first | (with_reducible first | exact HB.out | apply below_alloc | apply pw_below_drewN | apply below_drew1) | exact HB.out)) hb); clear HO0; clear HB; have HO0 := n0_; have HO136 := n1_; have HB := n2_; clear n0_ n1_ n2_; (try clear hb); (try clear hb2); (try clear hk); (try clear hi); (try clear ho0); obtain ⟨Ao15, co15, eo15⟩ := Kd.N_slice HO136.out; subst eo15; have p138 : 0 ≤ (1 : Int) := (by omega); have q138 : 1 < (t134.length : Int) := of_decide_eq_true (by first | (with_reducible assumption) | assumption); obtain ⟨ad138, A138_1, c138_1, e138, hx138_0, hx138_1, hx138_2, hl138_1, hi138_1⟩ := at_T34 (Kd.N_reads' HO136.out).2.2 1 p138 q138; cases e138; obtain ⟨ce138, hce138, hMe138, hcc138⟩ := Kd.N_get HO136.out z34 1 p138 (by first | exact q138 | exact of_decide_eq_true (by first | (with_reducible assumption) | assumption) | (have e_ := (Kd.N_reads' HO136.out).1; omega)); obtain ⟨ua138_1, uc138_1, rfl, ul138_1, ge138_1⟩ := k34_openF hMe138; have hv138_1 := hcc138 1 _ rfl; rw [add_field _ _ 1 (by omega)] at hv138_1; replace hv138_1 := Option.some.inj (hv138_1.symm.trans hx138_1); injection hv138_1 with hva_ hvn_ hvc_; rw [hva_] at ge138_1; rw [hvc_] at ul138_1; have HL138_1 := Aside0.mk (show Kd.V (Kd.int .u8) 5 _ w.heap.size _ _ ((rd_T34 t134 1).f1) from Kd.V_mk ul138_1 ge138_1); clear hva_ hvn_ hvc_ ge138_1 ul138_1; clear hcc138 hce138; (try simp only [show (1 : Int).toNat = 1 from rfl, Nat.reduceMul, Nat.reduceEqDiff, Go.Addr.add, ↓reduceIte] at hx138_0); (try simp only [show (1 : Int).toNat = 1 from rfl, Nat.reduceMul, Nat.reduceEqDiff, Go.Addr.add, ↓reduceIte] at hx138_1); (try simp only [show (1 : Int).toNat = 1 from rfl, Nat.reduceMul, Nat.reduceEqDiff, Go.Addr.add, ↓reduceIte] at hx138_2); have qi138 : (1 < t134.length) = True := eq_true (by omega); (try rw [show ((1 : Int)).toNat = 1 from rfl] at hx138_0); (try rw [show 1 * 3 = 3 from rfl] at hx138_0); (try rw [show ((1 : Int)).toNat = 1 from rfl] at hx138_1); (try rw [show 1 * 3 = 3 from rfl] at hx138_1); (try rw [show ((1 : Int)).toNat = 1 from rfl] at hx138_2); (try rw [show 1 * 3 = 3 from rfl] at hx138_2); have HR138_1 := Aside0.mk hi138_1; have HC138_1 := Aside0.mk hl138_1; clear hi138_1 hl138_1; replace p138 := eq_true p138; replace q138 := eq_true q138))
              repeat (go_quiet (first | (go_at_call 11; (with_reducible refine (spec_Tokens.calls k (fun k_ => (P0_ k_ ∨ w.heap.size ≤ k_)) _ _ l0 t134 t137 _ ?side1 A2.out).mono ?_); (case side1 => exact HO0.out); rintro e w14 ⟨v135, rfl, ho0, hb⟩; have n0_ := Aside0.mk (Kd.V_elder' (by (with_reducible repeat (first | apply Kd.V_alloc | apply Kd.V_drewN | apply Kd.V_drew)); exact HO0.out) (Kd.N_base ho0) hb); have n1_ := Aside0.mk (Kd.N_lower (Kd.N_mono (ok' := fun k_ => (P0_ k_ ∨ w.heap.size ≤ k_)) ho0 (fun k_ hk_ => Or.elim hk_ (fun hs_ => hs_) (fun hn_ => (.inr (Nat.le_trans (below_size (by repeat (first | (with_reducible first | exact HB.out | apply below_alloc | apply pw_below_drewN | apply below_drew1) | exact HB.out))) hn_))))) (below_size (by repeat (first | (with_reducible first | exact HB.out | apply below_alloc | apply pw_below_drewN | apply below_drew1) | exact HB.out)))); have n2_ := Aside0.mk (below_step (by repeat (first | (with_reducible first | exact HB.out | apply below_alloc | apply pw_below_drewN | apply below_drew1) | exact HB.out)) hb); clear HO0; clear HB; have HO0 := n0_; have HO136 := n1_; have HB := n2_; clear n0_ n1_ n2_; (try clear hb); (try clear hb2); (try clear hk); (try clear hi); (try clear ho0); obtain ⟨Ao15, co15, eo15⟩ := Kd.N_slice HO136.out; subst eo15; have p138 : 0 ≤ (1 : Int) := (by omega); have q138 : 1 < (t134.length : Int) := of_decide_eq_true (by first | (with_reducible assumption) | assumption); obtain ⟨ad138, A138_1, c138_1, e138, hx138_0, hx138_1, hx138_2, hl138_1, hi138_1⟩ := at_T34 (Kd.N_reads' HO136.out).2.2 1 p138 q138; cases e138; obtain ⟨ce138, hce138, hMe138, hcc138⟩ := Kd.N_get HO136.out z34 1 p138 (by first | exact q138 | exact of_decide_eq_true (by first | (with_reducible assumption) | assumption) | (have e_ := (Kd.N_reads' HO136.out).1; omega)); obtain ⟨ua138_1, uc138_1, rfl, ul138_1, ge138_1⟩ := k34_openF hMe138; have hv138_1 := hcc138 1 _ rfl; rw [add_field _ _ 1 (by omega)] at hv138_1; replace hv138_1 := Option.some.inj (hv138_1.symm.trans hx138_1); injection hv138_1 with hva_ hvn_ hvc_; rw [hva_] at ge138_1; rw [hvc_] at ul138_1; have HL138_1 := Aside0.mk (show Kd.V (Kd.int .u8) 5 _ w.heap.size _ _ ((rd_T34 t134 1).f1) from Kd.V_mk ul138_1 ge138_1); clear hva_ hvn_ hvc_ ge138_1 ul138_1; clear hcc138 hce138; (try simp only [show (1 : Int).toNat = 1 from rfl, Nat.reduceMul, Nat.reduceEqDiff, Go.Addr.add, ↓reduceIte] at hx138_0); (try simp only [show (1 : Int).toNat = 1 from rfl, Nat.reduceMul, Nat.reduceEqDiff, Go.Addr.add, ↓reduceIte] at hx138_1); (try simp only [show (1 : Int).toNat = 1 from rfl, Nat.reduceMul, Nat.reduceEqDiff, Go.Addr.add, ↓reduceIte] at hx138_2); have qi138 : (1 < t134.length) = True := eq_true (by omega); (try rw [show ((1 : Int)).toNat = 1 from rfl] at hx138_0); (try rw [show 1 * 3 = 3 from rfl] at hx138_0); (try rw [show ((1 : Int)).toNat = 1 from rfl] at hx138_1); (try rw [show 1 * 3 = 3 from rfl] at hx138_1); (try rw [show ((1 : Int)).toNat = 1 from rfl] at hx138_2); (try rw [show 1 * 3 = 3 from rfl] at hx138_2); have HR138_1 := Aside0.mk hi138_1; have HC138_1 := Aside0.mk hl138_1; clear hi138_1 hl138_1; replace p138 := eq_true p138; replace q138 := eq_true q138)); try go_wp2_with (first | (go_at_call 11; (with_reducible refine (spec_Tokens.calls k (fun k_ => (P0_ k_ ∨ w.heap.size ≤ k_)) _ _ l0 t134 t137 _ ?side1 A2.out).mono ?_); (case side1 => exact HO0.out); rintro e w14 ⟨v135, rfl, ho0, hb⟩; have n0_ := Aside0.mk (Kd.V_elder' (by (with_reducible repeat (first | apply Kd.V_alloc | apply Kd.V_drewN | apply Kd.V_drew)); exact HO0.out) (Kd.N_base ho0) hb); have n1_ := Aside0.mk (Kd.N_lower (Kd.N_mono (ok' := fun k_ => (P0_ k_ ∨ w.heap.size ≤ k_)) ho0 (fun k_ hk_ => Or.elim hk_ (fun hs_ => hs_) (fun hn_ => (.inr (Nat.le_trans (below_size (by repeat (first | (with_reducible first | exact HB.out | apply below_alloc | apply pw_below_drewN | apply below_drew1) | exact HB.out))) hn_))))) (below_size (by repeat (first | (with_reducible first | exact HB.out | apply below_alloc | apply pw_below_drewN | apply below_drew1) | exact HB.out)))); have n2_ := Aside0.mk (below_step (by repeat (first | (with_reducible first | exact HB.out | apply below_alloc | apply pw_below_drewN | apply below_drew1) | exact HB.out)) hb); clear HO0; clear HB; have HO0 := n0_; have HO136 := n1_; have HB := n2_; clear n0_ n1_ n2_; (try clear hb); (try clear hb2); (try clear hk); (try clear hi); (try clear ho0); obtain ⟨Ao15, co15, eo15⟩ := Kd.N_slice HO136.out; subst eo15; have p138 : 0 ≤ (1 : Int) := (by omega); have q138 : 1 < (t134.length : Int) := of_decide_eq_true (by first | (with_reducible assumption) | assumption); obtain ⟨ad138, A138_1, c138_1, e138, hx138_0, hx138_1, hx138_2, hl138_1, hi138_1⟩ := at_T34 (Kd.N_reads' HO136.out).2.2 1 p138 q138; cases e138; obtain ⟨ce138, hce138, hMe138, hcc138⟩ := Kd.N_get HO136.out z34 1 p138 (by first | exact q138 | exact of_decide_eq_true (by first | (with_reducible assumption) | assumption) | (have e_ := (Kd.N_reads' HO136.out).1; omega)); obtain ⟨ua138_1, uc138_1, rfl, ul138_1, ge138_1⟩ := k34_openF hMe138; have hv138_1 := hcc138 1 _ rfl; rw [add_field _ _ 1 (by omega)] at hv138_1; replace hv138_1 := Option.some.inj (hv138_1.symm.trans hx138_1); injection hv138_1 with hva_ hvn_ hvc_; rw [hva_] at ge138_1; rw [hvc_] at ul138_1; have HL138_1 := Aside0.mk (show Kd.V (Kd.int .u8) 5 _ w.heap.size _ _ ((rd_T34 t134 1).f1) from Kd.V_mk ul138_1 ge138_1); clear hva_ hvn_ hvc_ ge138_1 ul138_1; clear hcc138 hce138; (try simp only [show (1 : Int).toNat = 1 from rfl, Nat.reduceMul, Nat.reduceEqDiff, Go.Addr.add, ↓reduceIte] at hx138_0); (try simp only [show (1 : Int).toNat = 1 from rfl, Nat.reduceMul, Nat.reduceEqDiff, Go.Addr.add, ↓reduceIte] at hx138_1); (try simp only [show (1 : Int).toNat = 1 from rfl, Nat.reduceMul, Nat.reduceEqDiff, Go.Addr.add, ↓reduceIte] at hx138_2); have qi138 : (1 < t134.length) = True := eq_true (by omega); (try rw [show ((1 : Int)).toNat = 1 from rfl] at hx138_0); (try rw [show 1 * 3 = 3 from rfl] at hx138_0); (try rw [show ((1 : Int)).toNat = 1 from rfl] at hx138_1); (try rw [show 1 * 3 = 3 from rfl] at hx138_1); (try rw [show ((1 : Int)).toNat = 1 from rfl] at hx138_2); (try rw [show 1 * 3 = 3 from rfl] at hx138_2); have HR138_1 := Aside0.mk hi138_1; have HC138_1 := Aside0.mk hl138_1; clear hi138_1 hl138_1; replace p138 := eq_true p138; replace q138 := eq_true q138)))
              go_ret3
              exact ⟨_, by first | rfl | (simp [errW_none, errW_some] <;> rfl) | (simp [*, errW_none, errW_some] <;> rfl), Kd.V_nil _ _ _ _ _, by repeat (first | (with_reducible first | exact HB.out | apply below_alloc | apply pw_below_drewN | apply below_drew1) | exact HB.out)⟩
            · rw [if_neg c13] at H
              have c13b0 : decide (((rd_T34 t134 1).f0) < 2) = false := decide_eq_false c13
              clear c13
              by_cases c16 : ((rd_T34 t134 1).f0) > 40
              · rw [if_pos c16] at H
                have c16b0 : decide (40 < ((rd_T34 t134 1).f0)) = true := decide_eq_true c16
                clear c16
                simp only [Option.some.injEq, Prod.mk.injEq] at H
                obtain ⟨rfl, rfl, rfl⟩ := H
                go_enter Try.func5, Try.ntmps5
                go_wp2_with (first | (go_at_call 11; (with_reducible refine (spec_Tokens.calls k (fun k_ => (P0_ k_ ∨ w.heap.size ≤ k_)) _ _ l0 t134 t137 _ ?side1 A2.out).mono ?_); (case side1 => exact HO0.out); rintro e w17 ⟨v135, rfl, ho0, hb⟩; have n0_ := Aside0.mk (Kd.V_elder' (by (with_reducible repeat (first | apply Kd.V_alloc | apply Kd.V_drewN | apply Kd.V_drew)); exact HO0.out) (Kd.N_base ho0) hb); have n1_ := Aside0.mk (Kd.N_lower (Kd.N_mono (ok' := fun k_ => (P0_ k_ ∨ w.heap.size ≤ k_)) ho0 (fun k_ hk_ => Or.elim hk_ (fun hs_ => hs_) (fun hn_ => (.inr (Nat.le_trans (below_size (by repeat (first | (with_reducible first | exact HB.out | apply below_alloc | apply pw_below_drewN | apply below_drew1) | exact HB.out))) hn_))))) (below_size (by repeat (first | (with_reducible first | exact HB.out | apply below_alloc | apply pw_below_drewN | apply below_drew1) | exact HB.out)))); have n2_ := Aside0.mk (below_step (by repeat (first | (with_reducible first | exact HB.out | apply below_alloc | apply pw_below_drewN | apply below_drew1) | exact HB.out)) hb); clear HO0; clear HB; have HO0 := n0_; have HO136 := n1_; have HB := n2_; clear n0_ n1_ n2_; (try clear hb); (try clear hb2); (try clear hk); (try clear hi); (try clear ho0); obtain ⟨Ao18, co18, eo18⟩ := Kd.N_slice HO136.out; subst eo18; have p138 : 0 ≤ (1 : Int) := (by omega); have q138 : 1 < (t134.length : Int) := of_decide_eq_true (by first | (with_reducible assumption) | assumption); obtain ⟨ad138, A138_1, c138_1, e138, hx138_0, hx138_1, hx138_2, hl138_1, hi138_1⟩ := at_T34 (Kd.N_reads' HO136.out).2.2 1 p138 q138; cases e138; obtain ⟨ce138, hce138, hMe138, hcc138⟩ := Kd.N_get HO136.out z34 1 p138 (by first | exact q138 | exact of_decide_eq_true (by first | (with_reducible assumption) | assumption) | (have e_ := (Kd.N_reads' HO136.out).1; omega)); obtain ⟨ua138_1, uc138_1, rfl, ul138_1, ge138_1⟩ := k34_openF hMe138; have hv138_1 := hcc138 1 _ rfl; rw [add_field _ _ 1 (by omega)] at hv138_1; replace hv138_1 := Option.some.inj (hv138_1.symm.trans hx138_1); injection hv138_1 with hva_ hvn_ hvc_; rw [hva_] at ge138_1; rw [hvc_] at ul138_1; have HL138_1 := Aside0.mk (show Kd.V (Kd.int .u8) 5 _ w.heap.size _ _ ((rd_T34 t134 1).f1) from Kd.V_mk ul138_1 ge138_1); clear hva_ hvn_ hvc_ ge138_1 ul138_1; clear hcc138 hce138; (try simp only [show (1 : Int).toNat = 1 from rfl, Nat.reduceMul, Nat.reduceEqDiff, Go.Addr.add, ↓reduceIte] at hx138_0); (try simp only [show (1 : Int).toNat = 1 from rfl, Nat.reduceMul, Nat.reduceEqDiff, Go.Addr.add, ↓reduceIte] at hx138_1); (try simp only [show (1 : Int).toNat = 1 from rfl, Nat.reduceMul, Nat.reduceEqDiff, Go.Addr.add, ↓reduceIte] at hx138_2); have qi138 : (1 < t134.length) = True := eq_true (by omega); (try rw [show ((1 : Int)).toNat = 1 from rfl] at hx138_0); (try rw [show 1 * 3 = 3 from rfl] at hx138_0); (try rw [show ((1 : Int)).toNat = 1 from rfl] at hx138_1); (try rw [show 1 * 3 = 3 from rfl] at hx138_1); (try rw [show ((1 : Int)).toNat = 1 from rfl] at hx138_2); (try rw [show 1 * 3 = 3 from rfl] at hx138_2); have HR138_1 := Aside0.mk hi138_1; have HC138_1 := Aside0.mk hl138_1; clear hi138_1 hl138_1; replace p138 := eq_true p138; replace q138 := eq_true q138; have p139 : 0 ≤ (1 : Int) := (by omega); have q139 : 1 < (t134.length : Int) := of_decide_eq_true (by first | (with_reducible assumption) | assumption); obtain ⟨ad139, A139_1, c139_1, e139, hx139_0, hx139_1, hx139_2, hl139_1, hi139_1⟩ := at_T34 (Kd.N_reads' HO136.out).2.2 1 p139 q139; obtain rfl : ad138 = ad139 := (by injection e139); obtain ⟨ce139, hce139, hMe139, hcc139⟩ := Kd.N_get HO136.out z34 1 p139 (by first | exact q139 | exact of_decide_eq_true (by first | (with_reducible assumption) | assumption) | (have e_ := (Kd.N_reads' HO136.out).1; omega)); obtain ⟨ua139_1, uc139_1, rfl, ul139_1, ge139_1⟩ := k34_openF hMe139; have hv139_1 := hcc139 1 _ rfl; rw [add_field _ _ 1 (by omega)] at hv139_1; replace hv139_1 := Option.some.inj (hv139_1.symm.trans hx139_1); injection hv139_1 with hva_ hvn_ hvc_; rw [hva_] at ge139_1; rw [hvc_] at ul139_1; have HL139_1 := Aside0.mk (show Kd.V (Kd.int .u8) 5 _ w.heap.size _ _ ((rd_T34 t134 1).f1) from Kd.V_mk ul139_1 ge139_1); clear hva_ hvn_ hvc_ ge139_1 ul139_1; clear hcc139 hce139; (try simp only [show (1 : Int).toNat = 1 from rfl, Nat.reduceMul, Nat.reduceEqDiff, Go.Addr.add, ↓reduceIte] at hx139_0); (try simp only [show (1 : Int).toNat = 1 from rfl, Nat.reduceMul, Nat.reduceEqDiff, Go.Addr.add, ↓reduceIte] at hx139_1); (try simp only [show (1 : Int).toNat = 1 from rfl, Nat.reduceMul, Nat.reduceEqDiff, Go.Addr.add, ↓reduceIte] at hx139_2); have qi139 : (1 < t134.length) = True := eq_true (by omega); (try rw [show ((1 : Int)).toNat = 1 from rfl] at hx139_0); (try rw [show 1 * 3 = 3 from rfl] at hx139_0); (try rw [show ((1 : Int)).toNat = 1 from rfl] at hx139_1); (try rw [show 1 * 3 = 3 from rfl] at hx139_1); (try rw [show ((1 : Int)).toNat = 1 from rfl] at hx139_2); (try rw [show 1 * 3 = 3 from rfl] at hx139_2); have HR139_1 := Aside0.mk hi139_1; have HC139_1 := Aside0.mk hl139_1; clear hi139_1 hl139_1; replace p139 := eq_true p139; replace q139 := eq_true q139; have ea_ := Option.some.inj (hx138_1.symm.trans hx139_1); injection ea_ with ea_ en_ ec_; subst ea_; subst ec_; clear en_))
                repeat (go_quiet (first | (go_at_call 11; (with_reducible refine (spec_Tokens.calls k (fun k_ => (P0_ k_ ∨ w.heap.size ≤ k_)) _ _ l0 t134 t137 _ ?side1 A2.out).mono ?_); (case side1 => exact HO0.out); rintro e w17 ⟨v135, rfl, ho0, hb⟩; have n0_ := Aside0.mk (Kd.V_elder' (by (with_reducible repeat (first | apply Kd.V_alloc | apply Kd.V_drewN | apply Kd.V_drew)); exact HO0.out) (Kd.N_base ho0) hb); have n1_ := Aside0.mk (Kd.N_lower (Kd.N_mono (ok' := fun k_ => (P0_ k_ ∨ w.heap.size ≤ k_)) ho0 (fun k_ hk_ => Or.elim hk_ (fun hs_ => hs_) (fun hn_ => (.inr (Nat.le_trans (below_size (by repeat (first | (with_reducible first | exact HB.out | apply below_alloc | apply pw_below_drewN | apply below_drew1) | exact HB.out))) hn_))))) (below_size (by repeat (first | (with_reducible first | exact HB.out | apply below_alloc | apply pw_below_drewN | apply below_drew1) | exact HB.out)))); have n2_ := Aside0.mk (below_step (by repeat (first | (with_reducible first | exact HB.out | apply below_alloc | apply pw_below_drewN | apply below_drew1) | exact HB.out)) hb); clear HO0; clear HB; have HO0 := n0_; have HO136 := n1_; have HB := n2_; clear n0_ n1_ n2_; (try clear hb); (try clear hb2); (try clear hk); (try clear hi); (try clear ho0); obtain ⟨Ao18, co18, eo18⟩ := Kd.N_slice HO136.out; subst eo18; have p138 : 0 ≤ (1 : Int) := (by omega); have q138 : 1 < (t134.length : Int) := of_decide_eq_true (by first | (with_reducible assumption) | assumption); obtain ⟨ad138, A138_1, c138_1, e138, hx138_0, hx138_1, hx138_2, hl138_1, hi138_1⟩ := at_T34 (Kd.N_reads' HO136.out).2.2 1 p138 q138; cases e138; obtain ⟨ce138, hce138, hMe138, hcc138⟩ := Kd.N_get HO136.out z34 1 p138 (by first | exact q138 | exact of_decide_eq_true (by first | (with_reducible assumption) | assumption) | (have e_ := (Kd.N_reads' HO136.out).1; omega)); obtain ⟨ua138_1, uc138_1, rfl, ul138_1, ge138_1⟩ := k34_openF hMe138; have hv138_1 := hcc138 1 _ rfl; rw [add_field _ _ 1 (by omega)] at hv138_1; replace hv138_1 := Option.some.inj (hv138_1.symm.trans hx138_1); injection hv138_1 with hva_ hvn_ hvc_; rw [hva_] at ge138_1; rw [hvc_] at ul138_1; have HL138_1 := Aside0.mk (show Kd.V (Kd.int .u8) 5 _ w.heap.size _ _ ((rd_T34 t134 1).f1) from Kd.V_mk ul138_1 ge138_1); clear hva_ hvn_ hvc_ ge138_1 ul138_1; clear hcc138 hce138; (try simp only [show (1 : Int).toNat = 1 from rfl, Nat.reduceMul, Nat.reduceEqDiff, Go.Addr.add, ↓reduceIte] at hx138_0); (try simp only [show (1 : Int).toNat = 1 from rfl, Nat.reduceMul, Nat.reduceEqDiff, Go.Addr.add, ↓reduceIte] at hx138_1); (try simp only [show (1 : Int).toNat = 1 from rfl, Nat.reduceMul, Nat.reduceEqDiff, Go.Addr.add, ↓reduceIte] at hx138_2); have qi138 : (1 < t134.length) = True := eq_true (by omega); (try rw [show ((1 : Int)).toNat = 1 from rfl] at hx138_0); (try rw [show 1 * 3 = 3 from rfl] at hx138_0); (try rw [show ((1 : Int)).toNat = 1 from rfl] at hx138_1); (try rw [show 1 * 3 = 3 from rfl] at hx138_1); (try rw [show ((1 : Int)).toNat = 1 from rfl] at hx138_2); (try rw [show 1 * 3 = 3 from rfl] at hx138_2); have HR138_1 := Aside0.mk hi138_1; have HC138_1 := Aside0.mk hl138_1; clear hi138_1 hl138_1; replace p138 := eq_true p138; replace q138 := eq_true q138; have p139 : 0 ≤ (1 : Int) := (by omega); have q139 : 1 < (t134.length : Int) := of_decide_eq_true (by first | (with_reducible assumption) | assumption); obtain ⟨ad139, A139_1, c139_1, e139, hx139_0, hx139_1, hx139_2, hl139_1, hi139_1⟩ := at_T34 (Kd.N_reads' HO136.out).2.2 1 p139 q139; obtain rfl : ad138 = ad139 := (by injection e139); obtain ⟨ce139, hce139, hMe139, hcc139⟩ := Kd.N_get HO136.out z34 1 p139 (by first | exact q139 | exact of_decide_eq_true (by first | (with_reducible assumption) | assumption) | (have e_ := (Kd.N_reads' HO136.out).1; omega)); obtain ⟨ua139_1, uc139_1, rfl, ul139_1, ge139_1⟩ := k34_openF hMe139; have hv139_1 := hcc139 1 _ rfl; rw [add_field _ _ 1 (by omega)] at hv139_1; replace hv139_1 := Option.some.inj (hv139_1.symm.trans hx139_1); injection hv139_1 with hva_ hvn_ hvc_; rw [hva_] at ge139_1; rw [hvc_] at ul139_1; have HL139_1 := Aside0.mk (show Kd.V (Kd.int .u8) 5 _ w.heap.size _ _ ((rd_T34 t134 1).f1) from Kd.V_mk ul139_1 ge139_1); clear hva_ hvn_ hvc_ ge139_1 ul139_1; clear hcc139 hce139; (try simp only [show (1 : Int).toNat = 1 from rfl, Nat.reduceMul, Nat.reduceEqDiff, Go.Addr.add, ↓reduceIte] at hx139_0); (try simp only [show (1 : Int).toNat = 1 from rfl, Nat.reduceMul, Nat.reduceEqDiff, Go.Addr.add, ↓reduceIte] at hx139_1); (try simp only [show (1 : Int).toNat = 1 from rfl, Nat.reduceMul, Nat.reduceEqDiff, Go.Addr.add, ↓reduceIte] at hx139_2); have qi139 : (1 < t134.length) = True := eq_true (by omega); (try rw [show ((1 : Int)).toNat = 1 from rfl] at hx139_0); (try rw [show 1 * 3 = 3 from rfl] at hx139_0); (try rw [show ((1 : Int)).toNat = 1 from rfl] at hx139_1); (try rw [show 1 * 3 = 3 from rfl] at hx139_1); (try rw [show ((1 : Int)).toNat = 1 from rfl] at hx139_2); (try rw [show 1 * 3 = 3 from rfl] at hx139_2); have HR139_1 := Aside0.mk hi139_1; have HC139_1 := Aside0.mk hl139_1; clear hi139_1 hl139_1; replace p139 := eq_true p139; replace q139 := eq_true q139; have ea_ := Option.some.inj (hx138_1.symm.trans hx139_1); injection ea_ with ea_ en_ ec_; subst ea_; subst ec_; clear en_)); try go_wp2_with (first | (go_at_call 11; (with_reducible refine (spec_Tokens.calls k (fun k_ => (P0_ k_ ∨ w.heap.size ≤ k_)) _ _ l0 t134 t137 _ ?side1 A2.out).mono ?_); (case side1 => exact HO0.out); rintro e w17 ⟨v135, rfl, ho0, hb⟩; have n0_ := Aside0.mk (Kd.V_elder' (by (with_reducible repeat (first | apply Kd.V_alloc | apply Kd.V_drewN | apply Kd.V_drew)); exact HO0.out) (Kd.N_base ho0) hb); have n1_ := Aside0.mk (Kd.N_lower (Kd.N_mono (ok' := fun k_ => (P0_ k_ ∨ w.heap.size ≤ k_)) ho0 (fun k_ hk_ => Or.elim hk_ (fun hs_ => hs_) (fun hn_ => (.inr (Nat.le_trans (below_size (by repeat (first | (with_reducible first | exact HB.out | apply below_alloc | apply pw_below_drewN | apply below_drew1) | exact HB.out))) hn_))))) (below_size (by repeat (first | (with_reducible first | exact HB.out | apply below_alloc | apply pw_below_drewN | apply below_drew1) | exact HB.out)))); have n2_ := Aside0.mk (below_step (by repeat (first | (with_reducible first | exact HB.out | apply below_alloc | apply pw_below_drewN | apply below_drew1) | exact HB.out)) hb); clear HO0; clear HB; have HO0 := n0_; have HO136 := n1_; have HB := n2_; clear n0_ n1_ n2_; (try clear hb); (try clear hb2); (try clear hk); (try clear hi); (try clear ho0); obtain ⟨Ao18, co18, eo18⟩ := Kd.N_slice HO136.out; subst eo18; have p138 : 0 ≤ (1 : Int) := (by omega); have q138 : 1 < (t134.length : Int) := of_decide_eq_true (by first | (with_reducible assumption) | assumption); obtain ⟨ad138, A138_1, c138_1, e138, hx138_0, hx138_1, hx138_2, hl138_1, hi138_1⟩ := at_T34 (Kd.N_reads' HO136.out).2.2 1 p138 q138; cases e138; obtain ⟨ce138, hce138, hMe138, hcc138⟩ := Kd.N_get HO136.out z34 1 p138 (by first | exact q138 | exact of_decide_eq_true (by first | (with_reducible assumption) | assumption) | (have e_ := (Kd.N_reads' HO136.out).1; omega)); obtain ⟨ua138_1, uc138_1, rfl, ul138_1, ge138_1⟩ := k34_openF hMe138; have hv138_1 := hcc138 1 _ rfl; rw [add_field _ _ 1 (by omega)] at hv138_1; replace hv138_1 := Option.some.inj (hv138_1.symm.trans hx138_1); injection hv138_1 with hva_ hvn_ hvc_; rw [hva_] at ge138_1; rw [hvc_] at ul138_1; have HL138_1 := Aside0.mk (show Kd.V (Kd.int .u8) 5 _ w.heap.size _ _ ((rd_T34 t134 1).f1) from Kd.V_mk ul138_1 ge138_1); clear hva_ hvn_ hvc_ ge138_1 ul138_1; clear hcc138 hce138; (try simp only [show (1 : Int).toNat = 1 from rfl, Nat.reduceMul, Nat.reduceEqDiff, Go.Addr.add, ↓reduceIte] at hx138_0); (try simp only [show (1 : Int).toNat = 1 from rfl, Nat.reduceMul, Nat.reduceEqDiff, Go.Addr.add, ↓reduceIte] at hx138_1); (try simp only [show (1 : Int).toNat = 1 from rfl, Nat.reduceMul, Nat.reduceEqDiff, Go.Addr.add, ↓reduceIte] at hx138_2); have qi138 : (1 < t134.length) = True := eq_true (by omega); (try rw [show ((1 : Int)).toNat = 1 from rfl] at hx138_0); (try rw [show 1 * 3 = 3 from rfl] at hx138_0); (try rw [show ((1 : Int)).toNat = 1 from rfl] at hx138_1); (try rw [show 1 * 3 = 3 from rfl] at hx138_1); (try rw [show ((1 : Int)).toNat = 1 from rfl] at hx138_2); (try rw [show 1 * 3 = 3 from rfl] at hx138_2); have HR138_1 := Aside0.mk hi138_1; have HC138_1 := Aside0.mk hl138_1; clear hi138_1 hl138_1; replace p138 := eq_true p138; replace q138 := eq_true q138; have p139 : 0 ≤ (1 : Int) := (by omega); have q139 : 1 < (t134.length : Int) := of_decide_eq_true (by first | (with_reducible assumption) | assumption); obtain ⟨ad139, A139_1, c139_1, e139, hx139_0, hx139_1, hx139_2, hl139_1, hi139_1⟩ := at_T34 (Kd.N_reads' HO136.out).2.2 1 p139 q139; obtain rfl : ad138 = ad139 := (by injection e139); obtain ⟨ce139, hce139, hMe139, hcc139⟩ := Kd.N_get HO136.out z34 1 p139 (by first | exact q139 | exact of_decide_eq_true (by first | (with_reducible assumption) | assumption) | (have e_ := (Kd.N_reads' HO136.out).1; omega)); obtain ⟨ua139_1, uc139_1, rfl, ul139_1, ge139_1⟩ := k34_openF hMe139; have hv139_1 := hcc139 1 _ rfl; rw [add_field _ _ 1 (by omega)] at hv139_1; replace hv139_1 := Option.some.inj (hv139_1.symm.trans hx139_1); injection hv139_1 with hva_ hvn_ hvc_; rw [hva_] at ge139_1; rw [hvc_] at ul139_1; have HL139_1 := Aside0.mk (show Kd.V (Kd.int .u8) 5 _ w.heap.size _ _ ((rd_T34 t134 1).f1) from Kd.V_mk ul139_1 ge139_1); clear hva_ hvn_ hvc_ ge139_1 ul139_1; clear hcc139 hce139; (try simp only [show (1 : Int).toNat = 1 from rfl, Nat.reduceMul, Nat.reduceEqDiff, Go.Addr.add, ↓reduceIte] at hx139_0); (try simp only [show (1 : Int).toNat = 1 from rfl, Nat.reduceMul, Nat.reduceEqDiff, Go.Addr.add, ↓reduceIte] at hx139_1); (try simp only [show (1 : Int).toNat = 1 from rfl, Nat.reduceMul, Nat.reduceEqDiff, Go.Addr.add, ↓reduceIte] at hx139_2); have qi139 : (1 < t134.length) = True := eq_true (by omega); (try rw [show ((1 : Int)).toNat = 1 from rfl] at hx139_0); (try rw [show 1 * 3 = 3 from rfl] at hx139_0); (try rw [show ((1 : Int)).toNat = 1 from rfl] at hx139_1); (try rw [show 1 * 3 = 3 from rfl] at hx139_1); (try rw [show ((1 : Int)).toNat = 1 from rfl] at hx139_2); (try rw [show 1 * 3 = 3 from rfl] at hx139_2); have HR139_1 := Aside0.mk hi139_1; have HC139_1 := Aside0.mk hl139_1; clear hi139_1 hl139_1; replace p139 := eq_true p139; replace q139 := eq_true q139; have ea_ := Option.some.inj (hx138_1.symm.trans hx139_1); injection ea_ with ea_ en_ ec_; subst ea_; subst ec_; clear en_)))
                go_ret3
                exact ⟨_, by first | rfl | (simp [errW_none, errW_some] <;> rfl) | (simp [*, errW_none, errW_some] <;> rfl), Kd.V_nil _ _ _ _ _, by repeat (first | (with_reducible first | exact HB.out | apply below_alloc | apply pw_below_drewN | apply below_drew1) | exact HB.out)⟩
              · rw [if_neg c16] at H
                have c16b0 : decide (40 < ((rd_T34 t134 1).f0)) = false := decide_eq_false c16
                clear c16
                by_cases c19 : 0 < (t134.length : Int)
                · rw [if_pos c19] at H
                  have c19b0 : decide (0 < (t134.length : Int)) = true := decide_eq_true c19
                  have c19b1 : decide (0 < t134.length) = true := decide_eq_true (by omega)
                  clear c19
                  replace H := Option.bind_eq_some_iff.mp H
                  obtain ⟨⟨t141, t142⟩, A200, H⟩ := H
                  replace H : (some (t141, (rd_T34 t134 1).f1, t142)) = some (r1, r2, r3) := H
                  have A20 := Aside0.mk A200
                  clear A200
                  simp only [Option.some.injEq, Prod.mk.injEq] at H
                  obtain ⟨rfl, rfl, rfl⟩ := H
                  go_enter Try.func5, Try.ntmps5
                  go_wp2_with (first | (go_at_call 11; (with_reducible refine (spec_Tokens.calls k (fun k_ => (P0_ k_ ∨ w.heap.size ≤ k_)) _ _ l0 t134 t137 _ ?side1 A2.out).mono ?_); (case side1 => exact HO0.out); rintro e w21 ⟨v135, rfl, ho0, hb⟩; have n0_ := Aside0.mk (Kd.V_elder' (by (with_reducible repeat (first | apply Kd.V_alloc | apply Kd.V_drewN | apply Kd.V_drew)); exact HO0.out) (Kd.N_base ho0) hb); have n1_ := Aside0.mk (Kd.N_lower (Kd.N_mono (ok' := fun k_ => (P0_ k_ ∨ w.heap.size ≤ k_)) ho0 (fun k_ hk_ => Or.elim hk_ (fun hs_ => hs_) (fun hn_ => (.inr (Nat.le_trans (below_size (by repeat (first | (with_reducible first | exact HB.out | apply below_alloc | apply pw_below_drewN | apply below_drew1) | exact HB.out))) hn_))))) (below_size (by repeat (first | (with_reducible first | exact HB.out | apply below_alloc | apply pw_below_drewN | apply below_drew1) | exact HB.out)))); have n2_ := Aside0.mk (below_step (by repeat (first | (with_reducible first | exact HB.out | apply below_alloc | apply pw_below_drewN | apply below_drew1) | exact HB.out)) hb); clear HO0; clear HB; have HO0 := n0_; have HO136 := n1_; have HB := n2_; clear n0_ n1_ n2_; (try clear hb); (try clear hb2); (try clear hk); (try clear hi); (try clear ho0); obtain ⟨Ao22, co22, eo22⟩ := Kd.N_slice HO136.out; subst eo22; have p138 : 0 ≤ (1 : Int) := (by omega); have q138 : 1 < (t134.length : Int) := of_decide_eq_true (by first | (with_reducible assumption) | assumption); obtain ⟨ad138, A138_1, c138_1, e138, hx138_0, hx138_1, hx138_2, hl138_1, hi138_1⟩ := at_T34 (Kd.N_reads' HO136.out).2.2 1 p138 q138; cases e138; obtain ⟨ce138, hce138, hMe138, hcc138⟩ := Kd.N_get HO136.out z34 1 p138 (by first | exact q138 | exact of_decide_eq_true (by first | (with_reducible assumption) | assumption) | (have e_ := (Kd.N_reads' HO136.out).1; omega)); obtain ⟨ua138_1, uc138_1, rfl, ul138_1, ge138_1⟩ := k34_openF hMe138; have hv138_1 := hcc138 1 _ rfl; rw [add_field _ _ 1 (by omega)] at hv138_1; replace hv138_1 := Option.some.inj (hv138_1.symm.trans hx138_1); injection hv138_1 with hva_ hvn_ hvc_; rw [hva_] at ge138_1; rw [hvc_] at ul138_1; have HL138_1 := Aside0.mk (show Kd.V (Kd.int .u8) 5 _ w.heap.size _ _ ((rd_T34 t134 1).f1) from Kd.V_mk ul138_1 ge138_1); clear hva_ hvn_ hvc_ ge138_1 ul138_1; clear hcc138 hce138; (try simp only [show (1 : Int).toNat = 1 from rfl, Nat.reduceMul, Nat.reduceEqDiff, Go.Addr.add, ↓reduceIte] at hx138_0); (try simp only [show (1 : Int).toNat = 1 from rfl, Nat.reduceMul, Nat.reduceEqDiff, Go.Addr.add, ↓reduceIte] at hx138_1); (try simp only [show (1 : Int).toNat = 1 from rfl, Nat.reduceMul, Nat.reduceEqDiff, Go.Addr.add, ↓reduceIte] at hx138_2); have qi138 : (1 < t134.length) = True := eq_true (by omega); (try rw [show ((1 : Int)).toNat = 1 from rfl] at hx138_0); (try rw [show 1 * 3 = 3 from rfl] at hx138_0); (try rw [show ((1 : Int)).toNat = 1 from rfl] at hx138_1); (try rw [show 1 * 3 = 3 from rfl] at hx138_1); (try rw [show ((1 : Int)).toNat = 1 from rfl] at hx138_2); (try rw [show 1 * 3 = 3 from rfl] at hx138_2); have HR138_1 := Aside0.mk hi138_1; have HC138_1 := Aside0.mk hl138_1; clear hi138_1 hl138_1; replace p138 := eq_true p138; replace q138 := eq_true q138; have p139 : 0 ≤ (1 : Int) := (by omega); have q139 : 1 < (t134.length : Int) := of_decide_eq_true (by first | (with_reducible assumption) | assumption); obtain ⟨ad139, A139_1, c139_1, e139, hx139_0, hx139_1, hx139_2, hl139_1, hi139_1⟩ := at_T34 (Kd.N_reads' HO136.out).2.2 1 p139 q139; obtain rfl : ad138 = ad139 := (by injection e139); obtain ⟨ce139, hce139, hMe139, hcc139⟩ := Kd.N_get HO136.out z34 1 p139 (by first | exact q139 | exact of_decide_eq_true (by first | (with_reducible assumption) | assumption) | (have e_ := (Kd.N_reads' HO136.out).1; omega)); obtain ⟨ua139_1, uc139_1, rfl, ul139_1, ge139_1⟩ := k34_openF hMe139; have hv139_1 := hcc139 1 _ rfl; rw [add_field _ _ 1 (by omega)] at hv139_1; replace hv139_1 := Option.some.inj (hv139_1.symm.trans hx139_1); injection hv139_1 with hva_ hvn_ hvc_; rw [hva_] at ge139_1; rw [hvc_] at ul139_1; have HL139_1 := Aside0.mk (show Kd.V (Kd.int .u8) 5 _ w.heap.size _ _ ((rd_T34 t134 1).f1) from Kd.V_mk ul139_1 ge139_1); clear hva_ hvn_ hvc_ ge139_1 ul139_1; clear hcc139 hce139; (try simp only [show (1 : Int).toNat = 1 from rfl, Nat.reduceMul, Nat.reduceEqDiff, Go.Addr.add, ↓reduceIte] at hx139_0); (try simp only [show (1 : Int).toNat = 1 from rfl, Nat.reduceMul, Nat.reduceEqDiff, Go.Addr.add, ↓reduceIte] at hx139_1); (try simp only [show (1 : Int).toNat = 1 from rfl, Nat.reduceMul, Nat.reduceEqDiff, Go.Addr.add, ↓reduceIte] at hx139_2); have qi139 : (1 < t134.length) = True := eq_true (by omega); (try rw [show ((1 : Int)).toNat = 1 from rfl] at hx139_0); (try rw [show 1 * 3 = 3 from rfl] at hx139_0); (try rw [show ((1 : Int)).toNat = 1 from rfl] at hx139_1); (try rw [show 1 * 3 = 3 from rfl] at hx139_1); (try rw [show ((1 : Int)).toNat = 1 from rfl] at hx139_2); (try rw [show 1 * 3 = 3 from rfl] at hx139_2); have HR139_1 := Aside0.mk hi139_1; have HC139_1 := Aside0.mk hl139_1; clear hi139_1 hl139_1; replace p139 := eq_true p139; replace q139 := eq_true q139; have ea_ := Option.some.inj (hx138_1.symm.trans hx139_1); injection ea_ with ea_ en_ ec_; subst ea_; subst ec_; clear en_; have p140 : 0 ≤ (0 : Int) := (by omega); have q140 : 0 < (t134.length : Int) := of_decide_eq_true (by first | (with_reducible assumption) | assumption); obtain ⟨ad140, A140_1, c140_1, e140, hx140_0, hx140_1, hx140_2, hl140_1, hi140_1⟩ := at_T34 (Kd.N_reads' HO136.out).2.2 0 p140 q140; obtain rfl : ad138 = ad140 := (by injection e140); obtain ⟨ce140, hce140, hMe140, hcc140⟩ := Kd.N_get HO136.out z34 0 p140 (by first | exact q140 | exact of_decide_eq_true (by first | (with_reducible assumption) | assumption) | (have e_ := (Kd.N_reads' HO136.out).1; omega)); obtain ⟨ua140_1, uc140_1, rfl, ul140_1, ge140_1⟩ := k34_openF hMe140; have hv140_1 := hcc140 1 _ rfl; rw [add_field _ _ 1 (by omega)] at hv140_1; replace hv140_1 := Option.some.inj (hv140_1.symm.trans hx140_1); injection hv140_1 with hva_ hvn_ hvc_; rw [hva_] at ge140_1; rw [hvc_] at ul140_1; have HL140_1 := Aside0.mk (show Kd.V (Kd.int .u8) 5 _ w.heap.size _ _ ((rd_T34 t134 0).f1) from Kd.V_mk ul140_1 ge140_1); clear hva_ hvn_ hvc_ ge140_1 ul140_1; clear hcc140 hce140; have qi140 : (0 < t134.length) = True := eq_true (by omega); (try rw [show ((0 : Int)).toNat = 0 from rfl] at hx140_0); (try rw [show 0 * 3 = 0 from rfl] at hx140_0); (try rw [Addr.add_zero'] at hx140_0); (try rw [show ((0 : Int)).toNat = 0 from rfl] at hx140_1); (try rw [show 0 * 3 = 0 from rfl] at hx140_1); (try rw [Addr.add_zero'] at hx140_1); (try rw [show ((0 : Int)).toNat = 0 from rfl] at hx140_2); (try rw [show 0 * 3 = 0 from rfl] at hx140_2); (try rw [Addr.add_zero'] at hx140_2); have HR140_1 := Aside0.mk hi140_1; have HC140_1 := Aside0.mk hl140_1; clear hi140_1 hl140_1; replace p140 := eq_true p140; replace q140 := eq_true q140) | (go_at_call 12; (with_reducible refine (spec_Small.calls ((rd_T34 t134 0).f0) t141 t142 _ A20.out).mono ?_); rintro e w' ⟨rfl, ⟨nd, rfl⟩⟩; (try first | exact ⟨rfl, _, World.drewN_drewN _ _ _⟩ | exact ⟨rfl, _, Eq.trans (World.drewN_drewN _ _ _) (congrArg (World.drewN _) (Nat.add_assoc _ _ _))⟩); have p143 : 0 ≤ (1 : Int) := (by omega); have q143 : 1 < (t134.length : Int) := of_decide_eq_true (by first | (with_reducible assumption) | assumption); obtain ⟨ad143, A143_1, c143_1, e143, hx143_0, hx143_1, hx143_2, hl143_1, hi143_1⟩ := at_T34 (Kd.N_reads' HO136.out).2.2 1 p143 q143; obtain rfl : ad138 = ad143 := (by injection e143); obtain ⟨ce143, hce143, hMe143, hcc143⟩ := Kd.N_get HO136.out z34 1 p143 (by first | exact q143 | exact of_decide_eq_true (by first | (with_reducible assumption) | assumption) | (have e_ := (Kd.N_reads' HO136.out).1; omega)); obtain ⟨ua143_1, uc143_1, rfl, ul143_1, ge143_1⟩ := k34_openF hMe143; have hv143_1 := hcc143 1 _ rfl; rw [add_field _ _ 1 (by omega)] at hv143_1; replace hv143_1 := Option.some.inj (hv143_1.symm.trans hx143_1); injection hv143_1 with hva_ hvn_ hvc_; rw [hva_] at ge143_1; rw [hvc_] at ul143_1; have HL143_1 := Aside0.mk (show Kd.V (Kd.int .u8) 5 _ w.heap.size _ _ ((rd_T34 t134 1).f1) from Kd.V_mk ul143_1 ge143_1); clear hva_ hvn_ hvc_ ge143_1 ul143_1; clear hcc143 hce143; (try simp only [show (1 : Int).toNat = 1 from rfl, Nat.reduceMul, Nat.reduceEqDiff, Go.Addr.add, ↓reduceIte] at hx143_0); (try simp only [show (1 : Int).toNat = 1 from rfl, Nat.reduceMul, Nat.reduceEqDiff, Go.Addr.add, ↓reduceIte] at hx143_1); (try simp only [show (1 : Int).toNat = 1 from rfl, Nat.reduceMul, Nat.reduceEqDiff, Go.Addr.add, ↓reduceIte] at hx143_2); have qi143 : (1 < t134.length) = True := eq_true (by omega); (try rw [show ((1 : Int)).toNat = 1 from rfl] at hx143_0); (try rw [show 1 * 3 = 3 from rfl] at hx143_0); (try rw [show ((1 : Int)).toNat = 1 from rfl] at hx143_1); (try rw [show 1 * 3 = 3 from rfl] at hx143_1); (try rw [show ((1 : Int)).toNat = 1 from rfl] at hx143_2); (try rw [show 1 * 3 = 3 from rfl] at hx143_2); have HR143_1 := Aside0.mk hi143_1; have HC143_1 := Aside0.mk hl143_1; clear hi143_1 hl143_1; replace p143 := eq_true p143; replace q143 := eq_true q143; have ea_ := Option.some.inj (hx138_1.symm.trans hx143_1); injection ea_ with ea_ en_ ec_; subst ea_; subst ec_; clear en_))
                  repeat (go_quiet (first | (go_at_call 11; (with_reducible refine (spec_Tokens.calls k (fun k_ => (P0_ k_ ∨ w.heap.size ≤ k_)) _ _ l0 t134 t137 _ ?side1 A2.out).mono ?_); (case side1 => exact HO0.out); rintro e w21 ⟨v135, rfl, ho0, hb⟩; have n0_ := Aside0.mk (Kd.V_elder' (by (with_reducible repeat (first | apply Kd.V_alloc | apply Kd.V_drewN | apply Kd.V_drew)); exact HO0.out) (Kd.N_base ho0) hb); have n1_ := Aside0.mk (Kd.N_lower (Kd.N_mono (ok' := fun k_ => (P0_ k_ ∨ w.heap.size ≤ k_)) ho0 (fun k_ hk_ => Or.elim hk_ (fun hs_ => hs_) (fun hn_ => (.inr (Nat.le_trans (below_size (by repeat (first | (with_reducible first | exact HB.out | apply below_alloc | apply pw_below_drewN | apply below_drew1) | exact HB.out))) hn_))))) (below_size (by repeat (first | (with_reducible first | exact HB.out | apply below_alloc | apply pw_below_drewN | apply below_drew1) | exact HB.out)))); have n2_ := Aside0.mk (below_step (by repeat (first | (with_reducible first | exact HB.out | apply below_alloc | apply pw_below_drewN | apply below_drew1) | exact HB.out)) hb); clear HO0; clear HB; have HO0 := n0_; have HO136 := n1_; have HB := n2_; clear n0_ n1_ n2_; (try clear hb); (try clear hb2); (try clear hk); (try clear hi); (try clear ho0); obtain ⟨Ao22, co22, eo22⟩ := Kd.N_slice HO136.out; subst eo22; have p138 : 0 ≤ (1 : Int) := (by omega); have q138 : 1 < (t134.length : Int) := of_decide_eq_true (by first | (with_reducible assumption) | assumption); obtain ⟨ad138, A138_1, c138_1, e138, hx138_0, hx138_1, hx138_2, hl138_1, hi138_1⟩ := at_T34 (Kd.N_reads' HO136.out).2.2 1 p138 q138; cases e138; obtain ⟨ce138, hce138, hMe138, hcc138⟩ := Kd.N_get HO136.out z34 1 p138 (by first | exact q138 | exact of_decide_eq_true (by first | (with_reducible assumption) | assumption) | (have e_ := (Kd.N_reads' HO136.out).1; omega)); obtain ⟨ua138_1, uc138_1, rfl, ul138_1, ge138_1⟩ := k34_openF hMe138; have hv138_1 := hcc138 1 _ rfl; rw [add_field _ _ 1 (by omega)] at hv138_1; replace hv138_1 := Option.some.inj (hv138_1.symm.trans hx138_1); injection hv138_1 with hva_ hvn_ hvc_; rw [hva_] at ge138_1; rw [hvc_] at ul138_1; have HL138_1 := Aside0.mk (show Kd.V (Kd.int .u8) 5 _ w.heap.size _ _ ((rd_T34 t134 1).f1) from Kd.V_mk ul138_1 ge138_1); clear hva_ hvn_ hvc_ ge138_1 ul138_1; clear hcc138 hce138; (try simp only [show (1 : Int).toNat = 1 from rfl, Nat.reduceMul, Nat.reduceEqDiff, Go.Addr.add, ↓reduceIte] at hx138_0); (try simp only [show (1 : Int).toNat = 1 from rfl, Nat.reduceMul, Nat.reduceEqDiff, Go.Addr.add, ↓reduceIte] at hx138_1); (try simp only [show (1 : Int).toNat = 1 from rfl, Nat.reduceMul, Nat.reduceEqDiff, Go.Addr.add, ↓reduceIte] at hx138_2); have qi138 : (1 < t134.length) = True := eq_true (by omega); (try rw [show ((1 : Int)).toNat = 1 from rfl] at hx138_0); (try rw [show 1 * 3 = 3 from rfl] at hx138_0); (try rw [show ((1 : Int)).toNat = 1 from rfl] at hx138_1); (try rw [show 1 * 3 = 3 from rfl] at hx138_1); (try rw [show ((1 : Int)).toNat = 1 from rfl] at hx138_2); (try rw [show 1 * 3 = 3 from rfl] at hx138_2); have HR138_1 := Aside0.mk hi138_1; have HC138_1 := Aside0.mk hl138_1; clear hi138_1 hl138_1; replace p138 := eq_true p138; replace q138 := eq_true q138; have p139 : 0 ≤ (1 : Int) := (by omega); have q139 : 1 < (t134.length : Int) := of_decide_eq_true (by first | (with_reducible assumption) | assumption); obtain ⟨ad139, A139_1, c139_1, e139, hx139_0, hx139_1, hx139_2, hl139_1, hi139_1⟩ := at_T34 (Kd.N_reads' HO136.out).2.2 1 p139 q139; obtain rfl : ad138 = ad139 := (by injection e139); obtain ⟨ce139, hce139, hMe139, hcc139⟩ := Kd.N_get HO136.out z34 1 p139 (by first | exact q139 | exact of_decide_eq_true (by first | (with_reducible assumption) | assumption) | (have e_ := (Kd.N_reads' HO136.out).1; omega)); obtain ⟨ua139_1, uc139_1, rfl, ul139_1, ge139_1⟩ := k34_openF hMe139; have hv139_1 := hcc139 1 _ rfl; rw [add_field _ _ 1 (by omega)] at hv139_1; replace hv139_1 := Option.some.inj (hv139_1.symm.trans hx139_1); injection hv139_1 with hva_ hvn_ hvc_; rw [hva_] at ge139_1; rw [hvc_] at ul139_1; have HL139_1 := Aside0.mk (show Kd.V (Kd.int .u8) 5 _ w.heap.size _ _ ((rd_T34 t134 1).f1) from Kd.V_mk ul139_1 ge139_1); clear hva_ hvn_ hvc_ ge139_1 ul139_1; clear hcc139 hce139; (try simp only [show (1 : Int).toNat = 1 from rfl, Nat.reduceMul, Nat.reduceEqDiff, Go.Addr.add, ↓reduceIte] at hx139_0); (try simp only [show (1 : Int).toNat = 1 from rfl, Nat.reduceMul, Nat.reduceEqDiff, Go.Addr.add, ↓reduceIte] at hx139_1); (try simp only [show (1 : Int).toNat = 1 from rfl, Nat.reduceMul, Nat.reduceEqDiff, Go.Addr.add, ↓reduceIte] at hx139_2); have qi139 : (1 < t134.length) = True := eq_true (by omega); (try rw [show ((1 : Int)).toNat = 1 from rfl] at hx139_0); (try rw [show 1 * 3 = 3 from rfl] at hx139_0); (try rw [show ((1 : Int)).toNat = 1 from rfl] at hx139_1); (try rw [show 1 * 3 = 3 from rfl] at hx139_1); (try rw [show ((1 : Int)).toNat = 1 from rfl] at hx139_2); (try rw [show 1 * 3 = 3 from rfl] at hx139_2); have HR139_1 := Aside0.mk hi139_1; have HC139_1 := Aside0.mk hl139_1; clear hi139_1 hl139_1; replace p139 := eq_true p139; replace q139 := eq_true q139; have ea_ := Option.some.inj (hx138_1.symm.trans hx139_1); injection ea_ with ea_ en_ ec_; subst ea_; subst ec_; clear en_; have p140 : 0 ≤ (0 : Int) := (by omega); have q140 : 0 < (t134.length : Int) := of_decide_eq_true (by first | (with_reducible assumption) | assumption); obtain ⟨ad140, A140_1, c140_1, e140, hx140_0, hx140_1, hx140_2, hl140_1, hi140_1⟩ := at_T34 (Kd.N_reads' HO136.out).2.2 0 p140 q140; obtain rfl : ad138 = ad140 := (by injection e140); obtain ⟨ce140, hce140, hMe140, hcc140⟩ := Kd.N_get HO136.out z34 0 p140 (by first | exact q140 | exact of_decide_eq_true (by first | (with_reducible assumption) | assumption) | (have e_ := (Kd.N_reads' HO136.out).1; omega)); obtain ⟨ua140_1, uc140_1, rfl, ul140_1, ge140_1⟩ := k34_openF hMe140; have hv140_1 := hcc140 1 _ rfl; rw [add_field _ _ 1 (by omega)] at hv140_1; replace hv140_1 := Option.some.inj (hv140_1.symm.trans hx140_1); injection hv140_1 with hva_ hvn_ hvc_; rw [hva_] at ge140_1; rw [hvc_] at ul140_1; have HL140_1 := Aside0.mk (show Kd.V (Kd.int .u8) 5 _ w.heap.size _ _ ((rd_T34 t134 0).f1) from Kd.V_mk ul140_1 ge140_1); clear hva_ hvn_ hvc_ ge140_1 ul140_1; clear hcc140 hce140; have qi140 : (0 < t134.length) = True := eq_true (by omega); (try rw [show ((0 : Int)).toNat = 0 from rfl] at hx140_0); (try rw [show 0 * 3 = 0 from rfl] at hx140_0); (try rw [Addr.add_zero'] at hx140_0); (try rw [show ((0 : Int)).toNat = 0 from rfl] at hx140_1); (try rw [show 0 * 3 = 0 from rfl] at hx140_1); (try rw [Addr.add_zero'] at hx140_1); (try rw [show ((0 : Int)).toNat = 0 from rfl] at hx140_2); (try rw [show 0 * 3 = 0 from rfl] at hx140_2); (try rw [Addr.add_zero'] at hx140_2); have HR140_1 := Aside0.mk hi140_1; have HC140_1 := Aside0.mk hl140_1; clear hi140_1 hl140_1; replace p140 := eq_true p140; replace q140 := eq_true q140) | (go_at_call 12; (with_reducible refine (spec_Small.calls ((rd_T34 t134 0).f0) t141 t142 _ A20.out).mono ?_); rintro e w' ⟨rfl, ⟨nd, rfl⟩⟩; (try first | exact ⟨rfl, _, World.drewN_drewN _ _ _⟩ | exact ⟨rfl, _, Eq.trans (World.drewN_drewN _ _ _) (congrArg (World.drewN _) (Nat.add_assoc _ _ _))⟩); have p143 : 0 ≤ (1 : Int) := (by omega); have q143 : 1 < (t134.length : Int) := of_decide_eq_true (by first | (with_reducible assumption) | assumption); obtain ⟨ad143, A143_1, c143_1, e143, hx143_0, hx143_1, hx143_2, hl143_1, hi143_1⟩ := at_T34 (Kd.N_reads' HO136.out).2.2 1 p143 q143; obtain rfl : ad138 = ad143 := (by injection e143); obtain ⟨ce143, hce143, hMe143, hcc143⟩ := Kd.N_get HO136.out z34 1 p143 (by first | exact q143 | exact of_decide_eq_true (by first | (with_reducible assumption) | assumption) | (have e_ := (Kd.N_reads' HO136.out).1; omega)); obtain ⟨ua143_1, uc143_1, rfl, ul143_1, ge143_1⟩ := k34_openF hMe143; have hv143_1 := hcc143 1 _ rfl; rw [add_field _ _ 1 (by omega)] at hv143_1; replace hv143_1 := Option.some.inj (hv143_1.symm.trans hx143_1); injection hv143_1 with hva_ hvn_ hvc_; rw [hva_] at ge143_1; rw [hvc_] at ul143_1; have HL143_1 := Aside0.mk (show Kd.V (Kd.int .u8) 5 _ w.heap.size _ _ ((rd_T34 t134 1).f1) from Kd.V_mk ul143_1 ge143_1); clear hva_ hvn_ hvc_ ge143_1 ul143_1; clear hcc143 hce143; (try simp only [show (1 : Int).toNat = 1 from rfl, Nat.reduceMul, Nat.reduceEqDiff, Go.Addr.add, ↓reduceIte] at hx143_0); (try simp only [show (1 : Int).toNat = 1 from rfl, Nat.reduceMul, Nat.reduceEqDiff, Go.Addr.add, ↓reduceIte] at hx143_1); (try simp only [show (1 : Int).toNat = 1 from rfl, Nat.reduceMul, Nat.reduceEqDiff, Go.Addr.add, ↓reduceIte] at hx143_2); have qi143 : (1 < t134.length) = True := eq_true (by omega); (try rw [show ((1 : Int)).toNat = 1 from rfl] at hx143_0); (try rw [show 1 * 3 = 3 from rfl] at hx143_0); (try rw [show ((1 : Int)).toNat = 1 from rfl] at hx143_1); (try rw [show 1 * 3 = 3 from rfl] at hx143_1); (try rw [show ((1 : Int)).toNat = 1 from rfl] at hx143_2); (try rw [show 1 * 3 = 3 from rfl] at hx143_2); have HR143_1 := Aside0.mk hi143_1; have HC143_1 := Aside0.mk hl143_1; clear hi143_1 hl143_1; replace p143 := eq_true p143; replace q143 := eq_true q143; have ea_ := Option.some.inj (hx138_1.symm.trans hx143_1); injection ea_ with ea_ en_ ec_; subst ea_; subst ec_; clear en_)); try go_wp2_with (first | (go_at_call 11; (with_reducible refine (spec_Tokens.calls k (fun k_ => (P0_ k_ ∨ w.heap.size ≤ k_)) _ _ l0 t134 t137 _ ?side1 A2.out).mono ?_); (case side1 => exact HO0.out); rintro e w21 ⟨v135, rfl, ho0, hb⟩; have n0_ := Aside0.mk (Kd.V_elder' (by (with_reducible repeat (first | apply Kd.V_alloc | apply Kd.V_drewN | apply Kd.V_drew)); exact HO0.out) (Kd.N_base ho0) hb); have n1_ := Aside0.mk (Kd.N_lower (Kd.N_mono (ok' := fun k_ => (P0_ k_ ∨ w.heap.size ≤ k_)) ho0 (fun k_ hk_ => Or.elim hk_ (fun hs_ => hs_) (fun hn_ => (.inr (Nat.le_trans (below_size (by repeat (first | (with_reducible first | exact HB.out | apply below_alloc | apply pw_below_drewN | apply below_drew1) | exact HB.out))) hn_))))) (below_size (by repeat (first | (with_reducible first | exact HB.out | apply below_alloc | apply pw_below_drewN | apply below_drew1) | exact HB.out)))); have n2_ := Aside0.mk (below_step (by repeat (first | (with_reducible first | exact HB.out | apply below_alloc | apply pw_below_drewN | apply below_drew1) | exact HB.out)) hb); clear HO0; clear HB; have HO0 := n0_; have HO136 := n1_; have HB := n2_; clear n0_ n1_ n2_; (try clear hb); (try clear hb2); (try clear hk); (try clear hi); (try clear ho0); obtain ⟨Ao22, co22, eo22⟩ := Kd.N_slice HO136.out; subst eo22; have p138 : 0 ≤ (1 : Int) := (by omega); have q138 : 1 < (t134.length : Int) := of_decide_eq_true (by first | (with_reducible assumption) | assumption); obtain ⟨ad138, A138_1, c138_1, e138, hx138_0, hx138_1, hx138_2, hl138_1, hi138_1⟩ := at_T34 (Kd.N_reads' HO136.out).2.2 1 p138 q138; cases e138; obtain ⟨ce138, hce138, hMe138, hcc138⟩ := Kd.N_get HO136.out z34 1 p138 (by first | exact q138 | exact of_decide_eq_true (by first | (with_reducible assumption) | assumption) | (have e_ := (Kd.N_reads' HO136.out).1; omega)); obtain ⟨ua138_1, uc138_1, rfl, ul138_1, ge138_1⟩ := k34_openF hMe138; have hv138_1 := hcc138 1 _ rfl; rw [add_field _ _ 1 (by omega)] at hv138_1; replace hv138_1 := Option.some.inj (hv138_1.symm.trans hx138_1); injection hv138_1 with hva_ hvn_ hvc_; rw [hva_] at ge138_1; rw [hvc_] at ul138_1; have HL138_1 := Aside0.mk (show Kd.V (Kd.int .u8) 5 _ w.heap.size _ _ ((rd_T34 t134 1).f1) from Kd.V_mk ul138_1 ge138_1); clear hva_ hvn_ hvc_ ge138_1 ul138_1; clear hcc138 hce138; (try simp only [show (1 : Int).toNat = 1 from rfl, Nat.reduceMul, Nat.reduceEqDiff, Go.Addr.add, ↓reduceIte] at hx138_0); (try simp only [show (1 : Int).toNat = 1 from rfl, Nat.reduceMul, Nat.reduceEqDiff, Go.Addr.add, ↓reduceIte] at hx138_1); (try simp only [show (1 : Int).toNat = 1 from rfl, Nat.reduceMul, Nat.reduceEqDiff, Go.Addr.add, ↓reduceIte] at hx138_2); have qi138 : (1 < t134.length) = True := eq_true (by omega); (try rw [show ((1 : Int)).toNat = 1 from rfl] at hx138_0); (try rw [show 1 * 3 = 3 from rfl] at hx138_0); (try rw [show ((1 : Int)).toNat = 1 from rfl] at hx138_1); (try rw [show 1 * 3 = 3 from rfl] at hx138_1); (try rw [show ((1 : Int)).toNat = 1 from rfl] at hx138_2); (try rw [show 1 * 3 = 3 from rfl] at hx138_2); have HR138_1 := Aside0.mk hi138_1; have HC138_1 := Aside0.mk hl138_1; clear hi138_1 hl138_1; replace p138 := eq_true p138; replace q138 := eq_true q138; have p139 : 0 ≤ (1 : Int) := (by omega); have q139 : 1 < (t134.length : Int) := of_decide_eq_true (by first | (with_reducible assumption) | assumption); obtain ⟨ad139, A139_1, c139_1, e139, hx139_0, hx139_1, hx139_2, hl139_1, hi139_1⟩ := at_T34 (Kd.N_reads' HO136.out).2.2 1 p139 q139; obtain rfl : ad138 = ad139 := (by injection e139); obtain ⟨ce139, hce139, hMe139, hcc139⟩ := Kd.N_get HO136.out z34 1 p139 (by first | exact q139 | exact of_decide_eq_true (by first | (with_reducible assumption) | assumption) | (have e_ := (Kd.N_reads' HO136.out).1; omega)); obtain ⟨ua139_1, uc139_1, rfl, ul139_1, ge139_1⟩ := k34_openF hMe139; have hv139_1 := hcc139 1 _ rfl; rw [add_field _ _ 1 (by omega)] at hv139_1; replace hv139_1 := Option.some.inj (hv139_1.symm.trans hx139_1); injection hv139_1 with hva_ hvn_ hvc_; rw [hva_] at ge139_1; rw [hvc_] at ul139_1; have HL139_1 := Aside0.mk (show Kd.V (Kd.int .u8) 5 _ w.heap.size _ _ ((rd_T34 t134 1).f1) from Kd.V_mk ul139_1 ge139_1); clear hva_ hvn_ hvc_ ge139_1 ul139_1; clear hcc139 hce139; (try simp only [show (1 : Int).toNat = 1 from rfl, Nat.reduceMul, Nat.reduceEqDiff, Go.Addr.add, ↓reduceIte] at hx139_0); (try simp only [show (1 : Int).toNat = 1 from rfl, Nat.reduceMul, Nat.reduceEqDiff, Go.Addr.add, ↓reduceIte] at hx139_1); (try simp only [show (1 : Int).toNat = 1 from rfl, Nat.reduceMul, Nat.reduceEqDiff, Go.Addr.add, ↓reduceIte] at hx139_2); have qi139 : (1 < t134.length) = True := eq_true (by omega); (try rw [show ((1 : Int)).toNat = 1 from rfl] at hx139_0); (try rw [show 1 * 3 = 3 from rfl] at hx139_0); (try rw [show ((1 : Int)).toNat = 1 from rfl] at hx139_1); (try rw [show 1 * 3 = 3 from rfl] at hx139_1); (try rw [show ((1 : Int)).toNat = 1 from rfl] at hx139_2); (try rw [show 1 * 3 = 3 from rfl] at hx139_2); have HR139_1 := Aside0.mk hi139_1; have HC139_1 := Aside0.mk hl139_1; clear hi139_1 hl139_1; replace p139 := eq_true p139; replace q139 := eq_true q139; have ea_ := Option.some.inj (hx138_1.symm.trans hx139_1); injection ea_ with ea_ en_ ec_; subst ea_; subst ec_; clear en_; have p140 : 0 ≤ (0 : Int) := (by omega); have q140 : 0 < (t134.length : Int) := of_decide_eq_true (by first | (with_reducible assumption) | assumption); obtain ⟨ad140, A140_1, c140_1, e140, hx140_0, hx140_1, hx140_2, hl140_1, hi140_1⟩ := at_T34 (Kd.N_reads' HO136.out).2.2 0 p140 q140; obtain rfl : ad138 = ad140 := (by injection e140); obtain ⟨ce140, hce140, hMe140, hcc140⟩ := Kd.N_get HO136.out z34 0 p140 (by first | exact q140 | exact of_decide_eq_true (by first | (with_reducible assumption) | assumption) | (have e_ := (Kd.N_reads' HO136.out).1; omega)); obtain ⟨ua140_1, uc140_1, rfl, ul140_1, ge140_1⟩ := k34_openF hMe140; have hv140_1 := hcc140 1 _ rfl; rw [add_field _ _ 1 (by omega)] at hv140_1; replace hv140_1 := Option.some.inj (hv140_1.symm.trans hx140_1); injection hv140_1 with hva_ hvn_ hvc_; rw [hva_] at ge140_1; rw [hvc_] at ul140_1; have HL140_1 := Aside0.mk (show Kd.V (Kd.int .u8) 5 _ w.heap.size _ _ ((rd_T34 t134 0).f1) from Kd.V_mk ul140_1 ge140_1); clear hva_ hvn_ hvc_ ge140_1 ul140_1; clear hcc140 hce140; have qi140 : (0 < t134.length) = True := eq_true (by omega); (try rw [show ((0 : Int)).toNat = 0 from rfl] at hx140_0); (try rw [show 0 * 3 = 0 from rfl] at hx140_0); (try rw [Addr.add_zero'] at hx140_0); (try rw [show ((0 : Int)).toNat = 0 from rfl] at hx140_1); (try rw [show 0 * 3 = 0 from rfl] at hx140_1); (try rw [Addr.add_zero'] at hx140_1); (try rw [show ((0 : Int)).toNat = 0 from rfl] at hx140_2); (try rw [show 0 * 3 = 0 from rfl] at hx140_2); (try rw [Addr.add_zero'] at hx140_2); have HR140_1 := Aside0.mk hi140_1; have HC140_1 := Aside0.mk hl140_1; clear hi140_1 hl140_1; replace p140 := eq_true p140; replace q140 := eq_true q140) | (go_at_call 12; (with_reducible refine (spec_Small.calls ((rd_T34 t134 0).f0) t141 t142 _ A20.out).mono ?_); rintro e w' ⟨rfl, ⟨nd, rfl⟩⟩; (try first | exact ⟨rfl, _, World.drewN_drewN _ _ _⟩ | exact ⟨rfl, _, Eq.trans (World.drewN_drewN _ _ _) (congrArg (World.drewN _) (Nat.add_assoc _ _ _))⟩); have p143 : 0 ≤ (1 : Int) := (by omega); have q143 : 1 < (t134.length : Int) := of_decide_eq_true (by first | (with_reducible assumption) | assumption); obtain ⟨ad143, A143_1, c143_1, e143, hx143_0, hx143_1, hx143_2, hl143_1, hi143_1⟩ := at_T34 (Kd.N_reads' HO136.out).2.2 1 p143 q143; obtain rfl : ad138 = ad143 := (by injection e143); obtain ⟨ce143, hce143, hMe143, hcc143⟩ := Kd.N_get HO136.out z34 1 p143 (by first | exact q143 | exact of_decide_eq_true (by first | (with_reducible assumption) | assumption) | (have e_ := (Kd.N_reads' HO136.out).1; omega)); obtain ⟨ua143_1, uc143_1, rfl, ul143_1, ge143_1⟩ := k34_openF hMe143; have hv143_1 := hcc143 1 _ rfl; rw [add_field _ _ 1 (by omega)] at hv143_1; replace hv143_1 := Option.some.inj (hv143_1.symm.trans hx143_1); injection hv143_1 with hva_ hvn_ hvc_; rw [hva_] at ge143_1; rw [hvc_] at ul143_1; have HL143_1 := Aside0.mk (show Kd.V (Kd.int .u8) 5 _ w.heap.size _ _ ((rd_T34 t134 1).f1) from Kd.V_mk ul143_1 ge143_1); clear hva_ hvn_ hvc_ ge143_1 ul143_1; clear hcc143 hce143; (try simp only [show (1 : Int).toNat = 1 from rfl, Nat.reduceMul, Nat.reduceEqDiff, Go.Addr.add, ↓reduceIte] at hx143_0); (try simp only [show (1 : Int).toNat = 1 from rfl, Nat.reduceMul, Nat.reduceEqDiff, Go.Addr.add, ↓reduceIte] at hx143_1); (try simp only [show (1 : Int).toNat = 1 from rfl, Nat.reduceMul, Nat.reduceEqDiff, Go.Addr.add, ↓reduceIte] at hx143_2); have qi143 : (1 < t134.length) = True := eq_true (by omega); (try rw [show ((1 : Int)).toNat = 1 from rfl] at hx143_0); (try rw [show 1 * 3 = 3 from rfl] at hx143_0); (try rw [show ((1 : Int)).toNat = 1 from rfl] at hx143_1); (try rw [show 1 * 3 = 3 from rfl] at hx143_1); (try rw [show ((1 : Int)).toNat = 1 from rfl] at hx143_2); (try rw [show 1 * 3 = 3 from rfl] at hx143_2); have HR143_1 := Aside0.mk hi143_1; have HC143_1 := Aside0.mk hl143_1; clear hi143_1 hl143_1; replace p143 := eq_true p143; replace q143 := eq_true q143; have ea_ := Option.some.inj (hx138_1.symm.trans hx143_1); injection ea_ with ea_ en_ ec_; subst ea_; subst ec_; clear en_)))
                  go_ret3
                  exact ⟨_, by first | rfl | (simp [errW_none, errW_some] <;> rfl) | (simp [*, errW_none, errW_some] <;> rfl), by (with_reducible repeat (first | apply Kd.V_alloc | apply Kd.V_drewN | apply Kd.V_drew)); exact Kd.V_mono HL143_1.out (fun _ hk => hk.1), by repeat (first | (with_reducible first | exact HB.out | apply below_alloc | apply pw_below_drewN | apply below_drew1) | exact HB.out)⟩
                · rw [if_neg c19] at H
                  exact absurd H (by simp)
          · rw [if_neg c12] at H
            exact absurd H (by simp)
    · rw [if_neg c5] at H
      have c5b0 : ((t134.length : Int) == 2) = false := beq_eq_false_iff_ne.mpr c5
      have c5b1 : ((t134.length : Int) != 2) = true := bne_iff_ne.mpr c5
      simp only [Option.some.injEq, Prod.mk.injEq] at H
      obtain ⟨rfl, rfl, rfl⟩ := H
      go_enter Try.func5, Try.ntmps5
      go_wp2_with (first | (go_at_call 11; (with_reducible refine (spec_Tokens.calls k (fun k_ => (P0_ k_ ∨ w.heap.size ≤ k_)) _ _ l0 t134 t137 _ ?side1 A2.out).mono ?_); (case side1 => exact HO0.out); rintro e w23 ⟨v135, rfl, ho0, hb⟩; have n0_ := Aside0.mk (Kd.V_elder' (by (with_reducible repeat (first | apply Kd.V_alloc | apply Kd.V_drewN | apply Kd.V_drew)); exact HO0.out) (Kd.N_base ho0) hb); have n1_ := Aside0.mk (Kd.N_lower (Kd.N_mono (ok' := fun k_ => (P0_ k_ ∨ w.heap.size ≤ k_)) ho0 (fun k_ hk_ => Or.elim hk_ (fun hs_ => hs_) (fun hn_ => (.inr (Nat.le_trans (below_size (by repeat (first | (with_reducible first | exact HB.out | apply below_alloc | apply pw_below_drewN | apply below_drew1) | exact HB.out))) hn_))))) (below_size (by repeat (first | (with_reducible first | exact HB.out | apply below_alloc | apply pw_below_drewN | apply below_drew1) | exact HB.out)))); have n2_ := Aside0.mk (below_step (by repeat (first | (with_reducible first | exact HB.out | apply below_alloc | apply pw_below_drewN | apply below_drew1) | exact HB.out)) hb); clear HO0; clear HB; have HO0 := n0_; have HO136 := n1_; have HB := n2_; clear n0_ n1_ n2_; (try clear hb); (try clear hb2); (try clear hk); (try clear hi); (try clear ho0); obtain ⟨Ao24, co24, eo24⟩ := Kd.N_slice HO136.out; subst eo24))
      repeat (go_quiet (first | (go_at_call 11; (with_reducible refine (spec_Tokens.calls k (fun k_ => (P0_ k_ ∨ w.heap.size ≤ k_)) _ _ l0 t134 t137 _ ?side1 A2.out).mono ?_); (case side1 => exact HO0.out); rintro e w23 ⟨v135, rfl, ho0, hb⟩; have n0_ := Aside0.mk (Kd.V_elder' (by (with_reducible repeat (first | apply Kd.V_alloc | apply Kd.V_drewN | apply Kd.V_drew)); exact HO0.out) (Kd.N_base ho0) hb); have n1_ := Aside0.mk (Kd.N_lower (Kd.N_mono (ok' := fun k_ => (P0_ k_ ∨ w.heap.size ≤ k_)) ho0 (fun k_ hk_ => Or.elim hk_ (fun hs_ => hs_) (fun hn_ => (.inr (Nat.le_trans (below_size (by repeat (first | (with_reducible first | exact HB.out | apply below_alloc | apply pw_below_drewN | apply below_drew1) | exact HB.out))) hn_))))) (below_size (by repeat (first | (with_reducible first | exact HB.out | apply below_alloc | apply pw_below_drewN | apply below_drew1) | exact HB.out)))); have n2_ := Aside0.mk (below_step (by repeat (first | (with_reducible first | exact HB.out | apply below_alloc | apply pw_below_drewN | apply below_drew1) | exact HB.out)) hb); clear HO0; clear HB; have HO0 := n0_; have HO136 := n1_; have HB := n2_; clear n0_ n1_ n2_; (try clear hb); (try clear hb2); (try clear hk); (try clear hi); (try clear ho0); obtain ⟨Ao24, co24, eo24⟩ := Kd.N_slice HO136.out; subst eo24)); try go_wp2_with (first | (go_at_call 11; (with_reducible refine (spec_Tokens.calls k (fun k_ => (P0_ k_ ∨ w.heap.size ≤ k_)) _ _ l0 t134 t137 _ ?side1 A2.out).mono ?_); (case side1 => exact HO0.out); rintro e w23 ⟨v135, rfl, ho0, hb⟩; have n0_ := Aside0.mk (Kd.V_elder' (by (with_reducible repeat (first | apply Kd.V_alloc | apply Kd.V_drewN | apply Kd.V_drew)); exact HO0.out) (Kd.N_base ho0) hb); have n1_ := Aside0.mk (Kd.N_lower (Kd.N_mono (ok' := fun k_ => (P0_ k_ ∨ w.heap.size ≤ k_)) ho0 (fun k_ hk_ => Or.elim hk_ (fun hs_ => hs_) (fun hn_ => (.inr (Nat.le_trans (below_size (by repeat (first | (with_reducible first | exact HB.out | apply below_alloc | apply pw_below_drewN | apply below_drew1) | exact HB.out))) hn_))))) (below_size (by repeat (first | (with_reducible first | exact HB.out | apply below_alloc | apply pw_below_drewN | apply below_drew1) | exact HB.out)))); have n2_ := Aside0.mk (below_step (by repeat (first | (with_reducible first | exact HB.out | apply below_alloc | apply pw_below_drewN | apply below_drew1) | exact HB.out)) hb); clear HO0; clear HB; have HO0 := n0_; have HO136 := n1_; have HB := n2_; clear n0_ n1_ n2_; (try clear hb); (try clear hb2); (try clear hk); (try clear hi); (try clear ho0); obtain ⟨Ao24, co24, eo24⟩ := Kd.N_slice HO136.out; subst eo24)))
      go_ret3
      exact ⟨_, by first | rfl | (simp [errW_none, errW_some] <;> rfl) | (simp [*, errW_none, errW_some] <;> rfl), Kd.V_nil _ _ _ _ _, by repeat (first | (with_reducible first | exact HB.out | apply below_alloc | apply pw_below_drewN | apply below_drew1) | exact HB.out)⟩

/-! ### btcdtxscript_scriptError: function 41 -/
def btcdtxscript_scriptError.f (a0 : Int) (a1 : ByteArray) : Option (Int × ByteArray) := some (a0, a1)
set_option maxHeartbeats 8000000 in
set_option maxRecDepth 100000 in
theorem btcdtxscript_scriptError.calls (a0 : Int) (a1 : ByteArray) (r1 : Int) (r2 : ByteArray) (w : World) (h : btcdtxscript_scriptError.f a0 a1 = some (r1, r2)) :
    Calls Try.prog 41 #[.int .i64 a0, .string a1] w fun e w' => e = .returned (.agg #[.int .i64 r1, .string r2]) ∧ Below w.heap.size w w' := by
  have hu51 := Try.underlying51
  have HB := Aside0.mk (Below.refl w.heap.size w)
  have H : (some (a0, a1)) = some (r1, r2) := h
  clear h
  simp only [Option.some.injEq, Prod.mk.injEq] at H
  obtain ⟨rfl, rfl⟩ := H
  go_enter Try.func41, Try.ntmps41
  go_wp2_with (first | ((with_reducible refine gate_dst (N := 4) rfl ?_); refine box_event ?hg (N := 4) ?hd (cs := #[.int .i64 0, .string (⟨#[]⟩ : ByteArray)]) (t := 51) ?hr ?_; (case hd => rfl); (case hg => rfl); (case hr => first | (go_simp; done) | (go_simp; rfl)); intro gb144 hg w3 hbox hb; have n0_ := Aside0.mk (below_step (by repeat (first | (with_reducible first | exact HB.out | apply below_alloc | apply pw_below_drewN | apply below_drew1) | exact HB.out)) hb); have n1_ := Aside0.mk (hbox); have n2_ := Aside0.mk ((by rw [hg]; exact (below_size (by repeat (first | (with_reducible first | exact HB.out | apply below_alloc | apply pw_below_drewN | apply below_drew1) | exact HB.out))) : w.heap.size ≤ gb144)); have n3_ := Aside0.mk ((by rw [hg]; exact (below_size (by repeat (first | (with_reducible first | exact HB.out | apply below_alloc | apply pw_below_drewN | apply below_drew1) | exact HB.out))) : w.heap.size ≤ gb144)); clear HB; have HB := n0_; have BK144 := n1_; have GW144 := n2_; have GE144 := n3_; clear n0_ n1_ n2_ n3_; clear hb hbox hg; have hcz4_0 : w3.cell? ⟨gb144, 0, none⟩ = some (.int .i64 0) := (blk_cell BK144.out 0).trans rfl; have hcz4_1 : w3.cell? ⟨gb144, 1, none⟩ = some (.string (⟨#[]⟩ : ByteArray)) := (blk_cell BK144.out 1).trans rfl; have hfz4_0 := blk_frozen BK144.out 0; have hfz4_1 := blk_frozen BK144.out 1))
  refine bodyPost_ret (results_cell_row rfl _ _ gb144 51 #[.int .i64 a0, .string a1] (0, 0) _ rfl (by (with_reducible repeat (first | refine blk_drewN ?_ _ | refine blk_drew ?_ | refine blk_alloc ?_ _)); refine blk_put (cs := #[.int .i64 a0, .string (⟨#[]⟩ : ByteArray)]) ?_ 1 _ rfl; (with_reducible repeat (first | refine blk_drewN ?_ _ | refine blk_drew ?_ | refine blk_alloc ?_ _)); refine blk_put (cs := #[.int .i64 0, .string (⟨#[]⟩ : ByteArray)]) ?_ 0 _ rfl; (with_reducible repeat (first | refine blk_drewN ?_ _ | refine blk_drew ?_ | refine blk_alloc ?_ _)); exact BK144.out) Try.underlying51 rfl (by kernel_rfl)) rfl ?_
  exact ⟨by first | rfl | (simp [errW_none, errW_some] <;> rfl) | (simp [*, errW_none, errW_some] <;> rfl), by repeat (first | (with_reducible first | exact HB.out | apply below_alloc | apply pw_below_drewN | apply below_drew1 | refine below_set ?_ GE144.out) | exact HB.out)⟩

-- NOT PRINTED: function 30 (btcdtxscript_MakeScriptTokenizer)

-- NOT PRINTED: function 37 (btcdtxscript_ScriptTokenizer_Done)

-- NOT PRINTED: function 42 (btcdtxscript_opcodeOf)

-- NOT PRINTED: function 43 (binary_littleEndian_Uint16)

-- NOT PRINTED: function 44 (binary_littleEndian_Uint32)

-- NOT PRINTED: function 31 (btcdtxscript_ScriptTokenizer_Next)

/-! ### btcdtxscript_IsSmallInt: function 32 -/
def btcdtxscript_IsSmallInt.f (a0 : Int) : Option (Bool) := if a0 = 0 then (some true) else (if a0 ≥ 81 then (some (decide (a0 ≤ 96))) else (some false))
set_option maxHeartbeats 8000000 in
set_option maxRecDepth 100000 in
theorem btcdtxscript_IsSmallInt.calls (a0 : Int) (r : Bool) (w : World) (h : btcdtxscript_IsSmallInt.f a0 = some r) :
    Calls Try.prog 32 #[.int .u8 a0] w fun e w' => e = .returned (.bool r) ∧ Drawn0 w w' := by
  have H : (if a0 = 0 then (some true) else (if a0 ≥ 81 then (some (decide (a0 ≤ 96))) else (some false))) = some r := h
  clear h
  by_cases c2 : a0 = 0
  · rw [if_pos c2] at H
    have c2b0 : (a0 == 0) = true := beq_iff_eq.mpr c2
    have c2b1 : (a0 != 0) = false := bne_eq_false_iff_eq.mpr c2
    clear c2
    obtain rfl := Option.some.inj H
    go_enter Try.func32, Try.ntmps32
    go_wp2
    go_ret
    exact ⟨by first | rfl | (simp; done) | (simp [*]; done), by repeat (first | exact Drawn0.refl _ | apply Drawn0.step)⟩
  · rw [if_neg c2] at H
    have c2b0 : (a0 == 0) = false := beq_eq_false_iff_ne.mpr c2
    have c2b1 : (a0 != 0) = true := bne_iff_ne.mpr c2
    by_cases c3 : a0 ≥ 81
    · rw [if_pos c3] at H
      have c3b0 : decide (81 ≤ a0) = true := decide_eq_true c3
      clear c3
      obtain rfl := Option.some.inj H
      go_enter Try.func32, Try.ntmps32
      go_wp2
      go_ret
      exact ⟨by first | rfl | (simp; done) | (simp [*]; done), by repeat (first | exact Drawn0.refl _ | apply Drawn0.step)⟩
    · rw [if_neg c3] at H
      have c3b0 : decide (81 ≤ a0) = false := decide_eq_false c3
      clear c3
      obtain rfl := Option.some.inj H
      go_enter Try.func32, Try.ntmps32
      go_wp2
      go_ret
      exact ⟨by first | rfl | (simp; done) | (simp [*]; done), by repeat (first | exact Drawn0.refl _ | apply Drawn0.step)⟩

-- NOT PRINTED: function 33 (btcdtxscript_ScriptTokenizer_Opcode)

/-! ### btcdtxscript_AsSmallInt: function 34 -/
def btcdtxscript_AsSmallInt.f (a0 : Int) : Option (Int) := if a0 = 0 then (some 0) else (some ((a0 - 80) % 256))
set_option maxHeartbeats 8000000 in
set_option maxRecDepth 100000 in
theorem btcdtxscript_AsSmallInt.calls (a0 : Int) (r : Int) (w : World) (h : btcdtxscript_AsSmallInt.f a0 = some r) :
    Calls Try.prog 34 #[.int .u8 a0] w fun e w' => e = .returned (.int .i64 r) ∧ Drawn0 w w' := by
  have H : (if a0 = 0 then (some 0) else (some ((a0 - 80) % 256))) = some r := h
  clear h
  by_cases c2 : a0 = 0
  · rw [if_pos c2] at H
    have c2b0 : (a0 == 0) = true := beq_iff_eq.mpr c2
    have c2b1 : (a0 != 0) = false := bne_eq_false_iff_eq.mpr c2
    clear c2
    obtain rfl := Option.some.inj H
    go_enter Try.func34, Try.ntmps34
    go_wp2
    go_ret
    exact ⟨by first | rfl | (simp; done) | (simp [*]; done), by repeat (first | exact Drawn0.refl _ | apply Drawn0.step)⟩
  · rw [if_neg c2] at H
    have c2b0 : (a0 == 0) = false := beq_eq_false_iff_ne.mpr c2
    have c2b1 : (a0 != 0) = true := bne_iff_ne.mpr c2
    obtain rfl := Option.some.inj H
    go_enter Try.func34, Try.ntmps34
    go_wp2
    go_ret
    exact ⟨by first | rfl | (simp; done) | (simp [*]; done), by repeat (first | exact Drawn0.refl _ | apply Drawn0.step)⟩

/-! ### btcdtxscript_isCanonicalPush: function 35 -/
mutual
def btcdtxscript_isCanonicalPush.j0 : Nat → Int → Int → Bool → Option (Bool)
  | 0, _, _, _ => none
  | k + 1, x0, x5, x25 => if x25 = true then (some false) else (if x0 = 76 then (btcdtxscript_isCanonicalPush.j1 k x0 x5 (decide (x5 < 76))) else (btcdtxscript_isCanonicalPush.j1 k x0 x5 false))
def btcdtxscript_isCanonicalPush.j1 : Nat → Int → Int → Bool → Option (Bool)
  | 0, _, _, _ => none
  | k + 1, x0, x5, x31 => if x31 = true then (some false) else (if x0 = 77 then (btcdtxscript_isCanonicalPush.j2 k x0 x5 (decide (x5 ≤ 255))) else (btcdtxscript_isCanonicalPush.j2 k x0 x5 false))
def btcdtxscript_isCanonicalPush.j2 : Nat → Int → Int → Bool → Option (Bool)
  | 0, _, _, _ => none
  | k + 1, x0, x5, x37 => if x37 = true then (some false) else (if x0 = 78 then (if x5 ≤ 65535 then (some false) else (some true)) else (some true))
end
def btcdtxscript_isCanonicalPush.f (k : Nat) (a0 : Int) (l1 : List Int) : Option (Bool) := if a0 > 96 then (some true) else (if a0 < 76 then (if a0 > 0 then (if (l1.length : Int) = 1 then (if 0 < (l1.length : Int) then (btcdtxscript_isCanonicalPush.j0 k a0 (l1.length : Int) (decide ((rd l1 0) ≤ 16))) else (none)) else (btcdtxscript_isCanonicalPush.j0 k a0 (l1.length : Int) false)) else (btcdtxscript_isCanonicalPush.j0 k a0 (l1.length : Int) false)) else (btcdtxscript_isCanonicalPush.j0 k a0 (l1.length : Int) false))
theorem btcdtxscript_isCanonicalPush.mono_l : ∀ k, (∀ y0 y1 y2, LeO (btcdtxscript_isCanonicalPush.j0 k y0 y1 y2) (btcdtxscript_isCanonicalPush.j0 (k + 1) y0 y1 y2)) ∧ (∀ y0 y1 y2, LeO (btcdtxscript_isCanonicalPush.j1 k y0 y1 y2) (btcdtxscript_isCanonicalPush.j1 (k + 1) y0 y1 y2)) ∧ (∀ y0 y1 y2, LeO (btcdtxscript_isCanonicalPush.j2 k y0 y1 y2) (btcdtxscript_isCanonicalPush.j2 (k + 1) y0 y1 y2))
  | 0 => ⟨fun _ _ _ r h => by simp [btcdtxscript_isCanonicalPush.j0] at h, fun _ _ _ r h => by simp [btcdtxscript_isCanonicalPush.j1] at h, fun _ _ _ r h => by simp [btcdtxscript_isCanonicalPush.j2] at h⟩
  | k + 1 => by
    obtain ⟨ih0, ih1, ih2⟩ := btcdtxscript_isCanonicalPush.mono_l k
    refine ⟨?_, ?_, ?_⟩
    · intro y0 y1 y2
      unfold btcdtxscript_isCanonicalPush.j0
      repeat' first
      | (with_reducible exact ih0 _ _ _)
      | (with_reducible exact ih1 _ _ _)
      | (with_reducible exact ih2 _ _ _)
      | (with_reducible exact LeO.refl _)
      | (with_reducible exact LeO.none _)
      | (with_reducible refine LeO.ite ?_ ?_)
      | (with_reducible refine LeO.bind ?_ (fun _ => ?_))
      | exact ih0 _ _ _
      | exact ih1 _ _ _
      | exact ih2 _ _ _
      | exact LeO.none _
      | refine LeO.ite ?_ ?_
      | refine LeO.bind ?_ (fun _ => ?_)
    · intro y0 y1 y2
      unfold btcdtxscript_isCanonicalPush.j1
      repeat' first
      | (with_reducible exact ih0 _ _ _)
      | (with_reducible exact ih1 _ _ _)
      | (with_reducible exact ih2 _ _ _)
      | (with_reducible exact LeO.refl _)
      | (with_reducible exact LeO.none _)
      | (with_reducible refine LeO.ite ?_ ?_)
      | (with_reducible refine LeO.bind ?_ (fun _ => ?_))
      | exact ih0 _ _ _
      | exact ih1 _ _ _
      | exact ih2 _ _ _
      | exact LeO.none _
      | refine LeO.ite ?_ ?_
      | refine LeO.bind ?_ (fun _ => ?_)
    · intro y0 y1 y2
      unfold btcdtxscript_isCanonicalPush.j2
      repeat' first
      | (with_reducible exact ih0 _ _ _)
      | (with_reducible exact ih1 _ _ _)
      | (with_reducible exact ih2 _ _ _)
      | (with_reducible exact LeO.refl _)
      | (with_reducible exact LeO.none _)
      | (with_reducible refine LeO.ite ?_ ?_)
      | (with_reducible refine LeO.bind ?_ (fun _ => ?_))
      | exact ih0 _ _ _
      | exact ih1 _ _ _
      | exact ih2 _ _ _
      | exact LeO.none _
      | refine LeO.ite ?_ ?_
      | refine LeO.bind ?_ (fun _ => ?_)
theorem btcdtxscript_isCanonicalPush.mono : ∀ a0 a1 k, LeO (btcdtxscript_isCanonicalPush.f k a0 a1) (btcdtxscript_isCanonicalPush.f (k + 1) a0 a1) := by
  intro a0 a1 k
  obtain ⟨ih0, ih1, ih2⟩ := btcdtxscript_isCanonicalPush.mono_l k
  unfold btcdtxscript_isCanonicalPush.f
  repeat' first
      | (with_reducible exact ih0 _ _ _)
      | (with_reducible exact ih1 _ _ _)
      | (with_reducible exact ih2 _ _ _)
      | (with_reducible exact LeO.refl _)
      | (with_reducible exact LeO.none _)
      | (with_reducible refine LeO.ite ?_ ?_)
      | (with_reducible refine LeO.bind ?_ (fun _ => ?_))
      | exact ih0 _ _ _
      | exact ih1 _ _ _
      | exact ih2 _ _ _
      | exact LeO.none _
      | refine LeO.ite ?_ ?_
      | refine LeO.bind ?_ (fun _ => ?_)
set_option maxHeartbeats 8000000 in
set_option maxRecDepth 100000 in
theorem btcdtxscript_isCanonicalPush.calls (k : Nat) (a0 : Int) (A1 : Option Addr) (c1 : Nat) (l1 : List Int) (r : Bool) (w : World) (hr1 : Kd.C (Kd.int .u8) w A1 l1.length l1) (hc1 : l1.length ≤ c1) (h : btcdtxscript_isCanonicalPush.f k a0 l1 = some r) :
    Calls Try.prog 35 #[.int .u8 a0, .slice A1 l1.length c1] w fun e w' => e = .returned (.bool r) ∧ Drawn0 w w' := by
  have HR1 := Aside0.mk hr1
  have HC1 := Aside0.mk hc1
  clear hr1 hc1
  have H : (if a0 > 96 then (some true) else (if a0 < 76 then (if a0 > 0 then (if (l1.length : Int) = 1 then (if 0 < (l1.length : Int) then (btcdtxscript_isCanonicalPush.j0 k a0 (l1.length : Int) (decide ((rd l1 0) ≤ 16))) else (none)) else (btcdtxscript_isCanonicalPush.j0 k a0 (l1.length : Int) false)) else (btcdtxscript_isCanonicalPush.j0 k a0 (l1.length : Int) false)) else (btcdtxscript_isCanonicalPush.j0 k a0 (l1.length : Int) false))) = some r := h
  clear h
  by_cases c3 : a0 > 96
  · rw [if_pos c3] at H
    have c3b0 : decide (96 < a0) = true := decide_eq_true c3
    clear c3
    obtain rfl := Option.some.inj H
    go_enter Try.func35, Try.ntmps35
    go_wp2
    go_ret
    exact ⟨by first | rfl | (simp; done) | (simp [*]; done), by repeat (first | exact Drawn0.refl _ | apply Drawn0.step)⟩
  · rw [if_neg c3] at H
    have c3b0 : decide (96 < a0) = false := decide_eq_false c3
    clear c3
    have HC4 := Aside0.mk H
    clear H
    go_enter Try.func35, Try.ntmps35
    go_upto_region 4 with (fail)
    go_cut [25] (fun v25 wc => ∃ (kq : Nat) (x25_3 : Bool), v25 = .bool x25_3 ∧ Aside0 (btcdtxscript_isCanonicalPush.j0 kq a0 (l1.length : Int) x25_3 = some r) ∧ Aside0 (kq ≤ k) ∧ Drawn0 w wc)
    case first =>
      have H := HC4.out
      clear HC4
      by_cases c5 : a0 < 76
      · rw [if_pos c5] at H
        have c5b0 : decide (a0 < 76) = true := decide_eq_true c5
        clear c5
        (first | rw [c5b0] | (simp only [i64_w, i32_w]; rw [c5b0]) | skip)
        by_cases c6 : a0 > 0
        · rw [if_pos c6] at H
          have c6b0 : decide (0 < a0) = true := decide_eq_true c6
          clear c6
          by_cases c7 : (l1.length : Int) = 1
          · rw [if_pos c7] at H
            have c7b0 : ((l1.length : Int) == 1) = true := beq_iff_eq.mpr c7
            have c7b1 : ((l1.length : Int) != 1) = false := bne_eq_false_iff_eq.mpr c7
            clear c7
            by_cases c8 : 0 < (l1.length : Int)
            · rw [if_pos c8] at H
              have c8b0 : decide (0 < (l1.length : Int)) = true := decide_eq_true c8
              have c8b1 : decide (0 < l1.length) = true := decide_eq_true (by omega)
              clear c8
              have H' := Aside0.mk H
              clear H
              have p145 : 0 ≤ (0 : Int) := (by omega)
              have q145 : 0 < (l1.length : Int) := of_decide_eq_true (by first | (with_reducible assumption) | assumption)
              obtain ⟨ad145, e145, hx145_0⟩ := Kd.at_int HR1.out 0 p145 q145
              cases e145
              have qi145 : (0 < l1.length) = True := eq_true (by omega)
              (try rw [show ((0 : Int)).toNat = 0 from rfl] at hx145_0)
              (try rw [Addr.add_zero'] at hx145_0)
              replace p145 := eq_true p145
              replace q145 := eq_true q145
              go_wp2
              go_meet
              case rel => exact ⟨_, (decide ((rd l1 0) ≤ 16)), (by first | rfl | (simp; done) | (simp [*]; done) | (simp [show wrap64 1 = 1 by unfold wrap64; decide, *]; done)), (by first | exact H' | (subst_vars; exact H')), ⟨by first | omega | exact Nat.le_refl _⟩, by repeat (first | exact Drawn0.refl _ | apply Drawn0.step)⟩
            · rw [if_neg c8] at H
              exact absurd H (by simp)
          · rw [if_neg c7] at H
            have c7b0 : ((l1.length : Int) == 1) = false := beq_eq_false_iff_ne.mpr c7
            have c7b1 : ((l1.length : Int) != 1) = true := bne_iff_ne.mpr c7
            have H' := Aside0.mk H
            clear H
            go_wp2
            go_meet
            case rel => exact ⟨_, (false), (by first | rfl | (simp; done) | (simp [*]; done) | (simp [show wrap64 1 = 1 by unfold wrap64; decide, *]; done)), (by first | exact H' | (subst_vars; exact H')), ⟨by first | omega | exact Nat.le_refl _⟩, by repeat (first | exact Drawn0.refl _ | apply Drawn0.step)⟩
        · rw [if_neg c6] at H
          have c6b0 : decide (0 < a0) = false := decide_eq_false c6
          clear c6
          have H' := Aside0.mk H
          clear H
          go_wp2
          go_meet
          case rel => exact ⟨_, (false), (by first | rfl | (simp; done) | (simp [*]; done) | (simp [show wrap64 1 = 1 by unfold wrap64; decide, *]; done)), (by first | exact H' | (subst_vars; exact H')), ⟨by first | omega | exact Nat.le_refl _⟩, by repeat (first | exact Drawn0.refl _ | apply Drawn0.step)⟩
      · rw [if_neg c5] at H
        have c5b0 : decide (a0 < 76) = false := decide_eq_false c5
        clear c5
        (first | rw [c5b0] | (simp only [i64_w, i32_w]; rw [c5b0]) | skip)
        have H' := Aside0.mk H
        clear H
        go_wp2
        go_meet
        case rel => exact ⟨_, (false), (by first | rfl | (simp; done) | (simp [*]; done) | (simp [show wrap64 1 = 1 by unfold wrap64; decide, *]; done)), (by first | exact H' | (subst_vars; exact H')), ⟨by first | omega | exact Nat.le_refl _⟩, by repeat (first | exact Drawn0.refl _ | apply Drawn0.step)⟩
    case rest =>
      clear HC4
      try clear c1
      try clear p1
      try clear q1
      try clear hx1
      try clear qi1
      try clear p2
      try clear c3
      try clear c3b0
      try clear c5
      try clear c5b0
      try clear c6
      try clear c6b0
      try clear c7
      try clear c7b0
      try clear c7b1
      try clear c8
      try clear c8b0
      try clear c8b1
      try clear hx145_0
      try clear p145
      try clear q145
      obtain ⟨kq, x25_3, rfl, HA, HJ3, ⟨mc3, rfl⟩⟩ := hcut
      cases kq with
      | zero => exact absurd HA.out (by simp [btcdtxscript_isCanonicalPush.j0])
      | succ kj3 =>
        have H := HA.out
        clear HA
        simp only [btcdtxscript_isCanonicalPush.j0] at H
        by_cases c9 : x25_3 = true
        · subst c9
          have H1 : (some false) = some r := by rw [if_pos rfl] at H; exact H
          clear H
          have H := H1
          clear H1
          obtain rfl := Option.some.inj H
          go_wp2
          go_ret
          exact ⟨by first | rfl | (simp; done) | (simp [*]; done), by repeat (first | exact Drawn0.refl _ | apply Drawn0.step)⟩
        · replace c9 := Bool.eq_false_iff.mpr c9
          subst c9
          have H1 : (if a0 = 76 then (btcdtxscript_isCanonicalPush.j1 kj3 a0 (l1.length : Int) (decide ((l1.length : Int) < 76))) else (btcdtxscript_isCanonicalPush.j1 kj3 a0 (l1.length : Int) false)) = some r := by rw [if_neg (show ¬ (false = true) by decide)] at H; exact H
          clear H
          have H := H1
          clear H1
          have HC10 := Aside0.mk H
          clear H
          go_upto_region 6 with (fail)
          go_cut [31] (fun v31 wc => ∃ (kq : Nat) (x31_9 : Bool), v31 = .bool x31_9 ∧ Aside0 (btcdtxscript_isCanonicalPush.j1 kq a0 (l1.length : Int) x31_9 = some r) ∧ Aside0 (kq ≤ kj3) ∧ Drawn0 w wc)
          case first =>
            have H := HC10.out
            clear HC10
            by_cases c11 : a0 = 76
            · rw [if_pos c11] at H
              have c11b0 : (a0 == 76) = true := beq_iff_eq.mpr c11
              have c11b1 : (a0 != 76) = false := bne_eq_false_iff_eq.mpr c11
              clear c11
              (first | rw [c11b0] | (simp only [i64_w, i32_w]; rw [c11b0]) | skip)
              have H' := Aside0.mk H
              clear H
              go_wp2
              go_meet
              case rel => exact ⟨_, (decide ((l1.length : Int) < 76)), (by first | rfl | (simp; done) | (simp [*]; done) | (simp [show wrap64 1 = 1 by unfold wrap64; decide, *]; done)), (by first | exact H' | (subst_vars; exact H')), ⟨by have := HJ3.out; first | omega | exact Nat.le_refl _⟩, by repeat (first | exact Drawn0.refl _ | apply Drawn0.step)⟩
            · rw [if_neg c11] at H
              have c11b0 : (a0 == 76) = false := beq_eq_false_iff_ne.mpr c11
              have c11b1 : (a0 != 76) = true := bne_iff_ne.mpr c11
              (first | rw [c11b0] | (simp only [i64_w, i32_w]; rw [c11b0]) | skip)
              have H' := Aside0.mk H
              clear H
              go_wp2
              go_meet
              case rel => exact ⟨_, (false), (by first | rfl | (simp; done) | (simp [*]; done) | (simp [show wrap64 1 = 1 by unfold wrap64; decide, *]; done)), (by first | exact H' | (subst_vars; exact H')), ⟨by have := HJ3.out; first | omega | exact Nat.le_refl _⟩, by repeat (first | exact Drawn0.refl _ | apply Drawn0.step)⟩
          case rest =>
            clear HC10
            try clear c1
            try clear p1
            try clear q1
            try clear hx1
            try clear qi1
            try clear p2
            try clear c3
            try clear c3b0
            try clear c5
            try clear c5b0
            try clear c6
            try clear c6b0
            try clear c7
            try clear c7b0
            try clear c7b1
            try clear c8
            try clear c8b0
            try clear c8b1
            try clear c9
            try clear c11
            try clear c11b0
            try clear c11b1
            try clear hx145_0
            try clear p1
            try clear p145
            try clear p2
            try clear q1
            try clear q145
            obtain ⟨kq, x31_9, rfl, HA, HJ9, ⟨mc9, rfl⟩⟩ := hcut
            cases kq with
            | zero => exact absurd HA.out (by simp [btcdtxscript_isCanonicalPush.j1])
            | succ kj9 =>
              have H := HA.out
              clear HA
              simp only [btcdtxscript_isCanonicalPush.j1] at H
              by_cases c12 : x31_9 = true
              · subst c12
                have H1 : (some false) = some r := by rw [if_pos rfl] at H; exact H
                clear H
                have H := H1
                clear H1
                obtain rfl := Option.some.inj H
                go_wp2
                go_ret
                exact ⟨by first | rfl | (simp; done) | (simp [*]; done), by repeat (first | exact Drawn0.refl _ | apply Drawn0.step)⟩
              · replace c12 := Bool.eq_false_iff.mpr c12
                subst c12
                have H1 : (if a0 = 77 then (btcdtxscript_isCanonicalPush.j2 kj9 a0 (l1.length : Int) (decide ((l1.length : Int) ≤ 255))) else (btcdtxscript_isCanonicalPush.j2 kj9 a0 (l1.length : Int) false)) = some r := by rw [if_neg (show ¬ (false = true) by decide)] at H; exact H
                clear H
                have H := H1
                clear H1
                have HC13 := Aside0.mk H
                clear H
                go_upto_region 8 with (fail)
                go_cut [37] (fun v37 wc => ∃ (kq : Nat) (x37_12 : Bool), v37 = .bool x37_12 ∧ Aside0 (btcdtxscript_isCanonicalPush.j2 kq a0 (l1.length : Int) x37_12 = some r) ∧ Aside0 (kq ≤ kj9) ∧ Drawn0 w wc)
                case first =>
                  have H := HC13.out
                  clear HC13
                  by_cases c14 : a0 = 77
                  · rw [if_pos c14] at H
                    have c14b0 : (a0 == 77) = true := beq_iff_eq.mpr c14
                    have c14b1 : (a0 != 77) = false := bne_eq_false_iff_eq.mpr c14
                    clear c14
                    (first | rw [c14b0] | (simp only [i64_w, i32_w]; rw [c14b0]) | skip)
                    have H' := Aside0.mk H
                    clear H
                    go_wp2
                    go_meet
                    case rel => exact ⟨_, (decide ((l1.length : Int) ≤ 255)), (by first | rfl | (simp; done) | (simp [*]; done) | (simp [show wrap64 1 = 1 by unfold wrap64; decide, *]; done)), (by first | exact H' | (subst_vars; exact H')), ⟨by have := HJ3.out; have := HJ9.out; first | omega | exact Nat.le_refl _⟩, by repeat (first | exact Drawn0.refl _ | apply Drawn0.step)⟩
                  · rw [if_neg c14] at H
                    have c14b0 : (a0 == 77) = false := beq_eq_false_iff_ne.mpr c14
                    have c14b1 : (a0 != 77) = true := bne_iff_ne.mpr c14
                    (first | rw [c14b0] | (simp only [i64_w, i32_w]; rw [c14b0]) | skip)
                    have H' := Aside0.mk H
                    clear H
                    go_wp2
                    go_meet
                    case rel => exact ⟨_, (false), (by first | rfl | (simp; done) | (simp [*]; done) | (simp [show wrap64 1 = 1 by unfold wrap64; decide, *]; done)), (by first | exact H' | (subst_vars; exact H')), ⟨by have := HJ3.out; have := HJ9.out; first | omega | exact Nat.le_refl _⟩, by repeat (first | exact Drawn0.refl _ | apply Drawn0.step)⟩
                case rest =>
                  clear HC13
                  try clear c1
                  try clear p1
                  try clear q1
                  try clear hx1
                  try clear qi1
                  try clear p2
                  try clear c3
                  try clear c3b0
                  try clear c5
                  try clear c5b0
                  try clear c6
                  try clear c6b0
                  try clear c7
                  try clear c7b0
                  try clear c7b1
                  try clear c8
                  try clear c8b0
                  try clear c8b1
                  try clear c9
                  try clear c11
                  try clear c11b0
                  try clear c11b1
                  try clear c12
                  try clear c14
                  try clear c14b0
                  try clear c14b1
                  try clear p14
                  try clear q14
                  try clear hx14
                  try clear qi14
                  try clear hx145_0
                  try clear p1
                  try clear p145
                  try clear p2
                  try clear q1
                  try clear q145
                  obtain ⟨kq, x37_12, rfl, HA, HJ12, ⟨mc12, rfl⟩⟩ := hcut
                  cases kq with
                  | zero => exact absurd HA.out (by simp [btcdtxscript_isCanonicalPush.j2])
                  | succ kj12 =>
                    have H := HA.out
                    clear HA
                    simp only [btcdtxscript_isCanonicalPush.j2] at H
                    by_cases c15 : x37_12 = true
                    · subst c15
                      have H1 : (some false) = some r := by rw [if_pos rfl] at H; exact H
                      clear H
                      have H := H1
                      clear H1
                      obtain rfl := Option.some.inj H
                      go_wp2
                      go_ret
                      exact ⟨by first | rfl | (simp; done) | (simp [*]; done), by repeat (first | exact Drawn0.refl _ | apply Drawn0.step)⟩
                    · replace c15 := Bool.eq_false_iff.mpr c15
                      subst c15
                      have H1 : (if a0 = 78 then (if (l1.length : Int) ≤ 65535 then (some false) else (some true)) else (some true)) = some r := by rw [if_neg (show ¬ (false = true) by decide)] at H; exact H
                      clear H
                      have H := H1
                      clear H1
                      by_cases c16 : a0 = 78
                      · rw [if_pos c16] at H
                        have c16b0 : (a0 == 78) = true := beq_iff_eq.mpr c16
                        have c16b1 : (a0 != 78) = false := bne_eq_false_iff_eq.mpr c16
                        clear c16
                        by_cases c17 : (l1.length : Int) ≤ 65535
                        · rw [if_pos c17] at H
                          have c17b0 : decide ((l1.length : Int) ≤ 65535) = true := decide_eq_true c17
                          have c17b1 : decide (l1.length ≤ 65535) = true := decide_eq_true (by omega)
                          clear c17
                          obtain rfl := Option.some.inj H
                          go_wp2
                          go_ret
                          exact ⟨by first | rfl | (simp; done) | (simp [*]; done), by repeat (first | exact Drawn0.refl _ | apply Drawn0.step)⟩
                        · rw [if_neg c17] at H
                          have c17b0 : decide ((l1.length : Int) ≤ 65535) = false := decide_eq_false c17
                          have c17b1 : decide (l1.length ≤ 65535) = false := decide_eq_false (by omega)
                          clear c17
                          obtain rfl := Option.some.inj H
                          go_wp2
                          go_ret
                          exact ⟨by first | rfl | (simp; done) | (simp [*]; done), by repeat (first | exact Drawn0.refl _ | apply Drawn0.step)⟩
                      · rw [if_neg c16] at H
                        have c16b0 : (a0 == 78) = false := beq_eq_false_iff_ne.mpr c16
                        have c16b1 : (a0 != 78) = true := bne_iff_ne.mpr c16
                        obtain rfl := Option.some.inj H
                        go_wp2
                        go_ret
                        exact ⟨by first | rfl | (simp; done) | (simp [*]; done), by repeat (first | exact Drawn0.refl _ | apply Drawn0.step)⟩

-- NOT PRINTED: function 36 (btcdtxscript_ScriptTokenizer_Data)

-- NOT PRINTED: function 38 (btcdtxscript_ScriptTokenizer_Err)

-- NOT PRINTED: function 22 (btcdtxscript_extractWitnessProgramInfo)

-- NOT PRINTED: function 23 (errors_New)

-- NOT PRINTED: function 13 (btcdtxscript_ExtractWitnessProgramInfo)

/-! ### impl_copied: function 14 -/
def impl_copied.f (l0 : List Int) : Option (List Int) := (some (([] : List Int) : List Int)).bind fun y147 => (if y147.length + l0.length < 140737488355328 then (some (y147 ++ l0)) else (none))
set_option maxHeartbeats 8000000 in
set_option maxRecDepth 100000 in
theorem impl_copied.calls (A0 : Option Addr) (c0 : Nat) (l0 : List Int) (r : List Int) (w : World) (hr0 : Kd.C (Kd.int .u8) w A0 l0.length l0) (hc0 : l0.length ≤ c0) (h : impl_copied.f l0 = some r) :
    Calls Try.prog 14 #[.slice A0 l0.length c0] w fun e w' => ∃ v0_ : Value, e = .returned (v0_) ∧ Kd.R (Kd.int .u8) 5 w' w.heap.size (fun _ => True) v0_ r ∧ Below w.heap.size w w' := by
  have HR0 := Aside0.mk hr0
  have HC0 := Aside0.mk hc0
  clear hr0 hc0
  have HB := Aside0.mk (Below.refl w.heap.size w)
  have H : ((some (([] : List Int) : List Int)).bind fun y147 => (if y147.length + l0.length < 140737488355328 then (some (y147 ++ l0)) else (none))) = some r := h
  clear h
  obtain ⟨y147, hy147⟩ : ∃ y_ : List Int, y_ = (([] : List Int)) := ⟨_, rfl⟩
  replace H : (if y147.length + l0.length < 140737488355328 then (some (y147 ++ l0)) else (none)) = some r := by first | (rw [hy147]; with_reducible exact H) | (have H2_ := (Option.bind_some _ _).symm.trans H; rw [hy147]; with_reducible exact H2_) | (have H2_ := (Option.bind_some _ _).symm.trans H; with_reducible exact H2_) | with_reducible exact H | (rw [hy147]; exact H) | exact H
  have Ny147 := Aside0.mk hy147
  clear hy147
  by_cases c2 : y147.length + l0.length < 140737488355328
  · rw [if_pos c2] at H
    have LMc2 := Aside0.mk c2
    clear c2
    obtain ⟨y150, hy150⟩ : ∃ y_ : List Int, y_ = (y147 ++ l0) := ⟨_, rfl⟩
    replace H : (some y150) = some r := by first | (rw [hy150]; with_reducible exact H) | (have H2_ := (Option.bind_some _ _).symm.trans H; rw [hy150]; with_reducible exact H2_) | (have H2_ := (Option.bind_some _ _).symm.trans H; with_reducible exact H2_) | with_reducible exact H | (rw [hy150]; exact H) | exact H
    have Ny150 := Aside0.mk hy150
    clear hy150
    obtain rfl := Option.some.inj H
    go_enter Try.func14, Try.ntmps14
    go_wp2_with (first | ((with_reducible refine gate_dst (N := 3) rfl ?_); refine Kd.R_lit (Kd.int .u8) _ 5 ?hg (N := 3) ?hd (xs := ([] : List Int)) (inner := []) (ok := fun _ => True) (okp := fun _ => True) ?hr ?hp (fun _ hk => hk) trivial (Below.refl _ _) (Nat.le_refl _) (by simp) ?_; (case hd => rfl); (case hg => rfl); (case hr => first | (go_simp; done) | (go_simp; rfl)); (case hp => exact (Reps.none _ _)); intro v148 w3 ho4 hb hg_ hnew_; clear hg_ hnew_; (first | rw [← Ny147.out] at ho4 | (simp only [Int.reduceToNat] at ho4; rw [← Ny147.out] at ho4)); have n0_ := Aside0.mk (Kd.R_lower ho4 (below_size (by repeat (first | (with_reducible first | exact HB.out | apply below_alloc | apply pw_below_drewN | apply below_drew1) | exact HB.out)))); have n1_ := Aside0.mk (below_step (by repeat (first | (with_reducible first | exact HB.out | apply below_alloc | apply pw_below_drewN | apply below_drew1) | exact HB.out)) hb); clear HB; have HO149 := n0_; have HB := n1_; clear n0_ n1_; clear hb ho4) | ((with_reducible refine gate_builtin (b := .append) (xs := #[.tmp 3, .tmp 4]) rfl ?_); at_builtin; refine Kd.R_append_rows (Kd.int .u8) (w0 := w) w.heap.size rfl (.tmp 3) (.tmp 4) 22 5 (.int .u8 0) 1 rfl Try.underlying22 info5 rfl (by decide) (by decide) v148 y147 l0 _ _ _ (fun _ => True) (fun _ => False) rfl rfl ?aO ?aR (fun _ _ h => h) (fun _ h => h.elim) ?aF ?aB ?aS ?aL ?_; (case aR => repeat (first | exact (Kd.C_below HR0.out HB.out) | (with_reducible refine Kd.C_alloc ?_ _) | (with_reducible refine Kd.C_drewN ?_ _) | (with_reducible refine Kd.C_drew ?_))); (case aB => exact (by repeat (first | (with_reducible first | exact HB.out | apply below_alloc | apply pw_below_drewN | apply below_drew1) | exact HB.out))); (case aF => exact (fun _ _ => trivial)); (case aO => exact (by (with_reducible repeat (first | apply Kd.R_alloc | apply Kd.R_drewN | apply Kd.R_drew)); exact HO149.out)); (case aS => exact (below_size (by repeat (first | (with_reducible first | exact HB.out | apply below_alloc | apply pw_below_drewN | apply below_drew1) | exact HB.out)))); (case aL => have := LMc2.out; omega); intro v151 w5 ho hb hg hat; rw [← Ny150.out] at ho; have n0_ := Aside0.mk (hb); have n1_ := Aside0.mk (ho); clear HB; clear HO149; have HB := n0_; have HO152 := n1_; clear n0_ n1_; clear ho hb hg hat))
    go_ret
    exact ⟨_, by first | rfl | (simp [errW_none, errW_some] <;> rfl) | (simp [*, errW_none, errW_some] <;> rfl), by (with_reducible repeat (first | apply Kd.R_alloc | apply Kd.R_drewN | apply Kd.R_drew)); exact HO152.out, by repeat (first | (with_reducible first | exact HB.out | apply below_alloc | apply pw_below_drewN | apply below_drew1) | exact HB.out)⟩
  · rw [if_neg c2] at H
    exact absurd H (by simp)

-- NOT PRINTED: function 15 (impl_kindOf)

-- NOT PRINTED: function 6 (impl_Program)

-- NOT PRINTED: function 24 (btcdtxscript_isWitnessProgramScript)

-- NOT PRINTED: function 16 (btcdtxscript_IsWitnessProgram)

-- NOT PRINTED: function 7 (impl_IsProgram)

/-! ### laws_same: function 8 -/
def laws_same.l0 : Nat → List Int → List Int → Int → Option (Bool)
  | 0, _, _, _ => none
  | k + 1, x0, x1, x5 => if x5 < (x0.length : Int) then (if 0 ≤ x5 then (if x5 < (x1.length : Int) then (if (rd x0 x5) = (rd x1 x5) then (laws_same.l0 k x0 x1 (wrap64 (x5 + 1))) else (some false)) else (none)) else (none)) else (some true)
def laws_same.f (k : Nat) (l0 : List Int) (l1 : List Int) : Option (Bool) := if (l0.length : Int) = (l1.length : Int) then (laws_same.l0 k l0 l1 0) else (some false)
theorem laws_same.mono_l : ∀ k, (∀ y0 y1 y2, LeO (laws_same.l0 k y0 y1 y2) (laws_same.l0 (k + 1) y0 y1 y2))
  | 0 => fun _ _ _ r h => by simp [laws_same.l0] at h
  | k + 1 => by
    have ih0 := laws_same.mono_l k
    · intro y0 y1 y2
      unfold laws_same.l0
      repeat' first
      | (with_reducible exact ih0 _ _ _)
      | (with_reducible exact LeO.refl _)
      | (with_reducible exact LeO.none _)
      | (with_reducible refine LeO.ite ?_ ?_)
      | (with_reducible refine LeO.bind ?_ (fun _ => ?_))
      | exact ih0 _ _ _
      | exact LeO.none _
      | refine LeO.ite ?_ ?_
      | refine LeO.bind ?_ (fun _ => ?_)
theorem laws_same.mono : ∀ a0 a1 k, LeO (laws_same.f k a0 a1) (laws_same.f (k + 1) a0 a1) := by
  intro a0 a1 k
  have ih0 := laws_same.mono_l k
  unfold laws_same.f
  repeat' first
      | (with_reducible exact ih0 _ _ _)
      | (with_reducible exact LeO.refl _)
      | (with_reducible exact LeO.none _)
      | (with_reducible refine LeO.ite ?_ ?_)
      | (with_reducible refine LeO.bind ?_ (fun _ => ?_))
      | exact ih0 _ _ _
      | exact LeO.none _
      | refine LeO.ite ?_ ?_
      | refine LeO.bind ?_ (fun _ => ?_)
set_option maxHeartbeats 8000000 in
set_option maxRecDepth 100000 in
theorem laws_same.calls (k : Nat) (A0 : Option Addr) (c0 : Nat) (l0 : List Int) (A1 : Option Addr) (c1 : Nat) (l1 : List Int) (r : Bool) (w : World) (hr0 : Kd.C (Kd.int .u8) w A0 l0.length l0) (hc0 : l0.length ≤ c0) (hr1 : Kd.C (Kd.int .u8) w A1 l1.length l1) (hc1 : l1.length ≤ c1) (h : laws_same.f k l0 l1 = some r) :
    Calls Try.prog 8 #[.slice A0 l0.length c0, .slice A1 l1.length c1] w fun e w' => e = .returned (.bool r) ∧ Drawn0 w w' := by
  have HR0 := Aside0.mk hr0
  have HC0 := Aside0.mk hc0
  clear hr0 hc0
  have HR1 := Aside0.mk hr1
  have HC1 := Aside0.mk hc1
  clear hr1 hc1
  have H : (if (l0.length : Int) = (l1.length : Int) then (laws_same.l0 k l0 l1 0) else (some false)) = some r := h
  clear h
  by_cases c3 : (l0.length : Int) = (l1.length : Int)
  · rw [if_pos c3] at H
    have c3b0 : ((l0.length : Int) == (l1.length : Int)) = true := beq_iff_eq.mpr c3
    have c3b1 : ((l0.length : Int) != (l1.length : Int)) = false := bne_eq_false_iff_eq.mpr c3
    have c3b2 : (l0.length == l1.length) = true := by first | simpa using c3 | (simp at c3 ⊢; omega)
    clear c3
    have H' := Aside0.mk H
    clear H
    go_enter Try.func8, Try.ntmps8
    go_wp2
    repeat (go_quiet (fail); try go_wp2)
    go_loopg [5] k (fun kq v5 w' => ∃ (x5_1 : Int), v5 = .int .i64 x5_1 ∧ Aside0 (laws_same.l0 kq l0 l1 x5_1 = some r) ∧ Aside0 (kq ≤ k) ∧ Drawn0 w w')
    case atStart => exact ⟨(0), (by first | rfl | (simp; done) | (simp [*]; done) | (simp [show wrap64 1 = 1 by unfold wrap64; decide, *]; done)), H', ⟨Nat.le_refl _⟩, by repeat (first | exact Drawn0.refl _ | apply Drawn0.step)⟩
    case round =>
      clear H'
      try clear c1
      try clear p2
      try clear c3
      try clear c3b0
      try clear c3b1
      try clear c3b2
      obtain ⟨x5_1, rfl, HA, HK1, ⟨m1, rfl⟩⟩ := hrel
      cases gk with
      | zero => exact absurd HA.out (by simp [laws_same.l0])
      | succ k1 =>
        have H := HA.out
        clear HA
        simp only [laws_same.l0] at H
        by_cases c4 : x5_1 < (l0.length : Int)
        · rw [if_pos c4] at H
          have c4b0 : decide (x5_1 < (l0.length : Int)) = true := decide_eq_true c4
          clear c4
          by_cases c5 : 0 ≤ x5_1
          · rw [if_pos c5] at H
            have c5b0 : decide (0 ≤ x5_1) = true := decide_eq_true c5
            clear c5
            by_cases c6 : x5_1 < (l1.length : Int)
            · rw [if_pos c6] at H
              have c6b0 : decide (x5_1 < (l1.length : Int)) = true := decide_eq_true c6
              clear c6
              by_cases c7 : (rd l0 x5_1) = (rd l1 x5_1)
              · rw [if_pos c7] at H
                have c7b0 : ((rd l0 x5_1) == (rd l1 x5_1)) = true := beq_iff_eq.mpr c7
                have c7b1 : ((rd l0 x5_1) != (rd l1 x5_1)) = false := bne_eq_false_iff_eq.mpr c7
                clear c7
                have H' := Aside0.mk H
                clear H
                have p155 : 0 ≤ (x5_1 : Int) := of_decide_eq_true (by first | (with_reducible assumption) | assumption)
                have q155 : x5_1 < (l0.length : Int) := of_decide_eq_true (by first | (with_reducible assumption) | assumption)
                obtain ⟨ad155, e155, hx155_0⟩ := Kd.at_int HR0.out x5_1 p155 q155
                cases e155
                replace p155 := eq_true p155
                replace q155 := eq_true q155
                have p156 : 0 ≤ (x5_1 : Int) := of_decide_eq_true (by first | (with_reducible assumption) | assumption)
                have q156 : x5_1 < (l1.length : Int) := of_decide_eq_true (by first | (with_reducible assumption) | assumption)
                obtain ⟨ad156, e156, hx156_0⟩ := Kd.at_int HR1.out x5_1 p156 q156
                cases e156
                replace p156 := eq_true p156
                replace q156 := eq_true q156
                go_wp2
                repeat (go_quiet (fail); try go_wp2)
                go_roundg k1
                case measure => have := HK1.out; omega
                case rel => exact ⟨(wrap64 (x5_1 + 1)), (by first | rfl | (simp; done) | (simp [*]; done) | (simp [show wrap64 1 = 1 by unfold wrap64; decide, *]; done)), (by first | exact H' | (subst_vars; exact H')), ⟨by have := HK1.out; omega⟩, by repeat (first | exact Drawn0.refl _ | apply Drawn0.step)⟩
              · rw [if_neg c7] at H
                have c7b0 : ((rd l0 x5_1) == (rd l1 x5_1)) = false := beq_eq_false_iff_ne.mpr c7
                have c7b1 : ((rd l0 x5_1) != (rd l1 x5_1)) = true := bne_iff_ne.mpr c7
                obtain rfl := Option.some.inj H
                have p155 : 0 ≤ (x5_1 : Int) := of_decide_eq_true (by first | (with_reducible assumption) | assumption)
                have q155 : x5_1 < (l0.length : Int) := of_decide_eq_true (by first | (with_reducible assumption) | assumption)
                obtain ⟨ad155, e155, hx155_0⟩ := Kd.at_int HR0.out x5_1 p155 q155
                cases e155
                replace p155 := eq_true p155
                replace q155 := eq_true q155
                have p156 : 0 ≤ (x5_1 : Int) := of_decide_eq_true (by first | (with_reducible assumption) | assumption)
                have q156 : x5_1 < (l1.length : Int) := of_decide_eq_true (by first | (with_reducible assumption) | assumption)
                obtain ⟨ad156, e156, hx156_0⟩ := Kd.at_int HR1.out x5_1 p156 q156
                cases e156
                replace p156 := eq_true p156
                replace q156 := eq_true q156
                go_wp2
                repeat (go_quiet (fail); try go_wp2)
                go_ret
                exact ⟨by first | rfl | (simp; done) | (simp [*]; done), by repeat (first | exact Drawn0.refl _ | apply Drawn0.step)⟩
            · rw [if_neg c6] at H
              exact absurd H (by simp)
          · rw [if_neg c5] at H
            exact absurd H (by simp)
        · rw [if_neg c4] at H
          have c4b0 : decide (x5_1 < (l0.length : Int)) = false := decide_eq_false c4
          clear c4
          obtain rfl := Option.some.inj H
          go_wp2
          repeat (go_quiet (fail); try go_wp2)
          go_ret
          exact ⟨by first | rfl | (simp; done) | (simp [*]; done), by repeat (first | exact Drawn0.refl _ | apply Drawn0.step)⟩
  · rw [if_neg c3] at H
    have c3b0 : ((l0.length : Int) == (l1.length : Int)) = false := beq_eq_false_iff_ne.mpr c3
    have c3b1 : ((l0.length : Int) != (l1.length : Int)) = true := bne_iff_ne.mpr c3
    have c3b2 : (l0.length == l1.length) = false := by first | simpa using c3 | (simp at c3 ⊢; omega)
    obtain rfl := Option.some.inj H
    go_enter Try.func8, Try.ntmps8
    go_wp2
    repeat (go_quiet (fail); try go_wp2)
    go_ret
    exact ⟨by first | rfl | (simp; done) | (simp [*]; done), by repeat (first | exact Drawn0.refl _ | apply Drawn0.step)⟩

-- NOT PRINTED: function 3 (laws_FnProgram)

end Go.Proofs.Ytfbkjkihcajmdab.QFnProgram
