/- Printed functions over a contract that was proved by hand. -/
import Derived.Test.YtdmpjoglejnpbabBd8
namespace Go.Proofs.Ytdmpjoglejnpbab.QFnBuilt
open Go.RowKit Go.Proofs.YtdmpjoglejnpbabW.PrintWords Go.Proofs.YtdmpjoglejnpbabW.PrintLast Go.Proofs.YtdmpjoglejnpbabW.PrintMore
attribute [local go_sem] nn_mod256 nn_mod65536 nn_mod32 max2_int min2_int max_two min_two max_three min_three max_four min_four   -- for this text's walks alone
set_option linter.unusedVariables false
set_option linter.unusedSimpArgs false
/-! ### laws_awakeBuild: function 6 -/
def laws_awakeBuild.f  : Option (Bool) := (impl_Build.f (([(⟨0, 97, ([] : List Int)⟩ : S27)] : List (S27)))).bind fun bt135 => (if bt135.2 = true then (if (bt135.1.length : Int) = 1 then (if 0 < (bt135.1.length : Int) then (some ((rd bt135.1 0) == 97)) else (none)) else (some false)) else (some false))
set_option maxHeartbeats 8000000 in
set_option maxRecDepth 100000 in
theorem laws_awakeBuild.calls  (r : Bool) (w : World) (h : laws_awakeBuild.f  = some r) :
    Calls Try.prog 6 #[] w fun e w' => e = .returned (.bool r) ∧ Below w.heap.size w w' := by
  have hu27 := Try.underlying27
  have HB := Aside0.mk (Below.refl w.heap.size w)
  have H : ((impl_Build.f (([(⟨0, 97, ([] : List Int)⟩ : S27)] : List (S27)))).bind fun bt135 => (if bt135.2 = true then (if (bt135.1.length : Int) = 1 then (if 0 < (bt135.1.length : Int) then (some ((rd bt135.1 0) == 97)) else (none)) else (some false)) else (some false))) = some r := h
  clear h
  obtain ⟨y132, hy132⟩ : ∃ y_ : List (S27), y_ = (([(⟨0, 97, ([] : List Int)⟩ : S27)] : List (S27))) := ⟨_, rfl⟩
  replace H : ((impl_Build.f y132).bind fun bt135 => (if bt135.2 = true then (if (bt135.1.length : Int) = 1 then (if 0 < (bt135.1.length : Int) then (some ((rd bt135.1 0) == 97)) else (none)) else (some false)) else (some false))) = some r := by first | (rw [hy132]; with_reducible exact H) | (have H2_ := (Option.bind_some _ _).symm.trans H; rw [hy132]; with_reducible exact H2_) | (have H2_ := (Option.bind_some _ _).symm.trans H; with_reducible exact H2_) | with_reducible exact H | (rw [hy132]; exact H) | exact H
  have Ny132 := Aside0.mk hy132
  clear hy132
  replace H := Option.bind_eq_some_iff.mp H
  obtain ⟨⟨t135, t136⟩, A10, H⟩ := H
  replace H : (if t136 = true then (if (t135.length : Int) = 1 then (if 0 < (t135.length : Int) then (some ((rd t135 0) == 97)) else (none)) else (some false)) else (some false)) = some r := H
  have A1 := Aside0.mk A10
  clear A10
  by_cases c2 : t136 = true
  · subst c2
    have H1 : (if (t135.length : Int) = 1 then (if 0 < (t135.length : Int) then (some ((rd t135 0) == 97)) else (none)) else (some false)) = some r := by rw [if_pos rfl] at H; exact H
    clear H
    have H := H1
    clear H1
    by_cases c3 : (t135.length : Int) = 1
    · rw [if_pos c3] at H
      have c3b0 : ((t135.length : Int) == 1) = true := beq_iff_eq.mpr c3
      have c3b1 : ((t135.length : Int) != 1) = false := bne_eq_false_iff_eq.mpr c3
      clear c3
      by_cases c4 : 0 < (t135.length : Int)
      · rw [if_pos c4] at H
        have c4b0 : decide (0 < (t135.length : Int)) = true := decide_eq_true c4
        have c4b1 : decide (0 < t135.length) = true := decide_eq_true (by omega)
        clear c4
        obtain rfl := Option.some.inj H
        go_enter Try.func6, Try.ntmps6
        go_wp2_with (first | ((with_reducible refine gate_dst (N := 5) rfl ?_); (try (refine gate_guard (by rfl) ?_; dsimp only)); refine Kd.S_lit k27 _ 27 ?hg (N := 5) ?hd (xs := ([(⟨0, 97, ([] : List Int)⟩ : S27)] : List (S27))) (inner := [.int .i64 0, .int .i64 97, .slice none 0 0]) (ok := fun _ => True) (okp := fun _ => True) ?hr ?hp (fun _ hk => hk) trivial (Below.refl _ _) (Nat.le_refl _) (by simp) ?_; (case hd => rfl); (case hg => rfl); (case hr => first | (go_simp; done) | (go_simp; rfl)); (case hp => exact (Reps.c3 (show Kd.M k27 _ _ _ (⟨0, 97, ([] : List Int)⟩ : S27) [.int .i64 0, .int .i64 97, .slice none 0 0] from (k27_mkM _ _ _ (⟨0, 97, ([] : List Int)⟩ : S27) (Kd.R_nil _ _ _ _ _))) (Reps.none _ _))); intro v133 w5 ho6 hb hg_ hnew_; clear hg_ hnew_; (first | rw [← Ny132.out] at ho6 | (simp only [Int.reduceToNat] at ho6; rw [← Ny132.out] at ho6)); have n0_ := Aside0.mk (Kd.S_lower ho6 (below_size (by repeat (first | (with_reducible first | exact HB.out | apply below_alloc | apply pw_below_drewN | apply below_drew1) | exact HB.out)))); have n1_ := Aside0.mk (below_step (by repeat (first | (with_reducible first | exact HB.out | apply below_alloc | apply pw_below_drewN | apply below_drew1) | exact HB.out)) hb); clear HB; have HO134 := n0_; have HB := n1_; clear n0_ n1_; clear hb ho6; obtain ⟨Ao7, co7, eo7⟩ := Kd.S_slice HO134.out; subst eo7) | ((with_reducible refine gate_callee (f := 7) rfl ?_); refine goesL_ (some 6) rfl rfl Try.func7 (by kernel_rfl) rfl #[.slice Ao7 y132.length co7] rfl (by (try simp only [List.map_toArray, List.map_cons, List.map_nil]); first | done | rfl | (simp only [List.length_drop, List.length_take]; rfl)) ?_; (with_reducible refine (impl_Build.calls _ _ y132 t135 true _ ?side1 ?side2 A1.out).mono ?_); (case side1 => repeat (first | exact (Kd.S_reads' HO134.out).2.2 | (with_reducible refine Kd.C_alloc ?_ _) | (with_reducible refine Kd.C_drewN ?_ _) | (with_reducible refine Kd.C_drew ?_))); (case side2 => exact (Kd.S_reads' HO134.out).2.1); rintro e w8 ⟨v137, rfl, ho0, hb⟩; refine ⟨_, rfl, ?_⟩; have n0_ := Aside0.mk (Kd.S_elder' (by (with_reducible repeat (first | apply Kd.S_alloc | apply Kd.S_drewN | apply Kd.S_drew)); exact HO134.out) (Kd.R_base ho0) hb); have n1_ := Aside0.mk (Kd.R_lower ho0 (below_size (by repeat (first | (with_reducible first | exact HB.out | apply below_alloc | apply pw_below_drewN | apply below_drew1) | exact HB.out)))); have n2_ := Aside0.mk (below_step (by repeat (first | (with_reducible first | exact HB.out | apply below_alloc | apply pw_below_drewN | apply below_drew1) | exact HB.out)) hb); clear HO134; clear HB; have HO134 := n0_; have HO138 := n1_; have HB := n2_; clear n0_ n1_ n2_; (try clear hb); (try clear hb2); (try clear hk); (try clear hi); (try clear ho0); obtain ⟨Ao9, co9, eo9⟩ := Kd.R_slice HO138.out; subst eo9; have p139 : 0 ≤ (0 : Int) := (by omega); have q139 : 0 < (t135.length : Int) := of_decide_eq_true (by first | (with_reducible assumption) | assumption); obtain ⟨ad139, e139, hx139_0⟩ := Kd.at_int (Kd.R_reads' HO138.out).2.2 0 p139 q139; cases e139; have qi139 : (0 < t135.length) = True := eq_true (by omega); (try rw [show ((0 : Int)).toNat = 0 from rfl] at hx139_0); (try rw [Addr.add_zero'] at hx139_0); replace p139 := eq_true p139; replace q139 := eq_true q139))
        go_ret
        exact ⟨by first | rfl | (simp [errW_none, errW_some] <;> rfl) | (simp [*, errW_none, errW_some] <;> rfl), by repeat (first | (with_reducible first | exact HB.out | apply below_alloc | apply pw_below_drewN | apply below_drew1) | exact HB.out)⟩
      · rw [if_neg c4] at H
        exact absurd H (by simp)
    · rw [if_neg c3] at H
      have c3b0 : ((t135.length : Int) == 1) = false := beq_eq_false_iff_ne.mpr c3
      have c3b1 : ((t135.length : Int) != 1) = true := bne_iff_ne.mpr c3
      obtain rfl := Option.some.inj H
      go_enter Try.func6, Try.ntmps6
      go_wp2_with (first | ((with_reducible refine gate_dst (N := 5) rfl ?_); (try (refine gate_guard (by rfl) ?_; dsimp only)); refine Kd.S_lit k27 _ 27 ?hg (N := 5) ?hd (xs := ([(⟨0, 97, ([] : List Int)⟩ : S27)] : List (S27))) (inner := [.int .i64 0, .int .i64 97, .slice none 0 0]) (ok := fun _ => True) (okp := fun _ => True) ?hr ?hp (fun _ hk => hk) trivial (Below.refl _ _) (Nat.le_refl _) (by simp) ?_; (case hd => rfl); (case hg => rfl); (case hr => first | (go_simp; done) | (go_simp; rfl)); (case hp => exact (Reps.c3 (show Kd.M k27 _ _ _ (⟨0, 97, ([] : List Int)⟩ : S27) [.int .i64 0, .int .i64 97, .slice none 0 0] from (k27_mkM _ _ _ (⟨0, 97, ([] : List Int)⟩ : S27) (Kd.R_nil _ _ _ _ _))) (Reps.none _ _))); intro v133 w10 ho11 hb hg_ hnew_; clear hg_ hnew_; (first | rw [← Ny132.out] at ho11 | (simp only [Int.reduceToNat] at ho11; rw [← Ny132.out] at ho11)); have n0_ := Aside0.mk (Kd.S_lower ho11 (below_size (by repeat (first | (with_reducible first | exact HB.out | apply below_alloc | apply pw_below_drewN | apply below_drew1) | exact HB.out)))); have n1_ := Aside0.mk (below_step (by repeat (first | (with_reducible first | exact HB.out | apply below_alloc | apply pw_below_drewN | apply below_drew1) | exact HB.out)) hb); clear HB; have HO134 := n0_; have HB := n1_; clear n0_ n1_; clear hb ho11; obtain ⟨Ao12, co12, eo12⟩ := Kd.S_slice HO134.out; subst eo12) | ((with_reducible refine gate_callee (f := 7) rfl ?_); refine goesL_ (some 6) rfl rfl Try.func7 (by kernel_rfl) rfl #[.slice Ao12 y132.length co12] rfl (by (try simp only [List.map_toArray, List.map_cons, List.map_nil]); first | done | rfl | (simp only [List.length_drop, List.length_take]; rfl)) ?_; (with_reducible refine (impl_Build.calls _ _ y132 t135 true _ ?side1 ?side2 A1.out).mono ?_); (case side1 => repeat (first | exact (Kd.S_reads' HO134.out).2.2 | (with_reducible refine Kd.C_alloc ?_ _) | (with_reducible refine Kd.C_drewN ?_ _) | (with_reducible refine Kd.C_drew ?_))); (case side2 => exact (Kd.S_reads' HO134.out).2.1); rintro e w13 ⟨v137, rfl, ho0, hb⟩; refine ⟨_, rfl, ?_⟩; have n0_ := Aside0.mk (Kd.S_elder' (by (with_reducible repeat (first | apply Kd.S_alloc | apply Kd.S_drewN | apply Kd.S_drew)); exact HO134.out) (Kd.R_base ho0) hb); have n1_ := Aside0.mk (Kd.R_lower ho0 (below_size (by repeat (first | (with_reducible first | exact HB.out | apply below_alloc | apply pw_below_drewN | apply below_drew1) | exact HB.out)))); have n2_ := Aside0.mk (below_step (by repeat (first | (with_reducible first | exact HB.out | apply below_alloc | apply pw_below_drewN | apply below_drew1) | exact HB.out)) hb); clear HO134; clear HB; have HO134 := n0_; have HO138 := n1_; have HB := n2_; clear n0_ n1_ n2_; (try clear hb); (try clear hb2); (try clear hk); (try clear hi); (try clear ho0); obtain ⟨Ao14, co14, eo14⟩ := Kd.R_slice HO138.out; subst eo14))
      go_ret
      exact ⟨by first | rfl | (simp [errW_none, errW_some] <;> rfl) | (simp [*, errW_none, errW_some] <;> rfl), by repeat (first | (with_reducible first | exact HB.out | apply below_alloc | apply pw_below_drewN | apply below_drew1) | exact HB.out)⟩
  · replace c2 := Bool.eq_false_iff.mpr c2
    subst c2
    have H1 : (some false) = some r := by rw [if_neg (show ¬ (false = true) by decide)] at H; exact H
    clear H
    have H := H1
    clear H1
    obtain rfl := Option.some.inj H
    go_enter Try.func6, Try.ntmps6
    go_wp2_with (first | ((with_reducible refine gate_dst (N := 5) rfl ?_); (try (refine gate_guard (by rfl) ?_; dsimp only)); refine Kd.S_lit k27 _ 27 ?hg (N := 5) ?hd (xs := ([(⟨0, 97, ([] : List Int)⟩ : S27)] : List (S27))) (inner := [.int .i64 0, .int .i64 97, .slice none 0 0]) (ok := fun _ => True) (okp := fun _ => True) ?hr ?hp (fun _ hk => hk) trivial (Below.refl _ _) (Nat.le_refl _) (by simp) ?_; (case hd => rfl); (case hg => rfl); (case hr => first | (go_simp; done) | (go_simp; rfl)); (case hp => exact (Reps.c3 (show Kd.M k27 _ _ _ (⟨0, 97, ([] : List Int)⟩ : S27) [.int .i64 0, .int .i64 97, .slice none 0 0] from (k27_mkM _ _ _ (⟨0, 97, ([] : List Int)⟩ : S27) (Kd.R_nil _ _ _ _ _))) (Reps.none _ _))); intro v133 w15 ho16 hb hg_ hnew_; clear hg_ hnew_; (first | rw [← Ny132.out] at ho16 | (simp only [Int.reduceToNat] at ho16; rw [← Ny132.out] at ho16)); have n0_ := Aside0.mk (Kd.S_lower ho16 (below_size (by repeat (first | (with_reducible first | exact HB.out | apply below_alloc | apply pw_below_drewN | apply below_drew1) | exact HB.out)))); have n1_ := Aside0.mk (below_step (by repeat (first | (with_reducible first | exact HB.out | apply below_alloc | apply pw_below_drewN | apply below_drew1) | exact HB.out)) hb); clear HB; have HO134 := n0_; have HB := n1_; clear n0_ n1_; clear hb ho16; obtain ⟨Ao17, co17, eo17⟩ := Kd.S_slice HO134.out; subst eo17) | ((with_reducible refine gate_callee (f := 7) rfl ?_); refine goesL_ (some 6) rfl rfl Try.func7 (by kernel_rfl) rfl #[.slice Ao17 y132.length co17] rfl (by (try simp only [List.map_toArray, List.map_cons, List.map_nil]); first | done | rfl | (simp only [List.length_drop, List.length_take]; rfl)) ?_; (with_reducible refine (impl_Build.calls _ _ y132 t135 false _ ?side1 ?side2 A1.out).mono ?_); (case side1 => repeat (first | exact (Kd.S_reads' HO134.out).2.2 | (with_reducible refine Kd.C_alloc ?_ _) | (with_reducible refine Kd.C_drewN ?_ _) | (with_reducible refine Kd.C_drew ?_))); (case side2 => exact (Kd.S_reads' HO134.out).2.1); rintro e w18 ⟨v137, rfl, ho0, hb⟩; refine ⟨_, rfl, ?_⟩; have n0_ := Aside0.mk (Kd.S_elder' (by (with_reducible repeat (first | apply Kd.S_alloc | apply Kd.S_drewN | apply Kd.S_drew)); exact HO134.out) (Kd.R_base ho0) hb); have n1_ := Aside0.mk (Kd.R_lower ho0 (below_size (by repeat (first | (with_reducible first | exact HB.out | apply below_alloc | apply pw_below_drewN | apply below_drew1) | exact HB.out)))); have n2_ := Aside0.mk (below_step (by repeat (first | (with_reducible first | exact HB.out | apply below_alloc | apply pw_below_drewN | apply below_drew1) | exact HB.out)) hb); clear HO134; clear HB; have HO134 := n0_; have HO138 := n1_; have HB := n2_; clear n0_ n1_ n2_; (try clear hb); (try clear hb2); (try clear hk); (try clear hi); (try clear ho0)))
    go_ret
    exact ⟨by first | rfl | (simp [errW_none, errW_some] <;> rfl) | (simp [*, errW_none, errW_some] <;> rfl), by repeat (first | (with_reducible first | exact HB.out | apply below_alloc | apply pw_below_drewN | apply below_drew1) | exact HB.out)⟩

/-- Bytes, made longer until they are too long. -/
def pad (l : List Int) : List Int := if l.length ≤ 520 then pad (l ++ List.replicate 100 0) else l
termination_by 521 - l.length
decreasing_by simp; omega
theorem pad_long {l : List Int} (h : ¬ l.length ≤ 520) : pad l = l := by rw [pad, if_neg h]
theorem pad_short {l : List Int} (h : l.length ≤ 520) : pad l = pad (l ++ List.replicate 100 0) := by rw [pad, if_pos h]
def tooTail.f (l0 : List S27) (l1 : List Int) (l2 : List S27) : Option (List Int × Bool) := impl_Build.f ((l0 ++ [(⟨1, 0, pad l1⟩ : S27)]) ++ l2)
theorem heap27 : Kd.Heap k27 := Kd.heap_iso _ (Kd.heap_pair (Kd.heap_int _) (Kd.heap_pair (Kd.heap_int _) (Kd.heap_slice _ (Kd.heap_int _))))
/-! ### laws_FnBuildTooMuch: function 3 -/
mutual
def laws_FnBuildTooMuch.j0 : Nat → List (S27) → List Int → List (S27) → Bool → Option (Bool)
  | 0, _, _, _, _ => none
  | k + 1, x0, x1, x2, x24 => if x24 = true then (some true) else ((laws_awakeBuild.f).bind fun t142 => (if t142 = true then (if (x0.length : Int) > 100 then (laws_FnBuildTooMuch.j1 k x0 x1 x2 true) else (if (x2.length : Int) > 100 then (laws_FnBuildTooMuch.j1 k x0 x1 x2 true) else (laws_FnBuildTooMuch.j1 k x0 x1 x2 (decide ((x1.length : Int) > 100000))))) else (some false)))
def laws_FnBuildTooMuch.j1 : Nat → List (S27) → List Int → List (S27) → Bool → Option (Bool)
  | 0, _, _, _, _ => none
  | k + 1, x0, x1, x2, x39 => if x39 = true then (some true) else (laws_FnBuildTooMuch.l0 k x0 x1 x2 0)
def laws_FnBuildTooMuch.l0 : Nat → List (S27) → List Int → List (S27) → Int → Option (Bool)
  | 0, _, _, _, _ => none
  | k + 1, x0, x1, x2, x7 => if x7 < (wrap64 ((x0.length : Int) + (x2.length : Int))) then (if x7 < (x0.length : Int) then (if 0 ≤ x7 then (if ((rd_T27 x0 x7).f0) < 0 then (some true) else (if ((rd_T27 x0 x7).f0) > 2 then (some true) else (if ((rd_T27 x0 x7).f1) = (-9223372036854775808) then (some true) else (if ((rd_T27 x0 x7).f0) = 0 then (if ((rd_T27 x0 x7).f1) < 0 then (some true) else (if ((rd_T27 x0 x7).f1) > 255 then (some true) else (if (((rd_T27 x0 x7).f2).length : Int) > 520 then (some true) else (laws_FnBuildTooMuch.l0 k x0 x1 x2 (wrap64 (x7 + 1)))))) else (if (((rd_T27 x0 x7).f2).length : Int) > 520 then (some true) else (laws_FnBuildTooMuch.l0 k x0 x1 x2 (wrap64 (x7 + 1)))))))) else (none)) else (if 0 ≤ (wrap64 (x7 - (x0.length : Int))) then (if (wrap64 (x7 - (x0.length : Int))) < (x2.length : Int) then (if ((rd_T27 x2 (wrap64 (x7 - (x0.length : Int)))).f0) < 0 then (some true) else (if ((rd_T27 x2 (wrap64 (x7 - (x0.length : Int)))).f0) > 2 then (some true) else (if ((rd_T27 x2 (wrap64 (x7 - (x0.length : Int)))).f1) = (-9223372036854775808) then (some true) else (if ((rd_T27 x2 (wrap64 (x7 - (x0.length : Int)))).f0) = 0 then (if ((rd_T27 x2 (wrap64 (x7 - (x0.length : Int)))).f1) < 0 then (some true) else (if ((rd_T27 x2 (wrap64 (x7 - (x0.length : Int)))).f1) > 255 then (some true) else (if (((rd_T27 x2 (wrap64 (x7 - (x0.length : Int)))).f2).length : Int) > 520 then (some true) else (laws_FnBuildTooMuch.l0 k x0 x1 x2 (wrap64 (x7 + 1)))))) else (if (((rd_T27 x2 (wrap64 (x7 - (x0.length : Int)))).f2).length : Int) > 520 then (some true) else (laws_FnBuildTooMuch.l0 k x0 x1 x2 (wrap64 (x7 + 1)))))))) else (none)) else (none))) else ((impl_copied.f x1).bind fun t143 => ((tooTail.f x0 x1 x2).bind fun bt146 => (some (!bt146.2))))
end
def laws_FnBuildTooMuch.f (k : Nat) (l0 : List (S27)) (l1 : List Int) (l2 : List (S27)) : Option (Bool) := (laws_zzFits18.f k l0).bind fun t140 => (if t140 = true then (if (l1.length : Int) > 2147483647 then (laws_FnBuildTooMuch.j0 k l0 l1 l2 true) else ((laws_zzFits18.f k l2).bind fun t141 => (laws_FnBuildTooMuch.j0 k l0 l1 l2 (!t141)))) else (laws_FnBuildTooMuch.j0 k l0 l1 l2 true))
theorem laws_FnBuildTooMuch.mono_l : ∀ k, (∀ y0 y1 y2 y3, LeO (laws_FnBuildTooMuch.j0 k y0 y1 y2 y3) (laws_FnBuildTooMuch.j0 (k + 1) y0 y1 y2 y3)) ∧ (∀ y0 y1 y2 y3, LeO (laws_FnBuildTooMuch.j1 k y0 y1 y2 y3) (laws_FnBuildTooMuch.j1 (k + 1) y0 y1 y2 y3)) ∧ (∀ y0 y1 y2 y3, LeO (laws_FnBuildTooMuch.l0 k y0 y1 y2 y3) (laws_FnBuildTooMuch.l0 (k + 1) y0 y1 y2 y3))
  | 0 => ⟨fun _ _ _ _ r h => by simp [laws_FnBuildTooMuch.j0] at h, fun _ _ _ _ r h => by simp [laws_FnBuildTooMuch.j1] at h, fun _ _ _ _ r h => by simp [laws_FnBuildTooMuch.l0] at h⟩
  | k + 1 => by
    obtain ⟨ih0, ih1, ih2⟩ := laws_FnBuildTooMuch.mono_l k
    refine ⟨?_, ?_, ?_⟩
    · intro y0 y1 y2 y3
      unfold laws_FnBuildTooMuch.j0
      repeat' first
      | (with_reducible exact ih0 _ _ _ _)
      | (with_reducible exact ih1 _ _ _ _)
      | (with_reducible exact ih2 _ _ _ _)
      | (with_reducible exact laws_zzFits18.mono _ _)
      | (with_reducible exact LeO.refl _)
      | (with_reducible exact LeO.none _)
      | (with_reducible refine LeO.ite ?_ ?_)
      | (with_reducible refine LeO.bind ?_ (fun _ => ?_))
      | exact ih0 _ _ _ _
      | exact ih1 _ _ _ _
      | exact ih2 _ _ _ _
      | exact laws_zzFits18.mono _ _
      | exact LeO.none _
      | refine LeO.ite ?_ ?_
      | refine LeO.bind ?_ (fun _ => ?_)
    · intro y0 y1 y2 y3
      unfold laws_FnBuildTooMuch.j1
      repeat' first
      | (with_reducible exact ih0 _ _ _ _)
      | (with_reducible exact ih1 _ _ _ _)
      | (with_reducible exact ih2 _ _ _ _)
      | (with_reducible exact laws_zzFits18.mono _ _)
      | (with_reducible exact LeO.refl _)
      | (with_reducible exact LeO.none _)
      | (with_reducible refine LeO.ite ?_ ?_)
      | (with_reducible refine LeO.bind ?_ (fun _ => ?_))
      | exact ih0 _ _ _ _
      | exact ih1 _ _ _ _
      | exact ih2 _ _ _ _
      | exact laws_zzFits18.mono _ _
      | exact LeO.none _
      | refine LeO.ite ?_ ?_
      | refine LeO.bind ?_ (fun _ => ?_)
    · intro y0 y1 y2 y3
      unfold laws_FnBuildTooMuch.l0
      repeat' first
      | (with_reducible exact ih0 _ _ _ _)
      | (with_reducible exact ih1 _ _ _ _)
      | (with_reducible exact ih2 _ _ _ _)
      | (with_reducible exact laws_zzFits18.mono _ _)
      | (with_reducible exact LeO.refl _)
      | (with_reducible exact LeO.none _)
      | (with_reducible refine LeO.ite ?_ ?_)
      | (with_reducible refine LeO.bind ?_ (fun _ => ?_))
      | exact ih0 _ _ _ _
      | exact ih1 _ _ _ _
      | exact ih2 _ _ _ _
      | exact laws_zzFits18.mono _ _
      | exact LeO.none _
      | refine LeO.ite ?_ ?_
      | refine LeO.bind ?_ (fun _ => ?_)
theorem laws_FnBuildTooMuch.mono : ∀ a0 a1 a2 k, LeO (laws_FnBuildTooMuch.f k a0 a1 a2) (laws_FnBuildTooMuch.f (k + 1) a0 a1 a2) := by
  intro a0 a1 a2 k
  obtain ⟨ih0, ih1, ih2⟩ := laws_FnBuildTooMuch.mono_l k
  unfold laws_FnBuildTooMuch.f
  repeat' first
      | (with_reducible exact ih0 _ _ _ _)
      | (with_reducible exact ih1 _ _ _ _)
      | (with_reducible exact ih2 _ _ _ _)
      | (with_reducible exact laws_zzFits18.mono _ _)
      | (with_reducible exact LeO.refl _)
      | (with_reducible exact LeO.none _)
      | (with_reducible refine LeO.ite ?_ ?_)
      | (with_reducible refine LeO.bind ?_ (fun _ => ?_))
      | exact ih0 _ _ _ _
      | exact ih1 _ _ _ _
      | exact ih2 _ _ _ _
      | exact laws_zzFits18.mono _ _
      | exact LeO.none _
      | refine LeO.ite ?_ ?_
      | refine LeO.bind ?_ (fun _ => ?_)
end Go.Proofs.Ytdmpjoglejnpbab.QFnBuilt
