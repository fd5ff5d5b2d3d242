/- Printed functions over contracts that were proved by hand. -/
import Derived.Test.YtbbeedclkfcmeaaDoorRb4
namespace Go.Proofs.YtbbeedclkfcmeaaDoor.KFnReadBech32
open Go.RowKit Go.Proofs.YtbbeedclkfcmeaaDoorW.PrintWords Go.Proofs.YtbbeedclkfcmeaaDoorW.PrintLast Go.Proofs.YtbbeedclkfcmeaaDoorW.PrintMore Go.Proofs.YtbbeedclkfcmeaaDoor.Snk
attribute [local go_sem] nn_mod256 nn_mod65536 nn_mod32 max2_int min2_int max_two min_two max_three min_three max_four min_four   -- for this text's walks alone
set_option linter.unusedVariables false
set_option linter.unusedSimpArgs false
/-! ### bech32_DecodeGeneric: function 12 -/
def bech32_DecodeGeneric.f (k : Nat) (a0 : ByteArray) : Option (ByteArray × List Int × Int × Option (Nat × Value)) := if (a0.size : Int) > 90 then (some ((⟨#[]⟩ : ByteArray), ([] : List Int), 2, some (42, .int .i64 (a0.size : Int)))) else ((bech32_DecodeNoLimitWithVersion.f k a0).bind fun bt165 => (some (bt165.1, bt165.2.1, bt165.2.2.1, bt165.2.2.2)))
theorem bech32_DecodeGeneric.mono : ∀ a0 k, LeO (bech32_DecodeGeneric.f k a0) (bech32_DecodeGeneric.f (k + 1) a0) := by
  intro a0 k
  unfold bech32_DecodeGeneric.f
  repeat' first
      | (with_reducible exact bech32_DecodeNoLimitWithVersion.mono _ _)
      | (with_reducible exact LeO.refl _)
      | (with_reducible exact LeO.none _)
      | (with_reducible refine LeO.ite ?_ ?_)
      | (with_reducible refine LeO.bind ?_ (fun _ => ?_))
      | exact bech32_DecodeNoLimitWithVersion.mono _ _
      | exact LeO.none _
      | refine LeO.ite ?_ ?_
      | refine LeO.bind ?_ (fun _ => ?_)
set_option maxHeartbeats 8000000 in
set_option maxRecDepth 100000 in
theorem bech32_DecodeGeneric.calls (k : Nat) (a0 : ByteArray) (r1 : ByteArray) (r2 : List Int) (r3 : Int) (r4 : Option (Nat × Value)) (w : World) (h : bech32_DecodeGeneric.f k a0 = some (r1, r2, r3, r4)) (HG0 : GenS w) :
    Calls Tryd.prog 12 #[.string a0] w fun e w' => ∃ v1_ ev_ : Value, e = .returned (.tuple #[.string r1, v1_, .int .u8 r3, ev_]) ∧ ErrIs r4 ev_ ∧ Kd.R (Kd.int .u8) 5 w' w.heap.size (fun _ => True) v1_ r2 ∧ Below w.heap.size w w' := by
  have hu36 := Tryd.underlying36
  have hu42 := Tryd.underlying42
  have HB := Aside0.mk (Below.refl w.heap.size w)
  have H : (if (a0.size : Int) > 90 then (some ((⟨#[]⟩ : ByteArray), ([] : List Int), 2, some (42, .int .i64 (a0.size : Int)))) else ((bech32_DecodeNoLimitWithVersion.f k a0).bind fun bt165 => (some (bt165.1, bt165.2.1, bt165.2.2.1, bt165.2.2.2)))) = some (r1, r2, r3, r4) := h
  clear h
  by_cases c2 : (a0.size : Int) > 90
  · rw [if_pos c2] at H
    have c2b0 : decide (90 < (a0.size : Int)) = true := decide_eq_true c2
    have c2b1 : decide (90 < a0.size) = true := decide_eq_true (by omega)
    clear c2
    simp only [Option.some.injEq, Prod.mk.injEq] at H
    obtain ⟨rfl, rfl, rfl, rfl⟩ := H
    go_enter Tryd.func12, Tryd.ntmps12
    go_wp2
    refine bodyPost_ret (results_list (rs := [.tmp 2, .tmp 3, .tmp 4, .tmp 5]) rfl (by simp) (.tmp (.tmp (.tmp (.tmp .nil))))) rfl ?_
    exact ⟨_, _, by first | rfl | (simp [errW_none, errW_some] <;> rfl) | (simp [*, errW_none, errW_some] <;> rfl), by first | exact HE_.out | exact (rfl : _ = Value.nilIface) | exact ⟨_, _, rfl⟩, by first | exact Kd.R_nil _ _ _ _ _ | exact Kd.N_nil _ _ _ _ _ | exact Kd.V_nil _ _ _ _ _ | exact Kd.Q_nil _ _ _ _ _ | exact Kd.S_nil _ _ _ _ _, by repeat (first | (with_reducible first | exact HB.out | apply below_alloc | apply pw_below_drewN | apply below_drew1) | exact HB.out)⟩
  · rw [if_neg c2] at H
    have c2b0 : decide (90 < (a0.size : Int)) = false := decide_eq_false c2
    have c2b1 : decide (90 < a0.size) = false := decide_eq_false (by omega)
    clear c2
    replace H := Option.bind_eq_some_iff.mp H
    obtain ⟨⟨t165, t166, t167, t168⟩, A30, H⟩ := H
    replace H : (some (t165, t166, t167, t168)) = some (r1, r2, r3, r4) := H
    have A3 := Aside0.mk A30
    clear A30
    simp only [Option.some.injEq, Prod.mk.injEq] at H
    obtain ⟨rfl, rfl, rfl, rfl⟩ := H
    go_enter Tryd.func12, Tryd.ntmps12
    go_wp2_with (first | ((with_reducible refine gate_callee (f := 14) rfl ?_); refine goesL_ (some 13) rfl rfl Tryd.func14 (by kernel_rfl) rfl #[.string a0] rfl (by (try simp only [List.map_toArray, List.map_cons, List.map_nil]); first | done | rfl | (simp only [List.length_drop, List.length_take]; rfl)) ?_; (with_reducible refine (bech32_DecodeNoLimitWithVersion.calls k a0 t165 t166 t167 t168 _ A3.out (by first | exact HG0 | exact HG0.drawn ⟨⟨_, rfl⟩⟩ | exact HG0.below (by repeat (first | (with_reducible first | exact HB.out | apply below_alloc | apply pw_below_drewN | apply below_drew1) | exact HB.out)))).mono ?_); rintro e w4 ⟨v169, ev_, rfl, he_, ho0, hb⟩; (first | (have he2_ : ev_ = .nilIface := he_; subst he2_) | (obtain ⟨te_, xe_, rfl⟩ := he_) | (have HE_ := Aside0.mk he_; clear he_)); refine ⟨_, rfl, ?_⟩; have n0_ := Aside0.mk (Kd.R_lower ho0 (below_size (by repeat (first | (with_reducible first | exact HB.out | apply below_alloc | apply pw_below_drewN | apply below_drew1) | exact HB.out)))); have n1_ := Aside0.mk (below_step (by repeat (first | (with_reducible first | exact HB.out | apply below_alloc | apply pw_below_drewN | apply below_drew1) | exact HB.out)) hb); clear HB; have HO170 := n0_; have HB := n1_; clear n0_ n1_; (try clear hb); (try clear hb2); (try clear hk); (try clear hi); (try clear ho0); (try simp only [errW_none, errW_some])))
    refine bodyPost_ret (results_list (rs := [.tmp 2, .tmp 3, .tmp 4, .tmp 5]) rfl (by simp) (.tmp (.tmp (.tmp (.tmp .nil))))) rfl ?_
    exact ⟨_, _, by first | rfl | (simp [errW_none, errW_some] <;> rfl) | (simp [*, errW_none, errW_some] <;> rfl), by first | exact HE_.out | exact (rfl : _ = Value.nilIface) | exact ⟨_, _, rfl⟩, by (with_reducible repeat (first | apply Kd.R_alloc | apply Kd.R_drewN | apply Kd.R_drew)); exact HO170.out, by repeat (first | (with_reducible first | exact HB.out | apply below_alloc | apply pw_below_drewN | apply below_drew1) | exact HB.out)⟩

/-! ### impl_ReadBech32: function 5 -/
def impl_ReadBech32.f (k : Nat) (a0 : ByteArray) : Option (ByteArray × List Int × Bool × Int) := (bech32_DecodeGeneric.f k a0).bind fun bt177 => (if bt177.2.2.2.isNone = true then ((impl_copied.f bt177.2.1).bind fun t184 => (some (bt177.1, t184, (bt177.2.2.1 == 1), 0))) else (some ((⟨#[]⟩ : ByteArray), ([] : List Int), false, 1)))
theorem impl_ReadBech32.mono : ∀ a0 k, LeO (impl_ReadBech32.f k a0) (impl_ReadBech32.f (k + 1) a0) := by
  intro a0 k
  unfold impl_ReadBech32.f
  repeat' first
      | (with_reducible exact bech32_DecodeGeneric.mono _ _)
      | (with_reducible exact LeO.refl _)
      | (with_reducible exact LeO.none _)
      | (with_reducible refine LeO.ite ?_ ?_)
      | (with_reducible refine LeO.bind ?_ (fun _ => ?_))
      | exact bech32_DecodeGeneric.mono _ _
      | exact LeO.none _
      | refine LeO.ite ?_ ?_
      | refine LeO.bind ?_ (fun _ => ?_)
set_option maxHeartbeats 8000000 in
set_option maxRecDepth 100000 in
theorem impl_ReadBech32.calls (k : Nat) (a0 : ByteArray) (r1 : ByteArray) (r2 : List Int) (r3 : Bool) (r4 : Int) (w : World) (h : impl_ReadBech32.f k a0 = some (r1, r2, r3, r4)) (HG0 : GenS w) :
    Calls Tryd.prog 5 #[.string a0] w fun e w' => ∃ v1_ : Value, e = .returned (.tuple #[.string r1, v1_, .bool r3, .int .i64 r4]) ∧ Kd.R (Kd.int .u8) 5 w' w.heap.size (fun _ => True) v1_ r2 ∧ Below w.heap.size w w' := by
  have hu36 := Tryd.underlying36
  have hu42 := Tryd.underlying42
  have HB := Aside0.mk (Below.refl w.heap.size w)
  have H : ((bech32_DecodeGeneric.f k a0).bind fun bt177 => (if bt177.2.2.2.isNone = true then ((impl_copied.f bt177.2.1).bind fun t184 => (some (bt177.1, t184, (bt177.2.2.1 == 1), 0))) else (some ((⟨#[]⟩ : ByteArray), ([] : List Int), false, 1)))) = some (r1, r2, r3, r4) := h
  clear h
  replace H := Option.bind_eq_some_iff.mp H
  obtain ⟨⟨t177, t178, t179, t180⟩, A20, H⟩ := H
  replace H : (if t180.isNone = true then ((impl_copied.f t178).bind fun t184 => (some (t177, t184, (t179 == 1), 0))) else (some ((⟨#[]⟩ : ByteArray), ([] : List Int), false, 1))) = some (r1, r2, r3, r4) := H
  have A2 := Aside0.mk A20
  clear A20
  rcases t180 with _ | q183
  · have H1 : ((impl_copied.f t178).bind fun t184 => (some (t177, t184, (t179 == 1), 0))) = some (r1, r2, r3, r4) := by rw [if_pos (show (none : Option (Nat × Value)).isNone = true by rfl)] at H; exact H
    clear H
    have H := H1
    clear H1
    try simp only [errW_none, errW_some]
    replace H := Option.bind_eq_some_iff.mp H
    obtain ⟨t184, A30, H⟩ := H
    replace H : (some (t177, t184, (t179 == 1), 0)) = some (r1, r2, r3, r4) := H
    have A3 := Aside0.mk A30
    clear A30
    simp only [Option.some.injEq, Prod.mk.injEq] at H
    obtain ⟨rfl, rfl, rfl, rfl⟩ := H
    go_enter Tryd.func5, Tryd.ntmps5
    go_wp2_with (first | ((with_reducible refine gate_callee (f := 12) rfl ?_); refine goesL_ (some 12) rfl rfl Tryd.func12 (by kernel_rfl) rfl #[.string a0] rfl (by (try simp only [List.map_toArray, List.map_cons, List.map_nil]); first | done | rfl | (simp only [List.length_drop, List.length_take]; rfl)) ?_; (with_reducible refine (bech32_DecodeGeneric.calls k a0 t177 t178 t179 none _ A2.out (by first | exact HG0 | exact HG0.drawn ⟨⟨_, rfl⟩⟩ | exact HG0.below (by repeat (first | (with_reducible first | exact HB.out | apply below_alloc | apply pw_below_drewN | apply below_drew1) | exact HB.out)))).mono ?_); rintro e w4 ⟨v181, ev_, rfl, he_, ho0, hb⟩; (first | (have he2_ : ev_ = .nilIface := he_; subst he2_) | (obtain ⟨te_, xe_, rfl⟩ := he_) | (have HE_ := Aside0.mk he_; clear he_)); refine ⟨_, rfl, ?_⟩; have n0_ := Aside0.mk (Kd.R_lower ho0 (below_size (by repeat (first | (with_reducible first | exact HB.out | apply below_alloc | apply pw_below_drewN | apply below_drew1) | exact HB.out)))); have n1_ := Aside0.mk (below_step (by repeat (first | (with_reducible first | exact HB.out | apply below_alloc | apply pw_below_drewN | apply below_drew1) | exact HB.out)) hb); clear HB; have HO182 := n0_; have HB := n1_; clear n0_ n1_; (try clear hb); (try clear hb2); (try clear hk); (try clear hi); (try clear ho0); (try simp only [errW_none, errW_some]); obtain ⟨Ao5, co5, eo5⟩ := Kd.R_slice HO182.out; subst eo5) | ((with_reducible refine gate_callee (f := 13) rfl ?_); refine goesL_ (some 21) rfl rfl Tryd.func13 (by kernel_rfl) rfl #[.slice Ao5 t178.length co5] rfl (by (try simp only [List.map_toArray, List.map_cons, List.map_nil]); first | done | rfl | (simp only [List.length_drop, List.length_take]; rfl)) ?_; (with_reducible refine (impl_copied.calls _ _ t178 t184 _ ?side1 ?side2 A3.out).mono ?_); (case side1 => repeat (first | exact (Kd.R_reads' HO182.out).2.2 | (with_reducible refine Kd.C_alloc ?_ _) | (with_reducible refine Kd.C_drewN ?_ _) | (with_reducible refine Kd.C_drew ?_))); (case side2 => exact (Kd.R_reads' HO182.out).2.1); rintro e w6 ⟨v185, rfl, ho0, hb⟩; refine ⟨_, rfl, ?_⟩; have n0_ := Aside0.mk (Kd.R_elder' (by (with_reducible repeat (first | apply Kd.R_alloc | apply Kd.R_drewN | apply Kd.R_drew)); exact HO182.out) (Kd.R_base ho0) hb); have n1_ := Aside0.mk (Kd.R_lower (Kd.R_new' ho0 (Kd.R_lt (by (with_reducible repeat (first | apply Kd.R_alloc | apply Kd.R_drewN | apply Kd.R_drew)); exact HO182.out))) (below_size (by repeat (first | (with_reducible first | exact HB.out | apply below_alloc | apply pw_below_drewN | apply below_drew1) | exact HB.out)))); have n2_ := Aside0.mk (below_step (by repeat (first | (with_reducible first | exact HB.out | apply below_alloc | apply pw_below_drewN | apply below_drew1) | exact HB.out)) hb); clear HO182; clear HB; have HO182 := n0_; have HO186 := n1_; have HB := n2_; clear n0_ n1_ n2_; (try clear hb); (try clear hb2); (try clear hk); (try clear hi); (try clear ho0)))
    refine bodyPost_ret (results_list (rs := [.tmp 2, .tmp 3, .tmp 4, .tmp 5]) rfl (by simp) (.tmp (.tmp (.tmp (.tmp .nil))))) rfl ?_
    exact ⟨_, by first | rfl | (simp [errW_none, errW_some] <;> rfl) | (simp [*, errW_none, errW_some] <;> rfl), by (with_reducible repeat (first | apply Kd.R_alloc | apply Kd.R_drewN | apply Kd.R_drew)); exact Kd.R_mono HO186.out (fun _ hk => trivial), by repeat (first | (with_reducible first | exact HB.out | apply below_alloc | apply pw_below_drewN | apply below_drew1) | exact HB.out)⟩
  · have H1 : (some ((⟨#[]⟩ : ByteArray), ([] : List Int), false, 1)) = some (r1, r2, r3, r4) := by rw [if_neg (show ¬ (some q183).isNone = true by simp)] at H; exact H
    clear H
    have H := H1
    clear H1
    try simp only [errW_none, errW_some]
    simp only [Option.some.injEq, Prod.mk.injEq] at H
    obtain ⟨rfl, rfl, rfl, rfl⟩ := H
    go_enter Tryd.func5, Tryd.ntmps5
    go_wp2_with (first | ((with_reducible refine gate_callee (f := 12) rfl ?_); refine goesL_ (some 12) rfl rfl Tryd.func12 (by kernel_rfl) rfl #[.string a0] rfl (by (try simp only [List.map_toArray, List.map_cons, List.map_nil]); first | done | rfl | (simp only [List.length_drop, List.length_take]; rfl)) ?_; (with_reducible refine (bech32_DecodeGeneric.calls k a0 t177 t178 t179 (some q183) _ A2.out (by first | exact HG0 | exact HG0.drawn ⟨⟨_, rfl⟩⟩ | exact HG0.below (by repeat (first | (with_reducible first | exact HB.out | apply below_alloc | apply pw_below_drewN | apply below_drew1) | exact HB.out)))).mono ?_); rintro e w7 ⟨v181, ev_, rfl, he_, ho0, hb⟩; (first | (have he2_ : ev_ = .nilIface := he_; subst he2_) | (obtain ⟨te_, xe_, rfl⟩ := he_) | (have HE_ := Aside0.mk he_; clear he_)); refine ⟨_, rfl, ?_⟩; have n0_ := Aside0.mk (Kd.R_lower ho0 (below_size (by repeat (first | (with_reducible first | exact HB.out | apply below_alloc | apply pw_below_drewN | apply below_drew1) | exact HB.out)))); have n1_ := Aside0.mk (below_step (by repeat (first | (with_reducible first | exact HB.out | apply below_alloc | apply pw_below_drewN | apply below_drew1) | exact HB.out)) hb); clear HB; have HO182 := n0_; have HB := n1_; clear n0_ n1_; (try clear hb); (try clear hb2); (try clear hk); (try clear hi); (try clear ho0); (try simp only [errW_none, errW_some])))
    refine bodyPost_ret (results_list (rs := [.tmp 2, .tmp 3, .tmp 4, .tmp 5]) rfl (by simp) (.tmp (.tmp (.tmp (.tmp .nil))))) rfl ?_
    exact ⟨_, by first | rfl | (simp [errW_none, errW_some] <;> rfl) | (simp [*, errW_none, errW_some] <;> rfl), by first | exact Kd.R_nil _ _ _ _ _ | exact Kd.N_nil _ _ _ _ _ | exact Kd.V_nil _ _ _ _ _ | exact Kd.Q_nil _ _ _ _ _ | exact Kd.S_nil _ _ _ _ _, by repeat (first | (with_reducible first | exact HB.out | apply below_alloc | apply pw_below_drewN | apply below_drew1) | exact HB.out)⟩

/-! ### laws_FnReadBech32: function 3 -/
def laws_FnReadBech32.f (k : Nat) (a0 : ByteArray) : Option (Bool) := if (a0.size : Int) > 2147483647 then (some true) else (if (a0.size : Int) > 400 then (some true) else ((spec_ReadBech32.f k a0 90).bind fun bt189 => ((impl_ReadBech32.f k a0).bind fun bt195 => (if ((bt195.2.2.2 == 0) == bt189.2.2.2) = true then (if bt189.2.2.2 = true then (if bt195.1.toList = bt189.1.toList then ((laws_same.f k bt195.2.1 bt189.2.1).bind fun t201 => (if t201 = true then (some (bt195.2.2.1 == (bt189.2.2.1 == 734539939))) else (some false))) else (some false)) else (some true)) else (some false)))))
theorem laws_FnReadBech32.mono : ∀ a0 k, LeO (laws_FnReadBech32.f k a0) (laws_FnReadBech32.f (k + 1) a0) := by
  intro a0 k
  unfold laws_FnReadBech32.f
  repeat' first
      | (with_reducible exact impl_ReadBech32.mono _ _)
      | (with_reducible exact laws_same.mono _ _ _)
      | (with_reducible exact spec_ReadBech32.mono _ _ _)
      | (with_reducible exact LeO.refl _)
      | (with_reducible exact LeO.none _)
      | (with_reducible refine LeO.ite ?_ ?_)
      | (with_reducible refine LeO.bind ?_ (fun _ => ?_))
      | exact impl_ReadBech32.mono _ _
      | exact laws_same.mono _ _ _
      | exact spec_ReadBech32.mono _ _ _
      | exact LeO.none _
      | refine LeO.ite ?_ ?_
      | refine LeO.bind ?_ (fun _ => ?_)
set_option maxHeartbeats 8000000 in
set_option maxRecDepth 100000 in
theorem laws_FnReadBech32.calls (k : Nat) (a0 : ByteArray) (r : Bool) (w : World) (h : laws_FnReadBech32.f k a0 = some r) (HG0 : GenS w) :
    Calls Tryd.prog 3 #[.string a0] w fun e w' => e = .returned (.bool r) ∧ Below w.heap.size w w' := by
  have HB := Aside0.mk (Below.refl w.heap.size w)
  have H : (if (a0.size : Int) > 2147483647 then (some true) else (if (a0.size : Int) > 400 then (some true) else ((spec_ReadBech32.f k a0 90).bind fun bt189 => ((impl_ReadBech32.f k a0).bind fun bt195 => (if ((bt195.2.2.2 == 0) == bt189.2.2.2) = true then (if bt189.2.2.2 = true then (if bt195.1.toList = bt189.1.toList then ((laws_same.f k bt195.2.1 bt189.2.1).bind fun t201 => (if t201 = true then (some (bt195.2.2.1 == (bt189.2.2.1 == 734539939))) else (some false))) else (some false)) else (some true)) else (some false)))))) = some r := h
  clear h
  by_cases c2 : (a0.size : Int) > 2147483647
  · rw [if_pos c2] at H
    have c2b0 : decide (2147483647 < (a0.size : Int)) = true := decide_eq_true c2
    have c2b1 : decide (2147483647 < a0.size) = true := decide_eq_true (by omega)
    clear c2
    obtain rfl := Option.some.inj H
    go_enter Tryd.func3, Tryd.ntmps3
    go_wp2
    go_ret
    exact ⟨by first | rfl | (simp [errW_none, errW_some] <;> rfl) | (simp [*, errW_none, errW_some] <;> rfl), by repeat (first | (with_reducible first | exact HB.out | apply below_alloc | apply pw_below_drewN | apply below_drew1) | exact HB.out)⟩
  · rw [if_neg c2] at H
    have c2b0 : decide (2147483647 < (a0.size : Int)) = false := decide_eq_false c2
    have c2b1 : decide (2147483647 < a0.size) = false := decide_eq_false (by omega)
    clear c2
    by_cases c3 : (a0.size : Int) > 400
    · rw [if_pos c3] at H
      have c3b0 : decide (400 < (a0.size : Int)) = true := decide_eq_true c3
      have c3b1 : decide (400 < a0.size) = true := decide_eq_true (by omega)
      clear c3
      obtain rfl := Option.some.inj H
      go_enter Tryd.func3, Tryd.ntmps3
      go_wp2
      go_ret
      exact ⟨by first | rfl | (simp [errW_none, errW_some] <;> rfl) | (simp [*, errW_none, errW_some] <;> rfl), by repeat (first | (with_reducible first | exact HB.out | apply below_alloc | apply pw_below_drewN | apply below_drew1) | exact HB.out)⟩
    · rw [if_neg c3] at H
      have c3b0 : decide (400 < (a0.size : Int)) = false := decide_eq_false c3
      have c3b1 : decide (400 < a0.size) = false := decide_eq_false (by omega)
      clear c3
      replace H := Option.bind_eq_some_iff.mp H
      obtain ⟨⟨t189, t190, t191, t192⟩, A40, H⟩ := H
      replace H : ((impl_ReadBech32.f k a0).bind fun bt195 => (if ((bt195.2.2.2 == 0) == t192) = true then (if t192 = true then (if bt195.1.toList = t189.toList then ((laws_same.f k bt195.2.1 t190).bind fun t201 => (if t201 = true then (some (bt195.2.2.1 == (t191 == 734539939))) else (some false))) else (some false)) else (some true)) else (some false))) = some r := H
      have A4 := Aside0.mk A40
      clear A40
      replace H := Option.bind_eq_some_iff.mp H
      obtain ⟨⟨t195, t196, t197, t198⟩, A50, H⟩ := H
      replace H : (if ((t198 == 0) == t192) = true then (if t192 = true then (if t195.toList = t189.toList then ((laws_same.f k t196 t190).bind fun t201 => (if t201 = true then (some (t197 == (t191 == 734539939))) else (some false))) else (some false)) else (some true)) else (some false)) = some r := H
      have A5 := Aside0.mk A50
      clear A50
      by_cases c6 : ((t198 == 0) == t192) = true
      · rw [if_pos c6] at H
        have c6b0 : ((t198 == 0) == t192) = true := c6
        (try (have c6b1 : decide ((t198 == 0) = t192) = true := by simpa using c6))
        (try (have c6b2 : ((t198 == 0) == t192) = true := by simpa using c6))
        clear c6
        by_cases c7 : t192 = true
        · subst c7
          have H1 : (if t195.toList = t189.toList then ((laws_same.f k t196 t190).bind fun t201 => (if t201 = true then (some (t197 == (t191 == 734539939))) else (some false))) else (some false)) = some r := by rw [if_pos rfl] at H; exact H
          clear H
          have H := H1
          clear H1
          by_cases c8 : t195.toList = t189.toList
          · rw [if_pos c8] at H
            have c8b0 : (t195.toList == t189.toList) = true := beq_iff_eq.mpr c8
            have c8b1 : (t195.toList != t189.toList) = false := bne_eq_false_iff_eq.mpr c8
            clear c8
            replace H := Option.bind_eq_some_iff.mp H
            obtain ⟨t201, A90, H⟩ := H
            replace H : (if t201 = true then (some (t197 == (t191 == 734539939))) else (some false)) = some r := H
            have A9 := Aside0.mk A90
            clear A90
            by_cases c10 : t201 = true
            · subst c10
              have H1 : (some (t197 == (t191 == 734539939))) = some r := by rw [if_pos rfl] at H; exact H
              clear H
              have H := H1
              clear H1
              obtain rfl := Option.some.inj H
              go_enter Tryd.func3, Tryd.ntmps3
              go_wp2_with (first | ((with_reducible refine gate_callee (f := 4) rfl ?_); refine goesL_ (some 19) rfl rfl Tryd.func4 (by kernel_rfl) rfl #[.string a0, .int .i64 90] rfl (by (try simp only [List.map_toArray, List.map_cons, List.map_nil]); first | done | rfl | (simp only [List.length_drop, List.length_take]; rfl)) ?_; (with_reducible refine (spec_ReadBech32.calls k a0 90 t189 t190 t191 true _ A4.out).mono ?_); rintro e w11 ⟨v193, rfl, ho0, hb⟩; refine ⟨_, rfl, ?_⟩; have n0_ := Aside0.mk (Kd.R_lower ho0 (below_size (by repeat (first | (with_reducible first | exact HB.out | apply below_alloc | apply pw_below_drewN | apply below_drew1) | exact HB.out)))); have n1_ := Aside0.mk (below_step (by repeat (first | (with_reducible first | exact HB.out | apply below_alloc | apply pw_below_drewN | apply below_drew1) | exact HB.out)) hb); clear HB; have HO194 := n0_; have HB := n1_; clear n0_ n1_; (try clear hb); (try clear hb2); (try clear hk); (try clear hi); (try clear ho0)) | ((with_reducible refine gate_callee (f := 5) rfl ?_); refine goesL_ (some 26) rfl rfl Tryd.func5 (by kernel_rfl) rfl #[.string a0] rfl (by (try simp only [List.map_toArray, List.map_cons, List.map_nil]); first | done | rfl | (simp only [List.length_drop, List.length_take]; rfl)) ?_; (with_reducible refine (impl_ReadBech32.calls k a0 t195 t196 t197 t198 _ A5.out (by first | exact HG0 | exact HG0.drawn ⟨⟨_, rfl⟩⟩ | exact HG0.below (by repeat (first | (with_reducible first | exact HB.out | apply below_alloc | apply pw_below_drewN | apply below_drew1) | exact HB.out)))).mono ?_); rintro e w12 ⟨v199, rfl, ho0, hb⟩; refine ⟨_, rfl, ?_⟩; have n0_ := Aside0.mk (Kd.R_elder' (by (with_reducible repeat (first | apply Kd.R_alloc | apply Kd.R_drewN | apply Kd.R_drew)); exact HO194.out) (Kd.R_base ho0) hb); have n1_ := Aside0.mk (Kd.R_lower (Kd.R_new' ho0 (Kd.R_lt (by (with_reducible repeat (first | apply Kd.R_alloc | apply Kd.R_drewN | apply Kd.R_drew)); exact HO194.out))) (below_size (by repeat (first | (with_reducible first | exact HB.out | apply below_alloc | apply pw_below_drewN | apply below_drew1) | exact HB.out)))); have n2_ := Aside0.mk (below_step (by repeat (first | (with_reducible first | exact HB.out | apply below_alloc | apply pw_below_drewN | apply below_drew1) | exact HB.out)) hb); clear HO194; clear HB; have HO194 := n0_; have HO200 := n1_; have HB := n2_; clear n0_ n1_ n2_; (try clear hb); (try clear hb2); (try clear hk); (try clear hi); (try clear ho0); obtain ⟨Ao13, co13, eo13⟩ := Kd.R_slice HO200.out; subst eo13; obtain ⟨Ao14, co14, eo14⟩ := Kd.R_slice HO194.out; subst eo14) | (go_at_call 6; (with_reducible refine (laws_same.calls k _ _ t196 _ _ t190 true _ ?side1 ?side2 ?side3 ?side4 A9.out).mono ?_); (case side1 => repeat (first | exact (Kd.R_reads' HO200.out).2.2 | (with_reducible refine Kd.C_alloc ?_ _) | (with_reducible refine Kd.C_drewN ?_ _) | (with_reducible refine Kd.C_drew ?_))); (case side2 => exact (Kd.R_reads' HO200.out).2.1); (case side3 => repeat (first | exact (Kd.R_reads' HO194.out).2.2 | (with_reducible refine Kd.C_alloc ?_ _) | (with_reducible refine Kd.C_drewN ?_ _) | (with_reducible refine Kd.C_drew ?_))); (case side4 => exact (Kd.R_reads' HO194.out).2.1); rintro e w' ⟨rfl, ⟨nd, rfl⟩⟩))
              go_ret
              exact ⟨by first | rfl | (simp [errW_none, errW_some] <;> rfl) | (simp [*, errW_none, errW_some] <;> rfl), by repeat (first | (with_reducible first | exact HB.out | apply below_alloc | apply pw_below_drewN | apply below_drew1) | exact HB.out)⟩
            · replace c10 := Bool.eq_false_iff.mpr c10
              subst c10
              have H1 : (some false) = some r := by rw [if_neg (show ¬ (false = true) by decide)] at H; exact H
              clear H
              have H := H1
              clear H1
              obtain rfl := Option.some.inj H
              go_enter Tryd.func3, Tryd.ntmps3
              go_wp2_with (first | ((with_reducible refine gate_callee (f := 4) rfl ?_); refine goesL_ (some 19) rfl rfl Tryd.func4 (by kernel_rfl) rfl #[.string a0, .int .i64 90] rfl (by (try simp only [List.map_toArray, List.map_cons, List.map_nil]); first | done | rfl | (simp only [List.length_drop, List.length_take]; rfl)) ?_; (with_reducible refine (spec_ReadBech32.calls k a0 90 t189 t190 t191 true _ A4.out).mono ?_); rintro e w15 ⟨v193, rfl, ho0, hb⟩; refine ⟨_, rfl, ?_⟩; have n0_ := Aside0.mk (Kd.R_lower ho0 (below_size (by repeat (first | (with_reducible first | exact HB.out | apply below_alloc | apply pw_below_drewN | apply below_drew1) | exact HB.out)))); have n1_ := Aside0.mk (below_step (by repeat (first | (with_reducible first | exact HB.out | apply below_alloc | apply pw_below_drewN | apply below_drew1) | exact HB.out)) hb); clear HB; have HO194 := n0_; have HB := n1_; clear n0_ n1_; (try clear hb); (try clear hb2); (try clear hk); (try clear hi); (try clear ho0)) | ((with_reducible refine gate_callee (f := 5) rfl ?_); refine goesL_ (some 26) rfl rfl Tryd.func5 (by kernel_rfl) rfl #[.string a0] rfl (by (try simp only [List.map_toArray, List.map_cons, List.map_nil]); first | done | rfl | (simp only [List.length_drop, List.length_take]; rfl)) ?_; (with_reducible refine (impl_ReadBech32.calls k a0 t195 t196 t197 t198 _ A5.out (by first | exact HG0 | exact HG0.drawn ⟨⟨_, rfl⟩⟩ | exact HG0.below (by repeat (first | (with_reducible first | exact HB.out | apply below_alloc | apply pw_below_drewN | apply below_drew1) | exact HB.out)))).mono ?_); rintro e w16 ⟨v199, rfl, ho0, hb⟩; refine ⟨_, rfl, ?_⟩; have n0_ := Aside0.mk (Kd.R_elder' (by (with_reducible repeat (first | apply Kd.R_alloc | apply Kd.R_drewN | apply Kd.R_drew)); exact HO194.out) (Kd.R_base ho0) hb); have n1_ := Aside0.mk (Kd.R_lower (Kd.R_new' ho0 (Kd.R_lt (by (with_reducible repeat (first | apply Kd.R_alloc | apply Kd.R_drewN | apply Kd.R_drew)); exact HO194.out))) (below_size (by repeat (first | (with_reducible first | exact HB.out | apply below_alloc | apply pw_below_drewN | apply below_drew1) | exact HB.out)))); have n2_ := Aside0.mk (below_step (by repeat (first | (with_reducible first | exact HB.out | apply below_alloc | apply pw_below_drewN | apply below_drew1) | exact HB.out)) hb); clear HO194; clear HB; have HO194 := n0_; have HO200 := n1_; have HB := n2_; clear n0_ n1_ n2_; (try clear hb); (try clear hb2); (try clear hk); (try clear hi); (try clear ho0); obtain ⟨Ao17, co17, eo17⟩ := Kd.R_slice HO200.out; subst eo17; obtain ⟨Ao18, co18, eo18⟩ := Kd.R_slice HO194.out; subst eo18) | (go_at_call 6; (with_reducible refine (laws_same.calls k _ _ t196 _ _ t190 false _ ?side1 ?side2 ?side3 ?side4 A9.out).mono ?_); (case side1 => repeat (first | exact (Kd.R_reads' HO200.out).2.2 | (with_reducible refine Kd.C_alloc ?_ _) | (with_reducible refine Kd.C_drewN ?_ _) | (with_reducible refine Kd.C_drew ?_))); (case side2 => exact (Kd.R_reads' HO200.out).2.1); (case side3 => repeat (first | exact (Kd.R_reads' HO194.out).2.2 | (with_reducible refine Kd.C_alloc ?_ _) | (with_reducible refine Kd.C_drewN ?_ _) | (with_reducible refine Kd.C_drew ?_))); (case side4 => exact (Kd.R_reads' HO194.out).2.1); rintro e w' ⟨rfl, ⟨nd, rfl⟩⟩))
              go_ret
              exact ⟨by first | rfl | (simp [errW_none, errW_some] <;> rfl) | (simp [*, errW_none, errW_some] <;> rfl), by repeat (first | (with_reducible first | exact HB.out | apply below_alloc | apply pw_below_drewN | apply below_drew1) | exact HB.out)⟩
          · rw [if_neg c8] at H
            have c8b0 : (t195.toList == t189.toList) = false := beq_eq_false_iff_ne.mpr c8
            have c8b1 : (t195.toList != t189.toList) = true := bne_iff_ne.mpr c8
            obtain rfl := Option.some.inj H
            go_enter Tryd.func3, Tryd.ntmps3
            go_wp2_with (first | ((with_reducible refine gate_callee (f := 4) rfl ?_); refine goesL_ (some 19) rfl rfl Tryd.func4 (by kernel_rfl) rfl #[.string a0, .int .i64 90] rfl (by (try simp only [List.map_toArray, List.map_cons, List.map_nil]); first | done | rfl | (simp only [List.length_drop, List.length_take]; rfl)) ?_; (with_reducible refine (spec_ReadBech32.calls k a0 90 t189 t190 t191 true _ A4.out).mono ?_); rintro e w19 ⟨v193, rfl, ho0, hb⟩; refine ⟨_, rfl, ?_⟩; have n0_ := Aside0.mk (Kd.R_lower ho0 (below_size (by repeat (first | (with_reducible first | exact HB.out | apply below_alloc | apply pw_below_drewN | apply below_drew1) | exact HB.out)))); have n1_ := Aside0.mk (below_step (by repeat (first | (with_reducible first | exact HB.out | apply below_alloc | apply pw_below_drewN | apply below_drew1) | exact HB.out)) hb); clear HB; have HO194 := n0_; have HB := n1_; clear n0_ n1_; (try clear hb); (try clear hb2); (try clear hk); (try clear hi); (try clear ho0)) | ((with_reducible refine gate_callee (f := 5) rfl ?_); refine goesL_ (some 26) rfl rfl Tryd.func5 (by kernel_rfl) rfl #[.string a0] rfl (by (try simp only [List.map_toArray, List.map_cons, List.map_nil]); first | done | rfl | (simp only [List.length_drop, List.length_take]; rfl)) ?_; (with_reducible refine (impl_ReadBech32.calls k a0 t195 t196 t197 t198 _ A5.out (by first | exact HG0 | exact HG0.drawn ⟨⟨_, rfl⟩⟩ | exact HG0.below (by repeat (first | (with_reducible first | exact HB.out | apply below_alloc | apply pw_below_drewN | apply below_drew1) | exact HB.out)))).mono ?_); rintro e w20 ⟨v199, rfl, ho0, hb⟩; refine ⟨_, rfl, ?_⟩; have n0_ := Aside0.mk (Kd.R_elder' (by (with_reducible repeat (first | apply Kd.R_alloc | apply Kd.R_drewN | apply Kd.R_drew)); exact HO194.out) (Kd.R_base ho0) hb); have n1_ := Aside0.mk (Kd.R_lower (Kd.R_new' ho0 (Kd.R_lt (by (with_reducible repeat (first | apply Kd.R_alloc | apply Kd.R_drewN | apply Kd.R_drew)); exact HO194.out))) (below_size (by repeat (first | (with_reducible first | exact HB.out | apply below_alloc | apply pw_below_drewN | apply below_drew1) | exact HB.out)))); have n2_ := Aside0.mk (below_step (by repeat (first | (with_reducible first | exact HB.out | apply below_alloc | apply pw_below_drewN | apply below_drew1) | exact HB.out)) hb); clear HO194; clear HB; have HO194 := n0_; have HO200 := n1_; have HB := n2_; clear n0_ n1_ n2_; (try clear hb); (try clear hb2); (try clear hk); (try clear hi); (try clear ho0)))
            go_ret
            exact ⟨by first | rfl | (simp [errW_none, errW_some] <;> rfl) | (simp [*, errW_none, errW_some] <;> rfl), by repeat (first | (with_reducible first | exact HB.out | apply below_alloc | apply pw_below_drewN | apply below_drew1) | exact HB.out)⟩
        · replace c7 := Bool.eq_false_iff.mpr c7
          subst c7
          have H1 : (some true) = some r := by rw [if_neg (show ¬ (false = true) by decide)] at H; exact H
          clear H
          have H := H1
          clear H1
          obtain rfl := Option.some.inj H
          go_enter Tryd.func3, Tryd.ntmps3
          go_wp2_with (first | ((with_reducible refine gate_callee (f := 4) rfl ?_); refine goesL_ (some 19) rfl rfl Tryd.func4 (by kernel_rfl) rfl #[.string a0, .int .i64 90] rfl (by (try simp only [List.map_toArray, List.map_cons, List.map_nil]); first | done | rfl | (simp only [List.length_drop, List.length_take]; rfl)) ?_; (with_reducible refine (spec_ReadBech32.calls k a0 90 t189 t190 t191 false _ A4.out).mono ?_); rintro e w21 ⟨v193, rfl, ho0, hb⟩; refine ⟨_, rfl, ?_⟩; have n0_ := Aside0.mk (Kd.R_lower ho0 (below_size (by repeat (first | (with_reducible first | exact HB.out | apply below_alloc | apply pw_below_drewN | apply below_drew1) | exact HB.out)))); have n1_ := Aside0.mk (below_step (by repeat (first | (with_reducible first | exact HB.out | apply below_alloc | apply pw_below_drewN | apply below_drew1) | exact HB.out)) hb); clear HB; have HO194 := n0_; have HB := n1_; clear n0_ n1_; (try clear hb); (try clear hb2); (try clear hk); (try clear hi); (try clear ho0)) | ((with_reducible refine gate_callee (f := 5) rfl ?_); refine goesL_ (some 26) rfl rfl Tryd.func5 (by kernel_rfl) rfl #[.string a0] rfl (by (try simp only [List.map_toArray, List.map_cons, List.map_nil]); first | done | rfl | (simp only [List.length_drop, List.length_take]; rfl)) ?_; (with_reducible refine (impl_ReadBech32.calls k a0 t195 t196 t197 t198 _ A5.out (by first | exact HG0 | exact HG0.drawn ⟨⟨_, rfl⟩⟩ | exact HG0.below (by repeat (first | (with_reducible first | exact HB.out | apply below_alloc | apply pw_below_drewN | apply below_drew1) | exact HB.out)))).mono ?_); rintro e w22 ⟨v199, rfl, ho0, hb⟩; refine ⟨_, rfl, ?_⟩; have n0_ := Aside0.mk (Kd.R_elder' (by (with_reducible repeat (first | apply Kd.R_alloc | apply Kd.R_drewN | apply Kd.R_drew)); exact HO194.out) (Kd.R_base ho0) hb); have n1_ := Aside0.mk (Kd.R_lower (Kd.R_new' ho0 (Kd.R_lt (by (with_reducible repeat (first | apply Kd.R_alloc | apply Kd.R_drewN | apply Kd.R_drew)); exact HO194.out))) (below_size (by repeat (first | (with_reducible first | exact HB.out | apply below_alloc | apply pw_below_drewN | apply below_drew1) | exact HB.out)))); have n2_ := Aside0.mk (below_step (by repeat (first | (with_reducible first | exact HB.out | apply below_alloc | apply pw_below_drewN | apply below_drew1) | exact HB.out)) hb); clear HO194; clear HB; have HO194 := n0_; have HO200 := n1_; have HB := n2_; clear n0_ n1_ n2_; (try clear hb); (try clear hb2); (try clear hk); (try clear hi); (try clear ho0)))
          go_ret
          exact ⟨by first | rfl | (simp [errW_none, errW_some] <;> rfl) | (simp [*, errW_none, errW_some] <;> rfl), by repeat (first | (with_reducible first | exact HB.out | apply below_alloc | apply pw_below_drewN | apply below_drew1) | exact HB.out)⟩
      · rw [if_neg c6] at H
        have c6b0 : ((t198 == 0) == t192) = false := by simpa using c6
        (try (have c6b1 : decide ((t198 == 0) = t192) = false := by simpa using c6))
        (try (have c6b2 : ((t198 == 0) == t192) = false := by simpa using c6))
        (try (have c6b3 : ¬ ((t198 == 0) = t192) := by simpa using c6))
        clear c6
        obtain rfl := Option.some.inj H
        go_enter Tryd.func3, Tryd.ntmps3
        go_wp2_with (first | ((with_reducible refine gate_callee (f := 4) rfl ?_); refine goesL_ (some 19) rfl rfl Tryd.func4 (by kernel_rfl) rfl #[.string a0, .int .i64 90] rfl (by (try simp only [List.map_toArray, List.map_cons, List.map_nil]); first | done | rfl | (simp only [List.length_drop, List.length_take]; rfl)) ?_; (with_reducible refine (spec_ReadBech32.calls k a0 90 t189 t190 t191 t192 _ A4.out).mono ?_); rintro e w23 ⟨v193, rfl, ho0, hb⟩; refine ⟨_, rfl, ?_⟩; have n0_ := Aside0.mk (Kd.R_lower ho0 (below_size (by repeat (first | (with_reducible first | exact HB.out | apply below_alloc | apply pw_below_drewN | apply below_drew1) | exact HB.out)))); have n1_ := Aside0.mk (below_step (by repeat (first | (with_reducible first | exact HB.out | apply below_alloc | apply pw_below_drewN | apply below_drew1) | exact HB.out)) hb); clear HB; have HO194 := n0_; have HB := n1_; clear n0_ n1_; (try clear hb); (try clear hb2); (try clear hk); (try clear hi); (try clear ho0)) | ((with_reducible refine gate_callee (f := 5) rfl ?_); refine goesL_ (some 26) rfl rfl Tryd.func5 (by kernel_rfl) rfl #[.string a0] rfl (by (try simp only [List.map_toArray, List.map_cons, List.map_nil]); first | done | rfl | (simp only [List.length_drop, List.length_take]; rfl)) ?_; (with_reducible refine (impl_ReadBech32.calls k a0 t195 t196 t197 t198 _ A5.out (by first | exact HG0 | exact HG0.drawn ⟨⟨_, rfl⟩⟩ | exact HG0.below (by repeat (first | (with_reducible first | exact HB.out | apply below_alloc | apply pw_below_drewN | apply below_drew1) | exact HB.out)))).mono ?_); rintro e w24 ⟨v199, rfl, ho0, hb⟩; refine ⟨_, rfl, ?_⟩; have n0_ := Aside0.mk (Kd.R_elder' (by (with_reducible repeat (first | apply Kd.R_alloc | apply Kd.R_drewN | apply Kd.R_drew)); exact HO194.out) (Kd.R_base ho0) hb); have n1_ := Aside0.mk (Kd.R_lower (Kd.R_new' ho0 (Kd.R_lt (by (with_reducible repeat (first | apply Kd.R_alloc | apply Kd.R_drewN | apply Kd.R_drew)); exact HO194.out))) (below_size (by repeat (first | (with_reducible first | exact HB.out | apply below_alloc | apply pw_below_drewN | apply below_drew1) | exact HB.out)))); have n2_ := Aside0.mk (below_step (by repeat (first | (with_reducible first | exact HB.out | apply below_alloc | apply pw_below_drewN | apply below_drew1) | exact HB.out)) hb); clear HO194; clear HB; have HO194 := n0_; have HO200 := n1_; have HB := n2_; clear n0_ n1_ n2_; (try clear hb); (try clear hb2); (try clear hk); (try clear hi); (try clear ho0)))
        go_ret
        exact ⟨by first | rfl | (simp [errW_none, errW_some] <;> rfl) | (simp [*, errW_none, errW_some] <;> rfl), by repeat (first | (with_reducible first | exact HB.out | apply below_alloc | apply pw_below_drewN | apply below_drew1) | exact HB.out)⟩

/-- THE ONE PURE STATEMENT of laws_FnReadBech32: yours. -/
def laws_FnReadBech32.Pure : Prop := ∀ (a0 : ByteArray), a0.size ≤ 140737488351232 → ∃ k, laws_FnReadBech32.f k a0 = some true
theorem laws_FnReadBech32.walk (P : laws_FnReadBech32.Pure) (a0 : ByteArray) (w : World) (w0 : a0.size ≤ 140737488351232) (HG0 : GenS w) :
    Calls Tryd.prog 3 #[.string a0] w fun e w' => e = .returned (.bool true) ∧ Below w.heap.size w w' := by
  obtain ⟨k, h⟩ := P a0 w0
  refine (laws_FnReadBech32.calls k a0 true w h (by first | exact HG0 | exact HG0.drawn ⟨⟨_, rfl⟩⟩ | exact HG0.below (by repeat (first | (with_reducible first | exact HB.out | apply below_alloc | apply pw_below_drewN | apply below_drew1) | exact HB.out)))).mono ?_
  rintro e w' ⟨rfl, hd⟩
  exact ⟨rfl, hd⟩

end Go.Proofs.YtbbeedclkfcmeaaDoor.KFnReadBech32
