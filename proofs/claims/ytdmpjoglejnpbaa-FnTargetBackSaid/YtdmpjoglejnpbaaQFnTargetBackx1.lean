-- Made by a turned print (own tool turnprint.py over the kit print).
import Derived.Test.YtdmpjoglejnpbaaQFnTargetBackx0
namespace Go.Proofs.Ytdmpjoglejnpbaa.QFnTargetBack
open Go.RowKit Go.Proofs.YtdmpjoglejnpbaaW.PrintWords Go.Proofs.YtdmpjoglejnpbaaW.PrintLast Go.Proofs.YtdmpjoglejnpbaaW.PrintMore
attribute [local go_sem] nn_mod256 nn_mod65536 nn_mod32 max2_int min2_int max_two min_two max_three min_three max_four min_four   -- for this text's walks alone
set_option linter.unusedVariables false
set_option linter.unusedSimpArgs false

/-! ### smallbig_nat_norm: function 62 -/
def smallbig_nat_norm.l0 : Nat → List Int → Option (List Int)
  | 0, _ => none
  | k + 1, x0 => if (x0.length : Int) > 0 then (if 0 ≤ (wrap64 ((x0.length : Int) - 1)) then (if (wrap64 ((x0.length : Int) - 1)) < (x0.length : Int) then (if (rd x0 (wrap64 ((x0.length : Int) - 1))) = 0 then (if (wrap64 ((x0.length : Int) - 1)) ≤ (x0.length : Int) then (smallbig_nat_norm.l0 k (x0.take ((wrap64 ((x0.length : Int) - 1)) : Int).toNat)) else (none)) else (some x0)) else (none)) else (none)) else (some x0)
def smallbig_nat_norm.f (k : Nat) (l0 : List Int) : Option (List Int) := smallbig_nat_norm.l0 k l0
theorem smallbig_nat_norm.mono_l : ∀ k, (∀ y0, LeO (smallbig_nat_norm.l0 k y0) (smallbig_nat_norm.l0 (k + 1) y0))
  | 0 => fun _ r h => by simp [smallbig_nat_norm.l0] at h
  | k + 1 => by
    have ih0 := smallbig_nat_norm.mono_l k
    · intro y0
      unfold smallbig_nat_norm.l0
      repeat' first
      | (with_reducible exact ih0 _)
      | (with_reducible exact LeO.refl _)
      | (with_reducible exact LeO.none _)
      | (with_reducible refine LeO.ite ?_ ?_)
      | (with_reducible refine LeO.bind ?_ (fun _ => ?_))
      | exact ih0 _
      | exact LeO.none _
      | refine LeO.ite ?_ ?_
      | refine LeO.bind ?_ (fun _ => ?_)
theorem smallbig_nat_norm.mono : ∀ a0 k, LeO (smallbig_nat_norm.f k a0) (smallbig_nat_norm.f (k + 1) a0) := by
  intro a0 k
  have ih0 := smallbig_nat_norm.mono_l k
  unfold smallbig_nat_norm.f
  repeat' first
      | (with_reducible exact ih0 _)
      | (with_reducible exact LeO.refl _)
      | (with_reducible exact LeO.none _)
      | (with_reducible refine LeO.ite ?_ ?_)
      | (with_reducible refine LeO.bind ?_ (fun _ => ?_))
      | exact ih0 _
      | exact LeO.none _
      | refine LeO.ite ?_ ?_
      | refine LeO.bind ?_ (fun _ => ?_)
set_option maxHeartbeats 8000000 in
set_option maxRecDepth 100000 in
theorem smallbig_nat_norm.calls (k : Nat) (P0_ : Nat → Prop) (A0 : Option Addr) (c0 : Nat) (l0 : List Int) (r : List Int) (w : World) (hs0 : Kd.V (Kd.int .u32) 24 w w.heap.size (fun k_ => P0_ k_) (.slice A0 l0.length c0) l0) (h : smallbig_nat_norm.f k l0 = some r) :
    Calls Try.prog 62 #[.slice A0 l0.length c0] w fun e w' => ∃ v0_ : Value, e = .returned (v0_) ∧ Kd.V (Kd.int .u32) 24 w' w.heap.size (fun k_ => (P0_ k_ ∨ w.heap.size ≤ k_)) v0_ r ∧ Below w.heap.size w w' := by
  have HO0 := Aside0.mk (show Kd.V (Kd.int .u32) 24 w w.heap.size (fun k_ => (P0_ k_ ∨ w.heap.size ≤ k_)) (.slice A0 l0.length c0) l0 from Kd.V_mono hs0 (fun k_ hk => .inl hk))
  have HB := Aside0.mk (Below.refl w.heap.size w)
  have H : (smallbig_nat_norm.l0 k l0) = some r := h
  clear h
  have H' := Aside0.mk H
  clear H
  go_enter Try.func62, Try.ntmps62
  go_wp2
  go_loopg [0] k (fun kq v0 w' => ∃ (x0_1 : List Int), Aside0 (smallbig_nat_norm.l0 kq x0_1 = some r) ∧ Aside0 (kq ≤ k) ∧ Aside0 (Kd.V (Kd.int .u32) 24 w' w.heap.size (fun k_ => (P0_ k_ ∨ w.heap.size ≤ k_)) v0 x0_1) ∧ Aside0 (Below w.heap.size w w'))
  case atStart => exact ⟨(l0), H', ⟨Nat.le_refl _⟩, ⟨by (with_reducible repeat (first | apply Kd.V_alloc | apply Kd.V_drewN | apply Kd.V_drew)); exact HO0.out⟩, ⟨by repeat (first | (with_reducible first | exact HB.out | apply below_alloc | apply pw_below_drewN | apply below_drew1) | exact HB.out)⟩⟩
  case round =>
    clear H'
    obtain ⟨x0_1, HA, HK1, HO_0, HB⟩ := hrel
    cases gk with
    | zero => exact absurd HA.out (by simp [smallbig_nat_norm.l0])
    | succ k1 =>
      have H := HA.out
      clear HA
      simp only [smallbig_nat_norm.l0] at H
      by_cases c2 : (x0_1.length : Int) > 0
      · rw [if_pos c2] at H
        have c2b0 : decide (0 < (x0_1.length : Int)) = true := decide_eq_true c2
        have c2b1 : decide (0 < x0_1.length) = true := decide_eq_true (by omega)
        clear c2
        obtain ⟨ji3, hji3⟩ : ∃ j_ : Int, (wrap64 ((x0_1.length : Int) - 1)) = j_ := ⟨_, rfl⟩
        replace H : (if 0 ≤ (ji3) then (if (ji3) < (x0_1.length : Int) then (if (rd x0_1 (ji3)) = 0 then (if (ji3) ≤ (x0_1.length : Int) then (smallbig_nat_norm.l0 k1 (x0_1.take ((ji3) : Int).toNat)) else (none)) else (some x0_1)) else (none)) else (none)) = some r := by first | (rw [hji3] at H; exact H) | (simp only [hji3] at H ⊢; exact H)
        have hji3w : (IntKind.i64.wrap ((x0_1.length : Int) - 1)) = ji3 := (i64_w _).trans hji3
        by_cases c4 : 0 ≤ (ji3)
        · rw [if_pos c4] at H
          have c4b0 : decide (0 ≤ (ji3)) = true := decide_eq_true c4
          clear c4
          by_cases c5 : (ji3) < (x0_1.length : Int)
          · rw [if_pos c5] at H
            have c5b0 : decide ((ji3) < (x0_1.length : Int)) = true := decide_eq_true c5
            clear c5
            by_cases c6 : (rd x0_1 (ji3)) = 0
            · rw [if_pos c6] at H
              have c6b0 : ((rd x0_1 (ji3)) == 0) = true := beq_iff_eq.mpr c6
              have c6b1 : ((rd x0_1 (ji3)) != 0) = false := bne_eq_false_iff_eq.mpr c6
              clear c6
              have c7b0 := eq_true (of_decide_eq_true (by first | (with_reducible assumption) | assumption) : 0 ≤ (ji3))
              by_cases c8 : (ji3) ≤ (x0_1.length : Int)
              · rw [if_pos c8] at H
                have c8b0 := eq_true c8
                have c8b1 : decide ((ji3) ≤ (x0_1.length : Int)) = true := decide_eq_true c8
                clear c8
                obtain ⟨y102, hy102⟩ : ∃ y_ : List Int, y_ = (x0_1.take ((ji3) : Int).toNat) := ⟨_, rfl⟩
                replace H : (smallbig_nat_norm.l0 k1 y102) = some r := by first | (rw [hy102]; with_reducible exact H) | (have H2_ := (Option.bind_some _ _).symm.trans H; rw [hy102]; with_reducible exact H2_) | (have H2_ := (Option.bind_some _ _).symm.trans H; with_reducible exact H2_) | with_reducible exact H | (rw [hy102]; exact H) | exact H
                have Ny102 := Aside0.mk hy102
                clear hy102
                have H' := Aside0.mk H
                clear H
                obtain ⟨Ao9, co9, eo9⟩ := Kd.V_slice HO_0.out
                subst eo9
                have p101 : 0 ≤ ((ji3) : Int) := of_decide_eq_true (by first | (with_reducible assumption) | assumption)
                have q101 : (ji3) < (x0_1.length : Int) := of_decide_eq_true (by first | (with_reducible assumption) | assumption)
                obtain ⟨ad101, e101, hx101_0⟩ := Kd.at_int (Kd.V_reads' HO_0.out).2.2 (ji3) p101 q101
                cases e101
                replace p101 := eq_true p101
                replace q101 := eq_true q101
                have q10 : ((ji3) : Int) ≤ ((x0_1.length : Int) : Int) := of_decide_eq_true (by first | (with_reducible assumption) | assumption)
                obtain ⟨i010, hi010, _, hsz10, _⟩ := info_parts info24
                have hroom10 : x0_1.length ≤ co9 := (Kd.V_reads' HO_0.out).2.1
                have hC10 : Kd.F (Kd.int .u32) _ _ (some ad101) x0_1.length x0_1 := (Kd.V_at (base := w.heap.size) HO_0.out).2.2
                have hcut10 := cut_to (P := Try.prog) 103 24 .i64 Try.underlying103 hi010 (some ad101) x0_1.length co9 (ji3) (of_decide_eq_true (by first | (with_reducible assumption) | assumption)) q10 hroom10
                have hr10 := Kd.F_take (m := ((ji3) : Int).toNat) hC10 (by omega)
                have hy10 : y102.length = ((ji3) : Int).toNat := (by rw [Ny102.out, List.length_take]; omega)
                rw [← Ny102.out] at hr10
                rw [← hy10] at hcut10
                have HO106 := Aside0.mk (show Kd.V (Kd.int .u32) 24 _ w.heap.size _ (.slice (some ad101) y102.length co9) y102 from Kd.V_mk (by omega) hr10)
                have HC106 := Aside0.mk (show y102.length ≤ co9 from by omega)
                clear hr10 hC10 hroom10 hi010 hsz10
                have KY10 := Aside0.mk hy10
                clear hy10
                replace q10 := eq_true q10
                go_wp2
                go_roundg k1
                case measure => have := HK1.out; omega
                case rel => exact ⟨(y102), (by first | exact H' | (subst_vars; exact H')), ⟨by have := HK1.out; omega⟩, ⟨by (with_reducible repeat (first | apply Kd.V_alloc | apply Kd.V_drewN | apply Kd.V_drew)); exact HO106.out⟩, ⟨by repeat (first | (with_reducible first | exact HB.out | apply below_alloc | apply pw_below_drewN | apply below_drew1) | exact HB.out)⟩⟩
              · rw [if_neg c8] at H
                exact absurd H (by simp)
            · rw [if_neg c6] at H
              have c6b0 : ((rd x0_1 (ji3)) == 0) = false := beq_eq_false_iff_ne.mpr c6
              have c6b1 : ((rd x0_1 (ji3)) != 0) = true := bne_iff_ne.mpr c6
              obtain rfl := Option.some.inj H
              obtain ⟨Ao11, co11, eo11⟩ := Kd.V_slice HO_0.out
              subst eo11
              have p101 : 0 ≤ ((ji3) : Int) := of_decide_eq_true (by first | (with_reducible assumption) | assumption)
              have q101 : (ji3) < (x0_1.length : Int) := of_decide_eq_true (by first | (with_reducible assumption) | assumption)
              obtain ⟨ad101, e101, hx101_0⟩ := Kd.at_int (Kd.V_reads' HO_0.out).2.2 (ji3) p101 q101
              cases e101
              replace p101 := eq_true p101
              replace q101 := eq_true q101
              go_wp2
              go_ret
              exact ⟨_, by first | rfl | (simp [errW_none, errW_some] <;> rfl) | (simp only [← hji3]; first | rfl | (simp [errW_none, errW_some] <;> rfl)) | (simp [*, errW_none, errW_some] <;> rfl), by (with_reducible repeat (first | apply Kd.V_alloc | apply Kd.V_drewN | apply Kd.V_drew)); exact HO_0.out, by repeat (first | (with_reducible first | exact HB.out | apply below_alloc | apply pw_below_drewN | apply below_drew1) | exact HB.out)⟩
          · rw [if_neg c5] at H
            exact absurd H (by simp)
        · rw [if_neg c4] at H
          exact absurd H (by simp)
      · rw [if_neg c2] at H
        have c2b0 : decide (0 < (x0_1.length : Int)) = false := decide_eq_false c2
        have c2b1 : decide (0 < x0_1.length) = false := decide_eq_false (by omega)
        clear c2
        obtain rfl := Option.some.inj H
        obtain ⟨Ao12, co12, eo12⟩ := Kd.V_slice HO_0.out
        subst eo12
        go_wp2
        go_ret
        exact ⟨_, by first | rfl | (simp [errW_none, errW_some] <;> rfl) | (simp [*, errW_none, errW_some] <;> rfl), by (with_reducible repeat (first | apply Kd.V_alloc | apply Kd.V_drewN | apply Kd.V_drew)); exact HO_0.out, by repeat (first | (with_reducible first | exact HB.out | apply below_alloc | apply pw_below_drewN | apply below_drew1) | exact HB.out)⟩

/-! ### smallbig_natOf: function 70 -/
def smallbig_natOf.f (k : Nat) (a0 : Int) : Option (List Int) := (smallbig_nat_norm.f k (([(a0) % 4294967296, (a0 / 4294967296) % 4294967296] : List Int))).bind fun t110 => (some t110)
theorem smallbig_natOf.mono : ∀ a0 k, LeO (smallbig_natOf.f k a0) (smallbig_natOf.f (k + 1) a0) := by
  intro a0 k
  unfold smallbig_natOf.f
  repeat' first
      | (with_reducible exact smallbig_nat_norm.mono _ _)
      | (with_reducible exact LeO.refl _)
      | (with_reducible exact LeO.none _)
      | (with_reducible refine LeO.ite ?_ ?_)
      | (with_reducible refine LeO.bind ?_ (fun _ => ?_))
      | exact smallbig_nat_norm.mono _ _
      | exact LeO.none _
      | refine LeO.ite ?_ ?_
      | refine LeO.bind ?_ (fun _ => ?_)
set_option maxHeartbeats 8000000 in
set_option maxRecDepth 100000 in
theorem smallbig_natOf.calls (k : Nat) (a0 : Int) (r : List Int) (w : World) (h : smallbig_natOf.f k a0 = some r) :
    Calls Try.prog 70 #[.int .u64 a0] w fun e w' => ∃ v0_ : Value, e = .returned (v0_) ∧ Kd.V (Kd.int .u32) 24 w' w.heap.size (fun k_ => (w.heap.size ≤ k_)) v0_ r ∧ Below w.heap.size w w' := by
  have HB := Aside0.mk (Below.refl w.heap.size w)
  have H : ((smallbig_nat_norm.f k (([(a0) % 4294967296, (a0 / 4294967296) % 4294967296] : List Int))).bind fun t110 => (some t110)) = some r := h
  clear h
  obtain ⟨y107, hy107⟩ : ∃ y_ : List Int, y_ = (([(a0) % 4294967296, (a0 / 4294967296) % 4294967296] : List Int)) := ⟨_, rfl⟩
  replace H : ((smallbig_nat_norm.f k y107).bind fun t110 => (some t110)) = some r := by first | (rw [hy107]; with_reducible exact H) | (have H2_ := (Option.bind_some _ _).symm.trans H; rw [hy107]; with_reducible exact H2_) | (have H2_ := (Option.bind_some _ _).symm.trans H; with_reducible exact H2_) | with_reducible exact H | (rw [hy107]; exact H) | exact H
  have Ny107 := Aside0.mk hy107
  clear hy107
  replace H := Option.bind_eq_some_iff.mp H
  obtain ⟨t110, A20, H⟩ := H
  replace H : (some t110) = some r := H
  have A2 := Aside0.mk A20
  clear A20
  obtain rfl := Option.some.inj H
  go_enter Try.func70, Try.ntmps70
  go_wp2_with (first | ((with_reducible refine gate_dst (N := 8) rfl ?_); refine Kd.R_lit (Kd.int .u32) _ 24 ?hg (N := 8) ?hd (xs := ([(a0) % 4294967296, (a0 / 4294967296) % 4294967296] : List Int)) (inner := [.int .u32 ((a0) % 4294967296), .int .u32 ((a0 / 4294967296) % 4294967296)]) (ok := fun _ => True) (okp := fun _ => True) ?hr ?hp (fun _ hk => hk) trivial (Below.refl _ _) (Nat.le_refl _) (by simp) ?_; (case hd => rfl); (case hg => rfl); (case hr => first | (go_simp; done) | (go_simp; rfl)); (case hp => exact (Reps.one (show Kd.M (Kd.int .u32) _ _ _ ((a0) % 4294967296) [.int .u32 ((a0) % 4294967296)] from rfl) (Reps.one (show Kd.M (Kd.int .u32) _ _ _ ((a0 / 4294967296) % 4294967296) [.int .u32 ((a0 / 4294967296) % 4294967296)] from rfl) (Reps.none _ _)))); intro v108 w3 ho4 hb hg_ hnew_; clear hg_ hnew_; (first | rw [← Ny107.out] at ho4 | (simp only [Int.reduceToNat] at ho4; rw [← Ny107.out] at ho4)); have n0_ := Aside0.mk (Kd.R_lower (Kd.R_newM (M := fun k_ => (w.heap.size ≤ k_)) ho4 (below_size (by repeat (first | (with_reducible first | exact HB.out | apply below_alloc | apply pw_below_drewN | apply below_drew1) | exact HB.out))) (fun k_ h_ => h_)) (below_size (by repeat (first | (with_reducible first | exact HB.out | apply below_alloc | apply pw_below_drewN | apply below_drew1) | exact HB.out)))); have n1_ := Aside0.mk (below_step (by repeat (first | (with_reducible first | exact HB.out | apply below_alloc | apply pw_below_drewN | apply below_drew1) | exact HB.out)) hb); clear HB; have HO109 := n0_; have HB := n1_; clear n0_ n1_; clear hb ho4; obtain ⟨Ao5, co5, eo5⟩ := Kd.R_slice HO109.out; subst eo5) | ((with_reducible refine gate_callee (f := 62) rfl ?_); refine goesL_ (some 9) rfl rfl Try.func62 (by kernel_rfl) rfl #[.slice Ao5 y107.length co5] rfl (by (try simp only [List.map_toArray, List.map_cons, List.map_nil]); first | done | rfl | (simp only [List.length_drop, List.length_take]; rfl)) ?_; (with_reducible refine (smallbig_nat_norm.calls k (fun k_ => some k_ = (.slice Ao5 y107.length co5 : Value).ownBlock) _ _ y107 t110 _ ?side1 A2.out).mono ?_); (case side1 => exact Kd.R_V (Kd.R_tight rfl (HO109.out))); rintro e w6 ⟨v111, rfl, ho0, hb⟩; refine ⟨_, rfl, ?_⟩; have n0_ := Aside0.mk (Kd.R_below (by (with_reducible repeat (first | apply Kd.R_alloc | apply Kd.R_drewN | apply Kd.R_drew)); exact HO109.out) hb); have n1_ := Aside0.mk (Kd.V_lower (Kd.V_mono (ok' := fun k_ => (w.heap.size ≤ k_)) ho0 (fun k_ hk_ => Or.elim hk_ (fun hs_ => ((HO109.out).1 k_ hs_.symm).1) (fun hn_ => (Nat.le_trans (below_size (by repeat (first | (with_reducible first | exact HB.out | apply below_alloc | apply pw_below_drewN | apply below_drew1) | exact HB.out))) hn_)))) (below_size (by repeat (first | (with_reducible first | exact HB.out | apply below_alloc | apply pw_below_drewN | apply below_drew1) | exact HB.out)))); have n2_ := Aside0.mk (below_step (by repeat (first | (with_reducible first | exact HB.out | apply below_alloc | apply pw_below_drewN | apply below_drew1) | exact HB.out)) hb); clear HO109; clear HB; have HO109 := n0_; have HO112 := n1_; have HB := n2_; clear n0_ n1_ n2_; (try clear hb); (try clear hb2); (try clear hk); (try clear hi); (try clear ho0)))
  go_ret
  exact ⟨_, by first | rfl | (simp [errW_none, errW_some] <;> rfl) | (simp [*, errW_none, errW_some] <;> rfl), by (with_reducible repeat (first | apply Kd.V_alloc | apply Kd.V_drewN | apply Kd.V_drew)); exact HO112.out, by repeat (first | (with_reducible first | exact HB.out | apply below_alloc | apply pw_below_drewN | apply below_drew1) | exact HB.out)⟩

-- NOT PRINTED: function 66 (smallbig_Int_SetInt64)

-- NOT PRINTED: function 56 (smallbig_NewInt)

/-! ### smallbig_nat_lsh: function 67 -/
def smallbig_nat_lsh.l0 : Nat → Int → Int → List Int → List Int → Int → Int → Option (List Int)
  | 0, _, _, _, _, _, _ => none
  | k + 1, x5, x6, x7, x25, x26, x27 => if x27 < x26 then (if 0 ≤ x27 then (if x27 < (x25.length : Int) then (if 0 ≤ x6 then (if 0 ≤ (wrap64 (x27 + x5)) then (if (wrap64 (x27 + x5)) < (x7.length : Int) then (if 0 ≤ (wrap64 ((wrap64 (x27 + x5)) + 1)) then (if (wrap64 ((wrap64 (x27 + x5)) + 1)) < (x7.length : Int) then (smallbig_nat_lsh.l0 k x5 x6 ((x7.set ((wrap64 (x27 + x5)) : Int).toNat (Go.bits .or .u32 (rd x7 (wrap64 (x27 + x5))) ((shl .u64 (IntKind.u64.wrap (rd x25 x27)) x6) % 4294967296))).set ((wrap64 ((wrap64 (x27 + x5)) + 1)) : Int).toNat (((shl .u64 (IntKind.u64.wrap (rd x25 x27)) x6) / 4294967296) % 4294967296)) x25 x26 (wrap64 (x27 + 1))) else (none)) else (none)) else (none)) else (none)) else (none)) else (none)) else (none)) else ((smallbig_nat_norm.f k x7).bind fun t121 => (some t121))
def smallbig_nat_lsh.f (k : Nat) (l0 : List Int) (a1 : Int) : Option (List Int) := if (l0.length : Int) = 0 then (some ([] : List Int)) else (if 0 ≤ (wrap64 ((wrap64 ((l0.length : Int) + (wrap64 (IntKind.u64.wrap (Int.tdiv a1 32))))) + 1)) then (if (wrap64 ((wrap64 ((l0.length : Int) + (wrap64 (IntKind.u64.wrap (Int.tdiv a1 32))))) + 1) : Int).toNat ≤ 70368744177664 then (smallbig_nat_lsh.l0 k (wrap64 (IntKind.u64.wrap (Int.tdiv a1 32))) (Int.tmod a1 32) (List.replicate (wrap64 ((wrap64 ((l0.length : Int) + (wrap64 (IntKind.u64.wrap (Int.tdiv a1 32))))) + 1) : Int).toNat 0) l0 (l0.length : Int) 0) else (none)) else (none))
theorem smallbig_nat_lsh.mono_l : ∀ k, (∀ y0 y1 y2 y3 y4 y5, LeO (smallbig_nat_lsh.l0 k y0 y1 y2 y3 y4 y5) (smallbig_nat_lsh.l0 (k + 1) y0 y1 y2 y3 y4 y5))
  | 0 => fun _ _ _ _ _ _ r h => by simp [smallbig_nat_lsh.l0] at h
  | k + 1 => by
    have ih0 := smallbig_nat_lsh.mono_l k
    · intro y0 y1 y2 y3 y4 y5
      unfold smallbig_nat_lsh.l0
      repeat' first
      | (with_reducible exact ih0 _ _ _ _ _ _)
      | (with_reducible exact smallbig_nat_norm.mono _ _)
      | (with_reducible exact LeO.refl _)
      | (with_reducible exact LeO.none _)
      | (with_reducible refine LeO.ite ?_ ?_)
      | (with_reducible refine LeO.bind ?_ (fun _ => ?_))
      | exact ih0 _ _ _ _ _ _
      | exact smallbig_nat_norm.mono _ _
      | exact LeO.none _
      | refine LeO.ite ?_ ?_
      | refine LeO.bind ?_ (fun _ => ?_)
theorem smallbig_nat_lsh.mono : ∀ a0 a1 k, LeO (smallbig_nat_lsh.f k a0 a1) (smallbig_nat_lsh.f (k + 1) a0 a1) := by
  intro a0 a1 k
  have ih0 := smallbig_nat_lsh.mono_l k
  unfold smallbig_nat_lsh.f
  repeat' first
      | (with_reducible exact ih0 _ _ _ _ _ _)
      | (with_reducible exact smallbig_nat_norm.mono _ _)
      | (with_reducible exact LeO.refl _)
      | (with_reducible exact LeO.none _)
      | (with_reducible refine LeO.ite ?_ ?_)
      | (with_reducible refine LeO.bind ?_ (fun _ => ?_))
      | exact ih0 _ _ _ _ _ _
      | exact smallbig_nat_norm.mono _ _
      | exact LeO.none _
      | refine LeO.ite ?_ ?_
      | refine LeO.bind ?_ (fun _ => ?_)
set_option maxHeartbeats 8000000 in
set_option maxRecDepth 100000 in
theorem smallbig_nat_lsh.calls (k : Nat) (A0 : Option Addr) (c0 : Nat) (l0 : List Int) (a1 : Int) (r : List Int) (w : World) (hr0 : Kd.C (Kd.int .u32) w A0 l0.length l0) (hc0 : l0.length ≤ c0) (h : smallbig_nat_lsh.f k l0 a1 = some r) :
    Calls Try.prog 67 #[.slice A0 l0.length c0, .int .u64 a1] w fun e w' => ∃ v0_ : Value, e = .returned (v0_) ∧ Kd.V (Kd.int .u32) 24 w' w.heap.size (fun k_ => (w.heap.size ≤ k_)) v0_ r ∧ Below w.heap.size w w' := by
  have HR0 := Aside0.mk hr0
  have HC0 := Aside0.mk hc0
  clear hr0 hc0
  have HB := Aside0.mk (Below.refl w.heap.size w)
  have H : (if (l0.length : Int) = 0 then (some ([] : List Int)) else (if 0 ≤ (wrap64 ((wrap64 ((l0.length : Int) + (wrap64 (IntKind.u64.wrap (Int.tdiv a1 32))))) + 1)) then (if (wrap64 ((wrap64 ((l0.length : Int) + (wrap64 (IntKind.u64.wrap (Int.tdiv a1 32))))) + 1) : Int).toNat ≤ 70368744177664 then (smallbig_nat_lsh.l0 k (wrap64 (IntKind.u64.wrap (Int.tdiv a1 32))) (Int.tmod a1 32) (List.replicate (wrap64 ((wrap64 ((l0.length : Int) + (wrap64 (IntKind.u64.wrap (Int.tdiv a1 32))))) + 1) : Int).toNat 0) l0 (l0.length : Int) 0) else (none)) else (none))) = some r := h
  clear h
  by_cases c3 : (l0.length : Int) = 0
  · rw [if_pos c3] at H
    have c3b0 : ((l0.length : Int) == 0) = true := beq_iff_eq.mpr c3
    have c3b1 : ((l0.length : Int) != 0) = false := bne_eq_false_iff_eq.mpr c3
    clear c3
    obtain rfl := Option.some.inj H
    go_enter Try.func67, Try.ntmps67
    go_wp2
    go_ret
    exact ⟨_, by first | rfl | (simp [errW_none, errW_some] <;> rfl) | (simp [*, errW_none, errW_some] <;> rfl), (by first | exact Kd.V_nil _ _ _ _ _ | exact Kd.R_V (by first | exact Kd.R_nil _ _ _ _ _ | exact Kd.N_nil _ _ _ _ _ | exact Kd.V_nil _ _ _ _ _ | exact Kd.Q_nil _ _ _ _ _ | exact Kd.S_nil _ _ _ _ _)), by repeat (first | (with_reducible first | exact HB.out | apply below_alloc | apply pw_below_drewN | apply below_drew1) | exact HB.out)⟩
  · rw [if_neg c3] at H
    have c3b0 : ((l0.length : Int) == 0) = false := beq_eq_false_iff_ne.mpr c3
    have c3b1 : ((l0.length : Int) != 0) = true := bne_iff_ne.mpr c3
    have c3b2 : ¬ (l0 = []) := fun h_ => c3 (by rw [h_]; rfl)
    obtain ⟨ji4, hji4⟩ : ∃ j_ : Int, (wrap64 ((wrap64 ((l0.length : Int) + (wrap64 (IntKind.u64.wrap (Int.tdiv a1 32))))) + 1)) = j_ := ⟨_, rfl⟩
    replace H : (if 0 ≤ (ji4) then (if (ji4 : Int).toNat ≤ 70368744177664 then (smallbig_nat_lsh.l0 k (wrap64 (IntKind.u64.wrap (Int.tdiv a1 32))) (Int.tmod a1 32) (List.replicate (ji4 : Int).toNat 0) l0 (l0.length : Int) 0) else (none)) else (none)) = some r := by first | (rw [hji4] at H; exact H) | (simp only [hji4] at H ⊢; exact H)
    have hji4w : (IntKind.i64.wrap ((wrap64 ((l0.length : Int) + (wrap64 (IntKind.u64.wrap (Int.tdiv a1 32))))) + 1)) = ji4 := (i64_w _).trans hji4
    by_cases c5 : 0 ≤ (ji4)
    · rw [if_pos c5] at H
      have c5b0 := eq_true c5
      have c5b1 : decide (0 ≤ (ji4)) = true := decide_eq_true c5
      clear c5
      by_cases c6 : (ji4 : Int).toNat ≤ 70368744177664
      · rw [if_pos c6] at H
        have c6b0 := eq_true c6
        have c6b1 : decide ((ji4 : Int).toNat ≤ 70368744177664) = true := decide_eq_true c6
        clear c6
        obtain ⟨y114, hy114⟩ : ∃ y_ : List Int, y_ = (List.replicate (ji4 : Int).toNat 0) := ⟨_, rfl⟩
        replace H : (smallbig_nat_lsh.l0 k (wrap64 (IntKind.u64.wrap (Int.tdiv a1 32))) (Int.tmod a1 32) y114 l0 (l0.length : Int) 0) = some r := by first | (rw [hy114]; with_reducible exact H) | (have H2_ := (Option.bind_some _ _).symm.trans H; rw [hy114]; with_reducible exact H2_) | (have H2_ := (Option.bind_some _ _).symm.trans H; with_reducible exact H2_) | with_reducible exact H | (rw [hy114]; exact H) | exact H
        have Ny114 := Aside0.mk hy114
        clear hy114
        have H' := Aside0.mk H
        clear H
        go_enter Try.func67, Try.ntmps67
        go_wp2_with (first | ((with_reducible refine gate_dst (N := 24) rfl ?_); refine Kd.R_make (Kd.int .u32) _ 24 rfl (N := 24) rfl 103 _ _ rfl ji4 rfl rfl Try.underlying103 (.int .u32 0) 4 info24 rfl (by decide) (by omega) 0 (ok := fun _ => True) (okp := fun _ => True) rfl (fun _ hk => hk) trivial (of_decide_eq_true (by first | (with_reducible assumption) | assumption)) (Nat.le_trans (Nat.mul_le_mul_right _ (of_decide_eq_true (by first | (with_reducible assumption) | assumption) : ji4.toNat ≤ 70368744177664)) (by omega)) (Below.refl _ _) (Nat.le_refl _) ?_; intro v115 w7 ho8 hb hg_ hnew_; clear hg_ hnew_; (first | rw [← Ny114.out] at ho8 | (simp only [Int.reduceToNat] at ho8; rw [← Ny114.out] at ho8)); have n0_ := Aside0.mk (Kd.R_lower (Kd.R_newM (M := fun k_ => (w.heap.size ≤ k_)) ho8 (below_size (by repeat (first | (with_reducible first | exact HB.out | apply below_alloc | apply pw_below_drewN | apply below_drew1) | exact HB.out))) (fun k_ h_ => h_)) (below_size (by repeat (first | (with_reducible first | exact HB.out | apply below_alloc | apply pw_below_drewN | apply below_drew1) | exact HB.out)))); have n1_ := Aside0.mk (below_step (by repeat (first | (with_reducible first | exact HB.out | apply below_alloc | apply pw_below_drewN | apply below_drew1) | exact HB.out)) hb); clear HB; have HO116 := n0_; have HB := n1_; clear n0_ n1_; clear hb ho8))
        go_loopg [27] k (fun kq v27 w' => ∃ (x7_1 : List Int) (x27_1 : Int), v27 = .int .i64 x27_1 ∧ Aside0 (smallbig_nat_lsh.l0 kq (wrap64 (IntKind.u64.wrap (Int.tdiv a1 32))) (Int.tmod a1 32) x7_1 l0 (l0.length : Int) x27_1 = some r) ∧ Aside0 (kq ≤ k) ∧ Aside0 (Kd.R (Kd.int .u32) 24 w' w.heap.size (fun k_ => (w.heap.size ≤ k_)) v115 x7_1) ∧ Aside0 (Below w.heap.size w w'))
        case atStart => exact ⟨(y114), (0), (by first | rfl | (simp; done) | (simp [*]; done)), H', ⟨Nat.le_refl _⟩, ⟨by (with_reducible repeat (first | apply Kd.R_alloc | apply Kd.R_drewN | apply Kd.R_drew)); exact Kd.R_mono HO116.out (fun _ hk => hk.1)⟩, ⟨by repeat (first | (with_reducible first | exact HB.out | apply below_alloc | apply pw_below_drewN | apply below_drew1) | exact HB.out)⟩⟩
        case round =>
          clear H'
          try clear p2
          try clear c3
          try clear c3b0
          try clear c3b1
          try clear c3b2
          try clear c5
          try clear c5b0
          try clear c5b1
          try clear c6
          try clear c6b0
          try clear c6b1
          try clear p6
          obtain ⟨x7_1, x27_1, rfl, HA, HK1, HO_7, HB⟩ := hrel
          cases gk with
          | zero => exact absurd HA.out (by simp [smallbig_nat_lsh.l0])
          | succ k1 =>
            have H := HA.out
            clear HA
            simp only [smallbig_nat_lsh.l0] at H
            by_cases c9 : x27_1 < (l0.length : Int)
            · rw [if_pos c9] at H
              have c9b0 : decide (x27_1 < (l0.length : Int)) = true := decide_eq_true c9
              clear c9
              by_cases c10 : 0 ≤ x27_1
              · rw [if_pos c10] at H
                have c10b0 : decide (0 ≤ x27_1) = true := decide_eq_true c10
                clear c10
                by_cases c11 : x27_1 < (l0.length : Int)
                · rw [if_pos c11] at H
                  have c11b0 : decide (x27_1 < (l0.length : Int)) = true := decide_eq_true c11
                  clear c11
                  obtain ⟨ji12, hji12⟩ : ∃ j_ : Int, (Int.tmod a1 32) = j_ := ⟨_, rfl⟩
                  replace H : (if 0 ≤ (ji12) then (if 0 ≤ (wrap64 (x27_1 + (wrap64 (IntKind.u64.wrap (Int.tdiv a1 32))))) then (if (wrap64 (x27_1 + (wrap64 (IntKind.u64.wrap (Int.tdiv a1 32))))) < (x7_1.length : Int) then (if 0 ≤ (wrap64 ((wrap64 (x27_1 + (wrap64 (IntKind.u64.wrap (Int.tdiv a1 32))))) + 1)) then (if (wrap64 ((wrap64 (x27_1 + (wrap64 (IntKind.u64.wrap (Int.tdiv a1 32))))) + 1)) < (x7_1.length : Int) then (smallbig_nat_lsh.l0 k1 (wrap64 (IntKind.u64.wrap (Int.tdiv a1 32))) (ji12) ((x7_1.set ((wrap64 (x27_1 + (wrap64 (IntKind.u64.wrap (Int.tdiv a1 32))))) : Int).toNat (Go.bits .or .u32 (rd x7_1 (wrap64 (x27_1 + (wrap64 (IntKind.u64.wrap (Int.tdiv a1 32)))))) ((shl .u64 (IntKind.u64.wrap (rd l0 x27_1)) (ji12)) % 4294967296))).set ((wrap64 ((wrap64 (x27_1 + (wrap64 (IntKind.u64.wrap (Int.tdiv a1 32))))) + 1)) : Int).toNat (((shl .u64 (IntKind.u64.wrap (rd l0 x27_1)) (ji12)) / 4294967296) % 4294967296)) l0 (l0.length : Int) (wrap64 (x27_1 + 1))) else (none)) else (none)) else (none)) else (none)) else (none)) = some r := by first | (rw [hji12] at H; exact H) | (simp only [hji12] at H ⊢; exact H)
                  by_cases c13 : 0 ≤ (ji12)
                  · rw [if_pos c13] at H
                    have c13b0 := eq_true c13
                    have c13b1 : decide (0 ≤ (ji12)) = true := decide_eq_true c13
                    clear c13
                    obtain ⟨ji14, hji14⟩ : ∃ j_ : Int, (shl .u64 (IntKind.u64.wrap (rd l0 x27_1)) (ji12)) = j_ := ⟨_, rfl⟩
                    replace H : (if 0 ≤ (wrap64 (x27_1 + (wrap64 (IntKind.u64.wrap (Int.tdiv a1 32))))) then (if (wrap64 (x27_1 + (wrap64 (IntKind.u64.wrap (Int.tdiv a1 32))))) < (x7_1.length : Int) then (if 0 ≤ (wrap64 ((wrap64 (x27_1 + (wrap64 (IntKind.u64.wrap (Int.tdiv a1 32))))) + 1)) then (if (wrap64 ((wrap64 (x27_1 + (wrap64 (IntKind.u64.wrap (Int.tdiv a1 32))))) + 1)) < (x7_1.length : Int) then (smallbig_nat_lsh.l0 k1 (wrap64 (IntKind.u64.wrap (Int.tdiv a1 32))) (ji12) ((x7_1.set ((wrap64 (x27_1 + (wrap64 (IntKind.u64.wrap (Int.tdiv a1 32))))) : Int).toNat (Go.bits .or .u32 (rd x7_1 (wrap64 (x27_1 + (wrap64 (IntKind.u64.wrap (Int.tdiv a1 32)))))) ((ji14) % 4294967296))).set ((wrap64 ((wrap64 (x27_1 + (wrap64 (IntKind.u64.wrap (Int.tdiv a1 32))))) + 1)) : Int).toNat (((ji14) / 4294967296) % 4294967296)) l0 (l0.length : Int) (wrap64 (x27_1 + 1))) else (none)) else (none)) else (none)) else (none)) = some r := by first | (rw [hji14] at H; exact H) | (simp only [hji14] at H ⊢; exact H)
                    have hji14_ : (IntKind.u64.wrap ((IntKind.u64.wrap (rd l0 x27_1)) * 2 ^ min (ji12).toNat 64)) = ji14 := hji14
                    have hji14z : (ji12) ≤ 64 → (IntKind.u64.wrap ((IntKind.u64.wrap (rd l0 x27_1)) * 2 ^ (ji12).toNat)) = ji14 := shl_small hji14
                    obtain ⟨ji15, hji15⟩ : ∃ j_ : Int, (wrap64 (x27_1 + (wrap64 (IntKind.u64.wrap (Int.tdiv a1 32))))) = j_ := ⟨_, rfl⟩
                    replace H : (if 0 ≤ (ji15) then (if (ji15) < (x7_1.length : Int) then (if 0 ≤ (wrap64 ((ji15) + 1)) then (if (wrap64 ((ji15) + 1)) < (x7_1.length : Int) then (smallbig_nat_lsh.l0 k1 (wrap64 (IntKind.u64.wrap (Int.tdiv a1 32))) (ji12) ((x7_1.set ((ji15) : Int).toNat (Go.bits .or .u32 (rd x7_1 (ji15)) ((ji14) % 4294967296))).set ((wrap64 ((ji15) + 1)) : Int).toNat (((ji14) / 4294967296) % 4294967296)) l0 (l0.length : Int) (wrap64 (x27_1 + 1))) else (none)) else (none)) else (none)) else (none)) = some r := by first | (rw [hji15] at H; exact H) | (simp only [hji15] at H ⊢; exact H)
                    have hji15w : (IntKind.i64.wrap (x27_1 + (wrap64 (IntKind.u64.wrap (Int.tdiv a1 32))))) = ji15 := (i64_w _).trans hji15
                    by_cases c16 : 0 ≤ (ji15)
                    · rw [if_pos c16] at H
                      have c16b0 : decide (0 ≤ (ji15)) = true := decide_eq_true c16
                      clear c16
                      by_cases c17 : (ji15) < (x7_1.length : Int)
                      · rw [if_pos c17] at H
                        have c17b0 : decide ((ji15) < (x7_1.length : Int)) = true := decide_eq_true c17
                        clear c17
                        obtain ⟨y119, hy119⟩ : ∃ y_ : List Int, y_ = (x7_1.set ((ji15) : Int).toNat (Go.bits .or .u32 (rd x7_1 (ji15)) ((ji14) % 4294967296))) := ⟨_, rfl⟩
                        replace H : (if 0 ≤ (wrap64 ((ji15) + 1)) then (if (wrap64 ((ji15) + 1)) < (x7_1.length : Int) then (smallbig_nat_lsh.l0 k1 (wrap64 (IntKind.u64.wrap (Int.tdiv a1 32))) (ji12) (y119.set ((wrap64 ((ji15) + 1)) : Int).toNat (((ji14) / 4294967296) % 4294967296)) l0 (l0.length : Int) (wrap64 (x27_1 + 1))) else (none)) else (none)) = some r := by first | (rw [hy119]; with_reducible exact H) | (have H2_ := (Option.bind_some _ _).symm.trans H; rw [hy119]; with_reducible exact H2_) | (have H2_ := (Option.bind_some _ _).symm.trans H; with_reducible exact H2_) | with_reducible exact H | (rw [hy119]; exact H) | exact H
                        have Ny119 := Aside0.mk hy119
                        clear hy119
                        obtain ⟨ji19, hji19⟩ : ∃ j_ : Int, (wrap64 ((ji15) + 1)) = j_ := ⟨_, rfl⟩
                        replace H : (if 0 ≤ (ji19) then (if (ji19) < (x7_1.length : Int) then (smallbig_nat_lsh.l0 k1 (wrap64 (IntKind.u64.wrap (Int.tdiv a1 32))) (ji12) (y119.set ((ji19) : Int).toNat (((ji14) / 4294967296) % 4294967296)) l0 (l0.length : Int) (wrap64 (x27_1 + 1))) else (none)) else (none)) = some r := by first | (rw [hji19] at H; exact H) | (simp only [hji19] at H ⊢; exact H)
                        have hji19w : (IntKind.i64.wrap ((ji15) + 1)) = ji19 := (i64_w _).trans hji19
                        by_cases c20 : 0 ≤ (ji19)
                        · rw [if_pos c20] at H
                          have c20b0 : decide (0 ≤ (ji19)) = true := decide_eq_true c20
                          clear c20
                          by_cases c21 : (ji19) < (x7_1.length : Int)
                          · rw [if_pos c21] at H
                            have c21b0 : decide ((ji19) < (x7_1.length : Int)) = true := decide_eq_true c21
                            clear c21
                            obtain ⟨y120, hy120⟩ : ∃ y_ : List Int, y_ = (y119.set ((ji19) : Int).toNat (((ji14) / 4294967296) % 4294967296)) := ⟨_, rfl⟩
                            replace H : (smallbig_nat_lsh.l0 k1 (wrap64 (IntKind.u64.wrap (Int.tdiv a1 32))) (ji12) y120 l0 (l0.length : Int) (wrap64 (x27_1 + 1))) = some r := by first | (rw [hy120]; with_reducible exact H) | (have H2_ := (Option.bind_some _ _).symm.trans H; rw [hy120]; with_reducible exact H2_) | (have H2_ := (Option.bind_some _ _).symm.trans H; with_reducible exact H2_) | with_reducible exact H | (rw [hy120]; exact H) | exact H
                            have Ny120 := Aside0.mk hy120
                            clear hy120
                            have H' := Aside0.mk H
                            clear H
                            have p117 : 0 ≤ (x27_1 : Int) := of_decide_eq_true (by first | (with_reducible assumption) | assumption)
                            have q117 : x27_1 < (l0.length : Int) := of_decide_eq_true (by first | (with_reducible assumption) | assumption)
                            obtain ⟨ad117, e117, hx117_0⟩ := Kd.at_int HR0.out x27_1 p117 q117
                            cases e117
                            replace hx117_0 := (HB.out.cell (World.block_lt_of_cell? w _ hx117_0)).trans hx117_0
                            replace p117 := eq_true p117
                            replace q117 := eq_true q117
                            obtain ⟨Ao23, co23, eo23⟩ := Kd.R_slice HO_7.out
                            subst eo23
                            have p118 : 0 ≤ ((ji15) : Int) := of_decide_eq_true (by first | (with_reducible assumption) | assumption)
                            have q118 : (ji15) < (x7_1.length : Int) := of_decide_eq_true (by first | (with_reducible assumption) | assumption)
                            obtain ⟨ad118, e118, hx118_0⟩ := Kd.at_int (Kd.R_reads' HO_7.out).2.2 (ji15) p118 q118
                            cases e118
                            replace p118 := eq_true p118
                            replace q118 := eq_true q118
                            have p18 : 0 ≤ ((ji15) : Int) := of_decide_eq_true (by first | (with_reducible assumption) | assumption)
                            have q18 : ((ji15) : Int) < ((x7_1.length : Int) : Int) := of_decide_eq_true (by first | (with_reducible assumption) | assumption)
                            obtain ⟨go18, co18, eo18, gb18, gl18, cl18, HG18⟩ := Kd.R_form HO_7.out (by omega)
                            (first | cases eo18 | (injection eo18 with ea_ en_ ec_; (first | subst ea_ | (injection ea_ with ea_; subst ea_)); subst ec_; clear en_))
                            have GB18 := Aside0.mk gb18
                            have GG18 := Aside0.mk HG18
                            clear gb18 gl18 HG18
                            (first | simp only [add_plain] at hx118_0 | skip)
                            obtain ⟨hx18_0, hf18_0⟩ := Kd.R_celln 0 HO_7.out ((ji15) : Int) p18 q18
                            replace p18 := eq_true p18
                            replace q18 := eq_true q18
                            have HP24 := Kd.R_putg HO_7.out ((ji15) : Int) (Go.bits .or .u32 (rd x7_1 (ji15)) ((ji14) % 4294967296))
                            go_wp2_with (first | ((with_reducible refine gate_store (t := 24) (p := 45) rfl ?_); refine store_event (t := 24) (p := 45) (v := ?vo_w25) (w1 := (wr.setCell ⟨go18, ((ji15) : Int).toNat, none⟩ (.int .u32 (Go.bits .or .u32 (rd x7_1 (ji15)) ((ji14) % 4294967296))))) ?hg ?ho ?hn ?hr ?_; (case ho => rfl); (case hg => rfl); (case hn => rfl); (case hr => first | (go_simp; done) | (go_simp; rfl)); intro w25 hw; have hg : wr.grownBy w25 (some go18) := (by rw [hw]; exact HP24.2); have hp_ : Kd.R (Kd.int .u32) 24 w25 w.heap.size (fun k_ => (w.heap.size ≤ k_)) (.slice (some ⟨go18, 0, none⟩) x7_1.length co23) y119 := (by rw [hw, Ny119.out]; exact HP24.1); clear HP24; have n0_ := Aside0.mk (hp_); have n1_ := Aside0.mk ((by rw [hw]; exact below_set (HB.out) GB18.out : Below w.heap.size w w25)); clear HO_7; clear HB; have HO_7 := n0_; have HB := n1_; clear n0_ n1_; clear hg hw hp_; have p22 : 0 ≤ ((ji19) : Int) := of_decide_eq_true (by first | (with_reducible assumption) | assumption); have q22 : ((ji19) : Int) < ((x7_1.length : Int) : Int) := of_decide_eq_true (by first | (with_reducible assumption) | assumption); obtain ⟨hx22_0, hf22_0⟩ := Kd.R_celln 0 HO_7.out ((ji19) : Int) p22 q22; replace p22 := eq_true p22; replace q22 := eq_true q22; obtain ⟨hy26_, hz26_⟩ := Kd.R_celln 0 HO_7.out ((ji19) : Int) (of_decide_eq_true (by first | (with_reducible assumption) | assumption)) (of_decide_eq_true (by first | (with_reducible assumption) | assumption)); have HP26 := Kd.R_putg HO_7.out ((ji19) : Int) (((ji14) / 4294967296) % 4294967296)) | ((with_reducible refine gate_store (t := 24) (p := 54) rfl ?_); refine store_event (t := 24) (p := 54) (v := ?vo_w27) (w1 := (w25.setCell ⟨go18, ((ji19) : Int).toNat, none⟩ (.int .u32 (((ji14) / 4294967296) % 4294967296)))) ?hg ?ho ?hn ?hr ?_; (case ho => rfl); (case hg => rfl); (case hn => rfl); (case hr => first | (go_simp; done) | (go_simp; rfl)); intro w27 hw; have hg : w25.grownBy w27 (some go18) := (by rw [hw]; exact HP26.2); have hp_ : Kd.R (Kd.int .u32) 24 w27 w.heap.size (fun k_ => (w.heap.size ≤ k_)) (.slice (some ⟨go18, 0, none⟩) x7_1.length co23) y120 := (by rw [hw, Ny120.out]; exact HP26.1); clear HP26; have n0_ := Aside0.mk (hp_); have n1_ := Aside0.mk ((by rw [hw]; exact below_set (HB.out) GB18.out : Below w.heap.size w w27)); clear HO_7; clear HB; have HO_7 := n0_; have HB := n1_; clear n0_ n1_; clear hg hw hp_))
                            go_roundg k1
                            case measure => have := HK1.out; omega
                            case rel => exact ⟨(y120), (wrap64 (x27_1 + 1)), (by first | rfl | (simp; done) | (simp [*]; done)), (by first | exact H' | (subst_vars; exact H')), ⟨by have := HK1.out; omega⟩, ⟨by (with_reducible repeat (first | apply Kd.R_alloc | apply Kd.R_drewN | apply Kd.R_drew)); exact HO_7.out⟩, ⟨by repeat (first | (with_reducible first | exact HB.out | apply below_alloc | apply pw_below_drewN | apply below_drew1) | exact HB.out)⟩⟩
                          · rw [if_neg c21] at H
                            exact absurd H (by simp)
                        · rw [if_neg c20] at H
                          exact absurd H (by simp)
                      · rw [if_neg c17] at H
                        exact absurd H (by simp)
                    · rw [if_neg c16] at H
                      exact absurd H (by simp)
                  · rw [if_neg c13] at H
                    exact absurd H (by simp)
                · rw [if_neg c11] at H
                  exact absurd H (by simp)
              · rw [if_neg c10] at H
                exact absurd H (by simp)
            · rw [if_neg c9] at H
              have c9b0 : decide (x27_1 < (l0.length : Int)) = false := decide_eq_false c9
              clear c9
              replace H := Option.bind_eq_some_iff.mp H
              obtain ⟨t121, A280, H⟩ := H
              replace H : (some t121) = some r := H
              have A28 := Aside0.mk A280
              clear A280
              obtain rfl := Option.some.inj H
              obtain ⟨Ao29, co29, eo29⟩ := Kd.R_slice HO_7.out
              subst eo29
              go_wp2_with (first | ((with_reducible refine gate_callee (f := 62) rfl ?_); refine goesL_ (some 57) rfl rfl Try.func62 (by kernel_rfl) rfl #[.slice Ao29 x7_1.length co29] rfl (by (try simp only [List.map_toArray, List.map_cons, List.map_nil]); first | done | rfl | (simp only [List.length_drop, List.length_take]; rfl)) ?_; (with_reducible refine (smallbig_nat_norm.calls k1 (fun k_ => some k_ = (.slice Ao29 x7_1.length co29 : Value).ownBlock) _ _ x7_1 t121 _ ?side1 A28.out).mono ?_); (case side1 => exact Kd.R_V (Kd.R_tight rfl (HO_7.out))); rintro e w30 ⟨v122, rfl, ho0, hb⟩; refine ⟨_, rfl, ?_⟩; have n0_ := Aside0.mk (Kd.R_below (by (with_reducible repeat (first | apply Kd.R_alloc | apply Kd.R_drewN | apply Kd.R_drew)); exact HO_7.out) hb); have n1_ := Aside0.mk (Kd.V_lower (Kd.V_mono (ok' := fun k_ => (w.heap.size ≤ k_)) ho0 (fun k_ hk_ => Or.elim hk_ (fun hs_ => ((HO_7.out).1 k_ hs_.symm)) (fun hn_ => (Nat.le_trans (below_size (by repeat (first | (with_reducible first | exact HB.out | apply below_alloc | apply pw_below_drewN | apply below_drew1) | exact HB.out))) hn_)))) (below_size (by repeat (first | (with_reducible first | exact HB.out | apply below_alloc | apply pw_below_drewN | apply below_drew1) | exact HB.out)))); have n2_ := Aside0.mk (below_step (by repeat (first | (with_reducible first | exact HB.out | apply below_alloc | apply pw_below_drewN | apply below_drew1) | exact HB.out)) hb); clear HO_7; clear HB; have HO_7 := n0_; have HO123 := n1_; have HB := n2_; clear n0_ n1_ n2_; (try clear hb); (try clear hb2); (try clear hk); (try clear hi); (try clear ho0)))
              go_ret
              exact ⟨_, by first | rfl | (simp [errW_none, errW_some] <;> rfl) | (simp only [← hji4]; first | rfl | (simp [errW_none, errW_some] <;> rfl)) | (simp [*, errW_none, errW_some] <;> rfl), by (with_reducible repeat (first | apply Kd.V_alloc | apply Kd.V_drewN | apply Kd.V_drew)); exact HO123.out, by repeat (first | (with_reducible first | exact HB.out | apply below_alloc | apply pw_below_drewN | apply below_drew1) | exact HB.out)⟩
      · rw [if_neg c6] at H
        exact absurd H (by simp)
    · rw [if_neg c5] at H
      exact absurd H (by simp)

-- NOT PRINTED: function 57 (smallbig_Int_Lsh)

-- NOT PRINTED: function 58 (smallbig_Int_Neg)

-- NOT PRINTED: function 45 (workmath_CompactToBig)

-- NOT PRINTED: function 24 (blockchain_CompactToBig)

/-! ### impl_copied: function 25 -/
def impl_copied.f (l0 : List Int) : Option (List Int) := (some (([] : List Int) : List Int)).bind fun y124 => (if y124.length + l0.length < 140737488355328 then (some (y124 ++ l0)) else (none))
set_option maxHeartbeats 8000000 in
set_option maxRecDepth 100000 in
theorem impl_copied.calls (A0 : Option Addr) (c0 : Nat) (l0 : List Int) (r : List Int) (w : World) (hr0 : Kd.C (Kd.int .u8) w A0 l0.length l0) (hc0 : l0.length ≤ c0) (h : impl_copied.f l0 = some r) :
    Calls Try.prog 25 #[.slice A0 l0.length c0] w fun e w' => ∃ v0_ : Value, e = .returned (v0_) ∧ Kd.R (Kd.int .u8) 5 w' w.heap.size (fun _ => True) v0_ r ∧ Below w.heap.size w w' := by
  have HR0 := Aside0.mk hr0
  have HC0 := Aside0.mk hc0
  clear hr0 hc0
  have HB := Aside0.mk (Below.refl w.heap.size w)
  have H : ((some (([] : List Int) : List Int)).bind fun y124 => (if y124.length + l0.length < 140737488355328 then (some (y124 ++ l0)) else (none))) = some r := h
  clear h
  obtain ⟨y124, hy124⟩ : ∃ y_ : List Int, y_ = (([] : List Int)) := ⟨_, rfl⟩
  replace H : (if y124.length + l0.length < 140737488355328 then (some (y124 ++ l0)) else (none)) = some r := by first | (rw [hy124]; with_reducible exact H) | (have H2_ := (Option.bind_some _ _).symm.trans H; rw [hy124]; with_reducible exact H2_) | (have H2_ := (Option.bind_some _ _).symm.trans H; with_reducible exact H2_) | with_reducible exact H | (rw [hy124]; exact H) | exact H
  have Ny124 := Aside0.mk hy124
  clear hy124
  by_cases c2 : y124.length + l0.length < 140737488355328
  · rw [if_pos c2] at H
    have LMc2 := Aside0.mk c2
    clear c2
    obtain ⟨y127, hy127⟩ : ∃ y_ : List Int, y_ = (y124 ++ l0) := ⟨_, rfl⟩
    replace H : (some y127) = some r := by first | (rw [hy127]; with_reducible exact H) | (have H2_ := (Option.bind_some _ _).symm.trans H; rw [hy127]; with_reducible exact H2_) | (have H2_ := (Option.bind_some _ _).symm.trans H; with_reducible exact H2_) | with_reducible exact H | (rw [hy127]; exact H) | exact H
    have Ny127 := Aside0.mk hy127
    clear hy127
    obtain rfl := Option.some.inj H
    go_enter Try.func25, Try.ntmps25
    go_wp2_with (first | ((with_reducible refine gate_dst (N := 3) rfl ?_); refine Kd.R_lit (Kd.int .u8) _ 5 ?hg (N := 3) ?hd (xs := ([] : List Int)) (inner := []) (ok := fun _ => True) (okp := fun _ => True) ?hr ?hp (fun _ hk => hk) trivial (Below.refl _ _) (Nat.le_refl _) (by simp) ?_; (case hd => rfl); (case hg => rfl); (case hr => first | (go_simp; done) | (go_simp; rfl)); (case hp => exact (Reps.none _ _)); intro v125 w3 ho4 hb hg_ hnew_; clear hg_ hnew_; (first | rw [← Ny124.out] at ho4 | (simp only [Int.reduceToNat] at ho4; rw [← Ny124.out] at ho4)); have n0_ := Aside0.mk (Kd.R_lower ho4 (below_size (by repeat (first | (with_reducible first | exact HB.out | apply below_alloc | apply pw_below_drewN | apply below_drew1) | exact HB.out)))); have n1_ := Aside0.mk (below_step (by repeat (first | (with_reducible first | exact HB.out | apply below_alloc | apply pw_below_drewN | apply below_drew1) | exact HB.out)) hb); clear HB; have HO126 := n0_; have HB := n1_; clear n0_ n1_; clear hb ho4) | ((with_reducible refine gate_builtin (b := .append) (xs := #[.tmp 3, .tmp 4]) rfl ?_); at_builtin; refine Kd.R_append_rows (Kd.int .u8) (w0 := w) w.heap.size rfl (.tmp 3) (.tmp 4) 33 5 (.int .u8 0) 1 rfl Try.underlying33 info5 rfl (by decide) (by omega) v125 y124 l0 _ _ _ (fun _ => True) (fun _ => False) rfl rfl ?aO ?aR (fun _ _ h => h) (fun _ h => h.elim) ?aF ?aB ?aS ?aL ?_; (case aR => repeat (first | exact (Kd.C_below HR0.out HB.out) | (with_reducible refine Kd.C_alloc ?_ _) | (with_reducible refine Kd.C_drewN ?_ _) | (with_reducible refine Kd.C_drew ?_))); (case aB => exact (by repeat (first | (with_reducible first | exact HB.out | apply below_alloc | apply pw_below_drewN | apply below_drew1) | exact HB.out))); (case aF => exact (fun _ _ => trivial)); (case aO => exact (by (with_reducible repeat (first | apply Kd.R_alloc | apply Kd.R_drewN | apply Kd.R_drew)); exact HO126.out)); (case aS => exact (below_size (by repeat (first | (with_reducible first | exact HB.out | apply below_alloc | apply pw_below_drewN | apply below_drew1) | exact HB.out)))); (case aL => have := LMc2.out; omega); intro v128 w5 ho hb hg hat; rw [← Ny127.out] at ho; have n0_ := Aside0.mk (hb); have n1_ := Aside0.mk (ho); clear HB; clear HO126; have HB := n0_; have HO129 := n1_; clear n0_ n1_; clear ho hb hg hat))
    go_ret
    exact ⟨_, by first | rfl | (simp [errW_none, errW_some] <;> rfl) | (simp [*, errW_none, errW_some] <;> rfl), by (with_reducible repeat (first | apply Kd.R_alloc | apply Kd.R_drewN | apply Kd.R_drew)); exact HO129.out, by repeat (first | (with_reducible first | exact HB.out | apply below_alloc | apply pw_below_drewN | apply below_drew1) | exact HB.out)⟩
  · rw [if_neg c2] at H
    exact absurd H (by simp)

/-! ### smallbig_nat_bitLen: function 47 -/
def smallbig_nat_bitLen.l0 : Nat → Int → Int → Option (Int)
  | 0, _, _ => none
  | k + 1, x3, x4 => if x4 = 0 then (some x3) else (smallbig_nat_bitLen.l0 k (wrap64 (x3 + 1)) (x4 / 2))
def smallbig_nat_bitLen.f (k : Nat) (l0 : List Int) : Option (Int) := if (l0.length : Int) = 0 then (some 0) else (if 0 ≤ (wrap64 ((l0.length : Int) - 1)) then (if (wrap64 ((l0.length : Int) - 1)) < (l0.length : Int) then (smallbig_nat_bitLen.l0 k (wrap64 (32 * (wrap64 ((l0.length : Int) - 1)))) (rd l0 (wrap64 ((l0.length : Int) - 1)))) else (none)) else (none))
theorem smallbig_nat_bitLen.mono_l : ∀ k, (∀ y0 y1, LeO (smallbig_nat_bitLen.l0 k y0 y1) (smallbig_nat_bitLen.l0 (k + 1) y0 y1))
  | 0 => fun _ _ r h => by simp [smallbig_nat_bitLen.l0] at h
  | k + 1 => by
    have ih0 := smallbig_nat_bitLen.mono_l k
    · intro y0 y1
      unfold smallbig_nat_bitLen.l0
      repeat' first
      | (with_reducible exact ih0 _ _)
      | (with_reducible exact LeO.refl _)
      | (with_reducible exact LeO.none _)
      | (with_reducible refine LeO.ite ?_ ?_)
      | (with_reducible refine LeO.bind ?_ (fun _ => ?_))
      | exact ih0 _ _
      | exact LeO.none _
      | refine LeO.ite ?_ ?_
      | refine LeO.bind ?_ (fun _ => ?_)
theorem smallbig_nat_bitLen.mono : ∀ a0 k, LeO (smallbig_nat_bitLen.f k a0) (smallbig_nat_bitLen.f (k + 1) a0) := by
  intro a0 k
  have ih0 := smallbig_nat_bitLen.mono_l k
  unfold smallbig_nat_bitLen.f
  repeat' first
      | (with_reducible exact ih0 _ _)
      | (with_reducible exact LeO.refl _)
      | (with_reducible exact LeO.none _)
      | (with_reducible refine LeO.ite ?_ ?_)
      | (with_reducible refine LeO.bind ?_ (fun _ => ?_))
      | exact ih0 _ _
      | exact LeO.none _
      | refine LeO.ite ?_ ?_
      | refine LeO.bind ?_ (fun _ => ?_)
set_option maxHeartbeats 8000000 in
set_option maxRecDepth 100000 in
theorem smallbig_nat_bitLen.calls (k : Nat) (A0 : Option Addr) (c0 : Nat) (l0 : List Int) (r : Int) (w : World) (hr0 : Kd.C (Kd.int .u32) w A0 l0.length l0) (hc0 : l0.length ≤ c0) (h : smallbig_nat_bitLen.f k l0 = some r) :
    Calls Try.prog 47 #[.slice A0 l0.length c0] w fun e w' => e = .returned (.int .i64 r) ∧ Drawn0 w w' := by
  have HR0 := Aside0.mk hr0
  have HC0 := Aside0.mk hc0
  clear hr0 hc0
  have H : (if (l0.length : Int) = 0 then (some 0) else (if 0 ≤ (wrap64 ((l0.length : Int) - 1)) then (if (wrap64 ((l0.length : Int) - 1)) < (l0.length : Int) then (smallbig_nat_bitLen.l0 k (wrap64 (32 * (wrap64 ((l0.length : Int) - 1)))) (rd l0 (wrap64 ((l0.length : Int) - 1)))) else (none)) else (none))) = some r := h
  clear h
  by_cases c2 : (l0.length : Int) = 0
  · rw [if_pos c2] at H
    have c2b0 : ((l0.length : Int) == 0) = true := beq_iff_eq.mpr c2
    have c2b1 : ((l0.length : Int) != 0) = false := bne_eq_false_iff_eq.mpr c2
    clear c2
    obtain rfl := Option.some.inj H
    go_enter Try.func47, Try.ntmps47
    go_wp2
    go_ret
    exact ⟨by first | rfl | (simp; done) | (simp [*]; done), by repeat (first | exact Drawn0.refl _ | apply Drawn0.step)⟩
  · rw [if_neg c2] at H
    have c2b0 : ((l0.length : Int) == 0) = false := beq_eq_false_iff_ne.mpr c2
    have c2b1 : ((l0.length : Int) != 0) = true := bne_iff_ne.mpr c2
    have c2b2 : ¬ (l0 = []) := fun h_ => c2 (by rw [h_]; rfl)
    obtain ⟨ji3, hji3⟩ : ∃ j_ : Int, (wrap64 ((l0.length : Int) - 1)) = j_ := ⟨_, rfl⟩
    replace H : (if 0 ≤ (ji3) then (if (ji3) < (l0.length : Int) then (smallbig_nat_bitLen.l0 k (wrap64 (32 * (ji3))) (rd l0 (ji3))) else (none)) else (none)) = some r := by first | (rw [hji3] at H; exact H) | (simp only [hji3] at H ⊢; exact H)
    have hji3w : (IntKind.i64.wrap ((l0.length : Int) - 1)) = ji3 := (i64_w _).trans hji3
    by_cases c4 : 0 ≤ (ji3)
    · rw [if_pos c4] at H
      have c4b0 : decide (0 ≤ (ji3)) = true := decide_eq_true c4
      clear c4
      by_cases c5 : (ji3) < (l0.length : Int)
      · rw [if_pos c5] at H
        have c5b0 : decide ((ji3) < (l0.length : Int)) = true := decide_eq_true c5
        clear c5
        have H' := Aside0.mk H
        clear H
        have p130 : 0 ≤ ((ji3) : Int) := of_decide_eq_true (by first | (with_reducible assumption) | assumption)
        have q130 : (ji3) < (l0.length : Int) := of_decide_eq_true (by first | (with_reducible assumption) | assumption)
        obtain ⟨ad130, e130, hx130_0⟩ := Kd.at_int HR0.out (ji3) p130 q130
        cases e130
        replace p130 := eq_true p130
        replace q130 := eq_true q130
        go_enter Try.func47, Try.ntmps47
        go_wp2
        go_loopg [3, 4] k (fun kq v3 v4 w' => ∃ (x3_1 : Int) (x4_1 : Int), v3 = .int .i64 x3_1 ∧ v4 = .int .u32 x4_1 ∧ Aside0 (smallbig_nat_bitLen.l0 kq x3_1 x4_1 = some r) ∧ Aside0 (kq ≤ k) ∧ Drawn0 w w')
        case atStart => exact ⟨(wrap64 (32 * (ji3))), (rd l0 (ji3)), (by first | rfl | (simp; done) | (simp only [← hji3] <;> (first | rfl | simp)) | (simp [*]; done)), (by first | rfl | (simp; done) | (simp only [← hji3] <;> (first | rfl | simp)) | (simp [*]; done)), H', ⟨Nat.le_refl _⟩, by repeat (first | exact Drawn0.refl _ | apply Drawn0.step)⟩
        case round =>
          clear H'
          try clear p1
          try clear q1
          try clear hx1
          try clear c2
          try clear c2b0
          try clear c2b1
          try clear c2b2
          try clear p2
          try clear c4
          try clear c4b0
          try clear c5
          try clear c5b0
          try clear hx130_0
          try clear p130
          try clear q130
          obtain ⟨x3_1, x4_1, rfl, rfl, HA, HK1, ⟨m1, rfl⟩⟩ := hrel
          cases gk with
          | zero => exact absurd HA.out (by simp [smallbig_nat_bitLen.l0])
          | succ k1 =>
            have H := HA.out
            clear HA
            simp only [smallbig_nat_bitLen.l0] at H
            by_cases c6 : x4_1 = 0
            · rw [if_pos c6] at H
              have c6b0 : (x4_1 == 0) = true := beq_iff_eq.mpr c6
              have c6b1 : (x4_1 != 0) = false := bne_eq_false_iff_eq.mpr c6
              clear c6
              obtain rfl := Option.some.inj H
              go_wp2
              go_ret
              exact ⟨by first | rfl | (simp; done) | (simp only [← hji3] <;> (first | rfl | simp)) | (simp [*]; done), by repeat (first | exact Drawn0.refl _ | apply Drawn0.step)⟩
            · rw [if_neg c6] at H
              have c6b0 : (x4_1 == 0) = false := beq_eq_false_iff_ne.mpr c6
              have c6b1 : (x4_1 != 0) = true := bne_iff_ne.mpr c6
              have H' := Aside0.mk H
              clear H
              go_wp2
              go_roundg k1
              case measure => have := HK1.out; omega
              case rel => exact ⟨(wrap64 (x3_1 + 1)), (x4_1 / 2), (by first | rfl | (simp; done) | (simp [*]; done)), (by first | rfl | (simp; done) | (simp [*]; done)), (by first | exact H' | (subst_vars; exact H')), ⟨by have := HK1.out; omega⟩, by repeat (first | exact Drawn0.refl _ | apply Drawn0.step)⟩
      · rw [if_neg c5] at H
        exact absurd H (by simp)
    · rw [if_neg c4] at H
      exact absurd H (by simp)

-- NOT PRINTED: function 46 (smallbig_Int_FillBytes)

-- NOT PRINTED: function 26 (smallbig_Int_Bytes)

/-- A state of type 105 at block g of W; what its slices lead to came in by w0. -/
def IsS105 (w0 W : World) (g : Nat) (f0 : Bool) (f1 : List Int) : Prop := ∃ A1 c1, W.heap[g]? = some (.cells #[.bool f0, .slice A1 f1.length c1] 105 (0, 0)) ∧ w0.heap.size ≤ g ∧ Kd.C (Kd.int .u32) w0 A1 f1.length f1
theorem IsS105.grown {w0 W : World} {g : Nat} {f0 : Bool} {f1 : List Int} {W1 : World} {row : Option Nat} (h : IsS105 w0 W g f0 f1) (hw : W.grownBy W1 row) (hne : some g ≠ row) : IsS105 w0 W1 g f0 f1 := by
  obtain ⟨A1, c1, hb, hg, hr1⟩ := h
  exact ⟨A1, c1, blk_grown hb hw hne, hg, hr1⟩
theorem IsS105.own_neN {w0 W : World} {g : Nat} {f0 : Bool} {f1 : List Int} {α : Type} {d : Kd α} {e : Nat} {base : Nat} {ok : Nat → Prop} {v : Value} {xs : List α} (h : IsS105 w0 W g f0 f1) (ho : Kd.N d e W base ok v xs) (ht : e ≠ 105) : some g ≠ v.ownBlock := by
  obtain ⟨A1, c1, hb, hg, hr1⟩ := h
  exact Kd.N_ne ho hb ht
theorem IsS105.fresh {w0 W : World} {g : Nat} {f0 : Bool} {f1 : List Int} (h : IsS105 w0 W g f0 f1) : ∀ k, W.heap.size ≤ k → k ≠ g := by
  obtain ⟨A1, c1, hb, hg, hr1⟩ := h
  exact Kd.freshB hb
theorem IsS105.kept {w0 W : World} {g : Nat} {f0 : Bool} {f1 : List Int} {W1 : World} {S : Nat → Prop} (h : IsS105 w0 W g f0 f1) (hk : Kept W W1 S) (hne : ¬ S g) : IsS105 w0 W1 g f0 f1 := by
  obtain ⟨A1, c1, hb, hg, hr1⟩ := h
  exact ⟨A1, c1, blk_kept hb hk hne, hg, hr1⟩
theorem IsS105.below {w0 W : World} {g : Nat} {f0 : Bool} {f1 : List Int} {W1 : World} (h : IsS105 w0 W g f0 f1) (hw : Below W.heap.size W W1) : IsS105 w0 W1 g f0 f1 := h.grown (grown_of_below hw none) (by simp)
theorem IsS105.alloc {w0 W : World} {g : Nat} {f0 : Bool} {f1 : List Int} (h : IsS105 w0 W g f0 f1) (o : Obj) : IsS105 w0 (W.alloc o) g f0 f1 := h.below (below_alloc (Below.refl _ _) o)
theorem IsS105.drewN {w0 W : World} {g : Nat} {f0 : Bool} {f1 : List Int} (h : IsS105 w0 W g f0 f1) (m : Nat) : IsS105 w0 (W.drewN m) g f0 f1 := h
theorem IsS105.drew {w0 W : World} {g : Nat} {f0 : Bool} {f1 : List Int} (h : IsS105 w0 W g f0 f1) : IsS105 w0 W.drew g f0 f1 := h
theorem IsS105.at_ {w0 W : World} {g : Nat} {f0 : Bool} {f1 : List Int} {w' : World} {m : Nat} (hq : W.drewN m = w') (h : IsS105 w0 W g f0 f1) : IsS105 w0 w' g f0 f1 := by subst hq; exact IsS105.drewN h m
theorem IsS105.apart {w0 W : World} {g : Nat} {f0 : Bool} {f1 : List Int} {α : Type} {d : Kd α} {e : Nat} {base : Nat} {ok : Nat → Prop} {v : Value} {xs : List α} (h : IsS105 w0 W g f0 f1) (ho : d.R e W base ok v xs) (ht : ∀ q, q ∈ e :: d.E → q ≠ 105) : d.R e W base (fun k => ok k ∧ k ≠ g) v xs := by
  obtain ⟨A1, c1, hb, hg, hr1⟩ := h
  exact Kd.R_types ho hb ht
theorem IsS105.own_ne {w0 W : World} {g : Nat} {f0 : Bool} {f1 : List Int} {α : Type} {d : Kd α} {e : Nat} {base : Nat} {ok : Nat → Prop} {v : Value} {xs : List α} (h : IsS105 w0 W g f0 f1) (ho : d.R e W base ok v xs) (ht : e ≠ 105) : some g ≠ v.ownBlock := by
  obtain ⟨A1, c1, hb, hg, hr1⟩ := h
  exact Kd.R_ne ho hb ht
theorem IsS105.apartQ {w0 W : World} {g : Nat} {f0 : Bool} {f1 : List Int} {α : Type} {d : Kd α} {e : Nat} {base : Nat} {ok : Nat → Prop} {v : Value} {xs : List α} (h : IsS105 w0 W g f0 f1) (ho : d.Q e W base ok v xs) (ht : ∀ q, q ∈ e :: d.E → q ≠ 105) : d.Q e W base (fun k => ok k ∧ k ≠ g) v xs := by
  obtain ⟨A1, c1, hb, hg, hr1⟩ := h
  exact Kd.Q_types ho hb ht
theorem IsS105.own_neQ {w0 W : World} {g : Nat} {f0 : Bool} {f1 : List Int} {α : Type} {d : Kd α} {e : Nat} {base : Nat} {ok : Nat → Prop} {v : Value} {xs : List α} (h : IsS105 w0 W g f0 f1) (ho : d.Q e W base ok v xs) (ht : e ≠ 105) : some g ≠ v.ownBlock := by
  obtain ⟨A1, c1, hb, hg, hr1⟩ := h
  exact Kd.Q_ne ho hb ht
theorem IsS105.apartS {w0 W : World} {g : Nat} {f0 : Bool} {f1 : List Int} {α : Type} {d : Kd α} {e : Nat} {base : Nat} {ok : Nat → Prop} {v : Value} {xs : List α} (h : IsS105 w0 W g f0 f1) (ho : d.S e W base ok v xs) (ht : ∀ q, q ∈ e :: d.E → q ≠ 105) : d.S e W base (fun k => ok k ∧ k ≠ g) v xs := by
  obtain ⟨A1, c1, hb, hg, hr1⟩ := h
  exact Kd.S_types ho hb ht
theorem IsS105.own_neS {w0 W : World} {g : Nat} {f0 : Bool} {f1 : List Int} {α : Type} {d : Kd α} {e : Nat} {base : Nat} {ok : Nat → Prop} {v : Value} {xs : List α} (h : IsS105 w0 W g f0 f1) (ho : d.S e W base ok v xs) (ht : e ≠ 105) : some g ≠ v.ownBlock := by
  obtain ⟨A1, c1, hb, hg, hr1⟩ := h
  exact Kd.S_ne ho hb ht
theorem IsS105.lt {w0 W : World} {g : Nat} {f0 : Bool} {f1 : List Int} (h : IsS105 w0 W g f0 f1) : g < W.heap.size := by
  obtain ⟨A1, c1, hb, hg, hr1⟩ := h
  exact blk_lt hb
theorem IsS105.ge {w0 W : World} {g : Nat} {f0 : Bool} {f1 : List Int} (h : IsS105 w0 W g f0 f1) : w0.heap.size ≤ g := by
  obtain ⟨A1, c1, hb, hg, hr1⟩ := h
  exact hg
theorem IsS105.ne_blk {w0 W : World} {g : Nat} {f0 : Bool} {f1 : List Int} {a : Nat} {cs : Array Value} {t : TypeId} {fr : Nat × Nat} (h : IsS105 w0 W g f0 f1) (hb2 : W.heap[a]? = some (.cells cs t fr)) (ht : t ≠ 105) : g ≠ a := by
  obtain ⟨A1, c1, hb, hg, hr1⟩ := h
  rintro rfl
  rw [hb] at hb2
  injection hb2 with hb2
  injection hb2 with _ ht2
  exact ht ht2.symm
theorem IsS105.far {w0 W : World} {g : Nat} {f0 : Bool} {f1 : List Int} {p : Addr} (h : IsS105 w0 W g f0 f1) (hne : g ≠ p.block) (u : Value) : IsS105 w0 (W.setCell p u) g f0 f1 := by
  obtain ⟨A1, c1, hb, hg, hr1⟩ := h
  exact ⟨A1, c1, blk_far hb hne u, hg, hr1⟩
theorem cellS105_0 {W : World} {g : Nat} {A1 : Option Addr} {c1 : Nat} {f0 : Bool} {f1 : List Int} (h : W.heap[g]? = some (.cells #[.bool f0, .slice A1 f1.length c1] 105 (0, 0))) : W.cell? ⟨g, 0, none⟩ = some (.bool f0) := (blk_cell h 0).trans rfl
theorem IsS105.set_0 {w0 W : World} {g : Nat} {f0 : Bool} {f1 : List Int} (h : IsS105 w0 W g f0 f1) (x : Bool) : IsS105 w0 (W.setCell ⟨g, 0, none⟩ (.bool x)) g x f1 := by
  obtain ⟨A1, c1, hb, hg, hr1⟩ := h
  exact ⟨A1, c1, by simpa using blk_set hb 0 (.bool x), hg, hr1⟩
theorem cellS105_1 {W : World} {g : Nat} {A1 : Option Addr} {c1 : Nat} {f0 : Bool} {f1 : List Int} (h : W.heap[g]? = some (.cells #[.bool f0, .slice A1 f1.length c1] 105 (0, 0))) : W.cell? ⟨g, 1, none⟩ = some (.slice A1 f1.length c1) := (blk_cell h 1).trans rfl
theorem IsS105.new (w0 W : World) (A1 : Option Addr) (c1 : Nat) (f0 : Bool) (f1 : List Int) (hB : Below w0.heap.size w0 W) (hr1 : Kd.C (Kd.int .u32) w0 A1 f1.length f1) : IsS105 w0 (W.alloc (.cells #[.bool f0, .slice A1 f1.length c1] 105)) W.heap.size f0 f1 := ⟨A1, c1, by simpa using heap_alloc_new W _, hB.size, hr1⟩

/-! ### smallbig_Int_Sign: function 27 -/
def smallbig_Int_Sign.f (s0_0 : Bool) (s0_1 : List Int) : Option (Int × Bool) := if (s0_1.length : Int) = 0 then (some (0, s0_0)) else (if s0_0 = true then (some ((-1), s0_0)) else (some (1, s0_0)))
set_option maxHeartbeats 8000000 in
set_option maxRecDepth 100000 in
theorem smallbig_Int_Sign.calls (g : Nat) (s0_0 : Bool) (s0_1 : List Int) (r1 : Int) (r2 : Bool) (w0 w : World) (hI : IsS105 w0 w g s0_0 s0_1) (hB : Below w0.heap.size w0 w) (h : smallbig_Int_Sign.f s0_0 s0_1 = some (r1, r2)) :
    Calls Try.prog 27 #[.pointer (some ⟨g, 0, none⟩)] w fun e w' => e = .returned (.int .i64 r1) ∧ IsS105 w0 w' g r2 s0_1 ∧ Below w0.heap.size w0 w' ∧ KeepBut w w' g none := by
  have HI0 := Aside0.mk hI
  have HK := Aside0.mk (KeepBut.refl w g none)
  have HL := Aside0.mk hB.size
  clear hI
  have HW0 := Aside0.mk hB.size
  have HB := Aside0.mk hB
  clear hB
  have H : (if (s0_1.length : Int) = 0 then (some (0, s0_0)) else (if s0_0 = true then (some ((-1), s0_0)) else (some (1, s0_0)))) = some (r1, r2) := h
  clear h
  by_cases c2 : (s0_1.length : Int) = 0
  · rw [if_pos c2] at H
    have c2b0 : ((s0_1.length : Int) == 0) = true := beq_iff_eq.mpr c2
    have c2b1 : ((s0_1.length : Int) != 0) = false := bne_eq_false_iff_eq.mpr c2
    clear c2
    simp only [Option.some.injEq, Prod.mk.injEq] at H
    obtain ⟨rfl, rfl⟩ := H
    obtain ⟨ASz3_1, cSz3_1, HGz3, hgz3, HSz3_1⟩ := HI0.out
    have hcz3_0 := cellS105_0 HGz3
    have hcz3_1 := cellS105_1 HGz3
    have hfz3_0 := blk_frozen HGz3 0
    clear HGz3 hgz3
    go_enter Try.func27, Try.ntmps27
    go_wp2
    go_ret
    exact ⟨by first | rfl | (simp [errW_none, errW_some] <;> rfl) | (simp [*, errW_none, errW_some] <;> rfl), by repeat (first | (with_reducible first | exact HI0.out | apply IsS105.alloc | apply IsS105.drewN | apply IsS105.drew | apply IsS105.set_0) | exact HI0.out), by repeat (first | (with_reducible first | exact HB.out | apply below_alloc | apply pw_below_drewN | apply below_drew1 | refine below_set ?_ (IsS105.ge HI0.out)) | exact HB.out), by repeat (first | (with_reducible first | exact HK.out | apply KeepBut.set_ | apply keep_drewN | apply keep_drew | apply keep_alloc) | exact HK.out)⟩
  · rw [if_neg c2] at H
    have c2b0 : ((s0_1.length : Int) == 0) = false := beq_eq_false_iff_ne.mpr c2
    have c2b1 : ((s0_1.length : Int) != 0) = true := bne_iff_ne.mpr c2
    have c2b2 : ¬ (s0_1 = []) := fun h_ => c2 (by rw [h_]; rfl)
    by_cases c4 : s0_0 = true
    · subst c4
      have H1 : (some ((-1), true)) = some (r1, r2) := by rw [if_pos rfl] at H; exact H
      clear H
      have H := H1
      clear H1
      simp only [Option.some.injEq, Prod.mk.injEq] at H
      obtain ⟨rfl, rfl⟩ := H
      obtain ⟨ASz5_1, cSz5_1, HGz5, hgz5, HSz5_1⟩ := HI0.out
      have hcz5_0 := cellS105_0 HGz5
      have hcz5_1 := cellS105_1 HGz5
      have hfz5_0 := blk_frozen HGz5 0
      clear HGz5 hgz5
      go_enter Try.func27, Try.ntmps27
      go_wp2
      go_ret
      exact ⟨by first | rfl | (simp [errW_none, errW_some] <;> rfl) | (simp [*, errW_none, errW_some] <;> rfl), by repeat (first | (with_reducible first | exact HI0.out | apply IsS105.alloc | apply IsS105.drewN | apply IsS105.drew | apply IsS105.set_0) | exact HI0.out), by repeat (first | (with_reducible first | exact HB.out | apply below_alloc | apply pw_below_drewN | apply below_drew1 | refine below_set ?_ (IsS105.ge HI0.out)) | exact HB.out), by repeat (first | (with_reducible first | exact HK.out | apply KeepBut.set_ | apply keep_drewN | apply keep_drew | apply keep_alloc) | exact HK.out)⟩
    · replace c4 := Bool.eq_false_iff.mpr c4
      subst c4
      have H1 : (some (1, false)) = some (r1, r2) := by rw [if_neg (show ¬ (false = true) by decide)] at H; exact H
      clear H
      have H := H1
      clear H1
      simp only [Option.some.injEq, Prod.mk.injEq] at H
      obtain ⟨rfl, rfl⟩ := H
      obtain ⟨ASz6_1, cSz6_1, HGz6, hgz6, HSz6_1⟩ := HI0.out
      have hcz6_0 := cellS105_0 HGz6
      have hcz6_1 := cellS105_1 HGz6
      have hfz6_0 := blk_frozen HGz6 0
      clear HGz6 hgz6
      go_enter Try.func27, Try.ntmps27
      go_wp2
      go_ret
      exact ⟨by first | rfl | (simp [errW_none, errW_some] <;> rfl) | (simp [*, errW_none, errW_some] <;> rfl), by repeat (first | (with_reducible first | exact HI0.out | apply IsS105.alloc | apply IsS105.drewN | apply IsS105.drew | apply IsS105.set_0) | exact HI0.out), by repeat (first | (with_reducible first | exact HB.out | apply below_alloc | apply pw_below_drewN | apply below_drew1 | refine below_set ?_ (IsS105.ge HI0.out)) | exact HB.out), by repeat (first | (with_reducible first | exact HK.out | apply KeepBut.set_ | apply keep_drewN | apply keep_drew | apply keep_alloc) | exact HK.out)⟩

-- NOT PRINTED: function 10 (impl_Target)

/-! ### smallbig_nat_low64: function 68 -/
def smallbig_nat_low64.l0 : Nat → List Int → Int → Int → Option (Int)
  | 0, _, _, _ => none
  | k + 1, x0, x3, x4 => if x4 < (x0.length : Int) then (if x4 < 2 then (if 0 ≤ x4 then (if 0 ≤ (wrap64 (32 * x4)) then (smallbig_nat_low64.l0 k x0 (Go.bits .or .u64 x3 (shl .u64 (IntKind.u64.wrap (rd x0 x4)) (wrap64 (32 * x4)))) (wrap64 (x4 + 1))) else (none)) else (none)) else (some x3)) else (some x3)
def smallbig_nat_low64.f (k : Nat) (l0 : List Int) : Option (Int) := smallbig_nat_low64.l0 k l0 0 0
theorem smallbig_nat_low64.mono_l : ∀ k, (∀ y0 y1 y2, LeO (smallbig_nat_low64.l0 k y0 y1 y2) (smallbig_nat_low64.l0 (k + 1) y0 y1 y2))
  | 0 => fun _ _ _ r h => by simp [smallbig_nat_low64.l0] at h
  | k + 1 => by
    have ih0 := smallbig_nat_low64.mono_l k
    · intro y0 y1 y2
      unfold smallbig_nat_low64.l0
      repeat' first
      | (with_reducible exact ih0 _ _ _)
      | (with_reducible exact LeO.refl _)
      | (with_reducible exact LeO.none _)
      | (with_reducible refine LeO.ite ?_ ?_)
      | (with_reducible refine LeO.bind ?_ (fun _ => ?_))
      | exact ih0 _ _ _
      | exact LeO.none _
      | refine LeO.ite ?_ ?_
      | refine LeO.bind ?_ (fun _ => ?_)
theorem smallbig_nat_low64.mono : ∀ a0 k, LeO (smallbig_nat_low64.f k a0) (smallbig_nat_low64.f (k + 1) a0) := by
  intro a0 k
  have ih0 := smallbig_nat_low64.mono_l k
  unfold smallbig_nat_low64.f
  repeat' first
      | (with_reducible exact ih0 _ _ _)
      | (with_reducible exact LeO.refl _)
      | (with_reducible exact LeO.none _)
      | (with_reducible refine LeO.ite ?_ ?_)
      | (with_reducible refine LeO.bind ?_ (fun _ => ?_))
      | exact ih0 _ _ _
      | exact LeO.none _
      | refine LeO.ite ?_ ?_
      | refine LeO.bind ?_ (fun _ => ?_)
set_option maxHeartbeats 8000000 in
set_option maxRecDepth 100000 in
theorem smallbig_nat_low64.calls (k : Nat) (A0 : Option Addr) (c0 : Nat) (l0 : List Int) (r : Int) (w : World) (hr0 : Kd.C (Kd.int .u32) w A0 l0.length l0) (hc0 : l0.length ≤ c0) (h : smallbig_nat_low64.f k l0 = some r) :
    Calls Try.prog 68 #[.slice A0 l0.length c0] w fun e w' => e = .returned (.int .u64 r) ∧ Drawn0 w w' := by
  have HR0 := Aside0.mk hr0
  have HC0 := Aside0.mk hc0
  clear hr0 hc0
  have H : (smallbig_nat_low64.l0 k l0 0 0) = some r := h
  clear h
  have H' := Aside0.mk H
  clear H
  go_enter Try.func68, Try.ntmps68
  go_wp2
  go_loopg [3, 4] k (fun kq v3 v4 w' => ∃ (x3_1 : Int) (x4_1 : Int), v3 = .int .u64 x3_1 ∧ v4 = .int .i64 x4_1 ∧ Aside0 (smallbig_nat_low64.l0 kq l0 x3_1 x4_1 = some r) ∧ Aside0 (kq ≤ k) ∧ Drawn0 w w')
  case atStart => exact ⟨(0), (0), (by first | rfl | (simp; done) | (simp [*]; done)), (by first | rfl | (simp; done) | (simp [*]; done)), H', ⟨Nat.le_refl _⟩, by repeat (first | exact Drawn0.refl _ | apply Drawn0.step)⟩
  case round =>
    clear H'
    obtain ⟨x3_1, x4_1, rfl, rfl, HA, HK1, ⟨m1, rfl⟩⟩ := hrel
    cases gk with
    | zero => exact absurd HA.out (by simp [smallbig_nat_low64.l0])
    | succ k1 =>
      have H := HA.out
      clear HA
      simp only [smallbig_nat_low64.l0] at H
      by_cases c2 : x4_1 < (l0.length : Int)
      · rw [if_pos c2] at H
        have c2b0 : decide (x4_1 < (l0.length : Int)) = true := decide_eq_true c2
        clear c2
        by_cases c3 : x4_1 < 2
        · rw [if_pos c3] at H
          have c3b0 : decide (x4_1 < 2) = true := decide_eq_true c3
          clear c3
          by_cases c4 : 0 ≤ x4_1
          · rw [if_pos c4] at H
            have c4b0 : decide (0 ≤ x4_1) = true := decide_eq_true c4
            clear c4
            obtain ⟨ji5, hji5⟩ : ∃ j_ : Int, (wrap64 (32 * x4_1)) = j_ := ⟨_, rfl⟩
            replace H : (if 0 ≤ (ji5) then (smallbig_nat_low64.l0 k1 l0 (Go.bits .or .u64 x3_1 (shl .u64 (IntKind.u64.wrap (rd l0 x4_1)) (ji5))) (wrap64 (x4_1 + 1))) else (none)) = some r := by first | (rw [hji5] at H; exact H) | (simp only [hji5] at H ⊢; exact H)
            have hji5w : (IntKind.i64.wrap (32 * x4_1)) = ji5 := (i64_w _).trans hji5
            by_cases c6 : 0 ≤ (ji5)
            · rw [if_pos c6] at H
              have c6b0 := eq_true c6
              have c6b1 : decide (0 ≤ (ji5)) = true := decide_eq_true c6
              clear c6
              obtain ⟨ji7, hji7⟩ : ∃ j_ : Int, (shl .u64 (IntKind.u64.wrap (rd l0 x4_1)) (ji5)) = j_ := ⟨_, rfl⟩
              replace H : (smallbig_nat_low64.l0 k1 l0 (Go.bits .or .u64 x3_1 (ji7)) (wrap64 (x4_1 + 1))) = some r := by first | (rw [hji7] at H; exact H) | (simp only [hji7] at H ⊢; exact H)
              have hji7_ : (IntKind.u64.wrap ((IntKind.u64.wrap (rd l0 x4_1)) * 2 ^ min (ji5).toNat 64)) = ji7 := hji7
              have hji7z : (ji5) ≤ 64 → (IntKind.u64.wrap ((IntKind.u64.wrap (rd l0 x4_1)) * 2 ^ (ji5).toNat)) = ji7 := shl_small hji7
              have H' := Aside0.mk H
              clear H
              have p139 : 0 ≤ (x4_1 : Int) := of_decide_eq_true (by first | (with_reducible assumption) | assumption)
              have q139 : x4_1 < (l0.length : Int) := of_decide_eq_true (by first | (with_reducible assumption) | assumption)
              obtain ⟨ad139, e139, hx139_0⟩ := Kd.at_int HR0.out x4_1 p139 q139
              cases e139
              replace p139 := eq_true p139
              replace q139 := eq_true q139
              go_wp2
              go_roundg k1
              case measure => have := HK1.out; omega
              case rel => exact ⟨(Go.bits .or .u64 x3_1 (ji7)), (wrap64 (x4_1 + 1)), (by first | rfl | (simp; done) | (simp only [← hji7] <;> (first | rfl | simp)) | (simp [*]; done)), (by first | rfl | (simp; done) | (simp [*]; done)), (by first | exact H' | (subst_vars; exact H')), ⟨by have := HK1.out; omega⟩, by repeat (first | exact Drawn0.refl _ | apply Drawn0.step)⟩
            · rw [if_neg c6] at H
              exact absurd H (by simp)
          · rw [if_neg c4] at H
            exact absurd H (by simp)
        · rw [if_neg c3] at H
          have c3b0 : decide (x4_1 < 2) = false := decide_eq_false c3
          clear c3
          obtain rfl := Option.some.inj H
          go_wp2
          go_ret
          exact ⟨by first | rfl | (simp; done) | (simp [*]; done), by repeat (first | exact Drawn0.refl _ | apply Drawn0.step)⟩
      · rw [if_neg c2] at H
        have c2b0 : decide (x4_1 < (l0.length : Int)) = false := decide_eq_false c2
        clear c2
        obtain rfl := Option.some.inj H
        go_wp2
        go_ret
        exact ⟨by first | rfl | (simp; done) | (simp [*]; done), by repeat (first | exact Drawn0.refl _ | apply Drawn0.step)⟩

-- NOT PRINTED: function 59 (smallbig_Int_Bits)

-- NOT PRINTED: function 60 (smallbig_Int_Set)

end Go.Proofs.Ytdmpjoglejnpbaa.QFnTargetBack
