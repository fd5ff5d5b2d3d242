/- Texts of this claim. -/
import Derived.Test.YtigpdgfhngknhaaK0
-- Made by a turned print (own tool turnprint.py over the kit print).
namespace Go.Proofs.Ytigpdgfhngknhaa.QFnProofFault
open Go.RowKit Go.Proofs.YtigpdgfhngknhaaW.PrintWords Go.Proofs.YtigpdgfhngknhaaW.PrintLast Go.Proofs.YtigpdgfhngknhaaW.PrintMore
attribute [local go_sem] nn_mod256 nn_mod65536 nn_mod32 max2_int min2_int max_two min_two max_three min_three max_four min_four   -- for this text's walks alone
set_option linter.unusedVariables false
set_option linter.unusedSimpArgs false

/-! ### impl_copied: function 45 -/
def impl_copied.f (l0 : List Int) : Option (List Int) := (some (([] : List Int) : List Int)).bind fun y133 => (if y133.length + l0.length < 140737488355328 then (some (y133 ++ l0)) else (none))
set_option maxHeartbeats 8000000 in
set_option maxRecDepth 100000 in
theorem impl_copied.calls (A0 : Option Addr) (c0 : Nat) (l0 : List Int) (r : List Int) (w : World) (hr0 : Kd.C (Kd.int .u8) w A0 l0.length l0) (hc0 : l0.length ≤ c0) (h : impl_copied.f l0 = some r) :
    Calls Try.prog 45 #[.slice A0 l0.length c0] w fun e w' => ∃ v0_ : Value, e = .returned (v0_) ∧ Kd.R (Kd.int .u8) 5 w' w.heap.size (fun _ => True) v0_ r ∧ Below w.heap.size w w' := by
  have HR0 := Aside0.mk hr0
  have HC0 := Aside0.mk hc0
  clear hr0 hc0
  have HB := Aside0.mk (Below.refl w.heap.size w)
  have H : ((some (([] : List Int) : List Int)).bind fun y133 => (if y133.length + l0.length < 140737488355328 then (some (y133 ++ l0)) else (none))) = some r := h
  clear h
  obtain ⟨y133, hy133⟩ : ∃ y_ : List Int, y_ = (([] : List Int)) := ⟨_, rfl⟩
  replace H : (if y133.length + l0.length < 140737488355328 then (some (y133 ++ l0)) else (none)) = some r := by first | (rw [hy133]; with_reducible exact H) | (have H2_ := (Option.bind_some _ _).symm.trans H; rw [hy133]; with_reducible exact H2_) | (have H2_ := (Option.bind_some _ _).symm.trans H; with_reducible exact H2_) | with_reducible exact H | (rw [hy133]; exact H) | exact H
  have Ny133 := Aside0.mk hy133
  clear hy133
  by_cases c2 : y133.length + l0.length < 140737488355328
  · rw [if_pos c2] at H
    have LMc2 := Aside0.mk c2
    clear c2
    obtain ⟨y136, hy136⟩ : ∃ y_ : List Int, y_ = (y133 ++ l0) := ⟨_, rfl⟩
    replace H : (some y136) = some r := by first | (rw [hy136]; with_reducible exact H) | (have H2_ := (Option.bind_some _ _).symm.trans H; rw [hy136]; with_reducible exact H2_) | (have H2_ := (Option.bind_some _ _).symm.trans H; with_reducible exact H2_) | with_reducible exact H | (rw [hy136]; exact H) | exact H
    have Ny136 := Aside0.mk hy136
    clear hy136
    obtain rfl := Option.some.inj H
    go_enter Try.func45, Try.ntmps45
    go_wp2_with (first | ((with_reducible refine gate_dst (N := 3) rfl ?_); refine Kd.R_lit (Kd.int .u8) _ 5 ?hg (N := 3) ?hd (xs := ([] : List Int)) (inner := []) (ok := fun _ => True) (okp := fun _ => True) ?hr ?hp (fun _ hk => hk) trivial (Below.refl _ _) (Nat.le_refl _) (by simp) ?_; (case hd => rfl); (case hg => rfl); (case hr => first | (go_simp; done) | (go_simp; rfl)); (case hp => exact (Reps.none _ _)); intro v134 w3 ho4 hb hg_ hnew_; clear hg_ hnew_; (first | rw [← Ny133.out] at ho4 | (simp only [Int.reduceToNat] at ho4; rw [← Ny133.out] at ho4)); have n0_ := Aside0.mk (Kd.R_lower ho4 (below_size (by repeat (first | (with_reducible first | exact HB.out | apply below_alloc | apply pw_below_drewN | apply below_drew1) | exact HB.out)))); have n1_ := Aside0.mk (below_step (by repeat (first | (with_reducible first | exact HB.out | apply below_alloc | apply pw_below_drewN | apply below_drew1) | exact HB.out)) hb); clear HB; have HO135 := n0_; have HB := n1_; clear n0_ n1_; clear hb ho4) | ((with_reducible refine gate_builtin (b := .append) (xs := #[.tmp 3, .tmp 4]) rfl ?_); at_builtin; refine Kd.R_append_rows (Kd.int .u8) (w0 := w) w.heap.size rfl (.tmp 3) (.tmp 4) 26 5 (.int .u8 0) 1 rfl Try.underlying26 info5 rfl (by decide) (by omega) v134 y133 l0 _ _ _ (fun _ => True) (fun _ => False) rfl rfl ?aO ?aR (fun _ _ h => h) (fun _ h => h.elim) ?aF ?aB ?aS ?aL ?_; (case aR => repeat (first | exact (Kd.C_below HR0.out HB.out) | (with_reducible refine Kd.C_alloc ?_ _) | (with_reducible refine Kd.C_drewN ?_ _) | (with_reducible refine Kd.C_drew ?_))); (case aB => exact (by repeat (first | (with_reducible first | exact HB.out | apply below_alloc | apply pw_below_drewN | apply below_drew1) | exact HB.out))); (case aF => exact (fun _ _ => trivial)); (case aO => exact (by (with_reducible repeat (first | apply Kd.R_alloc | apply Kd.R_drewN | apply Kd.R_drew)); exact HO135.out)); (case aS => exact (below_size (by repeat (first | (with_reducible first | exact HB.out | apply below_alloc | apply pw_below_drewN | apply below_drew1) | exact HB.out)))); (case aL => have := LMc2.out; omega); intro v137 w5 ho hb hg hat; rw [← Ny136.out] at ho; have n0_ := Aside0.mk (hb); have n1_ := Aside0.mk (ho); clear HB; clear HO135; have HB := n0_; have HO138 := n1_; clear n0_ n1_; clear ho hb hg hat))
    go_ret
    exact ⟨_, by first | rfl | (simp [errW_none, errW_some] <;> rfl) | (simp [*, errW_none, errW_some] <;> rfl), by (with_reducible repeat (first | apply Kd.R_alloc | apply Kd.R_drewN | apply Kd.R_drew)); exact HO138.out, by repeat (first | (with_reducible first | exact HB.out | apply below_alloc | apply pw_below_drewN | apply below_drew1) | exact HB.out)⟩
  · rw [if_neg c2] at H
    exact absurd H (by simp)

/-! ### impl_copies: function 46 -/
def impl_copies.l0 : Nat → List (List Int) → List (List Int) → Int → Option ((List (List Int)))
  | 0, _, _, _ => none
  | k + 1, x0, x3, x4 => if x4 < (x0.length : Int) then (if 0 ≤ x4 then ((impl_copied.f (rd_L2 x0 x4)).bind fun t140 => (if x3.length < 5864062014805 then (impl_copies.l0 k x0 (x3 ++ [t140]) (wrap64 (x4 + 1))) else (none))) else (none)) else (some x3)
def impl_copies.f (k : Nat) (l0 : List (List Int)) : Option ((List (List Int))) := impl_copies.l0 k l0 ([] : List (List Int)) 0
theorem impl_copies.mono_l : ∀ k, (∀ y0 y1 y2, LeO (impl_copies.l0 k y0 y1 y2) (impl_copies.l0 (k + 1) y0 y1 y2))
  | 0 => fun _ _ _ r h => by simp [impl_copies.l0] at h
  | k + 1 => by
    have ih0 := impl_copies.mono_l k
    · intro y0 y1 y2
      unfold impl_copies.l0
      repeat' first
      | (with_reducible exact ih0 _ _ _)
      | (with_reducible exact LeO.refl _)
      | (with_reducible exact LeO.none _)
      | (with_reducible refine LeO.ite ?_ ?_)
      | (with_reducible refine LeO.bind ?_ (fun _ => ?_))
      | exact ih0 _ _ _
      | exact LeO.none _
      | refine LeO.ite ?_ ?_
      | refine LeO.bind ?_ (fun _ => ?_)
theorem impl_copies.mono : ∀ a0 k, LeO (impl_copies.f k a0) (impl_copies.f (k + 1) a0) := by
  intro a0 k
  have ih0 := impl_copies.mono_l k
  unfold impl_copies.f
  repeat' first
      | (with_reducible exact ih0 _ _ _)
      | (with_reducible exact LeO.refl _)
      | (with_reducible exact LeO.none _)
      | (with_reducible refine LeO.ite ?_ ?_)
      | (with_reducible refine LeO.bind ?_ (fun _ => ?_))
      | exact ih0 _ _ _
      | exact LeO.none _
      | refine LeO.ite ?_ ?_
      | refine LeO.bind ?_ (fun _ => ?_)
set_option maxHeartbeats 8000000 in
set_option maxRecDepth 100000 in
theorem impl_copies.calls (k : Nat) (A0 : Option Addr) (c0 : Nat) (l0 : List (List Int)) (r : List (List Int)) (w : World) (hr0 : Kd.C (Kd.slice 5 (Kd.int .u8)) w A0 l0.length l0) (hc0 : l0.length ≤ c0) (h : impl_copies.f k l0 = some r) :
    Calls Try.prog 46 #[.slice A0 l0.length c0] w fun e w' => ∃ v0_ : Value, e = .returned (v0_) ∧ Kd.S (Kd.slice 5 (Kd.int .u8)) 26 w' w.heap.size (fun _ => True) v0_ r ∧ Below w.heap.size w w' := by
  have HR0 := Aside0.mk hr0
  have HC0 := Aside0.mk hc0
  clear hr0 hc0
  have HB := Aside0.mk (Below.refl w.heap.size w)
  have H : (impl_copies.l0 k l0 ([] : List (List Int)) 0) = some r := h
  clear h
  have H' := Aside0.mk H
  clear H
  go_enter Try.func46, Try.ntmps46
  go_wp2
  go_loopg [3, 4] k (fun kq v3 v4 w' => ∃ (x3_1 : List (List Int)) (x4_1 : Int), v4 = .int .i64 x4_1 ∧ Aside0 (impl_copies.l0 kq l0 x3_1 x4_1 = some r) ∧ Aside0 (kq ≤ k) ∧ Aside0 (Kd.S (Kd.slice 5 (Kd.int .u8)) 26 w' w.heap.size (fun _ => True) v3 x3_1) ∧ Aside0 (Below w.heap.size w w'))
  case atStart => exact ⟨(([] : List (List Int))), (0), (by first | rfl | (simp; done) | (simp [*]; done)), H', ⟨Nat.le_refl _⟩, ⟨by first | exact Kd.S_nil _ _ _ _ _ | exact Kd.N_nil _ _ _ _ _ | exact Kd.V_nil _ _ _ _ _ | exact Kd.Q_nil _ _ _ _ _ | exact Kd.R_nil _ _ _ _ _⟩, ⟨by repeat (first | (with_reducible first | exact HB.out | apply below_alloc | apply pw_below_drewN | apply below_drew1) | exact HB.out)⟩⟩
  case round =>
    clear H'
    obtain ⟨x3_1, x4_1, rfl, HA, HK1, HO_3, HB⟩ := hrel
    cases gk with
    | zero => exact absurd HA.out (by simp [impl_copies.l0])
    | succ k1 =>
      have H := HA.out
      clear HA
      simp only [impl_copies.l0] at H
      by_cases c2 : x4_1 < (l0.length : Int)
      · rw [if_pos c2] at H
        have c2b0 : decide (x4_1 < (l0.length : Int)) = true := decide_eq_true c2
        clear c2
        by_cases c3 : 0 ≤ x4_1
        · rw [if_pos c3] at H
          have c3b0 : decide (0 ≤ x4_1) = true := decide_eq_true c3
          clear c3
          replace H := Option.bind_eq_some_iff.mp H
          obtain ⟨t140, A40, H⟩ := H
          replace H : (if x3_1.length < 5864062014805 then (impl_copies.l0 k1 l0 (x3_1 ++ [t140]) (wrap64 (x4_1 + 1))) else (none)) = some r := H
          have A4 := Aside0.mk A40
          clear A40
          by_cases c5 : x3_1.length < 5864062014805
          · rw [if_pos c5] at H
            have LMc5 := Aside0.mk c5
            clear c5
            obtain ⟨y143, hy143⟩ : ∃ y_ : List (List Int), y_ = (x3_1 ++ [t140]) := ⟨_, rfl⟩
            replace H : (impl_copies.l0 k1 l0 y143 (wrap64 (x4_1 + 1))) = some r := by first | (rw [hy143]; with_reducible exact H) | (have H2_ := (Option.bind_some _ _).symm.trans H; rw [hy143]; with_reducible exact H2_) | (have H2_ := (Option.bind_some _ _).symm.trans H; with_reducible exact H2_) | with_reducible exact H | (rw [hy143]; exact H) | exact H
            have Ny143 := Aside0.mk hy143
            clear hy143
            have H' := Aside0.mk H
            clear H
            have p139 : 0 ≤ (x4_1 : Int) := of_decide_eq_true (by first | (with_reducible assumption) | assumption)
            have q139 : x4_1 < (l0.length : Int) := of_decide_eq_true (by first | (with_reducible assumption) | assumption)
            obtain ⟨ad139, A139_0, c139_0, e139, hx139_0, hl139_0, hi139_0⟩ := at_L2 HR0.out x4_1 p139 q139
            cases e139
            replace hx139_0 := (HB.out.cell (World.block_lt_of_cell? w _ hx139_0)).trans hx139_0
            have HR139_0 := Aside0.mk hi139_0
            have HC139_0 := Aside0.mk hl139_0
            clear hi139_0 hl139_0
            replace p139 := eq_true p139
            replace q139 := eq_true q139
            go_wp2_with (first | ((with_reducible refine gate_callee (f := 45) rfl ?_); refine goesL_ (some 16) rfl rfl Try.func45 (by kernel_rfl) rfl #[.slice A139_0 (rd_L2 l0 x4_1).length c139_0] rfl (by (try simp only [List.map_toArray, List.map_cons, List.map_nil]); first | done | rfl | (simp only [List.length_drop, List.length_take]; rfl)) ?_; (with_reducible refine (impl_copied.calls _ _ (rd_L2 l0 x4_1) t140 _ ?side1 ?side2 A4.out).mono ?_); (case side1 => repeat (first | exact (Kd.C_below HR139_0.out HB.out) | (with_reducible refine Kd.C_alloc ?_ _) | (with_reducible refine Kd.C_drewN ?_ _) | (with_reducible refine Kd.C_drew ?_))); (case side2 => exact HC139_0.out); rintro e w6 ⟨v141, rfl, ho0, hb⟩; refine ⟨_, rfl, ?_⟩; have n0_ := Aside0.mk (Kd.S_elder' (by (with_reducible repeat (first | apply Kd.S_alloc | apply Kd.S_drewN | apply Kd.S_drew)); exact HO_3.out) (Kd.R_base ho0) hb); have n1_ := Aside0.mk (Kd.R_lower ho0 (below_size (by repeat (first | (with_reducible first | exact HB.out | apply below_alloc | apply pw_below_drewN | apply below_drew1) | exact HB.out)))); have n2_ := Aside0.mk (below_step (by repeat (first | (with_reducible first | exact HB.out | apply below_alloc | apply pw_below_drewN | apply below_drew1) | exact HB.out)) hb); clear HO_3; clear HB; have HO_3 := n0_; have HO142 := n1_; have HB := n2_; clear n0_ n1_ n2_; (try clear hb); (try clear hb2); (try clear hk); (try clear hi); (try clear ho0); obtain ⟨Ao8, co8, eo8⟩ := Kd.R_slice HO142.out; subst eo8) | ((with_reducible refine gate_builtin (b := .append) (xs := #[.tmp 11, .tmp 17]) rfl ?_); at_builtin; refine Kd.S_append (Kd.slice 5 (Kd.int .u8)) (w0 := w) w.heap.size rfl (.tmp 11) (.tmp 17) 114 26 (.slice none 0 0) 24 rfl Try.underlying114 info26 rfl (by decide) (by omega) u3 x3_1 t140 [.slice Ao8 t140.length co8] (fun _ => True) (fun k_ => some k_ = (.slice Ao8 t140.length co8 : Value).ownBlock) rfl rfl ?aP (fun k_ hk_ => ((Kd.R_mono (ok' := fun k_ => ((fun _ => True)) k_ ∧ some k_ ≠ (u3 : Value).ownBlock) (Kd.R_apart' (HO142.out) (Kd.S_typed HO_3.out) (by decide)) (fun k_ hk => ⟨trivial, hk.2⟩))).1 k_ hk_.symm) ?aF ?aO ?aB ?aS ?aL ?_; (case aP => exact Kd.M_row (Kd.R_mono (Kd.R_tight rfl (Kd.R_mono (ok' := fun k_ => ((fun _ => True)) k_ ∧ some k_ ≠ (u3 : Value).ownBlock) (Kd.R_apart' (HO142.out) (Kd.S_typed HO_3.out) (by decide)) (fun k_ hk => ⟨trivial, hk.2⟩))) (fun _ h_ => h_))); (case aB => exact (by repeat (first | (with_reducible first | exact HB.out | apply below_alloc | apply pw_below_drewN | apply below_drew1) | exact HB.out))); (case aF => exact (fun _ _ => trivial)); (case aO => exact (by (with_reducible repeat (first | apply Kd.S_alloc | apply Kd.S_drewN | apply Kd.S_drew)); exact Kd.S_mono HO_3.out (fun k_ hk => ⟨trivial, fun e_ => hk.2 e_⟩))); (case aS => exact (below_size (by repeat (first | (with_reducible first | exact HB.out | apply below_alloc | apply pw_below_drewN | apply below_drew1) | exact HB.out)))); (case aL => have := LMc5.out; omega); intro v144 w7 ho hb hg hat; rw [← Ny143.out] at ho; have n0_ := Aside0.mk (hb); have n1_ := Aside0.mk (ho); clear HB; clear HO_3; clear HO142; have HB := n0_; have HO145 := n1_; clear n0_ n1_; clear ho hb hg hat))
            go_roundg k1
            case measure => have := HK1.out; omega
            case rel => exact ⟨(y143), (wrap64 (x4_1 + 1)), (by first | rfl | (simp; done) | (simp [*]; done)), (by first | exact H' | (subst_vars; exact H')), ⟨by have := HK1.out; omega⟩, ⟨by (with_reducible repeat (first | apply Kd.S_alloc | apply Kd.S_drewN | apply Kd.S_drew)); exact HO145.out⟩, ⟨by repeat (first | (with_reducible first | exact HB.out | apply below_alloc | apply pw_below_drewN | apply below_drew1) | exact HB.out)⟩⟩
          · rw [if_neg c5] at H
            exact absurd H (by simp)
        · rw [if_neg c3] at H
          exact absurd H (by simp)
      · rw [if_neg c2] at H
        have c2b0 : decide (x4_1 < (l0.length : Int)) = false := decide_eq_false c2
        clear c2
        obtain rfl := Option.some.inj H
        go_wp2
        go_ret
        exact ⟨_, by first | rfl | (simp [errW_none, errW_some] <;> rfl) | (simp [*, errW_none, errW_some] <;> rfl), by (with_reducible repeat (first | apply Kd.S_alloc | apply Kd.S_drewN | apply Kd.S_drew)); exact HO_3.out, by repeat (first | (with_reducible first | exact HB.out | apply below_alloc | apply pw_below_drewN | apply below_drew1) | exact HB.out)⟩

-- NOT PRINTED: function 33 (impl_txOf)

-- NOT PRINTED: function 21 (impl_blockOf)

-- NOT PRINTED: function 11 (impl_utilBlock)

-- NOT PRINTED: function 12 (impl_number)

-- NOT PRINTED: function 5 (impl_ProofFault)

/-! ### spec_trim: function 23 -/
def spec_trim.l0 : Nat → List Int → Int → Option (List Int)
  | 0, _, _ => none
  | k + 1, x0, x3 => if x3 < (x0.length : Int) then (if 0 ≤ x3 then (if (rd x0 x3) = 0 then (spec_trim.l0 k x0 (wrap64 (x3 + 1))) else ((some (([] : List Int) : List Int)).bind fun y148 => (if x3 ≤ (x0.length : Int) then (if y148.length + (x0.drop (x3 : Int).toNat).length < 140737488355328 then (some (y148 ++ (x0.drop (x3 : Int).toNat))) else (none)) else (none)))) else (none)) else ((some (([] : List Int) : List Int)).bind fun y155 => (if 0 ≤ x3 then (if x3 ≤ (x0.length : Int) then (if y155.length + (x0.drop (x3 : Int).toNat).length < 140737488355328 then (some (y155 ++ (x0.drop (x3 : Int).toNat))) else (none)) else (none)) else (none)))
def spec_trim.f (k : Nat) (l0 : List Int) : Option (List Int) := spec_trim.l0 k l0 0
theorem spec_trim.mono_l : ∀ k, (∀ y0 y1, LeO (spec_trim.l0 k y0 y1) (spec_trim.l0 (k + 1) y0 y1))
  | 0 => fun _ _ r h => by simp [spec_trim.l0] at h
  | k + 1 => by
    have ih0 := spec_trim.mono_l k
    · intro y0 y1
      unfold spec_trim.l0
      repeat' first
      | (with_reducible exact ih0 _ _)
      | (with_reducible exact LeO.refl _)
      | (with_reducible exact LeO.none _)
      | (with_reducible refine LeO.ite ?_ ?_)
      | (with_reducible refine LeO.bind ?_ (fun _ => ?_))
      | exact ih0 _ _
      | exact LeO.none _
      | refine LeO.ite ?_ ?_
      | refine LeO.bind ?_ (fun _ => ?_)
theorem spec_trim.mono : ∀ a0 k, LeO (spec_trim.f k a0) (spec_trim.f (k + 1) a0) := by
  intro a0 k
  have ih0 := spec_trim.mono_l k
  unfold spec_trim.f
  repeat' first
      | (with_reducible exact ih0 _ _)
      | (with_reducible exact LeO.refl _)
      | (with_reducible exact LeO.none _)
      | (with_reducible refine LeO.ite ?_ ?_)
      | (with_reducible refine LeO.bind ?_ (fun _ => ?_))
      | exact ih0 _ _
      | exact LeO.none _
      | refine LeO.ite ?_ ?_
      | refine LeO.bind ?_ (fun _ => ?_)
set_option maxHeartbeats 8000000 in
set_option maxRecDepth 100000 in
theorem spec_trim.calls (k : Nat) (A0 : Option Addr) (c0 : Nat) (l0 : List Int) (r : List Int) (w : World) (hr0 : Kd.C (Kd.int .u8) w A0 l0.length l0) (hc0 : l0.length ≤ c0) (h : spec_trim.f k l0 = some r) :
    Calls Try.prog 23 #[.slice A0 l0.length c0] w fun e w' => ∃ v0_ : Value, e = .returned (v0_) ∧ Kd.R (Kd.int .u8) 5 w' w.heap.size (fun _ => True) v0_ r ∧ Below w.heap.size w w' := by
  have HR0 := Aside0.mk hr0
  have HC0 := Aside0.mk hc0
  clear hr0 hc0
  have HB := Aside0.mk (Below.refl w.heap.size w)
  have H : (spec_trim.l0 k l0 0) = some r := h
  clear h
  have H' := Aside0.mk H
  clear H
  go_enter Try.func23, Try.ntmps23
  go_wp2
  go_loopg [3] k (fun kq v3 w' => ∃ (x3_1 : Int), v3 = .int .i64 x3_1 ∧ Aside0 (spec_trim.l0 kq l0 x3_1 = some r) ∧ Aside0 (kq ≤ k) ∧ Aside0 (Below w.heap.size w w'))
  case atStart => exact ⟨(0), (by first | rfl | (simp; done) | (simp [*]; done)), H', ⟨Nat.le_refl _⟩, ⟨by repeat (first | (with_reducible first | exact HB.out | apply below_alloc | apply pw_below_drewN | apply below_drew1) | exact HB.out)⟩⟩
  case round =>
    clear H'
    obtain ⟨x3_1, rfl, HA, HK1, HB⟩ := hrel
    cases gk with
    | zero => exact absurd HA.out (by simp [spec_trim.l0])
    | succ k1 =>
      have H := HA.out
      clear HA
      simp only [spec_trim.l0] at H
      by_cases c2 : x3_1 < (l0.length : Int)
      · rw [if_pos c2] at H
        have c2b0 : decide (x3_1 < (l0.length : Int)) = true := decide_eq_true c2
        clear c2
        by_cases c3 : 0 ≤ x3_1
        · rw [if_pos c3] at H
          have c3b0 : decide (0 ≤ x3_1) = true := decide_eq_true c3
          clear c3
          by_cases c4 : (rd l0 x3_1) = 0
          · rw [if_pos c4] at H
            have c4b0 : ((rd l0 x3_1) == 0) = true := beq_iff_eq.mpr c4
            have c4b1 : ((rd l0 x3_1) != 0) = false := bne_eq_false_iff_eq.mpr c4
            clear c4
            have H' := Aside0.mk H
            clear H
            have p147 : 0 ≤ (x3_1 : Int) := of_decide_eq_true (by first | (with_reducible assumption) | assumption)
            have q147 : x3_1 < (l0.length : Int) := of_decide_eq_true (by first | (with_reducible assumption) | assumption)
            obtain ⟨ad147, e147, hx147_0⟩ := Kd.at_int HR0.out x3_1 p147 q147
            cases e147
            replace hx147_0 := (HB.out.cell (World.block_lt_of_cell? w _ hx147_0)).trans hx147_0
            replace p147 := eq_true p147
            replace q147 := eq_true q147
            go_wp2
            go_roundg k1
            case measure => have := HK1.out; omega
            case rel => exact ⟨(wrap64 (x3_1 + 1)), (by first | rfl | (simp; done) | (simp [*]; done)), (by first | exact H' | (subst_vars; exact H')), ⟨by have := HK1.out; omega⟩, ⟨by repeat (first | (with_reducible first | exact HB.out | apply below_alloc | apply pw_below_drewN | apply below_drew1) | exact HB.out)⟩⟩
          · rw [if_neg c4] at H
            have c4b0 : ((rd l0 x3_1) == 0) = false := beq_eq_false_iff_ne.mpr c4
            have c4b1 : ((rd l0 x3_1) != 0) = true := bne_iff_ne.mpr c4
            obtain ⟨y148, hy148⟩ : ∃ y_ : List Int, y_ = (([] : List Int)) := ⟨_, rfl⟩
            replace H : (if x3_1 ≤ (l0.length : Int) then (if y148.length + (l0.drop (x3_1 : Int).toNat).length < 140737488355328 then (some (y148 ++ (l0.drop (x3_1 : Int).toNat))) else (none)) else (none)) = some r := by first | (rw [hy148]; with_reducible exact H) | (have H2_ := (Option.bind_some _ _).symm.trans H; rw [hy148]; with_reducible exact H2_) | (have H2_ := (Option.bind_some _ _).symm.trans H; with_reducible exact H2_) | with_reducible exact H | (rw [hy148]; exact H) | exact H
            have Ny148 := Aside0.mk hy148
            clear hy148
            have c5b0 := eq_true (of_decide_eq_true (by first | (with_reducible assumption) | assumption) : 0 ≤ x3_1)
            by_cases c6 : x3_1 ≤ (l0.length : Int)
            · rw [if_pos c6] at H
              have c6b0 := eq_true c6
              have c6b1 : decide (x3_1 ≤ (l0.length : Int)) = true := decide_eq_true c6
              clear c6
              by_cases c7 : y148.length + (l0.drop (x3_1 : Int).toNat).length < 140737488355328
              · rw [if_pos c7] at H
                have LMc7 := Aside0.mk c7
                clear c7
                obtain ⟨y152, hy152⟩ : ∃ y_ : List Int, y_ = (y148 ++ (l0.drop (x3_1 : Int).toNat)) := ⟨_, rfl⟩
                replace H : (some y152) = some r := by first | (rw [hy152]; with_reducible exact H) | (have H2_ := (Option.bind_some _ _).symm.trans H; rw [hy152]; with_reducible exact H2_) | (have H2_ := (Option.bind_some _ _).symm.trans H; with_reducible exact H2_) | with_reducible exact H | (rw [hy152]; exact H) | exact H
                have Ny152 := Aside0.mk hy152
                clear hy152
                obtain rfl := Option.some.inj H
                have p147 : 0 ≤ (x3_1 : Int) := of_decide_eq_true (by first | (with_reducible assumption) | assumption)
                have q147 : x3_1 < (l0.length : Int) := of_decide_eq_true (by first | (with_reducible assumption) | assumption)
                obtain ⟨ad147, e147, hx147_0⟩ := Kd.at_int HR0.out x3_1 p147 q147
                cases e147
                replace hx147_0 := (HB.out.cell (World.block_lt_of_cell? w _ hx147_0)).trans hx147_0
                replace p147 := eq_true p147
                replace q147 := eq_true q147
                go_wp2_with (first | ((with_reducible refine gate_dst (N := 17) rfl ?_); refine Kd.R_lit (Kd.int .u8) _ 5 ?hg (N := 17) ?hd (xs := ([] : List Int)) (inner := []) (ok := fun _ => True) (okp := fun _ => True) ?hr ?hp (fun _ hk => hk) trivial (Below.refl _ _) (Nat.le_refl _) (by simp) ?_; (case hd => rfl); (case hg => rfl); (case hr => first | (go_simp; done) | (go_simp; rfl)); (case hp => exact (Reps.none _ _)); intro v149 w8 ho9 hb hg_ hnew_; clear hg_ hnew_; (first | rw [← Ny148.out] at ho9 | (simp only [Int.reduceToNat] at ho9; rw [← Ny148.out] at ho9)); have n0_ := Aside0.mk (Kd.R_lower ho9 (below_size (by repeat (first | (with_reducible first | exact HB.out | apply below_alloc | apply pw_below_drewN | apply below_drew1) | exact HB.out)))); have n1_ := Aside0.mk (below_step (by repeat (first | (with_reducible first | exact HB.out | apply below_alloc | apply pw_below_drewN | apply below_drew1) | exact HB.out)) hb); clear HB; have HO150 := n0_; have HB := n1_; clear n0_ n1_; clear hb ho9; obtain ⟨i010, hi010, _, hsz10, _⟩ := info_parts info5; obtain ⟨A10, hcut10, hA10, hC10⟩ := print_drop_of (P := Try.prog) (Value.int .u8) 0 26 5 .i64 Try.underlying26 hi010 hsz10 (some ad147) c0 l0 x3_1 (of_decide_eq_true (by first | (with_reducible assumption) | assumption)) (of_decide_eq_true (by first | (with_reducible assumption) | assumption)) HC0.out; have HR151 := Aside0.mk (Kd.C_of_reads (h1 := fun _ => rfl) (hA10 _ (Kd.reads_of_C HR0.out))); have HC151 := Aside0.mk hC10; clear hA10 hC10 hi010 hsz10) | ((with_reducible refine gate_builtin (b := .append) (xs := #[.tmp 17, .tmp 20]) rfl ?_); at_builtin; refine Kd.R_append_rows (Kd.int .u8) (w0 := w) w.heap.size rfl (.tmp 17) (.tmp 20) 26 5 (.int .u8 0) 1 rfl Try.underlying26 info5 rfl (by decide) (by omega) v149 y148 (l0.drop (x3_1 : Int).toNat) _ _ _ (fun _ => True) (fun _ => False) rfl rfl ?aO ?aR (fun _ _ h => h) (fun _ h => h.elim) ?aF ?aB ?aS ?aL ?_; (case aR => first | (rw [← show (l0.drop (x3_1 : Int).toNat).length = (l0.length - x3_1.toNat) from List.length_drop]; repeat (first | exact (Kd.C_below HR151.out HB.out) | (with_reducible refine Kd.C_alloc ?_ _) | (with_reducible refine Kd.C_drewN ?_ _) | (with_reducible refine Kd.C_drew ?_))) | (repeat (first | exact (Kd.C_below HR151.out HB.out) | (with_reducible refine Kd.C_alloc ?_ _) | (with_reducible refine Kd.C_drewN ?_ _) | (with_reducible refine Kd.C_drew ?_)))); (case aB => exact (by repeat (first | (with_reducible first | exact HB.out | apply below_alloc | apply pw_below_drewN | apply below_drew1) | exact HB.out))); (case aF => exact (fun _ _ => trivial)); (case aO => exact (by (with_reducible repeat (first | apply Kd.R_alloc | apply Kd.R_drewN | apply Kd.R_drew)); exact HO150.out)); (case aS => exact (below_size (by repeat (first | (with_reducible first | exact HB.out | apply below_alloc | apply pw_below_drewN | apply below_drew1) | exact HB.out)))); (case aL => have := LMc7.out; have hlx_ := (show (l0.drop (x3_1 : Int).toNat).length = (l0.length - x3_1.toNat) from List.length_drop); omega); intro v153 w11 ho hb hg hat; rw [← Ny152.out] at ho; have n0_ := Aside0.mk (hb); have n1_ := Aside0.mk (ho); clear HB; clear HO150; have HB := n0_; have HO154 := n1_; clear n0_ n1_; clear ho hb hg hat))
                go_ret
                exact ⟨_, by first | rfl | (simp [errW_none, errW_some] <;> rfl) | (simp [*, errW_none, errW_some] <;> rfl), by (with_reducible repeat (first | apply Kd.R_alloc | apply Kd.R_drewN | apply Kd.R_drew)); exact HO154.out, by repeat (first | (with_reducible first | exact HB.out | apply below_alloc | apply pw_below_drewN | apply below_drew1) | exact HB.out)⟩
              · rw [if_neg c7] at H
                exact absurd H (by simp)
            · rw [if_neg c6] at H
              exact absurd H (by simp)
        · rw [if_neg c3] at H
          exact absurd H (by simp)
      · rw [if_neg c2] at H
        have c2b0 : decide (x3_1 < (l0.length : Int)) = false := decide_eq_false c2
        clear c2
        obtain ⟨y155, hy155⟩ : ∃ y_ : List Int, y_ = (([] : List Int)) := ⟨_, rfl⟩
        replace H : (if 0 ≤ x3_1 then (if x3_1 ≤ (l0.length : Int) then (if y155.length + (l0.drop (x3_1 : Int).toNat).length < 140737488355328 then (some (y155 ++ (l0.drop (x3_1 : Int).toNat))) else (none)) else (none)) else (none)) = some r := by first | (rw [hy155]; with_reducible exact H) | (have H2_ := (Option.bind_some _ _).symm.trans H; rw [hy155]; with_reducible exact H2_) | (have H2_ := (Option.bind_some _ _).symm.trans H; with_reducible exact H2_) | with_reducible exact H | (rw [hy155]; exact H) | exact H
        have Ny155 := Aside0.mk hy155
        clear hy155
        by_cases c12 : 0 ≤ x3_1
        · rw [if_pos c12] at H
          have c12b0 := eq_true c12
          have c12b1 : decide (0 ≤ x3_1) = true := decide_eq_true c12
          clear c12
          by_cases c13 : x3_1 ≤ (l0.length : Int)
          · rw [if_pos c13] at H
            have c13b0 := eq_true c13
            have c13b1 : decide (x3_1 ≤ (l0.length : Int)) = true := decide_eq_true c13
            clear c13
            by_cases c14 : y155.length + (l0.drop (x3_1 : Int).toNat).length < 140737488355328
            · rw [if_pos c14] at H
              have LMc14 := Aside0.mk c14
              clear c14
              obtain ⟨y159, hy159⟩ : ∃ y_ : List Int, y_ = (y155 ++ (l0.drop (x3_1 : Int).toNat)) := ⟨_, rfl⟩
              replace H : (some y159) = some r := by first | (rw [hy159]; with_reducible exact H) | (have H2_ := (Option.bind_some _ _).symm.trans H; rw [hy159]; with_reducible exact H2_) | (have H2_ := (Option.bind_some _ _).symm.trans H; with_reducible exact H2_) | with_reducible exact H | (rw [hy159]; exact H) | exact H
              have Ny159 := Aside0.mk hy159
              clear hy159
              obtain rfl := Option.some.inj H
              go_wp2_with (first | ((with_reducible refine gate_dst (N := 17) rfl ?_); refine Kd.R_lit (Kd.int .u8) _ 5 ?hg (N := 17) ?hd (xs := ([] : List Int)) (inner := []) (ok := fun _ => True) (okp := fun _ => True) ?hr ?hp (fun _ hk => hk) trivial (Below.refl _ _) (Nat.le_refl _) (by simp) ?_; (case hd => rfl); (case hg => rfl); (case hr => first | (go_simp; done) | (go_simp; rfl)); (case hp => exact (Reps.none _ _)); intro v156 w15 ho16 hb hg_ hnew_; clear hg_ hnew_; (first | rw [← Ny155.out] at ho16 | (simp only [Int.reduceToNat] at ho16; rw [← Ny155.out] at ho16)); have n0_ := Aside0.mk (Kd.R_lower ho16 (below_size (by repeat (first | (with_reducible first | exact HB.out | apply below_alloc | apply pw_below_drewN | apply below_drew1) | exact HB.out)))); have n1_ := Aside0.mk (below_step (by repeat (first | (with_reducible first | exact HB.out | apply below_alloc | apply pw_below_drewN | apply below_drew1) | exact HB.out)) hb); clear HB; have HO157 := n0_; have HB := n1_; clear n0_ n1_; clear hb ho16; obtain ⟨i017, hi017, _, hsz17, _⟩ := info_parts info5; obtain ⟨A17, hcut17, hA17, hC17⟩ := print_drop_of (P := Try.prog) (Value.int .u8) 0 26 5 .i64 Try.underlying26 hi017 hsz17 A0 c0 l0 x3_1 (of_decide_eq_true (by first | (with_reducible assumption) | assumption)) (of_decide_eq_true (by first | (with_reducible assumption) | assumption)) HC0.out; have HR158 := Aside0.mk (Kd.C_of_reads (h1 := fun _ => rfl) (hA17 _ (Kd.reads_of_C HR0.out))); have HC158 := Aside0.mk hC17; clear hA17 hC17 hi017 hsz17) | ((with_reducible refine gate_builtin (b := .append) (xs := #[.tmp 17, .tmp 20]) rfl ?_); at_builtin; refine Kd.R_append_rows (Kd.int .u8) (w0 := w) w.heap.size rfl (.tmp 17) (.tmp 20) 26 5 (.int .u8 0) 1 rfl Try.underlying26 info5 rfl (by decide) (by omega) v156 y155 (l0.drop (x3_1 : Int).toNat) _ _ _ (fun _ => True) (fun _ => False) rfl rfl ?aO ?aR (fun _ _ h => h) (fun _ h => h.elim) ?aF ?aB ?aS ?aL ?_; (case aR => first | (rw [← show (l0.drop (x3_1 : Int).toNat).length = (l0.length - x3_1.toNat) from List.length_drop]; repeat (first | exact (Kd.C_below HR158.out HB.out) | (with_reducible refine Kd.C_alloc ?_ _) | (with_reducible refine Kd.C_drewN ?_ _) | (with_reducible refine Kd.C_drew ?_))) | (repeat (first | exact (Kd.C_below HR158.out HB.out) | (with_reducible refine Kd.C_alloc ?_ _) | (with_reducible refine Kd.C_drewN ?_ _) | (with_reducible refine Kd.C_drew ?_)))); (case aB => exact (by repeat (first | (with_reducible first | exact HB.out | apply below_alloc | apply pw_below_drewN | apply below_drew1) | exact HB.out))); (case aF => exact (fun _ _ => trivial)); (case aO => exact (by (with_reducible repeat (first | apply Kd.R_alloc | apply Kd.R_drewN | apply Kd.R_drew)); exact HO157.out)); (case aS => exact (below_size (by repeat (first | (with_reducible first | exact HB.out | apply below_alloc | apply pw_below_drewN | apply below_drew1) | exact HB.out)))); (case aL => have := LMc14.out; have hlx_ := (show (l0.drop (x3_1 : Int).toNat).length = (l0.length - x3_1.toNat) from List.length_drop); omega); intro v160 w18 ho hb hg hat; rw [← Ny159.out] at ho; have n0_ := Aside0.mk (hb); have n1_ := Aside0.mk (ho); clear HB; clear HO157; have HB := n0_; have HO161 := n1_; clear n0_ n1_; clear ho hb hg hat))
              go_ret
              exact ⟨_, by first | rfl | (simp [errW_none, errW_some] <;> rfl) | (simp [*, errW_none, errW_some] <;> rfl), by (with_reducible repeat (first | apply Kd.R_alloc | apply Kd.R_drewN | apply Kd.R_drew)); exact HO161.out, by repeat (first | (with_reducible first | exact HB.out | apply below_alloc | apply pw_below_drewN | apply below_drew1) | exact HB.out)⟩
            · rw [if_neg c14] at H
              exact absurd H (by simp)
          · rw [if_neg c13] at H
            exact absurd H (by simp)
        · rw [if_neg c12] at H
          exact absurd H (by simp)

/-! ### spec_Target: function 13 -/
mutual
def spec_Target.l0 : Nat → Bool → Int → Int → List Int → Int → Option (List Int × Bool)
  | 0, _, _, _, _, _ => none
  | k + 1, x3, x4, x5, x6, x7 => if x7 ≥ 0 then (if 0 ≤ (wrap64 (8 * x7)) then (if x6.length < 140737488355328 then (spec_Target.l0 k x3 x4 x5 (x6 ++ [(shr .u64 x4 (wrap64 (8 * x7))) % 256]) (wrap64 (x7 - 1))) else (none)) else (none)) else (if x5 ≤ 3 then (if 0 ≤ x5 then (if x5 ≤ (x6.length : Int) then (spec_Target.j1 k x3 x5 (x6.take (x5 : Int).toNat)) else (none)) else (none)) else (spec_Target.j1 k x3 x5 x6))
def spec_Target.j1 : Nat → Bool → Int → List Int → Option (List Int × Bool)
  | 0, _, _, _ => none
  | k + 1, x3, x5, x6 => spec_Target.l1 k x3 x5 x6 3
def spec_Target.l1 : Nat → Bool → Int → List Int → Int → Option (List Int × Bool)
  | 0, _, _, _, _ => none
  | k + 1, x3, x5, x6, x8 => if x8 < x5 then (if x6.length < 140737488355328 then (spec_Target.l1 k x3 x5 (x6 ++ [0]) (wrap64 (x8 + 1))) else (none)) else ((spec_trim.f k x6).bind fun t171 => (if x3 = true then (some (t171, decide ((t171.length : Int) > 0))) else (some (t171, false))))
end
def spec_Target.f (k : Nat) (a0 : Int) : Option (List Int × Bool) := spec_Target.l0 k ((Go.bits .and .u32 a0 8388608) != 0) (IntKind.u64.wrap (Int.tmod a0 8388608)) (wrap64 (a0 / 16777216)) ([] : List Int) 2
theorem spec_Target.mono_l : ∀ k, (∀ y0 y1 y2 y3 y4, LeO (spec_Target.l0 k y0 y1 y2 y3 y4) (spec_Target.l0 (k + 1) y0 y1 y2 y3 y4)) ∧ (∀ y0 y1 y2, LeO (spec_Target.j1 k y0 y1 y2) (spec_Target.j1 (k + 1) y0 y1 y2)) ∧ (∀ y0 y1 y2 y3, LeO (spec_Target.l1 k y0 y1 y2 y3) (spec_Target.l1 (k + 1) y0 y1 y2 y3))
  | 0 => ⟨fun _ _ _ _ _ r h => by simp [spec_Target.l0] at h, fun _ _ _ r h => by simp [spec_Target.j1] at h, fun _ _ _ _ r h => by simp [spec_Target.l1] at h⟩
  | k + 1 => by
    obtain ⟨ih0, ih1, ih2⟩ := spec_Target.mono_l k
    refine ⟨?_, ?_, ?_⟩
    · intro y0 y1 y2 y3 y4
      unfold spec_Target.l0
      repeat' first
      | (with_reducible exact ih0 _ _ _ _ _)
      | (with_reducible exact ih1 _ _ _)
      | (with_reducible exact ih2 _ _ _ _)
      | (with_reducible exact spec_trim.mono _ _)
      | (with_reducible exact LeO.refl _)
      | (with_reducible exact LeO.none _)
      | (with_reducible refine LeO.ite ?_ ?_)
      | (with_reducible refine LeO.bind ?_ (fun _ => ?_))
      | exact ih0 _ _ _ _ _
      | exact ih1 _ _ _
      | exact ih2 _ _ _ _
      | exact spec_trim.mono _ _
      | exact LeO.none _
      | refine LeO.ite ?_ ?_
      | refine LeO.bind ?_ (fun _ => ?_)
    · intro y0 y1 y2
      unfold spec_Target.j1
      repeat' first
      | (with_reducible exact ih0 _ _ _ _ _)
      | (with_reducible exact ih1 _ _ _)
      | (with_reducible exact ih2 _ _ _ _)
      | (with_reducible exact spec_trim.mono _ _)
      | (with_reducible exact LeO.refl _)
      | (with_reducible exact LeO.none _)
      | (with_reducible refine LeO.ite ?_ ?_)
      | (with_reducible refine LeO.bind ?_ (fun _ => ?_))
      | exact ih0 _ _ _ _ _
      | exact ih1 _ _ _
      | exact ih2 _ _ _ _
      | exact spec_trim.mono _ _
      | exact LeO.none _
      | refine LeO.ite ?_ ?_
      | refine LeO.bind ?_ (fun _ => ?_)
    · intro y0 y1 y2 y3
      unfold spec_Target.l1
      repeat' first
      | (with_reducible exact ih0 _ _ _ _ _)
      | (with_reducible exact ih1 _ _ _)
      | (with_reducible exact ih2 _ _ _ _)
      | (with_reducible exact spec_trim.mono _ _)
      | (with_reducible exact LeO.refl _)
      | (with_reducible exact LeO.none _)
      | (with_reducible refine LeO.ite ?_ ?_)
      | (with_reducible refine LeO.bind ?_ (fun _ => ?_))
      | exact ih0 _ _ _ _ _
      | exact ih1 _ _ _
      | exact ih2 _ _ _ _
      | exact spec_trim.mono _ _
      | exact LeO.none _
      | refine LeO.ite ?_ ?_
      | refine LeO.bind ?_ (fun _ => ?_)
theorem spec_Target.mono : ∀ a0 k, LeO (spec_Target.f k a0) (spec_Target.f (k + 1) a0) := by
  intro a0 k
  obtain ⟨ih0, ih1, ih2⟩ := spec_Target.mono_l k
  unfold spec_Target.f
  repeat' first
      | (with_reducible exact ih0 _ _ _ _ _)
      | (with_reducible exact ih1 _ _ _)
      | (with_reducible exact ih2 _ _ _ _)
      | (with_reducible exact spec_trim.mono _ _)
      | (with_reducible exact LeO.refl _)
      | (with_reducible exact LeO.none _)
      | (with_reducible refine LeO.ite ?_ ?_)
      | (with_reducible refine LeO.bind ?_ (fun _ => ?_))
      | exact ih0 _ _ _ _ _
      | exact ih1 _ _ _
      | exact ih2 _ _ _ _
      | exact spec_trim.mono _ _
      | exact LeO.none _
      | refine LeO.ite ?_ ?_
      | refine LeO.bind ?_ (fun _ => ?_)
set_option maxHeartbeats 8000000 in
set_option maxRecDepth 100000 in
theorem spec_Target.calls (k : Nat) (a0 : Int) (r1 : List Int) (r2 : Bool) (w : World) (h : spec_Target.f k a0 = some (r1, r2)) :
    Calls Try.prog 13 #[.int .u32 a0] w fun e w' => ∃ v0_ : Value, e = .returned (.tuple #[v0_, .bool r2]) ∧ Kd.R (Kd.int .u8) 5 w' w.heap.size (fun _ => True) v0_ r1 ∧ Below w.heap.size w w' := by
  have HB := Aside0.mk (Below.refl w.heap.size w)
  have H : (spec_Target.l0 k ((Go.bits .and .u32 a0 8388608) != 0) (IntKind.u64.wrap (Int.tmod a0 8388608)) (wrap64 (a0 / 16777216)) ([] : List Int) 2) = some (r1, r2) := h
  clear h
  have H' := Aside0.mk H
  clear H
  go_enter Try.func13, Try.ntmps13
  go_wp2
  go_loopg [6, 7] k (fun kq v6 v7 w' => ∃ (x6_1 : List Int) (x7_1 : Int), v7 = .int .i64 x7_1 ∧ Aside0 (spec_Target.l0 kq ((Go.bits .and .u32 a0 8388608) != 0) (IntKind.u64.wrap (Int.tmod a0 8388608)) (wrap64 (a0 / 16777216)) x6_1 x7_1 = some (r1, r2)) ∧ Aside0 (kq ≤ k) ∧ Aside0 (Kd.R (Kd.int .u8) 5 w' w.heap.size (fun _ => True) v6 x6_1) ∧ Aside0 (Below w.heap.size w w'))
  case atStart => exact ⟨(([] : List Int)), (2), (by first | rfl | (simp; done) | (simp [*]; done)), H', ⟨Nat.le_refl _⟩, ⟨by first | exact Kd.R_nil _ _ _ _ _ | exact Kd.N_nil _ _ _ _ _ | exact Kd.V_nil _ _ _ _ _ | exact Kd.Q_nil _ _ _ _ _ | exact Kd.S_nil _ _ _ _ _⟩, ⟨by repeat (first | (with_reducible first | exact HB.out | apply below_alloc | apply pw_below_drewN | apply below_drew1) | exact HB.out)⟩⟩
  case round =>
    clear H'
    try clear c1
    obtain ⟨x6_1, x7_1, rfl, HA, HK1, HO_6, HB⟩ := hrel
    cases gk with
    | zero => exact absurd HA.out (by simp [spec_Target.l0])
    | succ k1 =>
      have H := HA.out
      clear HA
      simp only [spec_Target.l0] at H
      by_cases c2 : x7_1 ≥ 0
      · rw [if_pos c2] at H
        have c2b0 : decide (0 ≤ x7_1) = true := decide_eq_true c2
        clear c2
        obtain ⟨ji3, hji3⟩ : ∃ j_ : Int, (wrap64 (8 * x7_1)) = j_ := ⟨_, rfl⟩
        replace H : (if 0 ≤ (ji3) then (if x6_1.length < 140737488355328 then (spec_Target.l0 k1 ((Go.bits .and .u32 a0 8388608) != 0) (IntKind.u64.wrap (Int.tmod a0 8388608)) (wrap64 (a0 / 16777216)) (x6_1 ++ [(shr .u64 (IntKind.u64.wrap (Int.tmod a0 8388608)) (ji3)) % 256]) (wrap64 (x7_1 - 1))) else (none)) else (none)) = some (r1, r2) := by first | (rw [hji3] at H; exact H) | (simp only [hji3] at H ⊢; exact H)
        have hji3w : (IntKind.i64.wrap (8 * x7_1)) = ji3 := (i64_w _).trans hji3
        by_cases c4 : 0 ≤ (ji3)
        · rw [if_pos c4] at H
          have c4b0 := eq_true c4
          have c4b1 : decide (0 ≤ (ji3)) = true := decide_eq_true c4
          clear c4
          obtain ⟨ji5, hji5⟩ : ∃ j_ : Int, (shr .u64 (IntKind.u64.wrap (Int.tmod a0 8388608)) (ji3)) = j_ := ⟨_, rfl⟩
          replace H : (if x6_1.length < 140737488355328 then (spec_Target.l0 k1 ((Go.bits .and .u32 a0 8388608) != 0) (IntKind.u64.wrap (Int.tmod a0 8388608)) (wrap64 (a0 / 16777216)) (x6_1 ++ [(ji5) % 256]) (wrap64 (x7_1 - 1))) else (none)) = some (r1, r2) := by first | (rw [hji5] at H; exact H) | (simp only [hji5] at H ⊢; exact H)
          have hji5_ : ((IntKind.u64.wrap (Int.tmod a0 8388608)) / 2 ^ min (ji3).toNat 64) = ji5 := hji5
          have hji5z : (ji3) ≤ 64 → ((IntKind.u64.wrap (Int.tmod a0 8388608)) / 2 ^ (ji3).toNat) = ji5 := shr_small hji5
          by_cases c6 : x6_1.length < 140737488355328
          · rw [if_pos c6] at H
            have LMc6 := Aside0.mk c6
            clear c6
            obtain ⟨y162, hy162⟩ : ∃ y_ : List Int, y_ = (x6_1 ++ [(ji5) % 256]) := ⟨_, rfl⟩
            replace H : (spec_Target.l0 k1 ((Go.bits .and .u32 a0 8388608) != 0) (IntKind.u64.wrap (Int.tmod a0 8388608)) (wrap64 (a0 / 16777216)) y162 (wrap64 (x7_1 - 1))) = some (r1, r2) := by first | (rw [hy162]; with_reducible exact H) | (have H2_ := (Option.bind_some _ _).symm.trans H; rw [hy162]; with_reducible exact H2_) | (have H2_ := (Option.bind_some _ _).symm.trans H; with_reducible exact H2_) | with_reducible exact H | (rw [hy162]; exact H) | exact H
            have Ny162 := Aside0.mk hy162
            clear hy162
            have H' := Aside0.mk H
            clear H
            go_wp2_with (first | ((with_reducible refine gate_builtin (b := .append) (xs := #[.tmp 22, .tmp 28]) rfl ?_); (try (refine gate_guard (by rfl) ?_; dsimp only)); at_builtin; refine Kd.R_append (Kd.int .u8) (w0 := w) w.heap.size rfl (.tmp 22) (.tmp 28) 26 5 (.int .u8 0) 1 rfl Try.underlying26 info5 rfl (by decide) (by omega) u6 x6_1 ((ji5) % 256) [.int .u8 ((ji5) % 256)] (fun _ => True) (fun _ => False) rfl rfl ?aP (fun _ hk => hk.elim) ?aF ?aO ?aB ?aS ?aL ?_; (case aP => exact rfl); (case aB => exact (by repeat (first | (with_reducible first | exact HB.out | apply below_alloc | apply pw_below_drewN | apply below_drew1) | exact HB.out))); (case aF => exact (fun _ _ => trivial)); (case aO => exact (by (with_reducible repeat (first | apply Kd.R_alloc | apply Kd.R_drewN | apply Kd.R_drew)); exact HO_6.out)); (case aS => exact (below_size (by repeat (first | (with_reducible first | exact HB.out | apply below_alloc | apply pw_below_drewN | apply below_drew1) | exact HB.out)))); (case aL => have := LMc6.out; omega); intro v163 w7 ho hb hg hat; rw [← Ny162.out] at ho; have n0_ := Aside0.mk (hb); have n1_ := Aside0.mk (ho); clear HB; clear HO_6; have HB := n0_; have HO164 := n1_; clear n0_ n1_; clear ho hb hg hat))
            go_roundg k1
            case measure => have := HK1.out; omega
            case rel => exact ⟨(y162), (wrap64 (x7_1 - 1)), (by first | rfl | (simp; done) | (simp [*]; done)), (by first | exact H' | (subst_vars; exact H')), ⟨by have := HK1.out; omega⟩, ⟨by (with_reducible repeat (first | apply Kd.R_alloc | apply Kd.R_drewN | apply Kd.R_drew)); exact HO164.out⟩, ⟨by repeat (first | (with_reducible first | exact HB.out | apply below_alloc | apply pw_below_drewN | apply below_drew1) | exact HB.out)⟩⟩
          · rw [if_neg c6] at H
            exact absurd H (by simp)
        · rw [if_neg c4] at H
          exact absurd H (by simp)
      · rw [if_neg c2] at H
        have c2b0 : decide (0 ≤ x7_1) = false := decide_eq_false c2
        clear c2
        have HC8 := Aside0.mk H
        clear H
        go_upto_if 31 with (fail)
        go_cut [6] (fun v6 wc => ∃ (kq : Nat) (x6_7 : List Int), Aside0 (spec_Target.j1 kq ((Go.bits .and .u32 a0 8388608) != 0) (wrap64 (a0 / 16777216)) x6_7 = some (r1, r2)) ∧ Aside0 (kq ≤ k1) ∧ Aside0 (Kd.R (Kd.int .u8) 5 wc w.heap.size (fun _ => True) v6 x6_7) ∧ Aside0 (Below w.heap.size w wc))
        case first =>
          have H := HC8.out
          clear HC8
          by_cases c9 : (wrap64 (a0 / 16777216)) ≤ 3
          · rw [if_pos c9] at H
            have c9b0 : decide ((wrap64 (a0 / 16777216)) ≤ 3) = true := decide_eq_true c9
            clear c9
            (first | rw [c9b0] | (simp only [i64_w, i32_w]; rw [c9b0]) | skip)
            obtain ⟨ji10, hji10⟩ : ∃ j_ : Int, (wrap64 (a0 / 16777216)) = j_ := ⟨_, rfl⟩
            replace H : (if 0 ≤ (ji10) then (if (ji10) ≤ (x6_1.length : Int) then (spec_Target.j1 k1 ((Go.bits .and .u32 a0 8388608) != 0) (ji10) (x6_1.take ((ji10) : Int).toNat)) else (none)) else (none)) = some (r1, r2) := by first | (rw [hji10] at H; exact H) | (simp only [hji10] at H ⊢; exact H)
            (try rw [hji10] at c9b0)
            have hji10w : (IntKind.i64.wrap (a0 / 16777216)) = ji10 := (i64_w _).trans hji10
            by_cases c11 : 0 ≤ (ji10)
            · rw [if_pos c11] at H
              have c11b0 := eq_true c11
              have c11b1 : decide (0 ≤ (ji10)) = true := decide_eq_true c11
              clear c11
              by_cases c12 : (ji10) ≤ (x6_1.length : Int)
              · rw [if_pos c12] at H
                have c12b0 := eq_true c12
                have c12b1 : decide ((ji10) ≤ (x6_1.length : Int)) = true := decide_eq_true c12
                clear c12
                obtain ⟨y165, hy165⟩ : ∃ y_ : List Int, y_ = (x6_1.take ((ji10) : Int).toNat) := ⟨_, rfl⟩
                replace H : (spec_Target.j1 k1 ((Go.bits .and .u32 a0 8388608) != 0) (ji10) y165) = some (r1, r2) := by first | (rw [hy165]; with_reducible exact H) | (have H2_ := (Option.bind_some _ _).symm.trans H; rw [hy165]; with_reducible exact H2_) | (have H2_ := (Option.bind_some _ _).symm.trans H; with_reducible exact H2_) | with_reducible exact H | (rw [hy165]; exact H) | exact H
                have Ny165 := Aside0.mk hy165
                clear hy165
                have H' := Aside0.mk H
                clear H
                obtain ⟨Ao13, co13, eo13⟩ := Kd.R_slice HO_6.out
                subst eo13
                have q14 : ((ji10) : Int) ≤ ((x6_1.length : Int) : Int) := of_decide_eq_true (by first | (with_reducible assumption) | assumption)
                obtain ⟨i014, hi014, _, hsz14, _⟩ := info_parts info5
                have hcut14 := cut_to (P := Try.prog) 26 5 .i64 Try.underlying26 hi014 Ao13 x6_1.length co13 (ji10) (of_decide_eq_true (by first | (with_reducible assumption) | assumption)) q14 (Kd.R_reads' HO_6.out).2.1
                have hr14 := Kd.R_take (m := ((ji10) : Int).toNat) HO_6.out (by omega)
                have hy14 : y165.length = ((ji10) : Int).toNat := (by rw [Ny165.out, List.length_take]; omega)
                rw [← Ny165.out] at hr14
                rw [← hy14] at hr14 hcut14
                clear hy14 hi014 hsz14 HO_6
                have HO167 := Aside0.mk hr14
                clear hr14
                replace q14 := eq_true q14
                go_wp2
                go_meet
                case rel => exact ⟨_, (y165), (by first | exact H' | (subst_vars; exact H')), ⟨by have := HK1.out; first | omega | exact Nat.le_refl _⟩, ⟨by (with_reducible repeat (first | apply Kd.R_alloc | apply Kd.R_drewN | apply Kd.R_drew)); exact HO167.out⟩, ⟨by repeat (first | (with_reducible first | exact HB.out | apply below_alloc | apply pw_below_drewN | apply below_drew1) | exact HB.out)⟩⟩
              · rw [if_neg c12] at H
                exact absurd H (by simp)
            · rw [if_neg c11] at H
              exact absurd H (by simp)
          · rw [if_neg c9] at H
            have c9b0 : decide ((wrap64 (a0 / 16777216)) ≤ 3) = false := decide_eq_false c9
            clear c9
            (first | rw [c9b0] | (simp only [i64_w, i32_w]; rw [c9b0]) | skip)
            have H' := Aside0.mk H
            clear H
            go_wp2
            go_meet
            case rel => exact ⟨_, (x6_1), (by first | exact H' | (subst_vars; exact H')), ⟨by have := HK1.out; first | omega | exact Nat.le_refl _⟩, ⟨by (with_reducible repeat (first | apply Kd.R_alloc | apply Kd.R_drewN | apply Kd.R_drew)); exact HO_6.out⟩, ⟨by repeat (first | (with_reducible first | exact HB.out | apply below_alloc | apply pw_below_drewN | apply below_drew1) | exact HB.out)⟩⟩
        case rest =>
          clear HC8
          try clear c1
          try clear q1
          try clear c2
          try clear c2b0
          try clear p2
          try clear c4
          try clear c4b0
          try clear c4b1
          try clear c6
          try clear p6
          try clear c9
          try clear c9b0
          try clear c11
          try clear c11b0
          try clear c11b1
          try clear c12
          try clear c12b0
          try clear c12b1
          try clear c13
          try clear q14
          try clear q14
          obtain ⟨kq, x6_7, HA, HJ7, HO_6, HB⟩ := hcut
          cases kq with
          | zero => exact absurd HA.out (by simp [spec_Target.j1])
          | succ kj7 =>
            have H := HA.out
            clear HA
            simp only [spec_Target.j1] at H
            have H' := Aside0.mk H
            clear H
            go_wp2
            go_loopg [6, 8] kj7 (fun kq v6 v8 w' => ∃ (x6_3 : List Int) (x8_3 : Int), v8 = .int .i64 x8_3 ∧ Aside0 (spec_Target.l1 kq ((Go.bits .and .u32 a0 8388608) != 0) (wrap64 (a0 / 16777216)) x6_3 x8_3 = some (r1, r2)) ∧ Aside0 (kq ≤ kj7) ∧ Aside0 (Kd.R (Kd.int .u8) 5 w' w.heap.size (fun _ => True) v6 x6_3) ∧ Aside0 (Below w.heap.size w w'))
            case atStart => exact ⟨(x6_7), (3), (by first | rfl | (simp; done) | (simp [*]; done)), H', ⟨Nat.le_refl _⟩, ⟨by (with_reducible repeat (first | apply Kd.R_alloc | apply Kd.R_drewN | apply Kd.R_drew)); exact HO_6.out⟩, ⟨by repeat (first | (with_reducible first | exact HB.out | apply below_alloc | apply pw_below_drewN | apply below_drew1) | exact HB.out)⟩⟩
            case round =>
              clear H'
              try clear c1
              try clear q1
              try clear c2
              try clear c2b0
              try clear p2
              try clear c4
              try clear c4b0
              try clear c4b1
              try clear c6
              try clear p6
              try clear c9
              try clear c9b0
              try clear c11
              try clear c11b0
              try clear c11b1
              try clear c12
              try clear c12b0
              try clear c12b1
              try clear c13
              try clear q14
              try clear p2
              try clear p6
              try clear q1
              try clear q14
              obtain ⟨x6_3, x8_3, rfl, HA, HK3, HO_6, HB⟩ := hrel
              cases gk with
              | zero => exact absurd HA.out (by simp [spec_Target.l1])
              | succ k3 =>
                have H := HA.out
                clear HA
                simp only [spec_Target.l1] at H
                by_cases c15 : x8_3 < (wrap64 (a0 / 16777216))
                · rw [if_pos c15] at H
                  have c15b0 : decide (x8_3 < (wrap64 (a0 / 16777216))) = true := decide_eq_true c15
                  clear c15
                  by_cases c16 : x6_3.length < 140737488355328
                  · rw [if_pos c16] at H
                    have LMc16 := Aside0.mk c16
                    clear c16
                    obtain ⟨y168, hy168⟩ : ∃ y_ : List Int, y_ = (x6_3 ++ [0]) := ⟨_, rfl⟩
                    replace H : (spec_Target.l1 k3 ((Go.bits .and .u32 a0 8388608) != 0) (wrap64 (a0 / 16777216)) y168 (wrap64 (x8_3 + 1))) = some (r1, r2) := by first | (rw [hy168]; with_reducible exact H) | (have H2_ := (Option.bind_some _ _).symm.trans H; rw [hy168]; with_reducible exact H2_) | (have H2_ := (Option.bind_some _ _).symm.trans H; with_reducible exact H2_) | with_reducible exact H | (rw [hy168]; exact H) | exact H
                    have Ny168 := Aside0.mk hy168
                    clear hy168
                    have H' := Aside0.mk H
                    clear H
                    go_wp2_with (first | ((with_reducible refine gate_builtin (b := .append) (xs := #[.tmp 40, .tmp 41]) rfl ?_); (try (refine gate_guard (by rfl) ?_; dsimp only)); at_builtin; refine Kd.R_append (Kd.int .u8) (w0 := w) w.heap.size rfl (.tmp 40) (.tmp 41) 26 5 (.int .u8 0) 1 rfl Try.underlying26 info5 rfl (by decide) (by omega) u6 x6_3 0 [.int .u8 0] (fun _ => True) (fun _ => False) rfl rfl ?aP (fun _ hk => hk.elim) ?aF ?aO ?aB ?aS ?aL ?_; (case aP => exact rfl); (case aB => exact (by repeat (first | (with_reducible first | exact HB.out | apply below_alloc | apply pw_below_drewN | apply below_drew1) | exact HB.out))); (case aF => exact (fun _ _ => trivial)); (case aO => exact (by (with_reducible repeat (first | apply Kd.R_alloc | apply Kd.R_drewN | apply Kd.R_drew)); exact HO_6.out)); (case aS => exact (below_size (by repeat (first | (with_reducible first | exact HB.out | apply below_alloc | apply pw_below_drewN | apply below_drew1) | exact HB.out)))); (case aL => have := LMc16.out; omega); intro v169 w17 ho hb hg hat; rw [← Ny168.out] at ho; have n0_ := Aside0.mk (hb); have n1_ := Aside0.mk (ho); clear HB; clear HO_6; have HB := n0_; have HO170 := n1_; clear n0_ n1_; clear ho hb hg hat))
                    go_roundg k3
                    case measure => have := HK1.out; have := HJ7.out; have := HK3.out; omega
                    case rel => exact ⟨(y168), (wrap64 (x8_3 + 1)), (by first | rfl | (simp; done) | (simp [*]; done)), (by first | exact H' | (subst_vars; exact H')), ⟨by have := HK1.out; have := HJ7.out; have := HK3.out; omega⟩, ⟨by (with_reducible repeat (first | apply Kd.R_alloc | apply Kd.R_drewN | apply Kd.R_drew)); exact HO170.out⟩, ⟨by repeat (first | (with_reducible first | exact HB.out | apply below_alloc | apply pw_below_drewN | apply below_drew1) | exact HB.out)⟩⟩
                  · rw [if_neg c16] at H
                    exact absurd H (by simp)
                · rw [if_neg c15] at H
                  have c15b0 : decide (x8_3 < (wrap64 (a0 / 16777216))) = false := decide_eq_false c15
                  clear c15
                  replace H := Option.bind_eq_some_iff.mp H
                  obtain ⟨t171, A180, H⟩ := H
                  replace H : (if ((Go.bits .and .u32 a0 8388608) != 0) = true then (some (t171, decide ((t171.length : Int) > 0))) else (some (t171, false))) = some (r1, r2) := H
                  have A18 := Aside0.mk A180
                  clear A180
                  by_cases c19 : ((Go.bits .and .u32 a0 8388608) != 0) = true
                  · rw [if_pos c19] at H
                    have c19b0 : ((Go.bits .and .u32 a0 8388608) != 0) = true := c19
                    (try (have c19b1 : decide ((Go.bits .and .u32 a0 8388608) = 0) = false := by simpa using c19))
                    (try (have c19b2 : ((Go.bits .and .u32 a0 8388608) == 0) = false := by simpa using c19))
                    (try (have c19b3 : ¬ ((Go.bits .and .u32 a0 8388608) = 0) := by simpa using c19))
                    clear c19
                    simp only [Option.some.injEq, Prod.mk.injEq] at H
                    obtain ⟨rfl, rfl⟩ := H
                    obtain ⟨Ao20, co20, eo20⟩ := Kd.R_slice HO_6.out
                    subst eo20
                    go_wp2_with (first | ((with_reducible refine gate_callee (f := 23) rfl ?_); refine goesL_ (some 44) rfl rfl Try.func23 (by kernel_rfl) rfl #[.slice Ao20 x6_3.length co20] rfl (by (try simp only [List.map_toArray, List.map_cons, List.map_nil]); first | done | rfl | (simp only [List.length_drop, List.length_take]; rfl)) ?_; (with_reducible refine (spec_trim.calls k3 _ _ x6_3 t171 _ ?side1 ?side2 A18.out).mono ?_); (case side1 => repeat (first | exact (Kd.R_reads' HO_6.out).2.2 | (with_reducible refine Kd.C_alloc ?_ _) | (with_reducible refine Kd.C_drewN ?_ _) | (with_reducible refine Kd.C_drew ?_))); (case side2 => exact (Kd.R_reads' HO_6.out).2.1); rintro e w21 ⟨v172, rfl, ho0, hb⟩; refine ⟨_, rfl, ?_⟩; have n0_ := Aside0.mk (Kd.R_elder' (by (with_reducible repeat (first | apply Kd.R_alloc | apply Kd.R_drewN | apply Kd.R_drew)); exact HO_6.out) (Kd.R_base ho0) hb); have n1_ := Aside0.mk (Kd.R_lower (Kd.R_new' ho0 (Kd.R_lt (by (with_reducible repeat (first | apply Kd.R_alloc | apply Kd.R_drewN | apply Kd.R_drew)); exact HO_6.out))) (below_size (by repeat (first | (with_reducible first | exact HB.out | apply below_alloc | apply pw_below_drewN | apply below_drew1) | exact HB.out)))); have n2_ := Aside0.mk (below_step (by repeat (first | (with_reducible first | exact HB.out | apply below_alloc | apply pw_below_drewN | apply below_drew1) | exact HB.out)) hb); clear HO_6; clear HB; have HO_6 := n0_; have HO173 := n1_; have HB := n2_; clear n0_ n1_ n2_; (try clear hb); (try clear hb2); (try clear hk); (try clear hi); (try clear ho0); obtain ⟨Ao22, co22, eo22⟩ := Kd.R_slice HO173.out; subst eo22))
                    go_ret2
                    exact ⟨_, by first | rfl | (simp [errW_none, errW_some] <;> rfl) | (simp [*, errW_none, errW_some] <;> rfl), by (with_reducible repeat (first | apply Kd.R_alloc | apply Kd.R_drewN | apply Kd.R_drew)); exact Kd.R_mono HO173.out (fun _ hk => trivial), by repeat (first | (with_reducible first | exact HB.out | apply below_alloc | apply pw_below_drewN | apply below_drew1) | exact HB.out)⟩
                  · rw [if_neg c19] at H
                    have c19b0 : ((Go.bits .and .u32 a0 8388608) != 0) = false := by simpa using c19
                    (try (have c19b1 : decide ((Go.bits .and .u32 a0 8388608) = 0) = true := by simpa using c19))
                    (try (have c19b2 : ((Go.bits .and .u32 a0 8388608) == 0) = true := by simpa using c19))
                    clear c19
                    simp only [Option.some.injEq, Prod.mk.injEq] at H
                    obtain ⟨rfl, rfl⟩ := H
                    obtain ⟨Ao23, co23, eo23⟩ := Kd.R_slice HO_6.out
                    subst eo23
                    go_wp2_with (first | ((with_reducible refine gate_callee (f := 23) rfl ?_); refine goesL_ (some 44) rfl rfl Try.func23 (by kernel_rfl) rfl #[.slice Ao23 x6_3.length co23] rfl (by (try simp only [List.map_toArray, List.map_cons, List.map_nil]); first | done | rfl | (simp only [List.length_drop, List.length_take]; rfl)) ?_; (with_reducible refine (spec_trim.calls k3 _ _ x6_3 t171 _ ?side1 ?side2 A18.out).mono ?_); (case side1 => repeat (first | exact (Kd.R_reads' HO_6.out).2.2 | (with_reducible refine Kd.C_alloc ?_ _) | (with_reducible refine Kd.C_drewN ?_ _) | (with_reducible refine Kd.C_drew ?_))); (case side2 => exact (Kd.R_reads' HO_6.out).2.1); rintro e w24 ⟨v172, rfl, ho0, hb⟩; refine ⟨_, rfl, ?_⟩; have n0_ := Aside0.mk (Kd.R_elder' (by (with_reducible repeat (first | apply Kd.R_alloc | apply Kd.R_drewN | apply Kd.R_drew)); exact HO_6.out) (Kd.R_base ho0) hb); have n1_ := Aside0.mk (Kd.R_lower (Kd.R_new' ho0 (Kd.R_lt (by (with_reducible repeat (first | apply Kd.R_alloc | apply Kd.R_drewN | apply Kd.R_drew)); exact HO_6.out))) (below_size (by repeat (first | (with_reducible first | exact HB.out | apply below_alloc | apply pw_below_drewN | apply below_drew1) | exact HB.out)))); have n2_ := Aside0.mk (below_step (by repeat (first | (with_reducible first | exact HB.out | apply below_alloc | apply pw_below_drewN | apply below_drew1) | exact HB.out)) hb); clear HO_6; clear HB; have HO_6 := n0_; have HO173 := n1_; have HB := n2_; clear n0_ n1_ n2_; (try clear hb); (try clear hb2); (try clear hk); (try clear hi); (try clear ho0)))
                    go_ret2
                    exact ⟨_, by first | rfl | (simp [errW_none, errW_some] <;> rfl) | (simp [*, errW_none, errW_some] <;> rfl), by (with_reducible repeat (first | apply Kd.R_alloc | apply Kd.R_drewN | apply Kd.R_drew)); exact Kd.R_mono HO173.out (fun _ hk => trivial), by repeat (first | (with_reducible first | exact HB.out | apply below_alloc | apply pw_below_drewN | apply below_drew1) | exact HB.out)⟩

/-! ### spec_compareGreat: function 14 -/
def spec_compareGreat.l0 : Nat → List Int → List Int → Int → Option (Int)
  | 0, _, _, _ => none
  | k + 1, x0, x1, x5 => if x5 < (x0.length : Int) then (if 0 ≤ x5 then (if x5 < (x1.length : Int) then (if (rd x0 x5) = (rd x1 x5) then (spec_compareGreat.l0 k x0 x1 (wrap64 (x5 + 1))) else (if (rd x0 x5) < (rd x1 x5) then (some (-1)) else (some 1))) else (none)) else (none)) else (some 0)
def spec_compareGreat.f (k : Nat) (l0 : List Int) (l1 : List Int) : Option (Int) := (spec_trim.f k l0).bind fun t174 => ((spec_trim.f k l1).bind fun t177 => (if (t174.length : Int) = (t177.length : Int) then (spec_compareGreat.l0 k t174 t177 0) else (if (t174.length : Int) < (t177.length : Int) then (some (-1)) else (some 1))))
theorem spec_compareGreat.mono_l : ∀ k, (∀ y0 y1 y2, LeO (spec_compareGreat.l0 k y0 y1 y2) (spec_compareGreat.l0 (k + 1) y0 y1 y2))
  | 0 => fun _ _ _ r h => by simp [spec_compareGreat.l0] at h
  | k + 1 => by
    have ih0 := spec_compareGreat.mono_l k
    · intro y0 y1 y2
      unfold spec_compareGreat.l0
      repeat' first
      | (with_reducible exact ih0 _ _ _)
      | (with_reducible exact spec_trim.mono _ _)
      | (with_reducible exact LeO.refl _)
      | (with_reducible exact LeO.none _)
      | (with_reducible refine LeO.ite ?_ ?_)
      | (with_reducible refine LeO.bind ?_ (fun _ => ?_))
      | exact ih0 _ _ _
      | exact spec_trim.mono _ _
      | exact LeO.none _
      | refine LeO.ite ?_ ?_
      | refine LeO.bind ?_ (fun _ => ?_)
theorem spec_compareGreat.mono : ∀ a0 a1 k, LeO (spec_compareGreat.f k a0 a1) (spec_compareGreat.f (k + 1) a0 a1) := by
  intro a0 a1 k
  have ih0 := spec_compareGreat.mono_l k
  unfold spec_compareGreat.f
  repeat' first
      | (with_reducible exact ih0 _ _ _)
      | (with_reducible exact spec_trim.mono _ _)
      | (with_reducible exact LeO.refl _)
      | (with_reducible exact LeO.none _)
      | (with_reducible refine LeO.ite ?_ ?_)
      | (with_reducible refine LeO.bind ?_ (fun _ => ?_))
      | exact ih0 _ _ _
      | exact spec_trim.mono _ _
      | exact LeO.none _
      | refine LeO.ite ?_ ?_
      | refine LeO.bind ?_ (fun _ => ?_)
set_option maxHeartbeats 8000000 in
set_option maxRecDepth 100000 in
theorem spec_compareGreat.calls (k : Nat) (A0 : Option Addr) (c0 : Nat) (l0 : List Int) (A1 : Option Addr) (c1 : Nat) (l1 : List Int) (r : Int) (w : World) (hr0 : Kd.C (Kd.int .u8) w A0 l0.length l0) (hc0 : l0.length ≤ c0) (hr1 : Kd.C (Kd.int .u8) w A1 l1.length l1) (hc1 : l1.length ≤ c1) (h : spec_compareGreat.f k l0 l1 = some r) :
    Calls Try.prog 14 #[.slice A0 l0.length c0, .slice A1 l1.length c1] w fun e w' => e = .returned (.int .i64 r) ∧ Below w.heap.size w w' := by
  have HR0 := Aside0.mk hr0
  have HC0 := Aside0.mk hc0
  clear hr0 hc0
  have HR1 := Aside0.mk hr1
  have HC1 := Aside0.mk hc1
  clear hr1 hc1
  have HB := Aside0.mk (Below.refl w.heap.size w)
  have H : ((spec_trim.f k l0).bind fun t174 => ((spec_trim.f k l1).bind fun t177 => (if (t174.length : Int) = (t177.length : Int) then (spec_compareGreat.l0 k t174 t177 0) else (if (t174.length : Int) < (t177.length : Int) then (some (-1)) else (some 1))))) = some r := h
  clear h
  replace H := Option.bind_eq_some_iff.mp H
  obtain ⟨t174, A30, H⟩ := H
  replace H : ((spec_trim.f k l1).bind fun t177 => (if (t174.length : Int) = (t177.length : Int) then (spec_compareGreat.l0 k t174 t177 0) else (if (t174.length : Int) < (t177.length : Int) then (some (-1)) else (some 1)))) = some r := H
  have A3 := Aside0.mk A30
  clear A30
  replace H := Option.bind_eq_some_iff.mp H
  obtain ⟨t177, A40, H⟩ := H
  replace H : (if (t174.length : Int) = (t177.length : Int) then (spec_compareGreat.l0 k t174 t177 0) else (if (t174.length : Int) < (t177.length : Int) then (some (-1)) else (some 1))) = some r := H
  have A4 := Aside0.mk A40
  clear A40
  by_cases c5 : (t174.length : Int) = (t177.length : Int)
  · rw [if_pos c5] at H
    have c5b0 : ((t174.length : Int) == (t177.length : Int)) = true := beq_iff_eq.mpr c5
    have c5b1 : ((t174.length : Int) != (t177.length : Int)) = false := bne_eq_false_iff_eq.mpr c5
    have c5b2 : (t174.length == t177.length) = true := by first | simpa using c5 | (simp at c5 ⊢; omega)
    clear c5
    have H' := Aside0.mk H
    clear H
    go_enter Try.func14, Try.ntmps14
    go_wp2_with (first | (go_at_call 23; (with_reducible refine (spec_trim.calls k _ _ l0 t174 _ ?side1 ?side2 A3.out).mono ?_); (case side1 => repeat (first | exact HR0.out | (with_reducible refine Kd.C_alloc ?_ _) | (with_reducible refine Kd.C_drewN ?_ _) | (with_reducible refine Kd.C_drew ?_))); (case side2 => exact HC0.out); rintro e w6 ⟨v175, rfl, ho0, hb⟩; have n0_ := Aside0.mk (Kd.R_lower ho0 (below_size (by repeat (first | (with_reducible first | exact HB.out | apply below_alloc | apply pw_below_drewN | apply below_drew1) | exact HB.out)))); have n1_ := Aside0.mk (below_step (by repeat (first | (with_reducible first | exact HB.out | apply below_alloc | apply pw_below_drewN | apply below_drew1) | exact HB.out)) hb); clear HB; have HO176 := n0_; have HB := n1_; clear n0_ n1_; (try clear hb); (try clear hb2); (try clear hk); (try clear hi); (try clear ho0)) | (go_at_call 23; (with_reducible refine (spec_trim.calls k _ _ l1 t177 _ ?side1 ?side2 A4.out).mono ?_); (case side1 => repeat (first | exact (Kd.C_below HR1.out HB.out) | (with_reducible refine Kd.C_alloc ?_ _) | (with_reducible refine Kd.C_drewN ?_ _) | (with_reducible refine Kd.C_drew ?_))); (case side2 => exact HC1.out); rintro e w7 ⟨v178, rfl, ho0, hb⟩; have n0_ := Aside0.mk (Kd.R_elder' (by (with_reducible repeat (first | apply Kd.R_alloc | apply Kd.R_drewN | apply Kd.R_drew)); exact HO176.out) (Kd.R_base ho0) hb); have n1_ := Aside0.mk (Kd.R_lower (Kd.R_new' ho0 (Kd.R_lt (by (with_reducible repeat (first | apply Kd.R_alloc | apply Kd.R_drewN | apply Kd.R_drew)); exact HO176.out))) (below_size (by repeat (first | (with_reducible first | exact HB.out | apply below_alloc | apply pw_below_drewN | apply below_drew1) | exact HB.out)))); have n2_ := Aside0.mk (below_step (by repeat (first | (with_reducible first | exact HB.out | apply below_alloc | apply pw_below_drewN | apply below_drew1) | exact HB.out)) hb); clear HO176; clear HB; have HO176 := n0_; have HO179 := n1_; have HB := n2_; clear n0_ n1_ n2_; (try clear hb); (try clear hb2); (try clear hk); (try clear hi); (try clear ho0); obtain ⟨Ao8, co8, eo8⟩ := Kd.R_slice HO176.out; subst eo8; obtain ⟨Ao9, co9, eo9⟩ := Kd.R_slice HO179.out; subst eo9))
    repeat (go_quiet (first | (go_at_call 23; (with_reducible refine (spec_trim.calls k _ _ l0 t174 _ ?side1 ?side2 A3.out).mono ?_); (case side1 => repeat (first | exact HR0.out | (with_reducible refine Kd.C_alloc ?_ _) | (with_reducible refine Kd.C_drewN ?_ _) | (with_reducible refine Kd.C_drew ?_))); (case side2 => exact HC0.out); rintro e w6 ⟨v175, rfl, ho0, hb⟩; have n0_ := Aside0.mk (Kd.R_lower ho0 (below_size (by repeat (first | (with_reducible first | exact HB.out | apply below_alloc | apply pw_below_drewN | apply below_drew1) | exact HB.out)))); have n1_ := Aside0.mk (below_step (by repeat (first | (with_reducible first | exact HB.out | apply below_alloc | apply pw_below_drewN | apply below_drew1) | exact HB.out)) hb); clear HB; have HO176 := n0_; have HB := n1_; clear n0_ n1_; (try clear hb); (try clear hb2); (try clear hk); (try clear hi); (try clear ho0)) | (go_at_call 23; (with_reducible refine (spec_trim.calls k _ _ l1 t177 _ ?side1 ?side2 A4.out).mono ?_); (case side1 => repeat (first | exact (Kd.C_below HR1.out HB.out) | (with_reducible refine Kd.C_alloc ?_ _) | (with_reducible refine Kd.C_drewN ?_ _) | (with_reducible refine Kd.C_drew ?_))); (case side2 => exact HC1.out); rintro e w7 ⟨v178, rfl, ho0, hb⟩; have n0_ := Aside0.mk (Kd.R_elder' (by (with_reducible repeat (first | apply Kd.R_alloc | apply Kd.R_drewN | apply Kd.R_drew)); exact HO176.out) (Kd.R_base ho0) hb); have n1_ := Aside0.mk (Kd.R_lower (Kd.R_new' ho0 (Kd.R_lt (by (with_reducible repeat (first | apply Kd.R_alloc | apply Kd.R_drewN | apply Kd.R_drew)); exact HO176.out))) (below_size (by repeat (first | (with_reducible first | exact HB.out | apply below_alloc | apply pw_below_drewN | apply below_drew1) | exact HB.out)))); have n2_ := Aside0.mk (below_step (by repeat (first | (with_reducible first | exact HB.out | apply below_alloc | apply pw_below_drewN | apply below_drew1) | exact HB.out)) hb); clear HO176; clear HB; have HO176 := n0_; have HO179 := n1_; have HB := n2_; clear n0_ n1_ n2_; (try clear hb); (try clear hb2); (try clear hk); (try clear hi); (try clear ho0); obtain ⟨Ao8, co8, eo8⟩ := Kd.R_slice HO176.out; subst eo8; obtain ⟨Ao9, co9, eo9⟩ := Kd.R_slice HO179.out; subst eo9)); try go_wp2_with (first | (go_at_call 23; (with_reducible refine (spec_trim.calls k _ _ l0 t174 _ ?side1 ?side2 A3.out).mono ?_); (case side1 => repeat (first | exact HR0.out | (with_reducible refine Kd.C_alloc ?_ _) | (with_reducible refine Kd.C_drewN ?_ _) | (with_reducible refine Kd.C_drew ?_))); (case side2 => exact HC0.out); rintro e w6 ⟨v175, rfl, ho0, hb⟩; have n0_ := Aside0.mk (Kd.R_lower ho0 (below_size (by repeat (first | (with_reducible first | exact HB.out | apply below_alloc | apply pw_below_drewN | apply below_drew1) | exact HB.out)))); have n1_ := Aside0.mk (below_step (by repeat (first | (with_reducible first | exact HB.out | apply below_alloc | apply pw_below_drewN | apply below_drew1) | exact HB.out)) hb); clear HB; have HO176 := n0_; have HB := n1_; clear n0_ n1_; (try clear hb); (try clear hb2); (try clear hk); (try clear hi); (try clear ho0)) | (go_at_call 23; (with_reducible refine (spec_trim.calls k _ _ l1 t177 _ ?side1 ?side2 A4.out).mono ?_); (case side1 => repeat (first | exact (Kd.C_below HR1.out HB.out) | (with_reducible refine Kd.C_alloc ?_ _) | (with_reducible refine Kd.C_drewN ?_ _) | (with_reducible refine Kd.C_drew ?_))); (case side2 => exact HC1.out); rintro e w7 ⟨v178, rfl, ho0, hb⟩; have n0_ := Aside0.mk (Kd.R_elder' (by (with_reducible repeat (first | apply Kd.R_alloc | apply Kd.R_drewN | apply Kd.R_drew)); exact HO176.out) (Kd.R_base ho0) hb); have n1_ := Aside0.mk (Kd.R_lower (Kd.R_new' ho0 (Kd.R_lt (by (with_reducible repeat (first | apply Kd.R_alloc | apply Kd.R_drewN | apply Kd.R_drew)); exact HO176.out))) (below_size (by repeat (first | (with_reducible first | exact HB.out | apply below_alloc | apply pw_below_drewN | apply below_drew1) | exact HB.out)))); have n2_ := Aside0.mk (below_step (by repeat (first | (with_reducible first | exact HB.out | apply below_alloc | apply pw_below_drewN | apply below_drew1) | exact HB.out)) hb); clear HO176; clear HB; have HO176 := n0_; have HO179 := n1_; have HB := n2_; clear n0_ n1_ n2_; (try clear hb); (try clear hb2); (try clear hk); (try clear hi); (try clear ho0); obtain ⟨Ao8, co8, eo8⟩ := Kd.R_slice HO176.out; subst eo8; obtain ⟨Ao9, co9, eo9⟩ := Kd.R_slice HO179.out; subst eo9)))
    go_loopg [5] k (fun kq v5 w' => ∃ (x5_1 : Int), v5 = .int .i64 x5_1 ∧ Aside0 (spec_compareGreat.l0 kq t174 t177 x5_1 = some r) ∧ Aside0 (kq ≤ k) ∧ Aside0 (Kd.R (Kd.int .u8) 5 w' w.heap.size (fun k_ => some k_ ≠ ((.slice Ao9 t177.length co9) : Value).ownBlock) (.slice Ao8 t174.length co8) t174) ∧ Aside0 (Kd.R (Kd.int .u8) 5 w' w.heap.size (fun k_ => some k_ ≠ ((.slice Ao8 t174.length co8) : Value).ownBlock) (.slice Ao9 t177.length co9) t177) ∧ Aside0 (Below w.heap.size w w'))
    case atStart => exact ⟨(0), (by first | rfl | (simp; done) | (simp [*]; done)), H', ⟨Nat.le_refl _⟩, ⟨by (with_reducible repeat (first | apply Kd.R_alloc | apply Kd.R_drewN | apply Kd.R_drew)); exact Kd.R_mono HO176.out (fun _ hk => hk.2)⟩, ⟨by (with_reducible repeat (first | apply Kd.R_alloc | apply Kd.R_drewN | apply Kd.R_drew)); exact Kd.R_mono HO179.out (fun _ hk => hk.2)⟩, ⟨by repeat (first | (with_reducible first | exact HB.out | apply below_alloc | apply pw_below_drewN | apply below_drew1) | exact HB.out)⟩⟩
    case round =>
      clear H'
      try clear c1
      try clear p2
      try clear c5
      try clear c5b0
      try clear c5b1
      try clear c5b2
      obtain ⟨x5_1, rfl, HA, HK1, HO_0, HO_1, HB⟩ := hrel
      cases gk with
      | zero => exact absurd HA.out (by simp [spec_compareGreat.l0])
      | succ k1 =>
        have H := HA.out
        clear HA
        simp only [spec_compareGreat.l0] at H
        by_cases c10 : x5_1 < (t174.length : Int)
        · rw [if_pos c10] at H
          have c10b0 : decide (x5_1 < (t174.length : Int)) = true := decide_eq_true c10
          clear c10
          by_cases c11 : 0 ≤ x5_1
          · rw [if_pos c11] at H
            have c11b0 : decide (0 ≤ x5_1) = true := decide_eq_true c11
            clear c11
            by_cases c12 : x5_1 < (t177.length : Int)
            · rw [if_pos c12] at H
              have c12b0 : decide (x5_1 < (t177.length : Int)) = true := decide_eq_true c12
              clear c12
              by_cases c13 : (rd t174 x5_1) = (rd t177 x5_1)
              · rw [if_pos c13] at H
                have c13b0 : ((rd t174 x5_1) == (rd t177 x5_1)) = true := beq_iff_eq.mpr c13
                have c13b1 : ((rd t174 x5_1) != (rd t177 x5_1)) = false := bne_eq_false_iff_eq.mpr c13
                clear c13
                have H' := Aside0.mk H
                clear H
                have p180 : 0 ≤ (x5_1 : Int) := of_decide_eq_true (by first | (with_reducible assumption) | assumption)
                have q180 : x5_1 < (t174.length : Int) := of_decide_eq_true (by first | (with_reducible assumption) | assumption)
                obtain ⟨ad180, e180, hx180_0⟩ := Kd.at_int (Kd.R_reads' HO_0.out).2.2 x5_1 p180 q180
                cases e180
                replace p180 := eq_true p180
                replace q180 := eq_true q180
                have p181 : 0 ≤ (x5_1 : Int) := of_decide_eq_true (by first | (with_reducible assumption) | assumption)
                have q181 : x5_1 < (t177.length : Int) := of_decide_eq_true (by first | (with_reducible assumption) | assumption)
                obtain ⟨ad181, e181, hx181_0⟩ := Kd.at_int (Kd.R_reads' HO_1.out).2.2 x5_1 p181 q181
                cases e181
                replace p181 := eq_true p181
                replace q181 := eq_true q181
                go_wp2
                repeat (go_quiet (fail); try go_wp2)
                go_roundg k1
                case measure => have := HK1.out; omega
                case rel => exact ⟨(wrap64 (x5_1 + 1)), (by first | rfl | (simp; done) | (simp [*]; done)), (by first | exact H' | (subst_vars; exact H')), ⟨by have := HK1.out; omega⟩, ⟨by (with_reducible repeat (first | apply Kd.R_alloc | apply Kd.R_drewN | apply Kd.R_drew)); exact HO_0.out⟩, ⟨by (with_reducible repeat (first | apply Kd.R_alloc | apply Kd.R_drewN | apply Kd.R_drew)); exact HO_1.out⟩, ⟨by repeat (first | (with_reducible first | exact HB.out | apply below_alloc | apply pw_below_drewN | apply below_drew1) | exact HB.out)⟩⟩
              · rw [if_neg c13] at H
                have c13b0 : ((rd t174 x5_1) == (rd t177 x5_1)) = false := beq_eq_false_iff_ne.mpr c13
                have c13b1 : ((rd t174 x5_1) != (rd t177 x5_1)) = true := bne_iff_ne.mpr c13
                by_cases c14 : (rd t174 x5_1) < (rd t177 x5_1)
                · rw [if_pos c14] at H
                  have c14b0 : decide ((rd t174 x5_1) < (rd t177 x5_1)) = true := decide_eq_true c14
                  clear c14
                  obtain rfl := Option.some.inj H
                  have p180 : 0 ≤ (x5_1 : Int) := of_decide_eq_true (by first | (with_reducible assumption) | assumption)
                  have q180 : x5_1 < (t174.length : Int) := of_decide_eq_true (by first | (with_reducible assumption) | assumption)
                  obtain ⟨ad180, e180, hx180_0⟩ := Kd.at_int (Kd.R_reads' HO_0.out).2.2 x5_1 p180 q180
                  cases e180
                  replace p180 := eq_true p180
                  replace q180 := eq_true q180
                  have p181 : 0 ≤ (x5_1 : Int) := of_decide_eq_true (by first | (with_reducible assumption) | assumption)
                  have q181 : x5_1 < (t177.length : Int) := of_decide_eq_true (by first | (with_reducible assumption) | assumption)
                  obtain ⟨ad181, e181, hx181_0⟩ := Kd.at_int (Kd.R_reads' HO_1.out).2.2 x5_1 p181 q181
                  cases e181
                  replace p181 := eq_true p181
                  replace q181 := eq_true q181
                  have p182 : 0 ≤ (x5_1 : Int) := of_decide_eq_true (by first | (with_reducible assumption) | assumption)
                  have q182 : x5_1 < (t174.length : Int) := of_decide_eq_true (by first | (with_reducible assumption) | assumption)
                  obtain ⟨ad182, e182, hx182_0⟩ := Kd.at_int (Kd.R_reads' HO_0.out).2.2 x5_1 p182 q182
                  obtain rfl : ad180 = ad182 := (by injection e182)
                  replace p182 := eq_true p182
                  replace q182 := eq_true q182
                  have p183 : 0 ≤ (x5_1 : Int) := of_decide_eq_true (by first | (with_reducible assumption) | assumption)
                  have q183 : x5_1 < (t177.length : Int) := of_decide_eq_true (by first | (with_reducible assumption) | assumption)
                  obtain ⟨ad183, e183, hx183_0⟩ := Kd.at_int (Kd.R_reads' HO_1.out).2.2 x5_1 p183 q183
                  obtain rfl : ad181 = ad183 := (by injection e183)
                  replace p183 := eq_true p183
                  replace q183 := eq_true q183
                  go_wp2
                  repeat (go_quiet (fail); try go_wp2)
                  go_ret
                  exact ⟨by first | rfl | (simp [errW_none, errW_some] <;> rfl) | (simp [*, errW_none, errW_some] <;> rfl), by repeat (first | (with_reducible first | exact HB.out | apply below_alloc | apply pw_below_drewN | apply below_drew1) | exact HB.out)⟩
                · rw [if_neg c14] at H
                  have c14b0 : decide ((rd t174 x5_1) < (rd t177 x5_1)) = false := decide_eq_false c14
                  clear c14
                  obtain rfl := Option.some.inj H
                  have p180 : 0 ≤ (x5_1 : Int) := of_decide_eq_true (by first | (with_reducible assumption) | assumption)
                  have q180 : x5_1 < (t174.length : Int) := of_decide_eq_true (by first | (with_reducible assumption) | assumption)
                  obtain ⟨ad180, e180, hx180_0⟩ := Kd.at_int (Kd.R_reads' HO_0.out).2.2 x5_1 p180 q180
                  cases e180
                  replace p180 := eq_true p180
                  replace q180 := eq_true q180
                  have p181 : 0 ≤ (x5_1 : Int) := of_decide_eq_true (by first | (with_reducible assumption) | assumption)
                  have q181 : x5_1 < (t177.length : Int) := of_decide_eq_true (by first | (with_reducible assumption) | assumption)
                  obtain ⟨ad181, e181, hx181_0⟩ := Kd.at_int (Kd.R_reads' HO_1.out).2.2 x5_1 p181 q181
                  cases e181
                  replace p181 := eq_true p181
                  replace q181 := eq_true q181
                  have p182 : 0 ≤ (x5_1 : Int) := of_decide_eq_true (by first | (with_reducible assumption) | assumption)
                  have q182 : x5_1 < (t174.length : Int) := of_decide_eq_true (by first | (with_reducible assumption) | assumption)
                  obtain ⟨ad182, e182, hx182_0⟩ := Kd.at_int (Kd.R_reads' HO_0.out).2.2 x5_1 p182 q182
                  obtain rfl : ad180 = ad182 := (by injection e182)
                  replace p182 := eq_true p182
                  replace q182 := eq_true q182
                  have p183 : 0 ≤ (x5_1 : Int) := of_decide_eq_true (by first | (with_reducible assumption) | assumption)
                  have q183 : x5_1 < (t177.length : Int) := of_decide_eq_true (by first | (with_reducible assumption) | assumption)
                  obtain ⟨ad183, e183, hx183_0⟩ := Kd.at_int (Kd.R_reads' HO_1.out).2.2 x5_1 p183 q183
                  obtain rfl : ad181 = ad183 := (by injection e183)
                  replace p183 := eq_true p183
                  replace q183 := eq_true q183
                  go_wp2
                  repeat (go_quiet (fail); try go_wp2)
                  go_ret
                  exact ⟨by first | rfl | (simp [errW_none, errW_some] <;> rfl) | (simp [*, errW_none, errW_some] <;> rfl), by repeat (first | (with_reducible first | exact HB.out | apply below_alloc | apply pw_below_drewN | apply below_drew1) | exact HB.out)⟩
            · rw [if_neg c12] at H
              exact absurd H (by simp)
          · rw [if_neg c11] at H
            exact absurd H (by simp)
        · rw [if_neg c10] at H
          have c10b0 : decide (x5_1 < (t174.length : Int)) = false := decide_eq_false c10
          clear c10
          obtain rfl := Option.some.inj H
          go_wp2
          repeat (go_quiet (fail); try go_wp2)
          go_ret
          exact ⟨by first | rfl | (simp [errW_none, errW_some] <;> rfl) | (simp [*, errW_none, errW_some] <;> rfl), by repeat (first | (with_reducible first | exact HB.out | apply below_alloc | apply pw_below_drewN | apply below_drew1) | exact HB.out)⟩
  · rw [if_neg c5] at H
    have c5b0 : ((t174.length : Int) == (t177.length : Int)) = false := beq_eq_false_iff_ne.mpr c5
    have c5b1 : ((t174.length : Int) != (t177.length : Int)) = true := bne_iff_ne.mpr c5
    have c5b2 : (t174.length == t177.length) = false := by first | simpa using c5 | (simp at c5 ⊢; omega)
    by_cases c15 : (t174.length : Int) < (t177.length : Int)
    · rw [if_pos c15] at H
      have c15b0 : decide ((t174.length : Int) < (t177.length : Int)) = true := decide_eq_true c15
      have c15b1 : decide (t174.length < t177.length) = true := decide_eq_true (Int.ofNat_lt.mp c15)
      clear c15
      obtain rfl := Option.some.inj H
      go_enter Try.func14, Try.ntmps14
      go_wp2_with (first | (go_at_call 23; (with_reducible refine (spec_trim.calls k _ _ l0 t174 _ ?side1 ?side2 A3.out).mono ?_); (case side1 => repeat (first | exact HR0.out | (with_reducible refine Kd.C_alloc ?_ _) | (with_reducible refine Kd.C_drewN ?_ _) | (with_reducible refine Kd.C_drew ?_))); (case side2 => exact HC0.out); rintro e w16 ⟨v175, rfl, ho0, hb⟩; have n0_ := Aside0.mk (Kd.R_lower ho0 (below_size (by repeat (first | (with_reducible first | exact HB.out | apply below_alloc | apply pw_below_drewN | apply below_drew1) | exact HB.out)))); have n1_ := Aside0.mk (below_step (by repeat (first | (with_reducible first | exact HB.out | apply below_alloc | apply pw_below_drewN | apply below_drew1) | exact HB.out)) hb); clear HB; have HO176 := n0_; have HB := n1_; clear n0_ n1_; (try clear hb); (try clear hb2); (try clear hk); (try clear hi); (try clear ho0)) | (go_at_call 23; (with_reducible refine (spec_trim.calls k _ _ l1 t177 _ ?side1 ?side2 A4.out).mono ?_); (case side1 => repeat (first | exact (Kd.C_below HR1.out HB.out) | (with_reducible refine Kd.C_alloc ?_ _) | (with_reducible refine Kd.C_drewN ?_ _) | (with_reducible refine Kd.C_drew ?_))); (case side2 => exact HC1.out); rintro e w17 ⟨v178, rfl, ho0, hb⟩; have n0_ := Aside0.mk (Kd.R_elder' (by (with_reducible repeat (first | apply Kd.R_alloc | apply Kd.R_drewN | apply Kd.R_drew)); exact HO176.out) (Kd.R_base ho0) hb); have n1_ := Aside0.mk (Kd.R_lower (Kd.R_new' ho0 (Kd.R_lt (by (with_reducible repeat (first | apply Kd.R_alloc | apply Kd.R_drewN | apply Kd.R_drew)); exact HO176.out))) (below_size (by repeat (first | (with_reducible first | exact HB.out | apply below_alloc | apply pw_below_drewN | apply below_drew1) | exact HB.out)))); have n2_ := Aside0.mk (below_step (by repeat (first | (with_reducible first | exact HB.out | apply below_alloc | apply pw_below_drewN | apply below_drew1) | exact HB.out)) hb); clear HO176; clear HB; have HO176 := n0_; have HO179 := n1_; have HB := n2_; clear n0_ n1_ n2_; (try clear hb); (try clear hb2); (try clear hk); (try clear hi); (try clear ho0); obtain ⟨Ao18, co18, eo18⟩ := Kd.R_slice HO176.out; subst eo18; obtain ⟨Ao19, co19, eo19⟩ := Kd.R_slice HO179.out; subst eo19))
      repeat (go_quiet (first | (go_at_call 23; (with_reducible refine (spec_trim.calls k _ _ l0 t174 _ ?side1 ?side2 A3.out).mono ?_); (case side1 => repeat (first | exact HR0.out | (with_reducible refine Kd.C_alloc ?_ _) | (with_reducible refine Kd.C_drewN ?_ _) | (with_reducible refine Kd.C_drew ?_))); (case side2 => exact HC0.out); rintro e w16 ⟨v175, rfl, ho0, hb⟩; have n0_ := Aside0.mk (Kd.R_lower ho0 (below_size (by repeat (first | (with_reducible first | exact HB.out | apply below_alloc | apply pw_below_drewN | apply below_drew1) | exact HB.out)))); have n1_ := Aside0.mk (below_step (by repeat (first | (with_reducible first | exact HB.out | apply below_alloc | apply pw_below_drewN | apply below_drew1) | exact HB.out)) hb); clear HB; have HO176 := n0_; have HB := n1_; clear n0_ n1_; (try clear hb); (try clear hb2); (try clear hk); (try clear hi); (try clear ho0)) | (go_at_call 23; (with_reducible refine (spec_trim.calls k _ _ l1 t177 _ ?side1 ?side2 A4.out).mono ?_); (case side1 => repeat (first | exact (Kd.C_below HR1.out HB.out) | (with_reducible refine Kd.C_alloc ?_ _) | (with_reducible refine Kd.C_drewN ?_ _) | (with_reducible refine Kd.C_drew ?_))); (case side2 => exact HC1.out); rintro e w17 ⟨v178, rfl, ho0, hb⟩; have n0_ := Aside0.mk (Kd.R_elder' (by (with_reducible repeat (first | apply Kd.R_alloc | apply Kd.R_drewN | apply Kd.R_drew)); exact HO176.out) (Kd.R_base ho0) hb); have n1_ := Aside0.mk (Kd.R_lower (Kd.R_new' ho0 (Kd.R_lt (by (with_reducible repeat (first | apply Kd.R_alloc | apply Kd.R_drewN | apply Kd.R_drew)); exact HO176.out))) (below_size (by repeat (first | (with_reducible first | exact HB.out | apply below_alloc | apply pw_below_drewN | apply below_drew1) | exact HB.out)))); have n2_ := Aside0.mk (below_step (by repeat (first | (with_reducible first | exact HB.out | apply below_alloc | apply pw_below_drewN | apply below_drew1) | exact HB.out)) hb); clear HO176; clear HB; have HO176 := n0_; have HO179 := n1_; have HB := n2_; clear n0_ n1_ n2_; (try clear hb); (try clear hb2); (try clear hk); (try clear hi); (try clear ho0); obtain ⟨Ao18, co18, eo18⟩ := Kd.R_slice HO176.out; subst eo18; obtain ⟨Ao19, co19, eo19⟩ := Kd.R_slice HO179.out; subst eo19)); try go_wp2_with (first | (go_at_call 23; (with_reducible refine (spec_trim.calls k _ _ l0 t174 _ ?side1 ?side2 A3.out).mono ?_); (case side1 => repeat (first | exact HR0.out | (with_reducible refine Kd.C_alloc ?_ _) | (with_reducible refine Kd.C_drewN ?_ _) | (with_reducible refine Kd.C_drew ?_))); (case side2 => exact HC0.out); rintro e w16 ⟨v175, rfl, ho0, hb⟩; have n0_ := Aside0.mk (Kd.R_lower ho0 (below_size (by repeat (first | (with_reducible first | exact HB.out | apply below_alloc | apply pw_below_drewN | apply below_drew1) | exact HB.out)))); have n1_ := Aside0.mk (below_step (by repeat (first | (with_reducible first | exact HB.out | apply below_alloc | apply pw_below_drewN | apply below_drew1) | exact HB.out)) hb); clear HB; have HO176 := n0_; have HB := n1_; clear n0_ n1_; (try clear hb); (try clear hb2); (try clear hk); (try clear hi); (try clear ho0)) | (go_at_call 23; (with_reducible refine (spec_trim.calls k _ _ l1 t177 _ ?side1 ?side2 A4.out).mono ?_); (case side1 => repeat (first | exact (Kd.C_below HR1.out HB.out) | (with_reducible refine Kd.C_alloc ?_ _) | (with_reducible refine Kd.C_drewN ?_ _) | (with_reducible refine Kd.C_drew ?_))); (case side2 => exact HC1.out); rintro e w17 ⟨v178, rfl, ho0, hb⟩; have n0_ := Aside0.mk (Kd.R_elder' (by (with_reducible repeat (first | apply Kd.R_alloc | apply Kd.R_drewN | apply Kd.R_drew)); exact HO176.out) (Kd.R_base ho0) hb); have n1_ := Aside0.mk (Kd.R_lower (Kd.R_new' ho0 (Kd.R_lt (by (with_reducible repeat (first | apply Kd.R_alloc | apply Kd.R_drewN | apply Kd.R_drew)); exact HO176.out))) (below_size (by repeat (first | (with_reducible first | exact HB.out | apply below_alloc | apply pw_below_drewN | apply below_drew1) | exact HB.out)))); have n2_ := Aside0.mk (below_step (by repeat (first | (with_reducible first | exact HB.out | apply below_alloc | apply pw_below_drewN | apply below_drew1) | exact HB.out)) hb); clear HO176; clear HB; have HO176 := n0_; have HO179 := n1_; have HB := n2_; clear n0_ n1_ n2_; (try clear hb); (try clear hb2); (try clear hk); (try clear hi); (try clear ho0); obtain ⟨Ao18, co18, eo18⟩ := Kd.R_slice HO176.out; subst eo18; obtain ⟨Ao19, co19, eo19⟩ := Kd.R_slice HO179.out; subst eo19)))
      go_ret
      exact ⟨by first | rfl | (simp [errW_none, errW_some] <;> rfl) | (simp [*, errW_none, errW_some] <;> rfl), by repeat (first | (with_reducible first | exact HB.out | apply below_alloc | apply pw_below_drewN | apply below_drew1) | exact HB.out)⟩
    · rw [if_neg c15] at H
      have c15b0 : decide ((t174.length : Int) < (t177.length : Int)) = false := decide_eq_false c15
      have c15b1 : decide (t174.length < t177.length) = false := decide_eq_false (fun h => c15 (Int.ofNat_lt.mpr h))
      clear c15
      obtain rfl := Option.some.inj H
      go_enter Try.func14, Try.ntmps14
      go_wp2_with (first | (go_at_call 23; (with_reducible refine (spec_trim.calls k _ _ l0 t174 _ ?side1 ?side2 A3.out).mono ?_); (case side1 => repeat (first | exact HR0.out | (with_reducible refine Kd.C_alloc ?_ _) | (with_reducible refine Kd.C_drewN ?_ _) | (with_reducible refine Kd.C_drew ?_))); (case side2 => exact HC0.out); rintro e w20 ⟨v175, rfl, ho0, hb⟩; have n0_ := Aside0.mk (Kd.R_lower ho0 (below_size (by repeat (first | (with_reducible first | exact HB.out | apply below_alloc | apply pw_below_drewN | apply below_drew1) | exact HB.out)))); have n1_ := Aside0.mk (below_step (by repeat (first | (with_reducible first | exact HB.out | apply below_alloc | apply pw_below_drewN | apply below_drew1) | exact HB.out)) hb); clear HB; have HO176 := n0_; have HB := n1_; clear n0_ n1_; (try clear hb); (try clear hb2); (try clear hk); (try clear hi); (try clear ho0)) | (go_at_call 23; (with_reducible refine (spec_trim.calls k _ _ l1 t177 _ ?side1 ?side2 A4.out).mono ?_); (case side1 => repeat (first | exact (Kd.C_below HR1.out HB.out) | (with_reducible refine Kd.C_alloc ?_ _) | (with_reducible refine Kd.C_drewN ?_ _) | (with_reducible refine Kd.C_drew ?_))); (case side2 => exact HC1.out); rintro e w21 ⟨v178, rfl, ho0, hb⟩; have n0_ := Aside0.mk (Kd.R_elder' (by (with_reducible repeat (first | apply Kd.R_alloc | apply Kd.R_drewN | apply Kd.R_drew)); exact HO176.out) (Kd.R_base ho0) hb); have n1_ := Aside0.mk (Kd.R_lower (Kd.R_new' ho0 (Kd.R_lt (by (with_reducible repeat (first | apply Kd.R_alloc | apply Kd.R_drewN | apply Kd.R_drew)); exact HO176.out))) (below_size (by repeat (first | (with_reducible first | exact HB.out | apply below_alloc | apply pw_below_drewN | apply below_drew1) | exact HB.out)))); have n2_ := Aside0.mk (below_step (by repeat (first | (with_reducible first | exact HB.out | apply below_alloc | apply pw_below_drewN | apply below_drew1) | exact HB.out)) hb); clear HO176; clear HB; have HO176 := n0_; have HO179 := n1_; have HB := n2_; clear n0_ n1_ n2_; (try clear hb); (try clear hb2); (try clear hk); (try clear hi); (try clear ho0); obtain ⟨Ao22, co22, eo22⟩ := Kd.R_slice HO176.out; subst eo22; obtain ⟨Ao23, co23, eo23⟩ := Kd.R_slice HO179.out; subst eo23))
      repeat (go_quiet (first | (go_at_call 23; (with_reducible refine (spec_trim.calls k _ _ l0 t174 _ ?side1 ?side2 A3.out).mono ?_); (case side1 => repeat (first | exact HR0.out | (with_reducible refine Kd.C_alloc ?_ _) | (with_reducible refine Kd.C_drewN ?_ _) | (with_reducible refine Kd.C_drew ?_))); (case side2 => exact HC0.out); rintro e w20 ⟨v175, rfl, ho0, hb⟩; have n0_ := Aside0.mk (Kd.R_lower ho0 (below_size (by repeat (first | (with_reducible first | exact HB.out | apply below_alloc | apply pw_below_drewN | apply below_drew1) | exact HB.out)))); have n1_ := Aside0.mk (below_step (by repeat (first | (with_reducible first | exact HB.out | apply below_alloc | apply pw_below_drewN | apply below_drew1) | exact HB.out)) hb); clear HB; have HO176 := n0_; have HB := n1_; clear n0_ n1_; (try clear hb); (try clear hb2); (try clear hk); (try clear hi); (try clear ho0)) | (go_at_call 23; (with_reducible refine (spec_trim.calls k _ _ l1 t177 _ ?side1 ?side2 A4.out).mono ?_); (case side1 => repeat (first | exact (Kd.C_below HR1.out HB.out) | (with_reducible refine Kd.C_alloc ?_ _) | (with_reducible refine Kd.C_drewN ?_ _) | (with_reducible refine Kd.C_drew ?_))); (case side2 => exact HC1.out); rintro e w21 ⟨v178, rfl, ho0, hb⟩; have n0_ := Aside0.mk (Kd.R_elder' (by (with_reducible repeat (first | apply Kd.R_alloc | apply Kd.R_drewN | apply Kd.R_drew)); exact HO176.out) (Kd.R_base ho0) hb); have n1_ := Aside0.mk (Kd.R_lower (Kd.R_new' ho0 (Kd.R_lt (by (with_reducible repeat (first | apply Kd.R_alloc | apply Kd.R_drewN | apply Kd.R_drew)); exact HO176.out))) (below_size (by repeat (first | (with_reducible first | exact HB.out | apply below_alloc | apply pw_below_drewN | apply below_drew1) | exact HB.out)))); have n2_ := Aside0.mk (below_step (by repeat (first | (with_reducible first | exact HB.out | apply below_alloc | apply pw_below_drewN | apply below_drew1) | exact HB.out)) hb); clear HO176; clear HB; have HO176 := n0_; have HO179 := n1_; have HB := n2_; clear n0_ n1_ n2_; (try clear hb); (try clear hb2); (try clear hk); (try clear hi); (try clear ho0); obtain ⟨Ao22, co22, eo22⟩ := Kd.R_slice HO176.out; subst eo22; obtain ⟨Ao23, co23, eo23⟩ := Kd.R_slice HO179.out; subst eo23)); try go_wp2_with (first | (go_at_call 23; (with_reducible refine (spec_trim.calls k _ _ l0 t174 _ ?side1 ?side2 A3.out).mono ?_); (case side1 => repeat (first | exact HR0.out | (with_reducible refine Kd.C_alloc ?_ _) | (with_reducible refine Kd.C_drewN ?_ _) | (with_reducible refine Kd.C_drew ?_))); (case side2 => exact HC0.out); rintro e w20 ⟨v175, rfl, ho0, hb⟩; have n0_ := Aside0.mk (Kd.R_lower ho0 (below_size (by repeat (first | (with_reducible first | exact HB.out | apply below_alloc | apply pw_below_drewN | apply below_drew1) | exact HB.out)))); have n1_ := Aside0.mk (below_step (by repeat (first | (with_reducible first | exact HB.out | apply below_alloc | apply pw_below_drewN | apply below_drew1) | exact HB.out)) hb); clear HB; have HO176 := n0_; have HB := n1_; clear n0_ n1_; (try clear hb); (try clear hb2); (try clear hk); (try clear hi); (try clear ho0)) | (go_at_call 23; (with_reducible refine (spec_trim.calls k _ _ l1 t177 _ ?side1 ?side2 A4.out).mono ?_); (case side1 => repeat (first | exact (Kd.C_below HR1.out HB.out) | (with_reducible refine Kd.C_alloc ?_ _) | (with_reducible refine Kd.C_drewN ?_ _) | (with_reducible refine Kd.C_drew ?_))); (case side2 => exact HC1.out); rintro e w21 ⟨v178, rfl, ho0, hb⟩; have n0_ := Aside0.mk (Kd.R_elder' (by (with_reducible repeat (first | apply Kd.R_alloc | apply Kd.R_drewN | apply Kd.R_drew)); exact HO176.out) (Kd.R_base ho0) hb); have n1_ := Aside0.mk (Kd.R_lower (Kd.R_new' ho0 (Kd.R_lt (by (with_reducible repeat (first | apply Kd.R_alloc | apply Kd.R_drewN | apply Kd.R_drew)); exact HO176.out))) (below_size (by repeat (first | (with_reducible first | exact HB.out | apply below_alloc | apply pw_below_drewN | apply below_drew1) | exact HB.out)))); have n2_ := Aside0.mk (below_step (by repeat (first | (with_reducible first | exact HB.out | apply below_alloc | apply pw_below_drewN | apply below_drew1) | exact HB.out)) hb); clear HO176; clear HB; have HO176 := n0_; have HO179 := n1_; have HB := n2_; clear n0_ n1_ n2_; (try clear hb); (try clear hb2); (try clear hk); (try clear hi); (try clear ho0); obtain ⟨Ao22, co22, eo22⟩ := Kd.R_slice HO176.out; subst eo22; obtain ⟨Ao23, co23, eo23⟩ := Kd.R_slice HO179.out; subst eo23)))
      go_ret
      exact ⟨by first | rfl | (simp [errW_none, errW_some] <;> rfl) | (simp [*, errW_none, errW_some] <;> rfl), by repeat (first | (with_reducible first | exact HB.out | apply below_alloc | apply pw_below_drewN | apply below_drew1) | exact HB.out)⟩

-- NOT PRINTED: function 15 (spec_HashNumber)

-- NOT PRINTED: function 6 (spec_ProofFault)

end Go.Proofs.Ytigpdgfhngknhaa.QFnProofFault
-- Made by a turned print (own tool turnprint.py over the kit print).
namespace Go.Proofs.Ytigpdgfhngknhaa.QFnProofFault
open Go.RowKit Go.Proofs.YtigpdgfhngknhaaW.PrintWords Go.Proofs.YtigpdgfhngknhaaW.PrintLast Go.Proofs.YtigpdgfhngknhaaW.PrintMore
attribute [local go_sem] nn_mod256 nn_mod65536 nn_mod32 max2_int min2_int max_two min_two max_three min_three max_four min_four   -- for this text's walks alone
set_option linter.unusedVariables false
set_option linter.unusedSimpArgs false

/-! ### spec_little: function 24 -/
def spec_little.l0 : Nat → Int → List Int → Int → Int → Option (List Int)
  | 0, _, _, _, _ => none
  | k + 1, x0, x5, x6, x7 => if x7 < x6 then (if x5.length < 140737488355328 then (spec_little.l0 k (IntKind.u64.wrap (Int.tdiv x0 256)) (x5 ++ [(Int.tmod x0 256) % 256]) x6 (wrap64 (x7 + 1))) else (none)) else (some x5)
def spec_little.f (k : Nat) (a0 : Int) (a1 : Int) : Option (List Int) := spec_little.l0 k a0 ([] : List Int) a1 0
theorem spec_little.mono_l : ∀ k, (∀ y0 y1 y2 y3, LeO (spec_little.l0 k y0 y1 y2 y3) (spec_little.l0 (k + 1) y0 y1 y2 y3))
  | 0 => fun _ _ _ _ r h => by simp [spec_little.l0] at h
  | k + 1 => by
    have ih0 := spec_little.mono_l k
    · intro y0 y1 y2 y3
      unfold spec_little.l0
      repeat' first
      | (with_reducible exact ih0 _ _ _ _)
      | (with_reducible exact LeO.refl _)
      | (with_reducible exact LeO.none _)
      | (with_reducible refine LeO.ite ?_ ?_)
      | (with_reducible refine LeO.bind ?_ (fun _ => ?_))
      | exact ih0 _ _ _ _
      | exact LeO.none _
      | refine LeO.ite ?_ ?_
      | refine LeO.bind ?_ (fun _ => ?_)
theorem spec_little.mono : ∀ a0 a1 k, LeO (spec_little.f k a0 a1) (spec_little.f (k + 1) a0 a1) := by
  intro a0 a1 k
  have ih0 := spec_little.mono_l k
  unfold spec_little.f
  repeat' first
      | (with_reducible exact ih0 _ _ _ _)
      | (with_reducible exact LeO.refl _)
      | (with_reducible exact LeO.none _)
      | (with_reducible refine LeO.ite ?_ ?_)
      | (with_reducible refine LeO.bind ?_ (fun _ => ?_))
      | exact ih0 _ _ _ _
      | exact LeO.none _
      | refine LeO.ite ?_ ?_
      | refine LeO.bind ?_ (fun _ => ?_)
set_option maxHeartbeats 8000000 in
set_option maxRecDepth 100000 in
theorem spec_little.calls (k : Nat) (a0 : Int) (a1 : Int) (r : List Int) (w : World) (h : spec_little.f k a0 a1 = some r) :
    Calls Try.prog 24 #[.int .u64 a0, .int .i64 a1] w fun e w' => ∃ v0_ : Value, e = .returned (v0_) ∧ Kd.R (Kd.int .u8) 5 w' w.heap.size (fun _ => True) v0_ r ∧ Below w.heap.size w w' := by
  have HB := Aside0.mk (Below.refl w.heap.size w)
  have H : (spec_little.l0 k a0 ([] : List Int) a1 0) = some r := h
  clear h
  have H' := Aside0.mk H
  clear H
  go_enter Try.func24, Try.ntmps24
  go_wp2
  go_loopg [0, 5, 7] k (fun kq v0 v5 v7 w' => ∃ (x0_1 : Int) (x5_1 : List Int) (x7_1 : Int), v0 = .int .u64 x0_1 ∧ v7 = .int .i64 x7_1 ∧ Aside0 (spec_little.l0 kq x0_1 x5_1 a1 x7_1 = some r) ∧ Aside0 (kq ≤ k) ∧ Aside0 (Kd.R (Kd.int .u8) 5 w' w.heap.size (fun _ => True) v5 x5_1) ∧ Aside0 (Below w.heap.size w w'))
  case atStart => exact ⟨(a0), (([] : List Int)), (0), (by first | rfl | (simp; done) | (simp [*]; done)), (by first | rfl | (simp; done) | (simp [*]; done)), H', ⟨Nat.le_refl _⟩, ⟨by first | exact Kd.R_nil _ _ _ _ _ | exact Kd.N_nil _ _ _ _ _ | exact Kd.V_nil _ _ _ _ _ | exact Kd.Q_nil _ _ _ _ _ | exact Kd.S_nil _ _ _ _ _⟩, ⟨by repeat (first | (with_reducible first | exact HB.out | apply below_alloc | apply pw_below_drewN | apply below_drew1) | exact HB.out)⟩⟩
  case round =>
    clear H'
    try clear c2
    try clear p2
    obtain ⟨x0_1, x5_1, x7_1, rfl, rfl, HA, HK1, HO_5, HB⟩ := hrel
    cases gk with
    | zero => exact absurd HA.out (by simp [spec_little.l0])
    | succ k1 =>
      have H := HA.out
      clear HA
      simp only [spec_little.l0] at H
      by_cases c3 : x7_1 < a1
      · rw [if_pos c3] at H
        have c3b0 : decide (x7_1 < a1) = true := decide_eq_true c3
        clear c3
        by_cases c4 : x5_1.length < 140737488355328
        · rw [if_pos c4] at H
          have LMc4 := Aside0.mk c4
          clear c4
          obtain ⟨y184, hy184⟩ : ∃ y_ : List Int, y_ = (x5_1 ++ [(Int.tmod x0_1 256) % 256]) := ⟨_, rfl⟩
          replace H : (spec_little.l0 k1 (IntKind.u64.wrap (Int.tdiv x0_1 256)) y184 a1 (wrap64 (x7_1 + 1))) = some r := by first | (rw [hy184]; with_reducible exact H) | (have H2_ := (Option.bind_some _ _).symm.trans H; rw [hy184]; with_reducible exact H2_) | (have H2_ := (Option.bind_some _ _).symm.trans H; with_reducible exact H2_) | with_reducible exact H | (rw [hy184]; exact H) | exact H
          have Ny184 := Aside0.mk hy184
          clear hy184
          have H' := Aside0.mk H
          clear H
          go_wp2_with (first | ((with_reducible refine gate_builtin (b := .append) (xs := #[.tmp 9, .tmp 13]) rfl ?_); at_builtin; refine Kd.R_append (Kd.int .u8) (w0 := w) w.heap.size rfl (.tmp 9) (.tmp 13) 26 5 (.int .u8 0) 1 rfl Try.underlying26 info5 rfl (by decide) (by omega) u5 x5_1 ((Int.tmod x0_1 256) % 256) [.int .u8 ((Int.tmod x0_1 256) % 256)] (fun _ => True) (fun _ => False) rfl rfl ?aP (fun _ hk => hk.elim) ?aF ?aO ?aB ?aS ?aL ?_; (case aP => exact rfl); (case aB => exact (by repeat (first | (with_reducible first | exact HB.out | apply below_alloc | apply pw_below_drewN | apply below_drew1) | exact HB.out))); (case aF => exact (fun _ _ => trivial)); (case aO => exact (by (with_reducible repeat (first | apply Kd.R_alloc | apply Kd.R_drewN | apply Kd.R_drew)); exact HO_5.out)); (case aS => exact (below_size (by repeat (first | (with_reducible first | exact HB.out | apply below_alloc | apply pw_below_drewN | apply below_drew1) | exact HB.out)))); (case aL => have := LMc4.out; omega); intro v185 w5 ho hb hg hat; rw [← Ny184.out] at ho; have n0_ := Aside0.mk (hb); have n1_ := Aside0.mk (ho); clear HB; clear HO_5; have HB := n0_; have HO186 := n1_; clear n0_ n1_; clear ho hb hg hat))
          go_roundg k1
          case measure => have := HK1.out; omega
          case rel => exact ⟨(IntKind.u64.wrap (Int.tdiv x0_1 256)), (y184), (wrap64 (x7_1 + 1)), (by first | rfl | (simp; done) | (simp [*]; done)), (by first | rfl | (simp; done) | (simp [*]; done)), (by first | exact H' | (subst_vars; exact H')), ⟨by have := HK1.out; omega⟩, ⟨by (with_reducible repeat (first | apply Kd.R_alloc | apply Kd.R_drewN | apply Kd.R_drew)); exact HO186.out⟩, ⟨by repeat (first | (with_reducible first | exact HB.out | apply below_alloc | apply pw_below_drewN | apply below_drew1) | exact HB.out)⟩⟩
        · rw [if_neg c4] at H
          exact absurd H (by simp)
      · rw [if_neg c3] at H
        have c3b0 : decide (x7_1 < a1) = false := decide_eq_false c3
        clear c3
        obtain rfl := Option.some.inj H
        go_wp2
        go_ret
        exact ⟨_, by first | rfl | (simp [errW_none, errW_some] <;> rfl) | (simp [*, errW_none, errW_some] <;> rfl), by (with_reducible repeat (first | apply Kd.R_alloc | apply Kd.R_drewN | apply Kd.R_drew)); exact HO_5.out, by repeat (first | (with_reducible first | exact HB.out | apply below_alloc | apply pw_below_drewN | apply below_drew1) | exact HB.out)⟩

-- NOT PRINTED: function 16 (spec_HeaderBytes)

-- NOT PRINTED: function 7 (spec_BlockID)

-- NOT PRINTED: function 35 (boring_SHA256)

-- NOT PRINTED: function 25 (sha256_Sum256)

-- NOT PRINTED: function 17 (btcdchainhash_DoubleHashH)

-- NOT PRINTED: function 8 (impl_Hash)

-- NOT PRINTED: function 3 (laws_FnProofFault)

end Go.Proofs.Ytigpdgfhngknhaa.QFnProofFault
-- Made by a turned print (own tool turnprint.py over the kit print).
namespace Go.Proofs.Ytigpdgfhngknhaa.QFnProofFault
open Go.RowKit Go.Proofs.YtigpdgfhngknhaaW.PrintWords Go.Proofs.YtigpdgfhngknhaaW.PrintLast Go.Proofs.YtigpdgfhngknhaaW.PrintMore
attribute [local go_sem] nn_mod256 nn_mod65536 nn_mod32 max2_int min2_int max_two min_two max_three min_three max_four min_four   -- for this text's walks alone
set_option linter.unusedVariables false
set_option linter.unusedSimpArgs false

end Go.Proofs.Ytigpdgfhngknhaa.QFnProofFault
