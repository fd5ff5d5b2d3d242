-- Made by a turned print (own tool turnprint.py over the kit print).
import Derived.Test.YtdmpjoglejnpbabQFnBuiltx0
namespace Go.Proofs.Ytdmpjoglejnpbab.QFnBuilt
open Go.RowKit Go.Proofs.YtdmpjoglejnpbabW.PrintWords Go.Proofs.YtdmpjoglejnpbabW.PrintLast Go.Proofs.YtdmpjoglejnpbabW.PrintMore
attribute [local go_sem] nn_mod256 nn_mod65536 nn_mod32 max2_int min2_int max_two min_two max_three min_three max_four min_four   -- for this text's walks alone
set_option linter.unusedVariables false
set_option linter.unusedSimpArgs false

/-! ### btcdtxscript_scriptNum_Bytes: function 26 -/
mutual
def btcdtxscript_scriptNum_Bytes.j0 : Nat → Int → Bool → Option (List Int)
  | 0, _, _ => none
  | k + 1, x0, x3 => if (9 : Int).toNat ≤ 281474976710656 then (btcdtxscript_scriptNum_Bytes.l0 k x0 x3 (List.replicate 0 0)) else (none)
def btcdtxscript_scriptNum_Bytes.l0 : Nat → Int → Bool → List Int → Option (List Int)
  | 0, _, _, _ => none
  | k + 1, x0, x3, x4 => if x0 > 0 then (if x4.length < 140737488355328 then (btcdtxscript_scriptNum_Bytes.l0 k (x0 / 256) x3 (x4 ++ [(Go.bits .and .i64 x0 255) % 256])) else (none)) else (if 0 ≤ (wrap64 ((x4.length : Int) - 1)) then (if (wrap64 ((x4.length : Int) - 1)) < (x4.length : Int) then (if (Go.bits .and .u8 (rd x4 (wrap64 ((x4.length : Int) - 1))) 128) = 0 then (if x3 = true then (some (x4.set ((wrap64 ((x4.length : Int) - 1)) : Int).toNat (Go.bits .or .u8 (rd x4 (wrap64 ((x4.length : Int) - 1))) 128))) else (some x4)) else (if x3 = true then (if x4.length < 140737488355328 then (some (x4 ++ [128])) else (none)) else (if x4.length < 140737488355328 then (some (x4 ++ [0])) else (none)))) else (none)) else (none))
end
def btcdtxscript_scriptNum_Bytes.f (k : Nat) (a0 : Int) : Option (List Int) := if a0 = 0 then (some ([] : List Int)) else (if a0 < 0 then (btcdtxscript_scriptNum_Bytes.j0 k (wrap64 (-a0)) (decide (a0 < 0))) else (btcdtxscript_scriptNum_Bytes.j0 k a0 (decide (a0 < 0))))
theorem btcdtxscript_scriptNum_Bytes.mono_l : ∀ k, (∀ y0 y1, LeO (btcdtxscript_scriptNum_Bytes.j0 k y0 y1) (btcdtxscript_scriptNum_Bytes.j0 (k + 1) y0 y1)) ∧ (∀ y0 y1 y2, LeO (btcdtxscript_scriptNum_Bytes.l0 k y0 y1 y2) (btcdtxscript_scriptNum_Bytes.l0 (k + 1) y0 y1 y2))
  | 0 => ⟨fun _ _ r h => by simp [btcdtxscript_scriptNum_Bytes.j0] at h, fun _ _ _ r h => by simp [btcdtxscript_scriptNum_Bytes.l0] at h⟩
  | k + 1 => by
    obtain ⟨ih0, ih1⟩ := btcdtxscript_scriptNum_Bytes.mono_l k
    refine ⟨?_, ?_⟩
    · intro y0 y1
      unfold btcdtxscript_scriptNum_Bytes.j0
      repeat' first
      | (with_reducible exact ih0 _ _)
      | (with_reducible exact ih1 _ _ _)
      | (with_reducible exact LeO.refl _)
      | (with_reducible exact LeO.none _)
      | (with_reducible refine LeO.ite ?_ ?_)
      | (with_reducible refine LeO.bind ?_ (fun _ => ?_))
      | exact ih0 _ _
      | exact ih1 _ _ _
      | exact LeO.none _
      | refine LeO.ite ?_ ?_
      | refine LeO.bind ?_ (fun _ => ?_)
    · intro y0 y1 y2
      unfold btcdtxscript_scriptNum_Bytes.l0
      repeat' first
      | (with_reducible exact ih0 _ _)
      | (with_reducible exact ih1 _ _ _)
      | (with_reducible exact LeO.refl _)
      | (with_reducible exact LeO.none _)
      | (with_reducible refine LeO.ite ?_ ?_)
      | (with_reducible refine LeO.bind ?_ (fun _ => ?_))
      | exact ih0 _ _
      | exact ih1 _ _ _
      | exact LeO.none _
      | refine LeO.ite ?_ ?_
      | refine LeO.bind ?_ (fun _ => ?_)
theorem btcdtxscript_scriptNum_Bytes.mono : ∀ a0 k, LeO (btcdtxscript_scriptNum_Bytes.f k a0) (btcdtxscript_scriptNum_Bytes.f (k + 1) a0) := by
  intro a0 k
  obtain ⟨ih0, ih1⟩ := btcdtxscript_scriptNum_Bytes.mono_l k
  unfold btcdtxscript_scriptNum_Bytes.f
  repeat' first
      | (with_reducible exact ih0 _ _)
      | (with_reducible exact ih1 _ _ _)
      | (with_reducible exact LeO.refl _)
      | (with_reducible exact LeO.none _)
      | (with_reducible refine LeO.ite ?_ ?_)
      | (with_reducible refine LeO.bind ?_ (fun _ => ?_))
      | exact ih0 _ _
      | exact ih1 _ _ _
      | exact LeO.none _
      | refine LeO.ite ?_ ?_
      | refine LeO.bind ?_ (fun _ => ?_)
set_option maxHeartbeats 8000000 in
set_option maxRecDepth 100000 in
theorem btcdtxscript_scriptNum_Bytes.calls (k : Nat) (a0 : Int) (r : List Int) (w : World) (h : btcdtxscript_scriptNum_Bytes.f k a0 = some r) :
    Calls Try.prog 26 #[.int .i64 a0] w fun e w' => ∃ v0_ : Value, e = .returned (v0_) ∧ Kd.R (Kd.int .u8) 5 w' w.heap.size (fun _ => True) v0_ r ∧ Below w.heap.size w w' := by
  have HB := Aside0.mk (Below.refl w.heap.size w)
  have H : (if a0 = 0 then (some ([] : List Int)) else (if a0 < 0 then (btcdtxscript_scriptNum_Bytes.j0 k (wrap64 (-a0)) (decide (a0 < 0))) else (btcdtxscript_scriptNum_Bytes.j0 k a0 (decide (a0 < 0))))) = some r := h
  clear h
  by_cases c2 : a0 = 0
  · rw [if_pos c2] at H
    have c2b0 : (a0 == 0) = true := beq_iff_eq.mpr c2
    have c2b1 : (a0 != 0) = false := bne_eq_false_iff_eq.mpr c2
    clear c2
    obtain rfl := Option.some.inj H
    go_enter Try.func26, Try.ntmps26
    go_wp2
    go_ret
    exact ⟨_, by first | rfl | (simp [errW_none, errW_some] <;> rfl) | (simp [*, errW_none, errW_some] <;> rfl), by first | exact Kd.R_nil _ _ _ _ _ | exact Kd.N_nil _ _ _ _ _ | exact Kd.V_nil _ _ _ _ _ | exact Kd.Q_nil _ _ _ _ _ | exact Kd.S_nil _ _ _ _ _, by repeat (first | (with_reducible first | exact HB.out | apply below_alloc | apply pw_below_drewN | apply below_drew1) | exact HB.out)⟩
  · rw [if_neg c2] at H
    have c2b0 : (a0 == 0) = false := beq_eq_false_iff_ne.mpr c2
    have c2b1 : (a0 != 0) = true := bne_iff_ne.mpr c2
    have HC3 := Aside0.mk H
    clear H
    go_enter Try.func26, Try.ntmps26
    go_upto_if 10 with (fail)
    go_cut [0] (fun v0 wc => ∃ (kq : Nat) (x0_2 : Int), v0 = .int .i64 x0_2 ∧ Aside0 (btcdtxscript_scriptNum_Bytes.j0 kq x0_2 (decide (a0 < 0)) = some r) ∧ Aside0 (kq ≤ k) ∧ Aside0 (Below w.heap.size w wc))
    case first =>
      have H := HC3.out
      clear HC3
      by_cases c4 : a0 < 0
      · rw [if_pos c4] at H
        have c4b0 : decide (a0 < 0) = true := decide_eq_true c4
        clear c4
        (first | rw [c4b0] | (simp only [i64_w, i32_w]; rw [c4b0]) | skip)
        have H' := Aside0.mk H
        clear H
        go_wp2
        rw [show Value.bool true = Value.bool (decide (a0 < 0)) from by rw [c4b0]]
        go_meet
        case rel => exact ⟨_, (wrap64 (-a0)), (by first | rfl | (simp; done) | (simp [*]; done)), (by first | exact H' | (subst_vars; exact H')), ⟨by first | omega | exact Nat.le_refl _⟩, ⟨by repeat (first | (with_reducible first | exact HB.out | apply below_alloc | apply pw_below_drewN | apply below_drew1) | exact HB.out)⟩⟩
      · rw [if_neg c4] at H
        have c4b0 : decide (a0 < 0) = false := decide_eq_false c4
        clear c4
        (first | rw [c4b0] | (simp only [i64_w, i32_w]; rw [c4b0]) | skip)
        have H' := Aside0.mk H
        clear H
        go_wp2
        rw [show Value.bool false = Value.bool (decide (a0 < 0)) from by rw [c4b0]]
        go_meet
        case rel => exact ⟨_, (a0), (by first | rfl | (simp; done) | (simp [*]; done)), (by first | exact H' | (subst_vars; exact H')), ⟨by first | omega | exact Nat.le_refl _⟩, ⟨by repeat (first | (with_reducible first | exact HB.out | apply below_alloc | apply pw_below_drewN | apply below_drew1) | exact HB.out)⟩⟩
    case rest =>
      clear HC3
      try clear c2
      try clear c2b0
      try clear c2b1
      try clear p2
      try clear c4
      try clear c4b0
      obtain ⟨kq, x0_2, rfl, HA, HJ2, HB⟩ := hcut
      cases kq with
      | zero => exact absurd HA.out (by simp [btcdtxscript_scriptNum_Bytes.j0])
      | succ kj2 =>
        have H := HA.out
        clear HA
        simp only [btcdtxscript_scriptNum_Bytes.j0] at H
        by_cases c5 : (9 : Int).toNat ≤ 281474976710656
        · rw [if_pos c5] at H
          have c5b0 := eq_true c5
          have c5b1 : decide ((9 : Int).toNat ≤ 281474976710656) = true := decide_eq_true c5
          clear c5
          obtain ⟨y108, hy108⟩ : ∃ y_ : List Int, y_ = (List.replicate 0 0) := ⟨_, rfl⟩
          replace H : (btcdtxscript_scriptNum_Bytes.l0 kj2 x0_2 (decide (a0 < 0)) y108) = some r := by first | (rw [hy108]; with_reducible exact H) | (have H2_ := (Option.bind_some _ _).symm.trans H; rw [hy108]; with_reducible exact H2_) | (have H2_ := (Option.bind_some _ _).symm.trans H; with_reducible exact H2_) | with_reducible exact H | (rw [hy108]; exact H) | exact H
          have Ny108 := Aside0.mk hy108
          clear hy108
          have H' := Aside0.mk H
          clear H
          go_wp2_with (first | ((with_reducible refine gate_dst (N := 13) rfl ?_); refine Kd.R_makecap (Kd.int .u8) _ 5 rfl (N := 13) rfl 23 _ _ rfl 9 rfl rfl Try.underlying23 (.int .u8 0) 1 info5 rfl (by decide) (by omega) 0 (ok := fun _ => True) (okp := fun _ => True) rfl (fun _ hk => hk) trivial (by omega) (by omega) (Below.refl _ _) (Nat.le_refl _) ?_; intro v109 w6 ho7 hb hg_ hnew_; clear hg_ hnew_; (first | rw [← Ny108.out] at ho7 | (simp only [Int.reduceToNat] at ho7; rw [← Ny108.out] at ho7)); have n0_ := Aside0.mk (Kd.R_lower ho7 (below_size (by repeat (first | (with_reducible first | exact HB.out | apply below_alloc | apply pw_below_drewN | apply below_drew1) | exact HB.out)))); have n1_ := Aside0.mk (below_step (by repeat (first | (with_reducible first | exact HB.out | apply below_alloc | apply pw_below_drewN | apply below_drew1) | exact HB.out)) hb); clear HB; have HO110 := n0_; have HB := n1_; clear n0_ n1_; clear hb ho7))
          go_loopg [0, 4] kj2 (fun kq v0 v4 w' => ∃ (x0_2 : Int) (x4_2 : List Int), v0 = .int .i64 x0_2 ∧ Aside0 (btcdtxscript_scriptNum_Bytes.l0 kq x0_2 (decide (a0 < 0)) x4_2 = some r) ∧ Aside0 (kq ≤ kj2) ∧ Aside0 (Kd.R (Kd.int .u8) 5 w' w.heap.size (fun _ => True) v4 x4_2) ∧ Aside0 (Below w.heap.size w w'))
          case atStart => exact ⟨(x0_2), (y108), (by first | rfl | (simp; done) | (simp [*]; done)), H', ⟨Nat.le_refl _⟩, ⟨by (with_reducible repeat (first | apply Kd.R_alloc | apply Kd.R_drewN | apply Kd.R_drew)); exact HO110.out⟩, ⟨by repeat (first | (with_reducible first | exact HB.out | apply below_alloc | apply pw_below_drewN | apply below_drew1) | exact HB.out)⟩⟩
          case round =>
            clear H'
            try clear c2
            try clear c2b0
            try clear c2b1
            try clear p2
            try clear c4
            try clear c4b0
            try clear c5
            try clear c5b0
            try clear c5b1
            try clear p6
            try clear p2
            obtain ⟨x0_2, x4_2, rfl, HA, HK2, HO_4, HB⟩ := hrel
            cases gk with
            | zero => exact absurd HA.out (by simp [btcdtxscript_scriptNum_Bytes.l0])
            | succ k2 =>
              have H := HA.out
              clear HA
              simp only [btcdtxscript_scriptNum_Bytes.l0] at H
              by_cases c8 : x0_2 > 0
              · rw [if_pos c8] at H
                have c8b0 : decide (0 < x0_2) = true := decide_eq_true c8
                clear c8
                by_cases c9 : x4_2.length < 140737488355328
                · rw [if_pos c9] at H
                  have LMc9 := Aside0.mk c9
                  clear c9
                  obtain ⟨y111, hy111⟩ : ∃ y_ : List Int, y_ = (x4_2 ++ [(Go.bits .and .i64 x0_2 255) % 256]) := ⟨_, rfl⟩
                  replace H : (btcdtxscript_scriptNum_Bytes.l0 k2 (x0_2 / 256) (decide (a0 < 0)) y111) = some r := by first | (rw [hy111]; with_reducible exact H) | (have H2_ := (Option.bind_some _ _).symm.trans H; rw [hy111]; with_reducible exact H2_) | (have H2_ := (Option.bind_some _ _).symm.trans H; with_reducible exact H2_) | with_reducible exact H | (rw [hy111]; exact H) | exact H
                  have Ny111 := Aside0.mk hy111
                  clear hy111
                  have H' := Aside0.mk H
                  clear H
                  go_wp2_with (first | ((with_reducible refine gate_builtin (b := .append) (xs := #[.tmp 16, .tmp 20]) rfl ?_); at_builtin; refine Kd.R_append (Kd.int .u8) (w0 := w) w.heap.size rfl (.tmp 16) (.tmp 20) 23 5 (.int .u8 0) 1 rfl Try.underlying23 info5 rfl (by decide) (by omega) u4 x4_2 ((Go.bits .and .i64 x0_2 255) % 256) [.int .u8 ((Go.bits .and .i64 x0_2 255) % 256)] (fun _ => True) (fun _ => False) rfl rfl ?aP (fun _ hk => hk.elim) ?aF ?aO ?aB ?aS ?aL ?_; (case aP => exact rfl); (case aB => exact (by repeat (first | (with_reducible first | exact HB.out | apply below_alloc | apply pw_below_drewN | apply below_drew1) | exact HB.out))); (case aF => exact (fun _ _ => trivial)); (case aO => exact (by (with_reducible repeat (first | apply Kd.R_alloc | apply Kd.R_drewN | apply Kd.R_drew)); exact HO_4.out)); (case aS => exact (below_size (by repeat (first | (with_reducible first | exact HB.out | apply below_alloc | apply pw_below_drewN | apply below_drew1) | exact HB.out)))); (case aL => have := LMc9.out; omega); intro v112 w10 ho hb hg hat; rw [← Ny111.out] at ho; have n0_ := Aside0.mk (hb); have n1_ := Aside0.mk (ho); clear HB; clear HO_4; have HB := n0_; have HO113 := n1_; clear n0_ n1_; clear ho hb hg hat))
                  go_roundg k2
                  case measure => have := HJ2.out; have := HK2.out; omega
                  case rel => exact ⟨(x0_2 / 256), (y111), (by first | rfl | (simp; done) | (simp [*]; done)), (by first | exact H' | (subst_vars; exact H')), ⟨by have := HJ2.out; have := HK2.out; omega⟩, ⟨by (with_reducible repeat (first | apply Kd.R_alloc | apply Kd.R_drewN | apply Kd.R_drew)); exact HO113.out⟩, ⟨by repeat (first | (with_reducible first | exact HB.out | apply below_alloc | apply pw_below_drewN | apply below_drew1) | exact HB.out)⟩⟩
                · rw [if_neg c9] at H
                  exact absurd H (by simp)
              · rw [if_neg c8] at H
                have c8b0 : decide (0 < x0_2) = false := decide_eq_false c8
                clear c8
                obtain ⟨ji11, hji11⟩ : ∃ j_ : Int, (wrap64 ((x4_2.length : Int) - 1)) = j_ := ⟨_, rfl⟩
                replace H : (if 0 ≤ (ji11) then (if (ji11) < (x4_2.length : Int) then (if (Go.bits .and .u8 (rd x4_2 (ji11)) 128) = 0 then (if (decide (a0 < 0)) = true then (some (x4_2.set ((ji11) : Int).toNat (Go.bits .or .u8 (rd x4_2 (ji11)) 128))) else (some x4_2)) else (if (decide (a0 < 0)) = true then (if x4_2.length < 140737488355328 then (some (x4_2 ++ [128])) else (none)) else (if x4_2.length < 140737488355328 then (some (x4_2 ++ [0])) else (none)))) else (none)) else (none)) = some r := by first | (rw [hji11] at H; exact H) | (simp only [hji11] at H ⊢; exact H)
                have hji11w : (IntKind.i64.wrap ((x4_2.length : Int) - 1)) = ji11 := (i64_w _).trans hji11
                by_cases c12 : 0 ≤ (ji11)
                · rw [if_pos c12] at H
                  have c12b0 : decide (0 ≤ (ji11)) = true := decide_eq_true c12
                  clear c12
                  by_cases c13 : (ji11) < (x4_2.length : Int)
                  · rw [if_pos c13] at H
                    have c13b0 : decide ((ji11) < (x4_2.length : Int)) = true := decide_eq_true c13
                    clear c13
                    by_cases c14 : (Go.bits .and .u8 (rd x4_2 (ji11)) 128) = 0
                    · rw [if_pos c14] at H
                      have c14b0 : ((Go.bits .and .u8 (rd x4_2 (ji11)) 128) == 0) = true := beq_iff_eq.mpr c14
                      have c14b1 : ((Go.bits .and .u8 (rd x4_2 (ji11)) 128) != 0) = false := bne_eq_false_iff_eq.mpr c14
                      clear c14
                      by_cases c15 : (decide (a0 < 0)) = true
                      · rw [if_pos c15] at H
                        have c15b0 : (decide (a0 < 0)) = true := c15
                        have c15p : a0 < 0 := of_decide_eq_true c15b0
                        clear c15
                        obtain ⟨y116, hy116⟩ : ∃ y_ : List Int, y_ = (x4_2.set ((ji11) : Int).toNat (Go.bits .or .u8 (rd x4_2 (ji11)) 128)) := ⟨_, rfl⟩
                        replace H : (some y116) = some r := by first | (rw [hy116]; with_reducible exact H) | (have H2_ := (Option.bind_some _ _).symm.trans H; rw [hy116]; with_reducible exact H2_) | (have H2_ := (Option.bind_some _ _).symm.trans H; with_reducible exact H2_) | with_reducible exact H | (rw [hy116]; exact H) | exact H
                        have Ny116 := Aside0.mk hy116
                        clear hy116
                        obtain rfl := Option.some.inj H
                        obtain ⟨Ao17, co17, eo17⟩ := Kd.R_slice HO_4.out
                        subst eo17
                        have p114 : 0 ≤ ((ji11) : Int) := of_decide_eq_true (by first | (with_reducible assumption) | assumption)
                        have q114 : (ji11) < (x4_2.length : Int) := of_decide_eq_true (by first | (with_reducible assumption) | assumption)
                        obtain ⟨ad114, e114, hx114_0⟩ := Kd.at_int (Kd.R_reads' HO_4.out).2.2 (ji11) p114 q114
                        cases e114
                        replace p114 := eq_true p114
                        replace q114 := eq_true q114
                        have p115 : 0 ≤ ((ji11) : Int) := of_decide_eq_true (by first | (with_reducible assumption) | assumption)
                        have q115 : (ji11) < (x4_2.length : Int) := of_decide_eq_true (by first | (with_reducible assumption) | assumption)
                        obtain ⟨ad115, e115, hx115_0⟩ := Kd.at_int (Kd.R_reads' HO_4.out).2.2 (ji11) p115 q115
                        obtain rfl : ad114 = ad115 := (by injection e115)
                        replace p115 := eq_true p115
                        replace q115 := eq_true q115
                        have p16 : 0 ≤ ((ji11) : Int) := of_decide_eq_true (by first | (with_reducible assumption) | assumption)
                        have q16 : ((ji11) : Int) < ((x4_2.length : Int) : Int) := of_decide_eq_true (by first | (with_reducible assumption) | assumption)
                        obtain ⟨go16, co16, eo16, gb16, gl16, cl16, HG16⟩ := Kd.R_form HO_4.out (by omega)
                        (first | cases eo16 | (injection eo16 with ea_ en_ ec_; (first | subst ea_ | (injection ea_ with ea_; subst ea_)); subst ec_; clear en_))
                        have GB16 := Aside0.mk gb16
                        have GG16 := Aside0.mk HG16
                        clear gb16 gl16 HG16
                        (first | simp only [add_plain] at hx114_0 | skip)
                        (first | simp only [add_plain] at hx115_0 | skip)
                        obtain ⟨hx16_0, hf16_0⟩ := Kd.R_celln 0 HO_4.out ((ji11) : Int) p16 q16
                        replace p16 := eq_true p16
                        replace q16 := eq_true q16
                        have HP18 := Kd.R_putg HO_4.out ((ji11) : Int) (Go.bits .or .u8 (rd x4_2 (ji11)) 128)
                        go_wp2_with (first | ((with_reducible refine gate_store (t := 5) (p := 45) rfl ?_); refine store_event (t := 5) (p := 45) (v := ?vo_w19) (w1 := (wr.setCell ⟨go16, ((ji11) : Int).toNat, none⟩ (.int .u8 (Go.bits .or .u8 (rd x4_2 (ji11)) 128)))) ?hg ?ho ?hn ?hr ?_; (case ho => rfl); (case hg => rfl); (case hn => rfl); (case hr => first | (go_simp; done) | (go_simp; rfl)); intro w19 hw; have hg : wr.grownBy w19 (some go16) := (by rw [hw]; exact HP18.2); have hp_ : Kd.R (Kd.int .u8) 5 w19 w.heap.size (fun _ => True) (.slice (some ⟨go16, 0, none⟩) x4_2.length co17) y116 := (by rw [hw, Ny116.out]; exact HP18.1); clear HP18; have n0_ := Aside0.mk (hp_); have n1_ := Aside0.mk ((by rw [hw]; exact below_set (HB.out) GB16.out : Below w.heap.size w w19)); clear HO_4; clear HB; have HO_4 := n0_; have HB := n1_; clear n0_ n1_; clear hg hw hp_))
                        go_ret
                        exact ⟨_, by first | rfl | (simp [errW_none, errW_some] <;> rfl) | (simp only [← hji11]; first | rfl | (simp [errW_none, errW_some] <;> rfl)) | (simp [*, errW_none, errW_some] <;> rfl), by (with_reducible repeat (first | apply Kd.R_alloc | apply Kd.R_drewN | apply Kd.R_drew)); exact HO_4.out, by repeat (first | (with_reducible first | exact HB.out | apply below_alloc | apply pw_below_drewN | apply below_drew1) | exact HB.out)⟩
                      · rw [if_neg c15] at H
                        have c15b0 : (decide (a0 < 0)) = false := by simpa using c15
                        have c15p : ¬ a0 < 0 := of_decide_eq_false c15b0
                        have c15q : 0 ≤ a0 := Int.not_lt.mp c15p
                        clear c15
                        obtain rfl := Option.some.inj H
                        obtain ⟨Ao20, co20, eo20⟩ := Kd.R_slice HO_4.out
                        subst eo20
                        have p114 : 0 ≤ ((ji11) : Int) := of_decide_eq_true (by first | (with_reducible assumption) | assumption)
                        have q114 : (ji11) < (x4_2.length : Int) := of_decide_eq_true (by first | (with_reducible assumption) | assumption)
                        obtain ⟨ad114, e114, hx114_0⟩ := Kd.at_int (Kd.R_reads' HO_4.out).2.2 (ji11) p114 q114
                        cases e114
                        replace p114 := eq_true p114
                        replace q114 := eq_true q114
                        go_wp2
                        go_ret
                        exact ⟨_, by first | rfl | (simp [errW_none, errW_some] <;> rfl) | (simp only [← hji11]; first | rfl | (simp [errW_none, errW_some] <;> rfl)) | (simp [*, errW_none, errW_some] <;> rfl), by (with_reducible repeat (first | apply Kd.R_alloc | apply Kd.R_drewN | apply Kd.R_drew)); exact HO_4.out, by repeat (first | (with_reducible first | exact HB.out | apply below_alloc | apply pw_below_drewN | apply below_drew1) | exact HB.out)⟩
                    · rw [if_neg c14] at H
                      have c14b0 : ((Go.bits .and .u8 (rd x4_2 (ji11)) 128) == 0) = false := beq_eq_false_iff_ne.mpr c14
                      have c14b1 : ((Go.bits .and .u8 (rd x4_2 (ji11)) 128) != 0) = true := bne_iff_ne.mpr c14
                      by_cases c21 : (decide (a0 < 0)) = true
                      · rw [if_pos c21] at H
                        have c21b0 : (decide (a0 < 0)) = true := c21
                        have c21p : a0 < 0 := of_decide_eq_true c21b0
                        clear c21
                        by_cases c22 : x4_2.length < 140737488355328
                        · rw [if_pos c22] at H
                          have LMc22 := Aside0.mk c22
                          clear c22
                          obtain ⟨y117, hy117⟩ : ∃ y_ : List Int, y_ = (x4_2 ++ [128]) := ⟨_, rfl⟩
                          replace H : (some y117) = some r := by first | (rw [hy117]; with_reducible exact H) | (have H2_ := (Option.bind_some _ _).symm.trans H; rw [hy117]; with_reducible exact H2_) | (have H2_ := (Option.bind_some _ _).symm.trans H; with_reducible exact H2_) | with_reducible exact H | (rw [hy117]; exact H) | exact H
                          have Ny117 := Aside0.mk hy117
                          clear hy117
                          obtain rfl := Option.some.inj H
                          obtain ⟨Ao23, co23, eo23⟩ := Kd.R_slice HO_4.out
                          subst eo23
                          have p114 : 0 ≤ ((ji11) : Int) := of_decide_eq_true (by first | (with_reducible assumption) | assumption)
                          have q114 : (ji11) < (x4_2.length : Int) := of_decide_eq_true (by first | (with_reducible assumption) | assumption)
                          obtain ⟨ad114, e114, hx114_0⟩ := Kd.at_int (Kd.R_reads' HO_4.out).2.2 (ji11) p114 q114
                          cases e114
                          replace p114 := eq_true p114
                          replace q114 := eq_true q114
                          go_wp2_with (first | ((with_reducible refine gate_builtin (b := .append) (xs := #[.tmp 33, .tmp 35]) rfl ?_); at_builtin; refine Kd.R_append (Kd.int .u8) (w0 := w) w.heap.size rfl (.tmp 33) (.tmp 35) 23 5 (.int .u8 0) 1 rfl Try.underlying23 info5 rfl (by decide) (by omega) (.slice (some ad114) x4_2.length co23) x4_2 128 [.int .u8 128] (fun _ => True) (fun _ => False) rfl rfl ?aP (fun _ hk => hk.elim) ?aF ?aO ?aB ?aS ?aL ?_; (case aP => exact rfl); (case aB => exact (by repeat (first | (with_reducible first | exact HB.out | apply below_alloc | apply pw_below_drewN | apply below_drew1) | exact HB.out))); (case aF => exact (fun _ _ => trivial)); (case aO => exact (by (with_reducible repeat (first | apply Kd.R_alloc | apply Kd.R_drewN | apply Kd.R_drew)); exact HO_4.out)); (case aS => exact (below_size (by repeat (first | (with_reducible first | exact HB.out | apply below_alloc | apply pw_below_drewN | apply below_drew1) | exact HB.out)))); (case aL => have := LMc22.out; omega); intro v118 w24 ho hb hg hat; rw [← Ny117.out] at ho; have n0_ := Aside0.mk (hb); have n1_ := Aside0.mk (ho); clear HB; clear HO_4; have HB := n0_; have HO119 := n1_; clear n0_ n1_; clear ho hb hg hat))
                          go_ret
                          exact ⟨_, by first | rfl | (simp [errW_none, errW_some] <;> rfl) | (simp only [← hji11]; first | rfl | (simp [errW_none, errW_some] <;> rfl)) | (simp [*, errW_none, errW_some] <;> rfl), by (with_reducible repeat (first | apply Kd.R_alloc | apply Kd.R_drewN | apply Kd.R_drew)); exact HO119.out, by repeat (first | (with_reducible first | exact HB.out | apply below_alloc | apply pw_below_drewN | apply below_drew1) | exact HB.out)⟩
                        · rw [if_neg c22] at H
                          exact absurd H (by simp)
                      · rw [if_neg c21] at H
                        have c21b0 : (decide (a0 < 0)) = false := by simpa using c21
                        have c21p : ¬ a0 < 0 := of_decide_eq_false c21b0
                        have c21q : 0 ≤ a0 := Int.not_lt.mp c21p
                        clear c21
                        by_cases c25 : x4_2.length < 140737488355328
                        · rw [if_pos c25] at H
                          have LMc25 := Aside0.mk c25
                          clear c25
                          obtain ⟨y120, hy120⟩ : ∃ y_ : List Int, y_ = (x4_2 ++ [0]) := ⟨_, rfl⟩
                          replace H : (some y120) = some r := by first | (rw [hy120]; with_reducible exact H) | (have H2_ := (Option.bind_some _ _).symm.trans H; rw [hy120]; with_reducible exact H2_) | (have H2_ := (Option.bind_some _ _).symm.trans H; with_reducible exact H2_) | with_reducible exact H | (rw [hy120]; exact H) | exact H
                          have Ny120 := Aside0.mk hy120
                          clear hy120
                          obtain rfl := Option.some.inj H
                          obtain ⟨Ao26, co26, eo26⟩ := Kd.R_slice HO_4.out
                          subst eo26
                          have p114 : 0 ≤ ((ji11) : Int) := of_decide_eq_true (by first | (with_reducible assumption) | assumption)
                          have q114 : (ji11) < (x4_2.length : Int) := of_decide_eq_true (by first | (with_reducible assumption) | assumption)
                          obtain ⟨ad114, e114, hx114_0⟩ := Kd.at_int (Kd.R_reads' HO_4.out).2.2 (ji11) p114 q114
                          cases e114
                          replace p114 := eq_true p114
                          replace q114 := eq_true q114
                          go_wp2_with (first | ((with_reducible refine gate_builtin (b := .append) (xs := #[.tmp 33, .tmp 35]) rfl ?_); at_builtin; refine Kd.R_append (Kd.int .u8) (w0 := w) w.heap.size rfl (.tmp 33) (.tmp 35) 23 5 (.int .u8 0) 1 rfl Try.underlying23 info5 rfl (by decide) (by omega) (.slice (some ad114) x4_2.length co26) x4_2 0 [.int .u8 0] (fun _ => True) (fun _ => False) rfl rfl ?aP (fun _ hk => hk.elim) ?aF ?aO ?aB ?aS ?aL ?_; (case aP => exact rfl); (case aB => exact (by repeat (first | (with_reducible first | exact HB.out | apply below_alloc | apply pw_below_drewN | apply below_drew1) | exact HB.out))); (case aF => exact (fun _ _ => trivial)); (case aO => exact (by (with_reducible repeat (first | apply Kd.R_alloc | apply Kd.R_drewN | apply Kd.R_drew)); exact HO_4.out)); (case aS => exact (below_size (by repeat (first | (with_reducible first | exact HB.out | apply below_alloc | apply pw_below_drewN | apply below_drew1) | exact HB.out)))); (case aL => have := LMc25.out; omega); intro v121 w27 ho hb hg hat; rw [← Ny120.out] at ho; have n0_ := Aside0.mk (hb); have n1_ := Aside0.mk (ho); clear HB; clear HO_4; have HB := n0_; have HO122 := n1_; clear n0_ n1_; clear ho hb hg hat))
                          go_ret
                          exact ⟨_, by first | rfl | (simp [errW_none, errW_some] <;> rfl) | (simp only [← hji11]; first | rfl | (simp [errW_none, errW_some] <;> rfl)) | (simp [*, errW_none, errW_some] <;> rfl), by (with_reducible repeat (first | apply Kd.R_alloc | apply Kd.R_drewN | apply Kd.R_drew)); exact HO122.out, by repeat (first | (with_reducible first | exact HB.out | apply below_alloc | apply pw_below_drewN | apply below_drew1) | exact HB.out)⟩
                        · rw [if_neg c25] at H
                          exact absurd H (by simp)
                  · rw [if_neg c13] at H
                    exact absurd H (by simp)
                · rw [if_neg c12] at H
                  exact absurd H (by simp)
        · rw [if_neg c5] at H
          exact absurd H (by simp)

-- NOT PRINTED: function 16 (btcdtxscript_ScriptBuilder_AddInt64)

-- NOT PRINTED: function 17 (btcdtxscript_ScriptBuilder_AddOps)

-- NOT PRINTED: function 18 (btcdtxscript_ScriptBuilder_Reset)

-- NOT PRINTED: function 19 (btcdtxscript_ScriptBuilder_Script)

/-! ### impl_copied: function 20 -/
def impl_copied.f (l0 : List Int) : Option (List Int) := (some (([] : List Int) : List Int)).bind fun y123 => (if y123.length + l0.length < 140737488355328 then (some (y123 ++ l0)) else (none))
set_option maxHeartbeats 8000000 in
set_option maxRecDepth 100000 in
theorem impl_copied.calls (A0 : Option Addr) (c0 : Nat) (l0 : List Int) (r : List Int) (w : World) (hr0 : Kd.C (Kd.int .u8) w A0 l0.length l0) (hc0 : l0.length ≤ c0) (h : impl_copied.f l0 = some r) :
    Calls Try.prog 20 #[.slice A0 l0.length c0] w fun e w' => ∃ v0_ : Value, e = .returned (v0_) ∧ Kd.R (Kd.int .u8) 5 w' w.heap.size (fun _ => True) v0_ r ∧ Below w.heap.size w w' := by
  have HR0 := Aside0.mk hr0
  have HC0 := Aside0.mk hc0
  clear hr0 hc0
  have HB := Aside0.mk (Below.refl w.heap.size w)
  have H : ((some (([] : List Int) : List Int)).bind fun y123 => (if y123.length + l0.length < 140737488355328 then (some (y123 ++ l0)) else (none))) = some r := h
  clear h
  obtain ⟨y123, hy123⟩ : ∃ y_ : List Int, y_ = (([] : List Int)) := ⟨_, rfl⟩
  replace H : (if y123.length + l0.length < 140737488355328 then (some (y123 ++ l0)) else (none)) = some r := by first | (rw [hy123]; with_reducible exact H) | (have H2_ := (Option.bind_some _ _).symm.trans H; rw [hy123]; with_reducible exact H2_) | (have H2_ := (Option.bind_some _ _).symm.trans H; with_reducible exact H2_) | with_reducible exact H | (rw [hy123]; exact H) | exact H
  have Ny123 := Aside0.mk hy123
  clear hy123
  by_cases c2 : y123.length + l0.length < 140737488355328
  · rw [if_pos c2] at H
    have LMc2 := Aside0.mk c2
    clear c2
    obtain ⟨y126, hy126⟩ : ∃ y_ : List Int, y_ = (y123 ++ l0) := ⟨_, rfl⟩
    replace H : (some y126) = some r := by first | (rw [hy126]; with_reducible exact H) | (have H2_ := (Option.bind_some _ _).symm.trans H; rw [hy126]; with_reducible exact H2_) | (have H2_ := (Option.bind_some _ _).symm.trans H; with_reducible exact H2_) | with_reducible exact H | (rw [hy126]; exact H) | exact H
    have Ny126 := Aside0.mk hy126
    clear hy126
    obtain rfl := Option.some.inj H
    go_enter Try.func20, Try.ntmps20
    go_wp2_with (first | ((with_reducible refine gate_dst (N := 3) rfl ?_); refine Kd.R_lit (Kd.int .u8) _ 5 ?hg (N := 3) ?hd (xs := ([] : List Int)) (inner := []) (ok := fun _ => True) (okp := fun _ => True) ?hr ?hp (fun _ hk => hk) trivial (Below.refl _ _) (Nat.le_refl _) (by simp) ?_; (case hd => rfl); (case hg => rfl); (case hr => first | (go_simp; done) | (go_simp; rfl)); (case hp => exact (Reps.none _ _)); intro v124 w3 ho4 hb hg_ hnew_; clear hg_ hnew_; (first | rw [← Ny123.out] at ho4 | (simp only [Int.reduceToNat] at ho4; rw [← Ny123.out] at ho4)); have n0_ := Aside0.mk (Kd.R_lower ho4 (below_size (by repeat (first | (with_reducible first | exact HB.out | apply below_alloc | apply pw_below_drewN | apply below_drew1) | exact HB.out)))); have n1_ := Aside0.mk (below_step (by repeat (first | (with_reducible first | exact HB.out | apply below_alloc | apply pw_below_drewN | apply below_drew1) | exact HB.out)) hb); clear HB; have HO125 := n0_; have HB := n1_; clear n0_ n1_; clear hb ho4) | ((with_reducible refine gate_builtin (b := .append) (xs := #[.tmp 3, .tmp 4]) rfl ?_); at_builtin; refine Kd.R_append_rows (Kd.int .u8) (w0 := w) w.heap.size rfl (.tmp 3) (.tmp 4) 23 5 (.int .u8 0) 1 rfl Try.underlying23 info5 rfl (by decide) (by omega) v124 y123 l0 _ _ _ (fun _ => True) (fun _ => False) rfl rfl ?aO ?aR (fun _ _ h => h) (fun _ h => h.elim) ?aF ?aB ?aS ?aL ?_; (case aR => repeat (first | exact (Kd.C_below HR0.out HB.out) | (with_reducible refine Kd.C_alloc ?_ _) | (with_reducible refine Kd.C_drewN ?_ _) | (with_reducible refine Kd.C_drew ?_))); (case aB => exact (by repeat (first | (with_reducible first | exact HB.out | apply below_alloc | apply pw_below_drewN | apply below_drew1) | exact HB.out))); (case aF => exact (fun _ _ => trivial)); (case aO => exact (by (with_reducible repeat (first | apply Kd.R_alloc | apply Kd.R_drewN | apply Kd.R_drew)); exact HO125.out)); (case aS => exact (below_size (by repeat (first | (with_reducible first | exact HB.out | apply below_alloc | apply pw_below_drewN | apply below_drew1) | exact HB.out)))); (case aL => have := LMc2.out; omega); intro v127 w5 ho hb hg hat; rw [← Ny126.out] at ho; have n0_ := Aside0.mk (hb); have n1_ := Aside0.mk (ho); clear HB; clear HO125; have HB := n0_; have HO128 := n1_; clear n0_ n1_; clear ho hb hg hat))
    go_ret
    exact ⟨_, by first | rfl | (simp [errW_none, errW_some] <;> rfl) | (simp [*, errW_none, errW_some] <;> rfl), by (with_reducible repeat (first | apply Kd.R_alloc | apply Kd.R_drewN | apply Kd.R_drew)); exact HO128.out, by repeat (first | (with_reducible first | exact HB.out | apply below_alloc | apply pw_below_drewN | apply below_drew1) | exact HB.out)⟩
  · rw [if_neg c2] at H
    exact absurd H (by simp)

-- NOT PRINTED: function 7 (impl_Build)

/-! ### laws_more: function 8 -/
def laws_more.f (a0 : Int) (a1 : Int) : Option (Int) := if a0 > 100000 then (some 100001) else (if a1 > 100000 then (some 100001) else (if (wrap64 (a0 + a1)) > 100000 then (some 100001) else (some (wrap64 (a0 + a1)))))
set_option maxHeartbeats 8000000 in
set_option maxRecDepth 100000 in
theorem laws_more.calls (a0 : Int) (a1 : Int) (r : Int) (w : World) (h : laws_more.f a0 a1 = some r) :
    Calls Try.prog 8 #[.int .i64 a0, .int .i64 a1] w fun e w' => e = .returned (.int .i64 r) ∧ Drawn0 w w' := by
  have H : (if a0 > 100000 then (some 100001) else (if a1 > 100000 then (some 100001) else (if (wrap64 (a0 + a1)) > 100000 then (some 100001) else (some (wrap64 (a0 + a1)))))) = some r := h
  clear h
  by_cases c3 : a0 > 100000
  · rw [if_pos c3] at H
    have c3b0 : decide (100000 < a0) = true := decide_eq_true c3
    clear c3
    obtain rfl := Option.some.inj H
    go_enter Try.func8, Try.ntmps8
    go_wp2
    go_ret
    exact ⟨by first | rfl | (simp; done) | (simp [*]; done), by repeat (first | exact Drawn0.refl _ | apply Drawn0.step)⟩
  · rw [if_neg c3] at H
    have c3b0 : decide (100000 < a0) = false := decide_eq_false c3
    clear c3
    by_cases c4 : a1 > 100000
    · rw [if_pos c4] at H
      have c4b0 : decide (100000 < a1) = true := decide_eq_true c4
      clear c4
      obtain rfl := Option.some.inj H
      go_enter Try.func8, Try.ntmps8
      go_wp2
      go_ret
      exact ⟨by first | rfl | (simp; done) | (simp [*]; done), by repeat (first | exact Drawn0.refl _ | apply Drawn0.step)⟩
    · rw [if_neg c4] at H
      have c4b0 : decide (100000 < a1) = false := decide_eq_false c4
      clear c4
      by_cases c5 : (wrap64 (a0 + a1)) > 100000
      · rw [if_pos c5] at H
        have c5b0 : decide (100000 < (wrap64 (a0 + a1))) = true := decide_eq_true c5
        clear c5
        obtain rfl := Option.some.inj H
        go_enter Try.func8, Try.ntmps8
        go_wp2
        go_ret
        exact ⟨by first | rfl | (simp; done) | (simp [*]; done), by repeat (first | exact Drawn0.refl _ | apply Drawn0.step)⟩
      · rw [if_neg c5] at H
        have c5b0 : decide (100000 < (wrap64 (a0 + a1))) = false := decide_eq_false c5
        clear c5
        obtain rfl := Option.some.inj H
        go_enter Try.func8, Try.ntmps8
        go_wp2
        go_ret
        exact ⟨by first | rfl | (simp; done) | (simp [*]; done), by repeat (first | exact Drawn0.refl _ | apply Drawn0.step)⟩

/-! ### laws_zero: function 9 -/
def laws_zero.f (l0 : List Int) : Option (Bool) := if (l0.length : Int) = 1 then (if 0 < (l0.length : Int) then (some ((rd l0 0) == 0)) else (none)) else (some false)
set_option maxHeartbeats 8000000 in
set_option maxRecDepth 100000 in
theorem laws_zero.calls (A0 : Option Addr) (c0 : Nat) (l0 : List Int) (r : Bool) (w : World) (hr0 : Kd.C (Kd.int .u8) w A0 l0.length l0) (hc0 : l0.length ≤ c0) (h : laws_zero.f l0 = some r) :
    Calls Try.prog 9 #[.slice A0 l0.length c0] w fun e w' => e = .returned (.bool r) ∧ Drawn0 w w' := by
  have HR0 := Aside0.mk hr0
  have HC0 := Aside0.mk hc0
  clear hr0 hc0
  have H : (if (l0.length : Int) = 1 then (if 0 < (l0.length : Int) then (some ((rd l0 0) == 0)) else (none)) else (some false)) = some r := h
  clear h
  by_cases c2 : (l0.length : Int) = 1
  · rw [if_pos c2] at H
    have c2b0 : ((l0.length : Int) == 1) = true := beq_iff_eq.mpr c2
    have c2b1 : ((l0.length : Int) != 1) = false := bne_eq_false_iff_eq.mpr c2
    clear c2
    by_cases c3 : 0 < (l0.length : Int)
    · rw [if_pos c3] at H
      have c3b0 : decide (0 < (l0.length : Int)) = true := decide_eq_true c3
      have c3b1 : decide (0 < l0.length) = true := decide_eq_true (by omega)
      clear c3
      obtain rfl := Option.some.inj H
      have p129 : 0 ≤ (0 : Int) := (by omega)
      have q129 : 0 < (l0.length : Int) := of_decide_eq_true (by first | (with_reducible assumption) | assumption)
      obtain ⟨ad129, e129, hx129_0⟩ := Kd.at_int HR0.out 0 p129 q129
      cases e129
      have qi129 : (0 < l0.length) = True := eq_true (by omega)
      (try rw [show ((0 : Int)).toNat = 0 from rfl] at hx129_0)
      (try rw [Addr.add_zero'] at hx129_0)
      replace p129 := eq_true p129
      replace q129 := eq_true q129
      go_enter Try.func9, Try.ntmps9
      go_wp2
      go_ret
      exact ⟨by first | rfl | (simp; done) | (simp [*]; done), by repeat (first | exact Drawn0.refl _ | apply Drawn0.step)⟩
    · rw [if_neg c3] at H
      exact absurd H (by simp)
  · rw [if_neg c2] at H
    have c2b0 : ((l0.length : Int) == 1) = false := beq_eq_false_iff_ne.mpr c2
    have c2b1 : ((l0.length : Int) != 1) = true := bne_iff_ne.mpr c2
    obtain rfl := Option.some.inj H
    go_enter Try.func9, Try.ntmps9
    go_wp2
    go_ret
    exact ⟨by first | rfl | (simp; done) | (simp [*]; done), by repeat (first | exact Drawn0.refl _ | apply Drawn0.step)⟩

/-! ### spec_Least: function 27 -/
mutual
def spec_Least.j0 : Nat → List Int → Int → Bool → Option (Int)
  | 0, _, _, _ => none
  | k + 1, x0, x3, x9 => if x9 = true then (if 0 < (x0.length : Int) then (some (wrap64 (80 + (wrap64 (rd x0 0))))) else (none)) else (if x3 = 1 then (if 0 < (x0.length : Int) then (spec_Least.j1 k x3 ((rd x0 0) == 129)) else (none)) else (spec_Least.j1 k x3 false))
def spec_Least.j1 : Nat → Int → Bool → Option (Int)
  | 0, _, _ => none
  | k + 1, x3, x29 => if x29 = true then (some 79) else (if x3 < 76 then (some x3) else (if x3 ≤ 255 then (some 76) else (if x3 ≤ 65535 then (some 77) else (some 78))))
end
def spec_Least.f (k : Nat) (l0 : List Int) : Option (Int) := if (l0.length : Int) = 0 then (some 0) else (if (l0.length : Int) = 1 then (if 0 < (l0.length : Int) then (if (rd l0 0) ≥ 1 then (spec_Least.j0 k l0 (l0.length : Int) (decide ((rd l0 0) ≤ 16))) else (spec_Least.j0 k l0 (l0.length : Int) false)) else (none)) else (spec_Least.j0 k l0 (l0.length : Int) false))
theorem spec_Least.mono_l : ∀ k, (∀ y0 y1 y2, LeO (spec_Least.j0 k y0 y1 y2) (spec_Least.j0 (k + 1) y0 y1 y2)) ∧ (∀ y0 y1, LeO (spec_Least.j1 k y0 y1) (spec_Least.j1 (k + 1) y0 y1))
  | 0 => ⟨fun _ _ _ r h => by simp [spec_Least.j0] at h, fun _ _ r h => by simp [spec_Least.j1] at h⟩
  | k + 1 => by
    obtain ⟨ih0, ih1⟩ := spec_Least.mono_l k
    refine ⟨?_, ?_⟩
    · intro y0 y1 y2
      unfold spec_Least.j0
      repeat' first
      | (with_reducible exact ih0 _ _ _)
      | (with_reducible exact ih1 _ _)
      | (with_reducible exact LeO.refl _)
      | (with_reducible exact LeO.none _)
      | (with_reducible refine LeO.ite ?_ ?_)
      | (with_reducible refine LeO.bind ?_ (fun _ => ?_))
      | exact ih0 _ _ _
      | exact ih1 _ _
      | exact LeO.none _
      | refine LeO.ite ?_ ?_
      | refine LeO.bind ?_ (fun _ => ?_)
    · intro y0 y1
      unfold spec_Least.j1
      repeat' first
      | (with_reducible exact ih0 _ _ _)
      | (with_reducible exact ih1 _ _)
      | (with_reducible exact LeO.refl _)
      | (with_reducible exact LeO.none _)
      | (with_reducible refine LeO.ite ?_ ?_)
      | (with_reducible refine LeO.bind ?_ (fun _ => ?_))
      | exact ih0 _ _ _
      | exact ih1 _ _
      | exact LeO.none _
      | refine LeO.ite ?_ ?_
      | refine LeO.bind ?_ (fun _ => ?_)
theorem spec_Least.mono : ∀ a0 k, LeO (spec_Least.f k a0) (spec_Least.f (k + 1) a0) := by
  intro a0 k
  obtain ⟨ih0, ih1⟩ := spec_Least.mono_l k
  unfold spec_Least.f
  repeat' first
      | (with_reducible exact ih0 _ _ _)
      | (with_reducible exact ih1 _ _)
      | (with_reducible exact LeO.refl _)
      | (with_reducible exact LeO.none _)
      | (with_reducible refine LeO.ite ?_ ?_)
      | (with_reducible refine LeO.bind ?_ (fun _ => ?_))
      | exact ih0 _ _ _
      | exact ih1 _ _
      | exact LeO.none _
      | refine LeO.ite ?_ ?_
      | refine LeO.bind ?_ (fun _ => ?_)
set_option maxHeartbeats 8000000 in
set_option maxRecDepth 100000 in
theorem spec_Least.calls (k : Nat) (A0 : Option Addr) (c0 : Nat) (l0 : List Int) (r : Int) (w : World) (hr0 : Kd.C (Kd.int .u8) w A0 l0.length l0) (hc0 : l0.length ≤ c0) (h : spec_Least.f k l0 = some r) :
    Calls Try.prog 27 #[.slice A0 l0.length c0] w fun e w' => e = .returned (.int .i64 r) ∧ Drawn0 w w' := by
  have HR0 := Aside0.mk hr0
  have HC0 := Aside0.mk hc0
  clear hr0 hc0
  have H : (if (l0.length : Int) = 0 then (some 0) else (if (l0.length : Int) = 1 then (if 0 < (l0.length : Int) then (if (rd l0 0) ≥ 1 then (spec_Least.j0 k l0 (l0.length : Int) (decide ((rd l0 0) ≤ 16))) else (spec_Least.j0 k l0 (l0.length : Int) false)) else (none)) else (spec_Least.j0 k l0 (l0.length : Int) false))) = some r := h
  clear h
  by_cases c2 : (l0.length : Int) = 0
  · rw [if_pos c2] at H
    have c2b0 : ((l0.length : Int) == 0) = true := beq_iff_eq.mpr c2
    have c2b1 : ((l0.length : Int) != 0) = false := bne_eq_false_iff_eq.mpr c2
    clear c2
    obtain rfl := Option.some.inj H
    go_enter Try.func27, Try.ntmps27
    go_wp2
    go_ret
    exact ⟨by first | rfl | (simp; done) | (simp [*]; done), by repeat (first | exact Drawn0.refl _ | apply Drawn0.step)⟩
  · rw [if_neg c2] at H
    have c2b0 : ((l0.length : Int) == 0) = false := beq_eq_false_iff_ne.mpr c2
    have c2b1 : ((l0.length : Int) != 0) = true := bne_iff_ne.mpr c2
    have c2b2 : ¬ (l0 = []) := fun h_ => c2 (by rw [h_]; rfl)
    have HC3 := Aside0.mk H
    clear H
    go_enter Try.func27, Try.ntmps27
    go_upto_region 4 with (fail)
    go_cut [9] (fun v9 wc => ∃ (kq : Nat) (x9_2 : Bool), v9 = .bool x9_2 ∧ Aside0 (spec_Least.j0 kq l0 (l0.length : Int) x9_2 = some r) ∧ Aside0 (kq ≤ k) ∧ Drawn0 w wc)
    case first =>
      have H := HC3.out
      clear HC3
      by_cases c4 : (l0.length : Int) = 1
      · rw [if_pos c4] at H
        have c4b0 : ((l0.length : Int) == 1) = true := beq_iff_eq.mpr c4
        have c4b1 : ((l0.length : Int) != 1) = false := bne_eq_false_iff_eq.mpr c4
        clear c4
        (first | rw [c4b0] | (simp only [i64_w, i32_w]; rw [c4b0]) | skip)
        by_cases c5 : 0 < (l0.length : Int)
        · rw [if_pos c5] at H
          have c5b0 : decide (0 < (l0.length : Int)) = true := decide_eq_true c5
          have c5b1 : decide (0 < l0.length) = true := decide_eq_true (by omega)
          clear c5
          by_cases c6 : (rd l0 0) ≥ 1
          · rw [if_pos c6] at H
            have c6b0 : decide (1 ≤ (rd l0 0)) = true := decide_eq_true c6
            clear c6
            have H' := Aside0.mk H
            clear H
            have p130 : 0 ≤ (0 : Int) := (by omega)
            have q130 : 0 < (l0.length : Int) := of_decide_eq_true (by first | (with_reducible assumption) | assumption)
            obtain ⟨ad130, e130, hx130_0⟩ := Kd.at_int HR0.out 0 p130 q130
            cases e130
            have qi130 : (0 < l0.length) = True := eq_true (by omega)
            (try rw [show ((0 : Int)).toNat = 0 from rfl] at hx130_0)
            (try rw [Addr.add_zero'] at hx130_0)
            replace p130 := eq_true p130
            replace q130 := eq_true q130
            have p131 : 0 ≤ (0 : Int) := (by omega)
            have q131 : 0 < (l0.length : Int) := of_decide_eq_true (by first | (with_reducible assumption) | assumption)
            obtain ⟨ad131, e131, hx131_0⟩ := Kd.at_int HR0.out 0 p131 q131
            obtain rfl : ad130 = ad131 := (by injection e131)
            have qi131 : (0 < l0.length) = True := eq_true (by omega)
            (try rw [show ((0 : Int)).toNat = 0 from rfl] at hx131_0)
            (try rw [Addr.add_zero'] at hx131_0)
            replace p131 := eq_true p131
            replace q131 := eq_true q131
            go_wp2
            go_meet
            case rel => exact ⟨_, (decide ((rd l0 0) ≤ 16)), (by first | rfl | (simp; done) | (simp [*]; done)), (by first | exact H' | (subst_vars; exact H')), ⟨by first | omega | exact Nat.le_refl _⟩, by repeat (first | exact Drawn0.refl _ | apply Drawn0.step)⟩
          · rw [if_neg c6] at H
            have c6b0 : decide (1 ≤ (rd l0 0)) = false := decide_eq_false c6
            clear c6
            have H' := Aside0.mk H
            clear H
            have p130 : 0 ≤ (0 : Int) := (by omega)
            have q130 : 0 < (l0.length : Int) := of_decide_eq_true (by first | (with_reducible assumption) | assumption)
            obtain ⟨ad130, e130, hx130_0⟩ := Kd.at_int HR0.out 0 p130 q130
            cases e130
            have qi130 : (0 < l0.length) = True := eq_true (by omega)
            (try rw [show ((0 : Int)).toNat = 0 from rfl] at hx130_0)
            (try rw [Addr.add_zero'] at hx130_0)
            replace p130 := eq_true p130
            replace q130 := eq_true q130
            go_wp2
            go_meet
            case rel => exact ⟨_, (false), (by first | rfl | (simp; done) | (simp [*]; done)), (by first | exact H' | (subst_vars; exact H')), ⟨by first | omega | exact Nat.le_refl _⟩, by repeat (first | exact Drawn0.refl _ | apply Drawn0.step)⟩
        · rw [if_neg c5] at H
          exact absurd H (by simp)
      · rw [if_neg c4] at H
        have c4b0 : ((l0.length : Int) == 1) = false := beq_eq_false_iff_ne.mpr c4
        have c4b1 : ((l0.length : Int) != 1) = true := bne_iff_ne.mpr c4
        (first | rw [c4b0] | (simp only [i64_w, i32_w]; rw [c4b0]) | skip)
        have H' := Aside0.mk H
        clear H
        go_wp2
        go_meet
        case rel => exact ⟨_, (false), (by first | rfl | (simp; done) | (simp [*]; done)), (by first | exact H' | (subst_vars; exact H')), ⟨by first | omega | exact Nat.le_refl _⟩, by repeat (first | exact Drawn0.refl _ | apply Drawn0.step)⟩
    case rest =>
      clear HC3
      try clear p1
      try clear q1
      try clear hx1
      try clear qi1
      try clear c2
      try clear c2b0
      try clear c2b1
      try clear c2b2
      try clear p2
      try clear c4
      try clear c4b0
      try clear c4b1
      try clear c5
      try clear c5b0
      try clear c5b1
      try clear c6
      try clear c6b0
      try clear hx130_0
      try clear hx131_0
      try clear p130
      try clear p131
      try clear q130
      try clear q131
      obtain ⟨kq, x9_2, rfl, HA, HJ2, ⟨mc2, rfl⟩⟩ := hcut
      cases kq with
      | zero => exact absurd HA.out (by simp [spec_Least.j0])
      | succ kj2 =>
        have H := HA.out
        clear HA
        simp only [spec_Least.j0] at H
        by_cases c7 : x9_2 = true
        · subst c7
          have H1 : (if 0 < (l0.length : Int) then (some (wrap64 (80 + (wrap64 (rd l0 0))))) else (none)) = some r := by rw [if_pos rfl] at H; exact H
          clear H
          have H := H1
          clear H1
          by_cases c8 : 0 < (l0.length : Int)
          · rw [if_pos c8] at H
            have c8b0 : decide (0 < (l0.length : Int)) = true := decide_eq_true c8
            have c8b1 : decide (0 < l0.length) = true := decide_eq_true (by omega)
            clear c8
            obtain rfl := Option.some.inj H
            have p132 : 0 ≤ (0 : Int) := (by omega)
            have q132 : 0 < (l0.length : Int) := of_decide_eq_true (by first | (with_reducible assumption) | assumption)
            obtain ⟨ad132, e132, hx132_0⟩ := Kd.at_int HR0.out 0 p132 q132
            cases e132
            have qi132 : (0 < l0.length) = True := eq_true (by omega)
            (try rw [show ((0 : Int)).toNat = 0 from rfl] at hx132_0)
            (try rw [Addr.add_zero'] at hx132_0)
            replace p132 := eq_true p132
            replace q132 := eq_true q132
            go_wp2
            go_ret
            exact ⟨by first | rfl | (simp; done) | (simp [*]; done), by repeat (first | exact Drawn0.refl _ | apply Drawn0.step)⟩
          · rw [if_neg c8] at H
            exact absurd H (by simp)
        · replace c7 := Bool.eq_false_iff.mpr c7
          subst c7
          have H1 : (if (l0.length : Int) = 1 then (if 0 < (l0.length : Int) then (spec_Least.j1 kj2 (l0.length : Int) ((rd l0 0) == 129)) else (none)) else (spec_Least.j1 kj2 (l0.length : Int) false)) = some r := by rw [if_neg (show ¬ (false = true) by decide)] at H; exact H
          clear H
          have H := H1
          clear H1
          have HC9 := Aside0.mk H
          clear H
          go_upto_region 6 with (fail)
          go_cut [29] (fun v29 wc => ∃ (kq : Nat) (x29_8 : Bool), v29 = .bool x29_8 ∧ Aside0 (spec_Least.j1 kq (l0.length : Int) x29_8 = some r) ∧ Aside0 (kq ≤ kj2) ∧ Drawn0 w wc)
          case first =>
            have H := HC9.out
            clear HC9
            by_cases c10 : (l0.length : Int) = 1
            · rw [if_pos c10] at H
              have c10b0 : ((l0.length : Int) == 1) = true := beq_iff_eq.mpr c10
              have c10b1 : ((l0.length : Int) != 1) = false := bne_eq_false_iff_eq.mpr c10
              clear c10
              (first | rw [c10b0] | (simp only [i64_w, i32_w]; rw [c10b0]) | skip)
              by_cases c11 : 0 < (l0.length : Int)
              · rw [if_pos c11] at H
                have c11b0 : decide (0 < (l0.length : Int)) = true := decide_eq_true c11
                have c11b1 : decide (0 < l0.length) = true := decide_eq_true (by omega)
                clear c11
                have H' := Aside0.mk H
                clear H
                have p133 : 0 ≤ (0 : Int) := (by omega)
                have q133 : 0 < (l0.length : Int) := of_decide_eq_true (by first | (with_reducible assumption) | assumption)
                obtain ⟨ad133, e133, hx133_0⟩ := Kd.at_int HR0.out 0 p133 q133
                cases e133
                have qi133 : (0 < l0.length) = True := eq_true (by omega)
                (try rw [show ((0 : Int)).toNat = 0 from rfl] at hx133_0)
                (try rw [Addr.add_zero'] at hx133_0)
                replace p133 := eq_true p133
                replace q133 := eq_true q133
                go_wp2
                go_meet
                case rel => exact ⟨_, (((rd l0 0) == 129)), (by first | rfl | (simp; done) | (simp [*]; done)), (by first | exact H' | (subst_vars; exact H')), ⟨by have := HJ2.out; first | omega | exact Nat.le_refl _⟩, by repeat (first | exact Drawn0.refl _ | apply Drawn0.step)⟩
              · rw [if_neg c11] at H
                exact absurd H (by simp)
            · rw [if_neg c10] at H
              have c10b0 : ((l0.length : Int) == 1) = false := beq_eq_false_iff_ne.mpr c10
              have c10b1 : ((l0.length : Int) != 1) = true := bne_iff_ne.mpr c10
              (first | rw [c10b0] | (simp only [i64_w, i32_w]; rw [c10b0]) | skip)
              have H' := Aside0.mk H
              clear H
              go_wp2
              go_meet
              case rel => exact ⟨_, (false), (by first | rfl | (simp; done) | (simp [*]; done)), (by first | exact H' | (subst_vars; exact H')), ⟨by have := HJ2.out; first | omega | exact Nat.le_refl _⟩, by repeat (first | exact Drawn0.refl _ | apply Drawn0.step)⟩
          case rest =>
            clear HC9
            try clear c1
            try clear p1
            try clear q1
            try clear hx1
            try clear qi1
            try clear c2
            try clear c2b0
            try clear c2b1
            try clear c2b2
            try clear p2
            try clear c4
            try clear c4b0
            try clear c4b1
            try clear c5
            try clear c5b0
            try clear c5b1
            try clear c6
            try clear c6b0
            try clear p6
            try clear c7
            try clear c8
            try clear c8b0
            try clear c8b1
            try clear c10
            try clear c10b0
            try clear c10b1
            try clear c11
            try clear c11b0
            try clear c11b1
            try clear hx130_0
            try clear hx131_0
            try clear hx132_0
            try clear hx133_0
            try clear p1
            try clear p130
            try clear p131
            try clear p132
            try clear p133
            try clear p2
            try clear q1
            try clear q130
            try clear q131
            try clear q132
            try clear q133
            obtain ⟨kq, x29_8, rfl, HA, HJ8, ⟨mc8, rfl⟩⟩ := hcut
            cases kq with
            | zero => exact absurd HA.out (by simp [spec_Least.j1])
            | succ kj8 =>
              have H := HA.out
              clear HA
              simp only [spec_Least.j1] at H
              by_cases c12 : x29_8 = true
              · subst c12
                have H1 : (some 79) = some r := by rw [if_pos rfl] at H; exact H
                clear H
                have H := H1
                clear H1
                obtain rfl := Option.some.inj H
                go_wp2
                go_ret
                exact ⟨by first | rfl | (simp; done) | (simp [*]; done), by repeat (first | exact Drawn0.refl _ | apply Drawn0.step)⟩
              · replace c12 := Bool.eq_false_iff.mpr c12
                subst c12
                have H1 : (if (l0.length : Int) < 76 then (some (l0.length : Int)) else (if (l0.length : Int) ≤ 255 then (some 76) else (if (l0.length : Int) ≤ 65535 then (some 77) else (some 78)))) = some r := by rw [if_neg (show ¬ (false = true) by decide)] at H; exact H
                clear H
                have H := H1
                clear H1
                by_cases c13 : (l0.length : Int) < 76
                · rw [if_pos c13] at H
                  have c13b0 : decide ((l0.length : Int) < 76) = true := decide_eq_true c13
                  have c13b1 : decide (l0.length < 76) = true := decide_eq_true (by omega)
                  clear c13
                  obtain rfl := Option.some.inj H
                  go_wp2
                  go_ret
                  exact ⟨by first | rfl | (simp; done) | (simp [*]; done), by repeat (first | exact Drawn0.refl _ | apply Drawn0.step)⟩
                · rw [if_neg c13] at H
                  have c13b0 : decide ((l0.length : Int) < 76) = false := decide_eq_false c13
                  have c13b1 : decide (l0.length < 76) = false := decide_eq_false (by omega)
                  clear c13
                  by_cases c14 : (l0.length : Int) ≤ 255
                  · rw [if_pos c14] at H
                    have c14b0 : decide ((l0.length : Int) ≤ 255) = true := decide_eq_true c14
                    have c14b1 : decide (l0.length ≤ 255) = true := decide_eq_true (by omega)
                    clear c14
                    obtain rfl := Option.some.inj H
                    go_wp2
                    go_ret
                    exact ⟨by first | rfl | (simp; done) | (simp [*]; done), by repeat (first | exact Drawn0.refl _ | apply Drawn0.step)⟩
                  · rw [if_neg c14] at H
                    have c14b0 : decide ((l0.length : Int) ≤ 255) = false := decide_eq_false c14
                    have c14b1 : decide (l0.length ≤ 255) = false := decide_eq_false (by omega)
                    clear c14
                    by_cases c15 : (l0.length : Int) ≤ 65535
                    · rw [if_pos c15] at H
                      have c15b0 : decide ((l0.length : Int) ≤ 65535) = true := decide_eq_true c15
                      have c15b1 : decide (l0.length ≤ 65535) = true := decide_eq_true (by omega)
                      clear c15
                      obtain rfl := Option.some.inj H
                      go_wp2
                      go_ret
                      exact ⟨by first | rfl | (simp; done) | (simp [*]; done), by repeat (first | exact Drawn0.refl _ | apply Drawn0.step)⟩
                    · rw [if_neg c15] at H
                      have c15b0 : decide ((l0.length : Int) ≤ 65535) = false := decide_eq_false c15
                      have c15b1 : decide (l0.length ≤ 65535) = false := decide_eq_false (by omega)
                      clear c15
                      obtain rfl := Option.some.inj H
                      go_wp2
                      go_ret
                      exact ⟨by first | rfl | (simp; done) | (simp [*]; done), by repeat (first | exact Drawn0.refl _ | apply Drawn0.step)⟩

end Go.Proofs.Ytdmpjoglejnpbab.QFnBuilt
