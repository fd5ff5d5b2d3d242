-- Made by a turned print (own tool turnprint.py over the kit print).
import Derived.Test.YtdmpjoglejnpbaaQFnTargetBackx0
import Derived.Test.YtdmpjoglejnpbaaQFnTargetBackx1
namespace Go.Proofs.Ytdmpjoglejnpbaa.QFnTargetBack
open Go.RowKit Go.Proofs.YtdmpjoglejnpbaaW.PrintWords Go.Proofs.YtdmpjoglejnpbaaW.PrintLast Go.Proofs.YtdmpjoglejnpbaaW.PrintMore
attribute [local go_sem] nn_mod256 nn_mod65536 nn_mod32 max2_int min2_int max_two min_two max_three min_three max_four min_four   -- for this text's walks alone
set_option linter.unusedVariables false
set_option linter.unusedSimpArgs false

/-! ### smallbig_nat_sub: function 69 -/
def smallbig_nat_sub.l0 : Nat → List Int → List Int → List Int → Int → Int → Int → Option (List Int)
  | 0, _, _, _, _, _, _ => none
  | k + 1, x0, x1, x5, x6, x13, x14 => if x14 < x13 then (if 0 ≤ x14 then (if x14 < (x0.length : Int) then (if x14 < (x1.length : Int) then (if x14 < (x5.length : Int) then (smallbig_nat_sub.l0 k x0 x1 (x5.set (x14 : Int).toNat ((IntKind.u64.wrap ((IntKind.u64.wrap ((IntKind.u64.wrap (rd x0 x14)) - x6)) - (IntKind.u64.wrap (rd x1 x14)))) % 4294967296)) ((IntKind.u64.wrap ((IntKind.u64.wrap ((IntKind.u64.wrap (rd x0 x14)) - x6)) - (IntKind.u64.wrap (rd x1 x14)))) / 9223372036854775808) x13 (wrap64 (x14 + 1))) else (none)) else (if x14 < (x5.length : Int) then (smallbig_nat_sub.l0 k x0 x1 (x5.set (x14 : Int).toNat ((IntKind.u64.wrap ((IntKind.u64.wrap (rd x0 x14)) - x6)) % 4294967296)) ((IntKind.u64.wrap ((IntKind.u64.wrap (rd x0 x14)) - x6)) / 9223372036854775808) x13 (wrap64 (x14 + 1))) else (none))) else (none)) else (none)) else ((smallbig_nat_norm.f k x5).bind fun t147 => (some t147))
def smallbig_nat_sub.f (k : Nat) (l0 : List Int) (l1 : List Int) : Option (List Int) := if 0 ≤ (l0.length : Int) then (if ((l0.length : Int) : Int).toNat ≤ 70368744177664 then (smallbig_nat_sub.l0 k l0 l1 (List.replicate ((l0.length : Int) : Int).toNat 0) 0 (l0.length : Int) 0) else (none)) else (none)
theorem smallbig_nat_sub.mono_l : ∀ k, (∀ y0 y1 y2 y3 y4 y5, LeO (smallbig_nat_sub.l0 k y0 y1 y2 y3 y4 y5) (smallbig_nat_sub.l0 (k + 1) y0 y1 y2 y3 y4 y5))
  | 0 => fun _ _ _ _ _ _ r h => by simp [smallbig_nat_sub.l0] at h
  | k + 1 => by
    have ih0 := smallbig_nat_sub.mono_l k
    · intro y0 y1 y2 y3 y4 y5
      unfold smallbig_nat_sub.l0
      repeat' first
      | (with_reducible exact ih0 _ _ _ _ _ _)
      | (with_reducible exact smallbig_nat_norm.mono _ _)
      | (with_reducible exact LeO.refl _)
      | (with_reducible exact LeO.none _)
      | (with_reducible refine LeO.ite ?_ ?_)
      | (with_reducible refine LeO.bind ?_ (fun _ => ?_))
      | exact ih0 _ _ _ _ _ _
      | exact smallbig_nat_norm.mono _ _
      | exact LeO.none _
      | refine LeO.ite ?_ ?_
      | refine LeO.bind ?_ (fun _ => ?_)
theorem smallbig_nat_sub.mono : ∀ a0 a1 k, LeO (smallbig_nat_sub.f k a0 a1) (smallbig_nat_sub.f (k + 1) a0 a1) := by
  intro a0 a1 k
  have ih0 := smallbig_nat_sub.mono_l k
  unfold smallbig_nat_sub.f
  repeat' first
      | (with_reducible exact ih0 _ _ _ _ _ _)
      | (with_reducible exact smallbig_nat_norm.mono _ _)
      | (with_reducible exact LeO.refl _)
      | (with_reducible exact LeO.none _)
      | (with_reducible refine LeO.ite ?_ ?_)
      | (with_reducible refine LeO.bind ?_ (fun _ => ?_))
      | exact ih0 _ _ _ _ _ _
      | exact smallbig_nat_norm.mono _ _
      | exact LeO.none _
      | refine LeO.ite ?_ ?_
      | refine LeO.bind ?_ (fun _ => ?_)
set_option maxHeartbeats 8000000 in
set_option maxRecDepth 100000 in
theorem smallbig_nat_sub.calls (k : Nat) (A0 : Option Addr) (c0 : Nat) (l0 : List Int) (A1 : Option Addr) (c1 : Nat) (l1 : List Int) (r : List Int) (w : World) (hr0 : Kd.C (Kd.int .u32) w A0 l0.length l0) (hc0 : l0.length ≤ c0) (hr1 : Kd.C (Kd.int .u32) w A1 l1.length l1) (hc1 : l1.length ≤ c1) (h : smallbig_nat_sub.f k l0 l1 = some r) :
    Calls Try.prog 69 #[.slice A0 l0.length c0, .slice A1 l1.length c1] w fun e w' => ∃ v0_ : Value, e = .returned (v0_) ∧ Kd.V (Kd.int .u32) 24 w' w.heap.size (fun k_ => (w.heap.size ≤ k_)) v0_ r ∧ Below w.heap.size w w' := by
  have HR0 := Aside0.mk hr0
  have HC0 := Aside0.mk hc0
  clear hr0 hc0
  have HR1 := Aside0.mk hr1
  have HC1 := Aside0.mk hc1
  clear hr1 hc1
  have HB := Aside0.mk (Below.refl w.heap.size w)
  have H : (if 0 ≤ (l0.length : Int) then (if ((l0.length : Int) : Int).toNat ≤ 70368744177664 then (smallbig_nat_sub.l0 k l0 l1 (List.replicate ((l0.length : Int) : Int).toNat 0) 0 (l0.length : Int) 0) else (none)) else (none)) = some r := h
  clear h
  by_cases c3 : 0 ≤ (l0.length : Int)
  · rw [if_pos c3] at H
    have c3b0 := eq_true c3
    have c3b1 : decide (0 ≤ (l0.length : Int)) = true := decide_eq_true c3
    clear c3
    by_cases c4 : ((l0.length : Int) : Int).toNat ≤ 70368744177664
    · rw [if_pos c4] at H
      have c4b0 := eq_true c4
      have c4b1 : decide (((l0.length : Int) : Int).toNat ≤ 70368744177664) = true := decide_eq_true c4
      clear c4
      obtain ⟨y140, hy140⟩ : ∃ y_ : List Int, y_ = (List.replicate ((l0.length : Int) : Int).toNat 0) := ⟨_, rfl⟩
      replace H : (smallbig_nat_sub.l0 k l0 l1 y140 0 (l0.length : Int) 0) = some r := by first | (rw [hy140]; with_reducible exact H) | (have H2_ := (Option.bind_some _ _).symm.trans H; rw [hy140]; with_reducible exact H2_) | (have H2_ := (Option.bind_some _ _).symm.trans H; with_reducible exact H2_) | with_reducible exact H | (rw [hy140]; exact H) | exact H
      have Ny140 := Aside0.mk hy140
      clear hy140
      have H' := Aside0.mk H
      clear H
      go_enter Try.func69, Try.ntmps69
      go_wp2_with (first | ((with_reducible refine gate_dst (N := 11) rfl ?_); refine Kd.R_make (Kd.int .u32) _ 24 rfl (N := 11) rfl 103 _ _ rfl (l0.length : Int) rfl rfl Try.underlying103 (.int .u32 0) 4 info24 rfl (by decide) (by omega) 0 (ok := fun _ => True) (okp := fun _ => True) rfl (fun _ hk => hk) trivial (of_decide_eq_true (by first | (with_reducible assumption) | assumption)) (Nat.le_trans (Nat.mul_le_mul_right _ (of_decide_eq_true (by first | (with_reducible assumption) | assumption) : (l0.length : Int).toNat ≤ 70368744177664)) (by omega)) (Below.refl _ _) (Nat.le_refl _) ?_; intro v141 w5 ho6 hb hg_ hnew_; clear hg_ hnew_; (first | rw [← Ny140.out] at ho6 | (simp only [Int.reduceToNat] at ho6; rw [← Ny140.out] at ho6)); have n0_ := Aside0.mk (Kd.R_lower (Kd.R_newM (M := fun k_ => (w.heap.size ≤ k_)) ho6 (below_size (by repeat (first | (with_reducible first | exact HB.out | apply below_alloc | apply pw_below_drewN | apply below_drew1) | exact HB.out))) (fun k_ h_ => h_)) (below_size (by repeat (first | (with_reducible first | exact HB.out | apply below_alloc | apply pw_below_drewN | apply below_drew1) | exact HB.out)))); have n1_ := Aside0.mk (below_step (by repeat (first | (with_reducible first | exact HB.out | apply below_alloc | apply pw_below_drewN | apply below_drew1) | exact HB.out)) hb); clear HB; have HO142 := n0_; have HB := n1_; clear n0_ n1_; clear hb ho6))
      go_loopg [6, 14] k (fun kq v6 v14 w' => ∃ (x5_1 : List Int) (x6_1 : Int) (x14_1 : Int), v6 = .int .u64 x6_1 ∧ v14 = .int .i64 x14_1 ∧ Aside0 (smallbig_nat_sub.l0 kq l0 l1 x5_1 x6_1 (l0.length : Int) x14_1 = some r) ∧ Aside0 (kq ≤ k) ∧ Aside0 (Kd.R (Kd.int .u32) 24 w' w.heap.size (fun k_ => (w.heap.size ≤ k_)) v141 x5_1) ∧ Aside0 (Below w.heap.size w w'))
      case atStart => exact ⟨(y140), (0), (0), (by first | rfl | (simp; done) | (simp [*]; done)), (by first | rfl | (simp; done) | (simp [*]; done)), H', ⟨Nat.le_refl _⟩, ⟨by (with_reducible repeat (first | apply Kd.R_alloc | apply Kd.R_drewN | apply Kd.R_drew)); exact Kd.R_mono HO142.out (fun _ hk => hk.1)⟩, ⟨by repeat (first | (with_reducible first | exact HB.out | apply below_alloc | apply pw_below_drewN | apply below_drew1) | exact HB.out)⟩⟩
      case round =>
        clear H'
        try clear c1
        try clear p2
        try clear c3
        try clear c3b0
        try clear c3b1
        try clear c4
        try clear c4b0
        try clear c4b1
        try clear c6
        obtain ⟨x5_1, x6_1, x14_1, rfl, rfl, HA, HK1, HO_5, HB⟩ := hrel
        cases gk with
        | zero => exact absurd HA.out (by simp [smallbig_nat_sub.l0])
        | succ k1 =>
          have H := HA.out
          clear HA
          simp only [smallbig_nat_sub.l0] at H
          by_cases c7 : x14_1 < (l0.length : Int)
          · rw [if_pos c7] at H
            have c7b0 : decide (x14_1 < (l0.length : Int)) = true := decide_eq_true c7
            clear c7
            by_cases c8 : 0 ≤ x14_1
            · rw [if_pos c8] at H
              have c8b0 : decide (0 ≤ x14_1) = true := decide_eq_true c8
              clear c8
              by_cases c9 : x14_1 < (l0.length : Int)
              · rw [if_pos c9] at H
                have c9b0 : decide (x14_1 < (l0.length : Int)) = true := decide_eq_true c9
                clear c9
                by_cases c10 : x14_1 < (l1.length : Int)
                · rw [if_pos c10] at H
                  have c10b0 : decide (x14_1 < (l1.length : Int)) = true := decide_eq_true c10
                  clear c10
                  by_cases c11 : x14_1 < (x5_1.length : Int)
                  · rw [if_pos c11] at H
                    have c11b0 : decide (x14_1 < (x5_1.length : Int)) = true := decide_eq_true c11
                    clear c11
                    obtain ⟨y145, hy145⟩ : ∃ y_ : List Int, y_ = (x5_1.set (x14_1 : Int).toNat ((IntKind.u64.wrap ((IntKind.u64.wrap ((IntKind.u64.wrap (rd l0 x14_1)) - x6_1)) - (IntKind.u64.wrap (rd l1 x14_1)))) % 4294967296)) := ⟨_, rfl⟩
                    replace H : (smallbig_nat_sub.l0 k1 l0 l1 y145 ((IntKind.u64.wrap ((IntKind.u64.wrap ((IntKind.u64.wrap (rd l0 x14_1)) - x6_1)) - (IntKind.u64.wrap (rd l1 x14_1)))) / 9223372036854775808) (l0.length : Int) (wrap64 (x14_1 + 1))) = some r := by first | (rw [hy145]; with_reducible exact H) | (have H2_ := (Option.bind_some _ _).symm.trans H; rw [hy145]; with_reducible exact H2_) | (have H2_ := (Option.bind_some _ _).symm.trans H; with_reducible exact H2_) | with_reducible exact H | (rw [hy145]; exact H) | exact H
                    have Ny145 := Aside0.mk hy145
                    clear hy145
                    have H' := Aside0.mk H
                    clear H
                    have p143 : 0 ≤ (x14_1 : Int) := of_decide_eq_true (by first | (with_reducible assumption) | assumption)
                    have q143 : x14_1 < (l0.length : Int) := of_decide_eq_true (by first | (with_reducible assumption) | assumption)
                    obtain ⟨ad143, e143, hx143_0⟩ := Kd.at_int HR0.out x14_1 p143 q143
                    cases e143
                    replace hx143_0 := (HB.out.cell (World.block_lt_of_cell? w _ hx143_0)).trans hx143_0
                    replace p143 := eq_true p143
                    replace q143 := eq_true q143
                    have p144 : 0 ≤ (x14_1 : Int) := of_decide_eq_true (by first | (with_reducible assumption) | assumption)
                    have q144 : x14_1 < (l1.length : Int) := of_decide_eq_true (by first | (with_reducible assumption) | assumption)
                    obtain ⟨ad144, e144, hx144_0⟩ := Kd.at_int HR1.out x14_1 p144 q144
                    cases e144
                    replace hx144_0 := (HB.out.cell (World.block_lt_of_cell? w _ hx144_0)).trans hx144_0
                    replace p144 := eq_true p144
                    replace q144 := eq_true q144
                    have p12 : 0 ≤ (x14_1 : Int) := of_decide_eq_true (by first | (with_reducible assumption) | assumption)
                    have q12 : (x14_1 : Int) < ((x5_1.length : Int) : Int) := of_decide_eq_true (by first | (with_reducible assumption) | assumption)
                    obtain ⟨go12, co12, eo12, gb12, gl12, cl12, HG12⟩ := Kd.R_form HO_5.out (by omega)
                    (first | cases eo12 | (injection eo12 with ea_ en_ ec_; (first | subst ea_ | (injection ea_ with ea_; subst ea_)); subst ec_; clear en_))
                    have GB12 := Aside0.mk gb12
                    have GG12 := Aside0.mk HG12
                    clear gb12 gl12 HG12
                    obtain ⟨hx12_0, hf12_0⟩ := Kd.R_celln 0 HO_5.out (x14_1 : Int) p12 q12
                    replace p12 := eq_true p12
                    replace q12 := eq_true q12
                    have HP13 := Kd.R_putg HO_5.out (x14_1 : Int) ((IntKind.u64.wrap ((IntKind.u64.wrap ((IntKind.u64.wrap (rd l0 x14_1)) - x6_1)) - (IntKind.u64.wrap (rd l1 x14_1)))) % 4294967296)
                    go_wp2_with (first | ((with_reducible refine gate_store (t := 24) (p := 39) rfl ?_); refine store_event (t := 24) (p := 39) (v := ?vo_w14) (w1 := (wr.setCell ⟨go12, (x14_1 : Int).toNat, none⟩ (.int .u32 ((IntKind.u64.wrap ((IntKind.u64.wrap ((IntKind.u64.wrap (rd l0 x14_1)) - x6_1)) - (IntKind.u64.wrap (rd l1 x14_1)))) % 4294967296)))) ?hg ?ho ?hn ?hr ?_; (case ho => rfl); (case hg => rfl); (case hn => rfl); (case hr => first | (go_simp; done) | (go_simp; rfl)); intro w14 hw; have hg : wr.grownBy w14 (some go12) := (by rw [hw]; exact HP13.2); have hp_ : Kd.R (Kd.int .u32) 24 w14 w.heap.size (fun k_ => (w.heap.size ≤ k_)) (.slice (some ⟨go12, 0, none⟩) x5_1.length co12) y145 := (by rw [hw, Ny145.out]; exact HP13.1); clear HP13; have n0_ := Aside0.mk (hp_); have n1_ := Aside0.mk ((by rw [hw]; exact below_set (HB.out) GB12.out : Below w.heap.size w w14)); clear HO_5; clear HB; have HO_5 := n0_; have HB := n1_; clear n0_ n1_; clear hg hw hp_))
                    go_roundg k1
                    case measure => have := HK1.out; omega
                    case rel => exact ⟨(y145), ((IntKind.u64.wrap ((IntKind.u64.wrap ((IntKind.u64.wrap (rd l0 x14_1)) - x6_1)) - (IntKind.u64.wrap (rd l1 x14_1)))) / 9223372036854775808), (wrap64 (x14_1 + 1)), (by first | rfl | (simp; done) | (simp [*]; done)), (by first | rfl | (simp; done) | (simp [*]; done)), (by first | exact H' | (subst_vars; exact H')), ⟨by have := HK1.out; omega⟩, ⟨by (with_reducible repeat (first | apply Kd.R_alloc | apply Kd.R_drewN | apply Kd.R_drew)); exact HO_5.out⟩, ⟨by repeat (first | (with_reducible first | exact HB.out | apply below_alloc | apply pw_below_drewN | apply below_drew1) | exact HB.out)⟩⟩
                  · rw [if_neg c11] at H
                    exact absurd H (by simp)
                · rw [if_neg c10] at H
                  have c10b0 : decide (x14_1 < (l1.length : Int)) = false := decide_eq_false c10
                  clear c10
                  by_cases c15 : x14_1 < (x5_1.length : Int)
                  · rw [if_pos c15] at H
                    have c15b0 : decide (x14_1 < (x5_1.length : Int)) = true := decide_eq_true c15
                    clear c15
                    obtain ⟨y146, hy146⟩ : ∃ y_ : List Int, y_ = (x5_1.set (x14_1 : Int).toNat ((IntKind.u64.wrap ((IntKind.u64.wrap (rd l0 x14_1)) - x6_1)) % 4294967296)) := ⟨_, rfl⟩
                    replace H : (smallbig_nat_sub.l0 k1 l0 l1 y146 ((IntKind.u64.wrap ((IntKind.u64.wrap (rd l0 x14_1)) - x6_1)) / 9223372036854775808) (l0.length : Int) (wrap64 (x14_1 + 1))) = some r := by first | (rw [hy146]; with_reducible exact H) | (have H2_ := (Option.bind_some _ _).symm.trans H; rw [hy146]; with_reducible exact H2_) | (have H2_ := (Option.bind_some _ _).symm.trans H; with_reducible exact H2_) | with_reducible exact H | (rw [hy146]; exact H) | exact H
                    have Ny146 := Aside0.mk hy146
                    clear hy146
                    have H' := Aside0.mk H
                    clear H
                    have p143 : 0 ≤ (x14_1 : Int) := of_decide_eq_true (by first | (with_reducible assumption) | assumption)
                    have q143 : x14_1 < (l0.length : Int) := of_decide_eq_true (by first | (with_reducible assumption) | assumption)
                    obtain ⟨ad143, e143, hx143_0⟩ := Kd.at_int HR0.out x14_1 p143 q143
                    cases e143
                    replace hx143_0 := (HB.out.cell (World.block_lt_of_cell? w _ hx143_0)).trans hx143_0
                    replace p143 := eq_true p143
                    replace q143 := eq_true q143
                    have p16 : 0 ≤ (x14_1 : Int) := of_decide_eq_true (by first | (with_reducible assumption) | assumption)
                    have q16 : (x14_1 : Int) < ((x5_1.length : Int) : Int) := of_decide_eq_true (by first | (with_reducible assumption) | assumption)
                    obtain ⟨go16, co16, eo16, gb16, gl16, cl16, HG16⟩ := Kd.R_form HO_5.out (by omega)
                    (first | cases eo16 | (injection eo16 with ea_ en_ ec_; (first | subst ea_ | (injection ea_ with ea_; subst ea_)); subst ec_; clear en_))
                    have GB16 := Aside0.mk gb16
                    have GG16 := Aside0.mk HG16
                    clear gb16 gl16 HG16
                    obtain ⟨hx16_0, hf16_0⟩ := Kd.R_celln 0 HO_5.out (x14_1 : Int) p16 q16
                    replace p16 := eq_true p16
                    replace q16 := eq_true q16
                    have HP17 := Kd.R_putg HO_5.out (x14_1 : Int) ((IntKind.u64.wrap ((IntKind.u64.wrap (rd l0 x14_1)) - x6_1)) % 4294967296)
                    go_wp2_with (first | ((with_reducible refine gate_store (t := 24) (p := 39) rfl ?_); refine store_event (t := 24) (p := 39) (v := ?vo_w18) (w1 := (wr.setCell ⟨go16, (x14_1 : Int).toNat, none⟩ (.int .u32 ((IntKind.u64.wrap ((IntKind.u64.wrap (rd l0 x14_1)) - x6_1)) % 4294967296)))) ?hg ?ho ?hn ?hr ?_; (case ho => rfl); (case hg => rfl); (case hn => rfl); (case hr => first | (go_simp; done) | (go_simp; rfl)); intro w18 hw; have hg : wr.grownBy w18 (some go16) := (by rw [hw]; exact HP17.2); have hp_ : Kd.R (Kd.int .u32) 24 w18 w.heap.size (fun k_ => (w.heap.size ≤ k_)) (.slice (some ⟨go16, 0, none⟩) x5_1.length co16) y146 := (by rw [hw, Ny146.out]; exact HP17.1); clear HP17; have n0_ := Aside0.mk (hp_); have n1_ := Aside0.mk ((by rw [hw]; exact below_set (HB.out) GB16.out : Below w.heap.size w w18)); clear HO_5; clear HB; have HO_5 := n0_; have HB := n1_; clear n0_ n1_; clear hg hw hp_))
                    go_roundg k1
                    case measure => have := HK1.out; omega
                    case rel => exact ⟨(y146), ((IntKind.u64.wrap ((IntKind.u64.wrap (rd l0 x14_1)) - x6_1)) / 9223372036854775808), (wrap64 (x14_1 + 1)), (by first | rfl | (simp; done) | (simp [*]; done)), (by first | rfl | (simp; done) | (simp [*]; done)), (by first | exact H' | (subst_vars; exact H')), ⟨by have := HK1.out; omega⟩, ⟨by (with_reducible repeat (first | apply Kd.R_alloc | apply Kd.R_drewN | apply Kd.R_drew)); exact HO_5.out⟩, ⟨by repeat (first | (with_reducible first | exact HB.out | apply below_alloc | apply pw_below_drewN | apply below_drew1) | exact HB.out)⟩⟩
                  · rw [if_neg c15] at H
                    exact absurd H (by simp)
              · rw [if_neg c9] at H
                exact absurd H (by simp)
            · rw [if_neg c8] at H
              exact absurd H (by simp)
          · rw [if_neg c7] at H
            have c7b0 : decide (x14_1 < (l0.length : Int)) = false := decide_eq_false c7
            clear c7
            replace H := Option.bind_eq_some_iff.mp H
            obtain ⟨t147, A190, H⟩ := H
            replace H : (some t147) = some r := H
            have A19 := Aside0.mk A190
            clear A190
            obtain rfl := Option.some.inj H
            obtain ⟨Ao20, co20, eo20⟩ := Kd.R_slice HO_5.out
            subst eo20
            go_wp2_with (first | ((with_reducible refine gate_callee (f := 62) rfl ?_); refine goesL_ (some 44) rfl rfl Try.func62 (by kernel_rfl) rfl #[.slice Ao20 x5_1.length co20] rfl (by (try simp only [List.map_toArray, List.map_cons, List.map_nil]); first | done | rfl | (simp only [List.length_drop, List.length_take]; rfl)) ?_; (with_reducible refine (smallbig_nat_norm.calls k1 (fun k_ => some k_ = (.slice Ao20 x5_1.length co20 : Value).ownBlock) _ _ x5_1 t147 _ ?side1 A19.out).mono ?_); (case side1 => exact Kd.R_V (Kd.R_tight rfl (HO_5.out))); rintro e w21 ⟨v148, rfl, ho0, hb⟩; refine ⟨_, rfl, ?_⟩; have n0_ := Aside0.mk (Kd.R_below (by (with_reducible repeat (first | apply Kd.R_alloc | apply Kd.R_drewN | apply Kd.R_drew)); exact HO_5.out) hb); have n1_ := Aside0.mk (Kd.V_lower (Kd.V_mono (ok' := fun k_ => (w.heap.size ≤ k_)) ho0 (fun k_ hk_ => Or.elim hk_ (fun hs_ => ((HO_5.out).1 k_ hs_.symm)) (fun hn_ => (Nat.le_trans (below_size (by repeat (first | (with_reducible first | exact HB.out | apply below_alloc | apply pw_below_drewN | apply below_drew1) | exact HB.out))) hn_)))) (below_size (by repeat (first | (with_reducible first | exact HB.out | apply below_alloc | apply pw_below_drewN | apply below_drew1) | exact HB.out)))); have n2_ := Aside0.mk (below_step (by repeat (first | (with_reducible first | exact HB.out | apply below_alloc | apply pw_below_drewN | apply below_drew1) | exact HB.out)) hb); clear HO_5; clear HB; have HO_5 := n0_; have HO149 := n1_; have HB := n2_; clear n0_ n1_ n2_; (try clear hb); (try clear hb2); (try clear hk); (try clear hi); (try clear ho0)))
            go_ret
            exact ⟨_, by first | rfl | (simp [errW_none, errW_some] <;> rfl) | (simp [*, errW_none, errW_some] <;> rfl), by (with_reducible repeat (first | apply Kd.V_alloc | apply Kd.V_drewN | apply Kd.V_drew)); exact HO149.out, by repeat (first | (with_reducible first | exact HB.out | apply below_alloc | apply pw_below_drewN | apply below_drew1) | exact HB.out)⟩
    · rw [if_neg c4] at H
      exact absurd H (by simp)
  · rw [if_neg c3] at H
    exact absurd H (by simp)

/-! ### smallbig_nat_rsh: function 71 -/
def smallbig_nat_rsh.l0 : Nat → List Int → Int → List Int → Int → Int → Option (List Int)
  | 0, _, _, _, _, _ => none
  | k + 1, x0, x6, x7, x26, x27 => if x27 < x26 then (if 0 ≤ x27 then (if x27 < (x0.length : Int) then (if (wrap64 (x27 + 1)) < (x0.length : Int) then (if 0 ≤ (wrap64 (x27 + 1)) then (if 0 ≤ x6 then (if x27 < (x7.length : Int) then (smallbig_nat_rsh.l0 k x0 x6 (x7.set (x27 : Int).toNat ((shr .u64 (Go.bits .or .u64 (IntKind.u64.wrap (rd x0 x27)) (IntKind.u64.wrap ((IntKind.u64.wrap (rd x0 (wrap64 (x27 + 1)))) * 4294967296))) x6) % 4294967296)) x26 (wrap64 (x27 + 1))) else (none)) else (none)) else (none)) else (if 0 ≤ x6 then (if x27 < (x7.length : Int) then (smallbig_nat_rsh.l0 k x0 x6 (x7.set (x27 : Int).toNat ((shr .u64 (IntKind.u64.wrap (rd x0 x27)) x6) % 4294967296)) x26 (wrap64 (x27 + 1))) else (none)) else (none))) else (none)) else (none)) else ((smallbig_nat_norm.f k x7).bind fun t158 => (some t158))
def smallbig_nat_rsh.f (k : Nat) (l0 : List Int) (a1 : Int) : Option (List Int) := if (IntKind.u64.wrap (Int.tdiv a1 32)) ≥ (IntKind.u64.wrap ((l0.length : Int))) then (some ([] : List Int)) else (if 0 ≤ (IntKind.u64.wrap (Int.tdiv a1 32)) then (if (IntKind.u64.wrap (Int.tdiv a1 32)) ≤ (l0.length : Int) then (if 0 ≤ ((l0.drop ((IntKind.u64.wrap (Int.tdiv a1 32)) : Int).toNat).length : Int) then (if (((l0.drop ((IntKind.u64.wrap (Int.tdiv a1 32)) : Int).toNat).length : Int) : Int).toNat ≤ 70368744177664 then (smallbig_nat_rsh.l0 k (l0.drop ((IntKind.u64.wrap (Int.tdiv a1 32)) : Int).toNat) (Int.tmod a1 32) (List.replicate (((l0.drop ((IntKind.u64.wrap (Int.tdiv a1 32)) : Int).toNat).length : Int) : Int).toNat 0) ((l0.drop ((IntKind.u64.wrap (Int.tdiv a1 32)) : Int).toNat).length : Int) 0) else (none)) else (none)) else (none)) else (none))
theorem smallbig_nat_rsh.mono_l : ∀ k, (∀ y0 y1 y2 y3 y4, LeO (smallbig_nat_rsh.l0 k y0 y1 y2 y3 y4) (smallbig_nat_rsh.l0 (k + 1) y0 y1 y2 y3 y4))
  | 0 => fun _ _ _ _ _ r h => by simp [smallbig_nat_rsh.l0] at h
  | k + 1 => by
    have ih0 := smallbig_nat_rsh.mono_l k
    · intro y0 y1 y2 y3 y4
      unfold smallbig_nat_rsh.l0
      repeat' first
      | (with_reducible exact ih0 _ _ _ _ _)
      | (with_reducible exact smallbig_nat_norm.mono _ _)
      | (with_reducible exact LeO.refl _)
      | (with_reducible exact LeO.none _)
      | (with_reducible refine LeO.ite ?_ ?_)
      | (with_reducible refine LeO.bind ?_ (fun _ => ?_))
      | exact ih0 _ _ _ _ _
      | exact smallbig_nat_norm.mono _ _
      | exact LeO.none _
      | refine LeO.ite ?_ ?_
      | refine LeO.bind ?_ (fun _ => ?_)
theorem smallbig_nat_rsh.mono : ∀ a0 a1 k, LeO (smallbig_nat_rsh.f k a0 a1) (smallbig_nat_rsh.f (k + 1) a0 a1) := by
  intro a0 a1 k
  have ih0 := smallbig_nat_rsh.mono_l k
  unfold smallbig_nat_rsh.f
  repeat' first
      | (with_reducible exact ih0 _ _ _ _ _)
      | (with_reducible exact smallbig_nat_norm.mono _ _)
      | (with_reducible exact LeO.refl _)
      | (with_reducible exact LeO.none _)
      | (with_reducible refine LeO.ite ?_ ?_)
      | (with_reducible refine LeO.bind ?_ (fun _ => ?_))
      | exact ih0 _ _ _ _ _
      | exact smallbig_nat_norm.mono _ _
      | exact LeO.none _
      | refine LeO.ite ?_ ?_
      | refine LeO.bind ?_ (fun _ => ?_)
end Go.Proofs.Ytdmpjoglejnpbaa.QFnTargetBack
