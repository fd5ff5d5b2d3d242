-- Made by a turned print (own tool turnprint.py over the kit print).
import Derived.Test.YtnbecklojmbbbaaQFnRegroupx0
import Derived.Test.YtnbecklojmbbbaaQFnRegroupx1
namespace Go.Proofs.Ytnbecklojmbbbaa.QFnRegroup
open Go.RowKit Go.Proofs.YtnbecklojmbbbaaW.PrintWords Go.Proofs.YtnbecklojmbbbaaW.PrintLast Go.Proofs.YtnbecklojmbbbaaW.PrintMore
attribute [local go_sem] nn_mod256 nn_mod65536 nn_mod32 max2_int min2_int max_two min_two max_three min_three max_four min_four   -- for this text's walks alone
set_option linter.unusedVariables false
set_option linter.unusedSimpArgs false

/-! ### bech32_ConvertBits: function 35 -/
mutual
def bech32_ConvertBits.j0 : Nat → List Int → Int → Int → Bool → Bool → Option (List Int × Option Int)
  | 0, _, _, _, _, _ => none
  | k + 1, x0, x1, x2, x3, x32 => if x32 = true then (some (([] : List Int), some 106)) else (if (wrap64 (x2)) = 0 then (none) else (if 0 ≤ (wrap64 ((wrap64 (Int.tdiv (wrap64 ((x0.length : Int) * (wrap64 (x1)))) (wrap64 (x2)))) + 1)) then (if (wrap64 ((wrap64 (Int.tdiv (wrap64 ((x0.length : Int) * (wrap64 (x1)))) (wrap64 (x2)))) + 1) : Int).toNat ≤ 281474976710656 then (bech32_ConvertBits.l0 k x1 x2 x3 (List.replicate 0 0) 0 0 x0 (x0.length : Int) 0) else (none)) else (none)))
def bech32_ConvertBits.l0 : Nat → Int → Int → Bool → List Int → Int → Int → List Int → Int → Int → Option (List Int × Option Int)
  | 0, _, _, _, _, _, _, _, _, _ => none
  | k + 1, x1, x2, x3, x11, x12, x13, x46, x47, x48 => if x48 < x47 then (if 0 ≤ x48 then (if x48 < (x46.length : Int) then (bech32_ConvertBits.l1 k x1 x2 x3 x11 x12 x13 (shl .u8 (rd x46 x48) ((8 - x1) % 256)) x1 x46 x47 x48) else (none)) else (none)) else (if x3 = true then (bech32_ConvertBits.j3 k x2 x11 x12 x13 (decide (x13 > 0))) else (bech32_ConvertBits.j3 k x2 x11 x12 x13 false))
def bech32_ConvertBits.l1 : Nat → Int → Int → Bool → List Int → Int → Int → Int → Int → List Int → Int → Int → Option (List Int × Option Int)
  | 0, _, _, _, _, _, _, _, _, _, _, _ => none
  | k + 1, x1, x2, x3, x11, x12, x13, x15, x16, x46, x47, x48 => if x16 > 0 then (if ((x2 - x13) % 256) < x16 then (if ((x13 + (x2 - x13)) % 256) = x2 then (if x11.length < 140737488355328 then (bech32_ConvertBits.l1 k x1 x2 x3 (x11 ++ [Go.bits .or .u8 (shl .u8 x12 ((x2 - x13) % 256)) (shr .u8 x15 ((8 - (x2 - x13)) % 256))]) 0 0 (shl .u8 x15 ((x2 - x13) % 256)) ((x16 - (x2 - x13)) % 256) x46 x47 x48) else (none)) else (bech32_ConvertBits.l1 k x1 x2 x3 x11 (Go.bits .or .u8 (shl .u8 x12 ((x2 - x13) % 256)) (shr .u8 x15 ((8 - (x2 - x13)) % 256))) ((x13 + (x2 - x13)) % 256) (shl .u8 x15 ((x2 - x13) % 256)) ((x16 - (x2 - x13)) % 256) x46 x47 x48)) else (if 0 ≤ x16 then (if ((x13 + x16) % 256) = x2 then (if x11.length < 140737488355328 then (bech32_ConvertBits.l1 k x1 x2 x3 (x11 ++ [Go.bits .or .u8 (shl .u8 x12 x16) (shr .u8 x15 ((8 - x16) % 256))]) 0 0 (shl .u8 x15 x16) ((x16 - x16) % 256) x46 x47 x48) else (none)) else (bech32_ConvertBits.l1 k x1 x2 x3 x11 (Go.bits .or .u8 (shl .u8 x12 x16) (shr .u8 x15 ((8 - x16) % 256))) ((x13 + x16) % 256) (shl .u8 x15 x16) ((x16 - x16) % 256) x46 x47 x48)) else (none))) else (bech32_ConvertBits.l0 k x1 x2 x3 x11 x12 x13 x46 x47 (wrap64 (x48 + 1)))
def bech32_ConvertBits.j3 : Nat → Int → List Int → Int → Int → Bool → Option (List Int × Option Int)
  | 0, _, _, _, _, _ => none
  | k + 1, x2, x11, x12, x13, x96 => if x96 = true then (if x11.length < 140737488355328 then (some ((x11 ++ [shl .u8 x12 ((x2 - x13) % 256)]), none)) else (none)) else (if x13 > 0 then (if x13 > 4 then (some (([] : List Int), some 107)) else (if x12 = 0 then (some (x11, none)) else (some (([] : List Int), some 107)))) else (some (x11, none)))
end
def bech32_ConvertBits.f (k : Nat) (l0 : List Int) (a1 : Int) (a2 : Int) (a3 : Bool) : Option (List Int × Option Int) := if a1 < 1 then (bech32_ConvertBits.j0 k l0 a1 a2 a3 true) else (if a1 > 8 then (bech32_ConvertBits.j0 k l0 a1 a2 a3 true) else (if a2 < 1 then (bech32_ConvertBits.j0 k l0 a1 a2 a3 true) else (bech32_ConvertBits.j0 k l0 a1 a2 a3 (decide (a2 > 8)))))
theorem bech32_ConvertBits.mono_l : ∀ k, (∀ y0 y1 y2 y3 y4, LeO (bech32_ConvertBits.j0 k y0 y1 y2 y3 y4) (bech32_ConvertBits.j0 (k + 1) y0 y1 y2 y3 y4)) ∧ (∀ y0 y1 y2 y3 y4 y5 y6 y7 y8, LeO (bech32_ConvertBits.l0 k y0 y1 y2 y3 y4 y5 y6 y7 y8) (bech32_ConvertBits.l0 (k + 1) y0 y1 y2 y3 y4 y5 y6 y7 y8)) ∧ (∀ y0 y1 y2 y3 y4 y5 y6 y7 y8 y9 y10, LeO (bech32_ConvertBits.l1 k y0 y1 y2 y3 y4 y5 y6 y7 y8 y9 y10) (bech32_ConvertBits.l1 (k + 1) y0 y1 y2 y3 y4 y5 y6 y7 y8 y9 y10)) ∧ (∀ y0 y1 y2 y3 y4, LeO (bech32_ConvertBits.j3 k y0 y1 y2 y3 y4) (bech32_ConvertBits.j3 (k + 1) y0 y1 y2 y3 y4))
  | 0 => ⟨fun _ _ _ _ _ r h => by simp [bech32_ConvertBits.j0] at h, fun _ _ _ _ _ _ _ _ _ r h => by simp [bech32_ConvertBits.l0] at h, fun _ _ _ _ _ _ _ _ _ _ _ r h => by simp [bech32_ConvertBits.l1] at h, fun _ _ _ _ _ r h => by simp [bech32_ConvertBits.j3] at h⟩
  | k + 1 => by
    obtain ⟨ih0, ih1, ih2, ih3⟩ := bech32_ConvertBits.mono_l k
    refine ⟨?_, ?_, ?_, ?_⟩
    · intro y0 y1 y2 y3 y4
      unfold bech32_ConvertBits.j0
      repeat' first
      | (with_reducible exact ih0 _ _ _ _ _)
      | (with_reducible exact ih1 _ _ _ _ _ _ _ _ _)
      | (with_reducible exact ih2 _ _ _ _ _ _ _ _ _ _ _)
      | (with_reducible exact ih3 _ _ _ _ _)
      | (with_reducible exact LeO.refl _)
      | (with_reducible exact LeO.none _)
      | (with_reducible refine LeO.ite ?_ ?_)
      | (with_reducible refine LeO.bind ?_ (fun _ => ?_))
      | exact ih0 _ _ _ _ _
      | exact ih1 _ _ _ _ _ _ _ _ _
      | exact ih2 _ _ _ _ _ _ _ _ _ _ _
      | exact ih3 _ _ _ _ _
      | exact LeO.none _
      | refine LeO.ite ?_ ?_
      | refine LeO.bind ?_ (fun _ => ?_)
    · intro y0 y1 y2 y3 y4 y5 y6 y7 y8
      unfold bech32_ConvertBits.l0
      repeat' first
      | (with_reducible exact ih0 _ _ _ _ _)
      | (with_reducible exact ih1 _ _ _ _ _ _ _ _ _)
      | (with_reducible exact ih2 _ _ _ _ _ _ _ _ _ _ _)
      | (with_reducible exact ih3 _ _ _ _ _)
      | (with_reducible exact LeO.refl _)
      | (with_reducible exact LeO.none _)
      | (with_reducible refine LeO.ite ?_ ?_)
      | (with_reducible refine LeO.bind ?_ (fun _ => ?_))
      | exact ih0 _ _ _ _ _
      | exact ih1 _ _ _ _ _ _ _ _ _
      | exact ih2 _ _ _ _ _ _ _ _ _ _ _
      | exact ih3 _ _ _ _ _
      | exact LeO.none _
      | refine LeO.ite ?_ ?_
      | refine LeO.bind ?_ (fun _ => ?_)
    · intro y0 y1 y2 y3 y4 y5 y6 y7 y8 y9 y10
      unfold bech32_ConvertBits.l1
      repeat' first
      | (with_reducible exact ih0 _ _ _ _ _)
      | (with_reducible exact ih1 _ _ _ _ _ _ _ _ _)
      | (with_reducible exact ih2 _ _ _ _ _ _ _ _ _ _ _)
      | (with_reducible exact ih3 _ _ _ _ _)
      | (with_reducible exact LeO.refl _)
      | (with_reducible exact LeO.none _)
      | (with_reducible refine LeO.ite ?_ ?_)
      | (with_reducible refine LeO.bind ?_ (fun _ => ?_))
      | exact ih0 _ _ _ _ _
      | exact ih1 _ _ _ _ _ _ _ _ _
      | exact ih2 _ _ _ _ _ _ _ _ _ _ _
      | exact ih3 _ _ _ _ _
      | exact LeO.none _
      | refine LeO.ite ?_ ?_
      | refine LeO.bind ?_ (fun _ => ?_)
    · intro y0 y1 y2 y3 y4
      unfold bech32_ConvertBits.j3
      repeat' first
      | (with_reducible exact ih0 _ _ _ _ _)
      | (with_reducible exact ih1 _ _ _ _ _ _ _ _ _)
      | (with_reducible exact ih2 _ _ _ _ _ _ _ _ _ _ _)
      | (with_reducible exact ih3 _ _ _ _ _)
      | (with_reducible exact LeO.refl _)
      | (with_reducible exact LeO.none _)
      | (with_reducible refine LeO.ite ?_ ?_)
      | (with_reducible refine LeO.bind ?_ (fun _ => ?_))
      | exact ih0 _ _ _ _ _
      | exact ih1 _ _ _ _ _ _ _ _ _
      | exact ih2 _ _ _ _ _ _ _ _ _ _ _
      | exact ih3 _ _ _ _ _
      | exact LeO.none _
      | refine LeO.ite ?_ ?_
      | refine LeO.bind ?_ (fun _ => ?_)
theorem bech32_ConvertBits.mono : ∀ a0 a1 a2 a3 k, LeO (bech32_ConvertBits.f k a0 a1 a2 a3) (bech32_ConvertBits.f (k + 1) a0 a1 a2 a3) := by
  intro a0 a1 a2 a3 k
  obtain ⟨ih0, ih1, ih2, ih3⟩ := bech32_ConvertBits.mono_l k
  unfold bech32_ConvertBits.f
  repeat' first
      | (with_reducible exact ih0 _ _ _ _ _)
      | (with_reducible exact ih1 _ _ _ _ _ _ _ _ _)
      | (with_reducible exact ih2 _ _ _ _ _ _ _ _ _ _ _)
      | (with_reducible exact ih3 _ _ _ _ _)
      | (with_reducible exact LeO.refl _)
      | (with_reducible exact LeO.none _)
      | (with_reducible refine LeO.ite ?_ ?_)
      | (with_reducible refine LeO.bind ?_ (fun _ => ?_))
      | exact ih0 _ _ _ _ _
      | exact ih1 _ _ _ _ _ _ _ _ _
      | exact ih2 _ _ _ _ _ _ _ _ _ _ _
      | exact ih3 _ _ _ _ _
      | exact LeO.none _
      | refine LeO.ite ?_ ?_
      | refine LeO.bind ?_ (fun _ => ?_)
set_option maxHeartbeats 8000000 in
set_option maxRecDepth 100000 in
theorem bech32_ConvertBits.calls (k : Nat) (A0 : Option Addr) (c0 : Nat) (l0 : List Int) (a1 : Int) (a2 : Int) (a3 : Bool) (r1 : List Int) (r2 : Option Int) (w : World) (hr0 : Kd.C (Kd.int .u8) w A0 l0.length l0) (hc0 : l0.length ≤ c0) (h : bech32_ConvertBits.f k l0 a1 a2 a3 = some (r1, r2)) :
    Calls Try.prog 35 #[.slice A0 l0.length c0, .int .u8 a1, .int .u8 a2, .bool a3] w fun e w' => ∃ v0_ : Value, e = .returned (.tuple #[v0_, errW r2]) ∧ Kd.R (Kd.int .u8) 5 w' w.heap.size (fun _ => True) v0_ r1 ∧ Below w.heap.size w w' := by
  have hu81 := Try.underlying81
  have hu107 := Try.underlying107
  have HR0 := Aside0.mk hr0
  have HC0 := Aside0.mk hc0
  clear hr0 hc0
  have HB := Aside0.mk (Below.refl w.heap.size w)
  have H : (if a1 < 1 then (bech32_ConvertBits.j0 k l0 a1 a2 a3 true) else (if a1 > 8 then (bech32_ConvertBits.j0 k l0 a1 a2 a3 true) else (if a2 < 1 then (bech32_ConvertBits.j0 k l0 a1 a2 a3 true) else (bech32_ConvertBits.j0 k l0 a1 a2 a3 (decide (a2 > 8)))))) = some (r1, r2) := h
  clear h
  have HC5 := Aside0.mk H
  clear H
  go_enter Try.func35, Try.ntmps35
  go_upto_region 1 with (fail)
  go_cut [32] (fun v32 wc => ∃ (kq : Nat) (x32_4 : Bool), v32 = .bool x32_4 ∧ Aside0 (bech32_ConvertBits.j0 kq l0 a1 a2 a3 x32_4 = some (r1, r2)) ∧ Aside0 (kq ≤ k) ∧ Aside0 (Below w.heap.size w wc))
  case first =>
    have H := HC5.out
    clear HC5
    by_cases c6 : a1 < 1
    · rw [if_pos c6] at H
      have c6b0 : decide (a1 < 1) = true := decide_eq_true c6
      clear c6
      (first | rw [c6b0] | (simp only [i64_w, i32_w]; rw [c6b0]) | skip)
      have H' := Aside0.mk H
      clear H
      go_wp2
      go_meet
      case rel => exact ⟨_, (true), (by first | rfl | (simp; done) | (simp [*]; done)), H', ⟨by first | omega | exact Nat.le_refl _⟩, ⟨by repeat (first | (with_reducible first | exact HB.out | apply below_alloc | apply pw_below_drewN | apply below_drew1) | exact HB.out)⟩⟩
    · rw [if_neg c6] at H
      have c6b0 : decide (a1 < 1) = false := decide_eq_false c6
      clear c6
      (first | rw [c6b0] | (simp only [i64_w, i32_w]; rw [c6b0]) | skip)
      by_cases c7 : a1 > 8
      · rw [if_pos c7] at H
        have c7b0 : decide (8 < a1) = true := decide_eq_true c7
        clear c7
        have H' := Aside0.mk H
        clear H
        go_wp2
        go_meet
        case rel => exact ⟨_, (true), (by first | rfl | (simp; done) | (simp [*]; done)), H', ⟨by first | omega | exact Nat.le_refl _⟩, ⟨by repeat (first | (with_reducible first | exact HB.out | apply below_alloc | apply pw_below_drewN | apply below_drew1) | exact HB.out)⟩⟩
      · rw [if_neg c7] at H
        have c7b0 : decide (8 < a1) = false := decide_eq_false c7
        clear c7
        by_cases c8 : a2 < 1
        · rw [if_pos c8] at H
          have c8b0 : decide (a2 < 1) = true := decide_eq_true c8
          clear c8
          have H' := Aside0.mk H
          clear H
          go_wp2
          go_meet
          case rel => exact ⟨_, (true), (by first | rfl | (simp; done) | (simp [*]; done)), H', ⟨by first | omega | exact Nat.le_refl _⟩, ⟨by repeat (first | (with_reducible first | exact HB.out | apply below_alloc | apply pw_below_drewN | apply below_drew1) | exact HB.out)⟩⟩
        · rw [if_neg c8] at H
          have c8b0 : decide (a2 < 1) = false := decide_eq_false c8
          clear c8
          have H' := Aside0.mk H
          clear H
          go_wp2
          go_meet
          case rel => exact ⟨_, (decide (a2 > 8)), (by first | rfl | (simp; done) | (simp [*]; done)), H', ⟨by first | omega | exact Nat.le_refl _⟩, ⟨by repeat (first | (with_reducible first | exact HB.out | apply below_alloc | apply pw_below_drewN | apply below_drew1) | exact HB.out)⟩⟩
  case rest =>
    clear HC5
    try clear p2
    try clear c3
    try clear c6
    try clear c6b0
    try clear c7
    try clear c7b0
    try clear c8
    try clear c8b0
    obtain ⟨kq, x32_4, rfl, HA, HJ4, HB⟩ := hcut
    cases kq with
    | zero => exact absurd HA.out (by simp [bech32_ConvertBits.j0])
    | succ kj4 =>
      have H := HA.out
      clear HA
      simp only [bech32_ConvertBits.j0] at H
      by_cases c9 : x32_4 = true
      · subst c9
        have H1 : (some (([] : List Int), some 106)) = some (r1, r2) := by rw [if_pos rfl] at H; exact H
        clear H
        have H := H1
        clear H1
        simp only [Option.some.injEq, Prod.mk.injEq] at H
        obtain ⟨rfl, rfl⟩ := H
        go_wp2
        go_ret2
        exact ⟨_, by first | rfl | (simp [errW_none, errW_some] <;> rfl) | (simp [*, errW_none, errW_some] <;> rfl), by first | exact Kd.R_nil _ _ _ _ _ | exact Kd.N_nil _ _ _ _ _ | exact Kd.V_nil _ _ _ _ _ | exact Kd.Q_nil _ _ _ _ _ | exact Kd.S_nil _ _ _ _ _, by repeat (first | (with_reducible first | exact HB.out | apply below_alloc | apply pw_below_drewN | apply below_drew1) | exact HB.out)⟩
      · replace c9 := Bool.eq_false_iff.mpr c9
        subst c9
        have H1 : (if (wrap64 (a2)) = 0 then (none) else (if 0 ≤ (wrap64 ((wrap64 (Int.tdiv (wrap64 ((l0.length : Int) * (wrap64 (a1)))) (wrap64 (a2)))) + 1)) then (if (wrap64 ((wrap64 (Int.tdiv (wrap64 ((l0.length : Int) * (wrap64 (a1)))) (wrap64 (a2)))) + 1) : Int).toNat ≤ 281474976710656 then (bech32_ConvertBits.l0 kj4 a1 a2 a3 (List.replicate 0 0) 0 0 l0 (l0.length : Int) 0) else (none)) else (none))) = some (r1, r2) := by rw [if_neg (show ¬ (false = true) by decide)] at H; exact H
        clear H
        have H := H1
        clear H1
        by_cases c10 : (wrap64 (a2)) = 0
        · rw [if_pos c10] at H
          exact absurd H (by simp)
        · rw [if_neg c10] at H
          have c10b0 : ((wrap64 (a2)) == 0) = false := beq_eq_false_iff_ne.mpr c10
          have c10b1 : ((wrap64 (a2)) != 0) = true := bne_iff_ne.mpr c10
          obtain ⟨ji11, hji11⟩ : ∃ j_ : Int, (wrap64 ((wrap64 (Int.tdiv (wrap64 ((l0.length : Int) * (wrap64 (a1)))) (wrap64 (a2)))) + 1)) = j_ := ⟨_, rfl⟩
          replace H : (if 0 ≤ (ji11) then (if (ji11 : Int).toNat ≤ 281474976710656 then (bech32_ConvertBits.l0 kj4 a1 a2 a3 (List.replicate 0 0) 0 0 l0 (l0.length : Int) 0) else (none)) else (none)) = some (r1, r2) := by first | (rw [hji11] at H; exact H) | (simp only [hji11] at H ⊢; exact H)
          have hji11w : (IntKind.i64.wrap ((wrap64 (Int.tdiv (wrap64 ((l0.length : Int) * (wrap64 (a1)))) (wrap64 (a2)))) + 1)) = ji11 := (i64_w _).trans hji11
          by_cases c12 : 0 ≤ (ji11)
          · rw [if_pos c12] at H
            have c12b0 := eq_true c12
            have c12b1 : decide (0 ≤ (ji11)) = true := decide_eq_true c12
            clear c12
            by_cases c13 : (ji11 : Int).toNat ≤ 281474976710656
            · rw [if_pos c13] at H
              have c13b0 := eq_true c13
              have c13b1 : decide ((ji11 : Int).toNat ≤ 281474976710656) = true := decide_eq_true c13
              clear c13
              obtain ⟨y129, hy129⟩ : ∃ y_ : List Int, y_ = (List.replicate 0 0) := ⟨_, rfl⟩
              replace H : (bech32_ConvertBits.l0 kj4 a1 a2 a3 y129 0 0 l0 (l0.length : Int) 0) = some (r1, r2) := by first | (rw [hy129]; with_reducible exact H) | (have H2_ := (Option.bind_some _ _).symm.trans H; rw [hy129]; with_reducible exact H2_) | (have H2_ := (Option.bind_some _ _).symm.trans H; with_reducible exact H2_) | with_reducible exact H | (rw [hy129]; exact H) | exact H
              have Ny129 := Aside0.mk hy129
              clear hy129
              have H' := Aside0.mk H
              clear H
              go_wp2_with (first | ((with_reducible refine gate_dst (N := 45) rfl ?_); refine Kd.R_makecap (Kd.int .u8) _ 5 rfl (N := 45) rfl 27 _ _ rfl ji11 rfl rfl Try.underlying27 (.int .u8 0) 1 info5 rfl (by decide) (by omega) 0 (ok := fun _ => True) (okp := fun _ => True) rfl (fun _ hk => hk) trivial (of_decide_eq_true (by first | (with_reducible assumption) | assumption)) (Nat.le_trans (Nat.mul_le_mul_right _ (of_decide_eq_true (by first | (with_reducible assumption) | assumption) : ji11.toNat ≤ 281474976710656)) (by omega)) (Below.refl _ _) (Nat.le_refl _) ?_; intro v130 w14 ho15 hb hg_ hnew_; clear hg_ hnew_; (first | rw [← Ny129.out] at ho15 | (simp only [Int.reduceToNat] at ho15; rw [← Ny129.out] at ho15)); have n0_ := Aside0.mk (Kd.R_lower ho15 (below_size (by repeat (first | (with_reducible first | exact HB.out | apply below_alloc | apply pw_below_drewN | apply below_drew1) | exact HB.out)))); have n1_ := Aside0.mk (below_step (by repeat (first | (with_reducible first | exact HB.out | apply below_alloc | apply pw_below_drewN | apply below_drew1) | exact HB.out)) hb); clear HB; have HO131 := n0_; have HB := n1_; clear n0_ n1_; clear hb ho15))
              go_loopg [11, 12, 13, 48] kj4 (fun kq v11 v12 v13 v48 w' => ∃ (x11_2 : List Int) (x12_2 : Int) (x13_2 : Int) (x48_2 : Int), v12 = .int .u8 x12_2 ∧ v13 = .int .u8 x13_2 ∧ v48 = .int .i64 x48_2 ∧ Aside0 (bech32_ConvertBits.l0 kq a1 a2 a3 x11_2 x12_2 x13_2 l0 (l0.length : Int) x48_2 = some (r1, r2)) ∧ Aside0 (kq ≤ kj4) ∧ Aside0 (Kd.R (Kd.int .u8) 5 w' w.heap.size (fun _ => True) v11 x11_2) ∧ Aside0 (Below w.heap.size w w'))
              case atStart => exact ⟨(y129), (0), (0), (0), (by first | rfl | (simp; done) | (simp [*]; done)), (by first | rfl | (simp; done) | (simp [*]; done)), (by first | rfl | (simp; done) | (simp [*]; done)), H', ⟨Nat.le_refl _⟩, ⟨by (with_reducible repeat (first | apply Kd.R_alloc | apply Kd.R_drewN | apply Kd.R_drew)); exact HO131.out⟩, ⟨by repeat (first | (with_reducible first | exact HB.out | apply below_alloc | apply pw_below_drewN | apply below_drew1) | exact HB.out)⟩⟩
              case round =>
                clear H'
                try clear c1
                try clear p2
                try clear c3
                try clear c6
                try clear c6b0
                try clear p6
                try clear c7
                try clear c7b0
                try clear c8
                try clear c8b0
                try clear c9
                try clear c10
                try clear c10b0
                try clear c10b1
                try clear c12
                try clear c12b0
                try clear c12b1
                try clear c13
                try clear c13b0
                try clear c13b1
                try clear p2
                obtain ⟨x11_2, x12_2, x13_2, x48_2, rfl, rfl, rfl, HA, HK2, HO_11, HB⟩ := hrel
                cases gk with
                | zero => exact absurd HA.out (by simp [bech32_ConvertBits.l0])
                | succ k2 =>
                  have H := HA.out
                  clear HA
                  simp only [bech32_ConvertBits.l0] at H
                  by_cases c16 : x48_2 < (l0.length : Int)
                  · rw [if_pos c16] at H
                    have c16b0 : decide (x48_2 < (l0.length : Int)) = true := decide_eq_true c16
                    clear c16
                    by_cases c17 : 0 ≤ x48_2
                    · rw [if_pos c17] at H
                      have c17b0 : decide (0 ≤ x48_2) = true := decide_eq_true c17
                      clear c17
                      by_cases c18 : x48_2 < (l0.length : Int)
                      · rw [if_pos c18] at H
                        have c18b0 : decide (x48_2 < (l0.length : Int)) = true := decide_eq_true c18
                        clear c18
                        obtain ⟨ji19, hji19⟩ : ∃ j_ : Int, (shl .u8 (rd l0 x48_2) ((8 - a1) % 256)) = j_ := ⟨_, rfl⟩
                        replace H : (bech32_ConvertBits.l1 k2 a1 a2 a3 x11_2 x12_2 x13_2 ji19 a1 l0 (l0.length : Int) x48_2) = some (r1, r2) := by first | (rw [hji19] at H; exact H) | (simp only [hji19] at H ⊢; exact H)
                        have hji19_ : (IntKind.u8.wrap ((rd l0 x48_2) * 2 ^ min ((8 - a1) % 256).toNat 8)) = ji19 := hji19
                        have hji19z : ((8 - a1) % 256) ≤ 8 → (IntKind.u8.wrap ((rd l0 x48_2) * 2 ^ ((8 - a1) % 256).toNat)) = ji19 := shl_small hji19
                        have H' := Aside0.mk H
                        clear H
                        have p132 : 0 ≤ (x48_2 : Int) := of_decide_eq_true (by first | (with_reducible assumption) | assumption)
                        have q132 : x48_2 < (l0.length : Int) := of_decide_eq_true (by first | (with_reducible assumption) | assumption)
                        obtain ⟨ad132, e132, hx132_0⟩ := Kd.at_int HR0.out x48_2 p132 q132
                        cases e132
                        replace hx132_0 := (HB.out.cell (World.block_lt_of_cell? w _ hx132_0)).trans hx132_0
                        replace p132 := eq_true p132
                        replace q132 := eq_true q132
                        go_wp2
                        go_loopg [11, 12, 13, 15, 16] k2 (fun kq v11 v12 v13 v15 v16 w' => ∃ (x11_3 : List Int) (x12_3 : Int) (x13_3 : Int) (x15_3 : Int) (x16_3 : Int), v12 = .int .u8 x12_3 ∧ v13 = .int .u8 x13_3 ∧ v15 = .int .u8 x15_3 ∧ v16 = .int .u8 x16_3 ∧ Aside0 (bech32_ConvertBits.l1 kq a1 a2 a3 x11_3 x12_3 x13_3 x15_3 x16_3 l0 (l0.length : Int) x48_2 = some (r1, r2)) ∧ Aside0 (kq ≤ k2) ∧ Aside0 (Kd.R (Kd.int .u8) 5 w' w.heap.size (fun _ => True) v11 x11_3) ∧ Aside0 (Below w.heap.size w w'))
                        case atStart => exact ⟨(x11_2), (x12_2), (x13_2), (ji19), (a1), (by first | rfl | (simp; done) | (simp [*]; done)), (by first | rfl | (simp; done) | (simp [*]; done)), (by first | rfl | (simp; done) | (simp only [← hji19] <;> (first | rfl | simp)) | (simp [*]; done)), (by first | rfl | (simp; done) | (simp [*]; done)), H', ⟨Nat.le_refl _⟩, ⟨by (with_reducible repeat (first | apply Kd.R_alloc | apply Kd.R_drewN | apply Kd.R_drew)); exact HO_11.out⟩, ⟨by repeat (first | (with_reducible first | exact HB.out | apply below_alloc | apply pw_below_drewN | apply below_drew1) | exact HB.out)⟩⟩
                        case round =>
                          clear H'
                          try clear c1
                          try clear p1
                          try clear q1
                          try clear hx1
                          try clear p2
                          try clear c3
                          try clear c6
                          try clear c6b0
                          try clear p6
                          try clear c7
                          try clear c7b0
                          try clear c8
                          try clear c8b0
                          try clear c9
                          try clear c10
                          try clear c10b0
                          try clear c10b1
                          try clear c12
                          try clear c12b0
                          try clear c12b1
                          try clear c13
                          try clear c13b0
                          try clear c13b1
                          try clear p13
                          try clear q13
                          try clear hx13
                          try clear c16
                          try clear c16b0
                          try clear c17
                          try clear c17b0
                          try clear c18
                          try clear c18b0
                          try clear hx132_0
                          try clear p132
                          try clear p2
                          try clear p6
                          try clear q132
                          obtain ⟨x11_3, x12_3, x13_3, x15_3, x16_3, rfl, rfl, rfl, rfl, HA, HK3, HO_11, HB⟩ := hrel
                          cases gk with
                          | zero => exact absurd HA.out (by simp [bech32_ConvertBits.l1])
                          | succ k3 =>
                            have H := HA.out
                            clear HA
                            simp only [bech32_ConvertBits.l1] at H
                            by_cases c20 : x16_3 > 0
                            · rw [if_pos c20] at H
                              have c20b0 : decide (0 < x16_3) = true := decide_eq_true c20
                              clear c20
                              by_cases c21 : ((a2 - x13_3) % 256) < x16_3
                              · rw [if_pos c21] at H
                                have c21b0 : decide (((a2 - x13_3) % 256) < x16_3) = true := decide_eq_true c21
                                clear c21
                                obtain ⟨ji22, hji22⟩ : ∃ j_ : Int, (shl .u8 x12_3 ((a2 - x13_3) % 256)) = j_ := ⟨_, rfl⟩
                                replace H : (if ((x13_3 + (a2 - x13_3)) % 256) = a2 then (if x11_3.length < 140737488355328 then (bech32_ConvertBits.l1 k3 a1 a2 a3 (x11_3 ++ [Go.bits .or .u8 (ji22) (shr .u8 x15_3 ((8 - (a2 - x13_3)) % 256))]) 0 0 (shl .u8 x15_3 ((a2 - x13_3) % 256)) ((x16_3 - (a2 - x13_3)) % 256) l0 (l0.length : Int) x48_2) else (none)) else (bech32_ConvertBits.l1 k3 a1 a2 a3 x11_3 (Go.bits .or .u8 (ji22) (shr .u8 x15_3 ((8 - (a2 - x13_3)) % 256))) ((x13_3 + (a2 - x13_3)) % 256) (shl .u8 x15_3 ((a2 - x13_3) % 256)) ((x16_3 - (a2 - x13_3)) % 256) l0 (l0.length : Int) x48_2)) = some (r1, r2) := by first | (rw [hji22] at H; exact H) | (simp only [hji22] at H ⊢; exact H)
                                have hji22_ : (IntKind.u8.wrap (x12_3 * 2 ^ min ((a2 - x13_3) % 256).toNat 8)) = ji22 := hji22
                                have hji22z : ((a2 - x13_3) % 256) ≤ 8 → (IntKind.u8.wrap (x12_3 * 2 ^ ((a2 - x13_3) % 256).toNat)) = ji22 := shl_small hji22
                                obtain ⟨ji23, hji23⟩ : ∃ j_ : Int, (shr .u8 x15_3 ((8 - (a2 - x13_3)) % 256)) = j_ := ⟨_, rfl⟩
                                replace H : (if ((x13_3 + (a2 - x13_3)) % 256) = a2 then (if x11_3.length < 140737488355328 then (bech32_ConvertBits.l1 k3 a1 a2 a3 (x11_3 ++ [Go.bits .or .u8 (ji22) (ji23)]) 0 0 (shl .u8 x15_3 ((a2 - x13_3) % 256)) ((x16_3 - (a2 - x13_3)) % 256) l0 (l0.length : Int) x48_2) else (none)) else (bech32_ConvertBits.l1 k3 a1 a2 a3 x11_3 (Go.bits .or .u8 (ji22) (ji23)) ((x13_3 + (a2 - x13_3)) % 256) (shl .u8 x15_3 ((a2 - x13_3) % 256)) ((x16_3 - (a2 - x13_3)) % 256) l0 (l0.length : Int) x48_2)) = some (r1, r2) := by first | (rw [hji23] at H; exact H) | (simp only [hji23] at H ⊢; exact H)
                                have hji23_ : (x15_3 / 2 ^ min ((8 - (a2 - x13_3)) % 256).toNat 8) = ji23 := hji23
                                have hji23z : ((8 - (a2 - x13_3)) % 256) ≤ 8 → (x15_3 / 2 ^ ((8 - (a2 - x13_3)) % 256).toNat) = ji23 := shr_small hji23
                                obtain ⟨ji24, hji24⟩ : ∃ j_ : Int, (shl .u8 x15_3 ((a2 - x13_3) % 256)) = j_ := ⟨_, rfl⟩
                                replace H : (if ((x13_3 + (a2 - x13_3)) % 256) = a2 then (if x11_3.length < 140737488355328 then (bech32_ConvertBits.l1 k3 a1 a2 a3 (x11_3 ++ [Go.bits .or .u8 (ji22) (ji23)]) 0 0 ji24 ((x16_3 - (a2 - x13_3)) % 256) l0 (l0.length : Int) x48_2) else (none)) else (bech32_ConvertBits.l1 k3 a1 a2 a3 x11_3 (Go.bits .or .u8 (ji22) (ji23)) ((x13_3 + (a2 - x13_3)) % 256) ji24 ((x16_3 - (a2 - x13_3)) % 256) l0 (l0.length : Int) x48_2)) = some (r1, r2) := by first | (rw [hji24] at H; exact H) | (simp only [hji24] at H ⊢; exact H)
                                have hji24_ : (IntKind.u8.wrap (x15_3 * 2 ^ min ((a2 - x13_3) % 256).toNat 8)) = ji24 := hji24
                                have hji24z : ((a2 - x13_3) % 256) ≤ 8 → (IntKind.u8.wrap (x15_3 * 2 ^ ((a2 - x13_3) % 256).toNat)) = ji24 := shl_small hji24
                                by_cases c25 : ((x13_3 + (a2 - x13_3)) % 256) = a2
                                · rw [if_pos c25] at H
                                  have c25b0 : (((x13_3 + (a2 - x13_3)) % 256) == a2) = true := beq_iff_eq.mpr c25
                                  have c25b1 : (((x13_3 + (a2 - x13_3)) % 256) != a2) = false := bne_eq_false_iff_eq.mpr c25
                                  clear c25
                                  by_cases c26 : x11_3.length < 140737488355328
                                  · rw [if_pos c26] at H
                                    have LMc26 := Aside0.mk c26
                                    clear c26
                                    obtain ⟨y133, hy133⟩ : ∃ y_ : List Int, y_ = (x11_3 ++ [Go.bits .or .u8 (ji22) (ji23)]) := ⟨_, rfl⟩
                                    replace H : (bech32_ConvertBits.l1 k3 a1 a2 a3 y133 0 0 ji24 ((x16_3 - (a2 - x13_3)) % 256) l0 (l0.length : Int) x48_2) = some (r1, r2) := by first | (rw [hy133]; with_reducible exact H) | (have H2_ := (Option.bind_some _ _).symm.trans H; rw [hy133]; with_reducible exact H2_) | (have H2_ := (Option.bind_some _ _).symm.trans H; with_reducible exact H2_) | with_reducible exact H | (rw [hy133]; exact H) | exact H
                                    have Ny133 := Aside0.mk hy133
                                    clear hy133
                                    have H' := Aside0.mk H
                                    clear H
                                    go_wp2_with (first | ((with_reducible refine gate_builtin (b := .append) (xs := #[.tmp 87, .tmp 89]) rfl ?_); at_builtin; refine Kd.R_append (Kd.int .u8) (w0 := w) w.heap.size rfl (.tmp 87) (.tmp 89) 27 5 (.int .u8 0) 1 rfl Try.underlying27 info5 rfl (by decide) (by omega) u11 x11_3 (Go.bits .or .u8 (ji22) (ji23)) [.int .u8 (Go.bits .or .u8 (ji22) (ji23))] (fun _ => True) (fun _ => False) rfl rfl ?aP (fun _ hk => hk.elim) ?aF ?aO ?aB ?aS ?aL ?_; (case aP => exact rfl); (case aB => exact (by repeat (first | (with_reducible first | exact HB.out | apply below_alloc | apply pw_below_drewN | apply below_drew1) | exact HB.out))); (case aF => exact (fun _ _ => trivial)); (case aO => exact (by (with_reducible repeat (first | apply Kd.R_alloc | apply Kd.R_drewN | apply Kd.R_drew)); exact HO_11.out)); (case aS => exact (below_size (by repeat (first | (with_reducible first | exact HB.out | apply below_alloc | apply pw_below_drewN | apply below_drew1) | exact HB.out)))); (case aL => have := LMc26.out; omega); intro v134 w27 ho hb hg hat; rw [← Ny133.out] at ho; have n0_ := Aside0.mk (hb); have n1_ := Aside0.mk (ho); clear HB; clear HO_11; have HB := n0_; have HO135 := n1_; clear n0_ n1_; clear ho hb hg hat))
                                    go_roundg k3
                                    case measure => have := HJ4.out; have := HK2.out; have := HK3.out; omega
                                    case rel => exact ⟨(y133), (0), (0), (ji24), ((x16_3 - (a2 - x13_3)) % 256), (by first | rfl | (simp; done) | (simp [*]; done)), (by first | rfl | (simp; done) | (simp [*]; done)), (by first | rfl | (simp; done) | (simp only [← hji24] <;> (first | rfl | simp)) | (simp [*]; done)), (by first | rfl | (simp; done) | (simp [*]; done)), H', ⟨by have := HJ4.out; have := HK2.out; have := HK3.out; omega⟩, ⟨by (with_reducible repeat (first | apply Kd.R_alloc | apply Kd.R_drewN | apply Kd.R_drew)); exact HO135.out⟩, ⟨by repeat (first | (with_reducible first | exact HB.out | apply below_alloc | apply pw_below_drewN | apply below_drew1) | exact HB.out)⟩⟩
                                  · rw [if_neg c26] at H
                                    exact absurd H (by simp)
                                · rw [if_neg c25] at H
                                  have c25b0 : (((x13_3 + (a2 - x13_3)) % 256) == a2) = false := beq_eq_false_iff_ne.mpr c25
                                  have c25b1 : (((x13_3 + (a2 - x13_3)) % 256) != a2) = true := bne_iff_ne.mpr c25
                                  have H' := Aside0.mk H
                                  clear H
                                  go_wp2
                                  go_roundg k3
                                  case measure => have := HJ4.out; have := HK2.out; have := HK3.out; omega
                                  case rel => exact ⟨(x11_3), (Go.bits .or .u8 (ji22) (ji23)), ((x13_3 + (a2 - x13_3)) % 256), (ji24), ((x16_3 - (a2 - x13_3)) % 256), (by first | rfl | (simp; done) | (simp only [← hji22, ← hji23] <;> (first | rfl | simp)) | (simp [*]; done)), (by first | rfl | (simp; done) | (simp [*]; done)), (by first | rfl | (simp; done) | (simp only [← hji24] <;> (first | rfl | simp)) | (simp [*]; done)), (by first | rfl | (simp; done) | (simp [*]; done)), H', ⟨by have := HJ4.out; have := HK2.out; have := HK3.out; omega⟩, ⟨by (with_reducible repeat (first | apply Kd.R_alloc | apply Kd.R_drewN | apply Kd.R_drew)); exact HO_11.out⟩, ⟨by repeat (first | (with_reducible first | exact HB.out | apply below_alloc | apply pw_below_drewN | apply below_drew1) | exact HB.out)⟩⟩
                              · rw [if_neg c21] at H
                                have c21b0 : decide (((a2 - x13_3) % 256) < x16_3) = false := decide_eq_false c21
                                clear c21
                                by_cases c28 : 0 ≤ x16_3
                                · rw [if_pos c28] at H
                                  have c28b0 := eq_true c28
                                  have c28b1 : decide (0 ≤ x16_3) = true := decide_eq_true c28
                                  clear c28
                                  obtain ⟨ji29, hji29⟩ : ∃ j_ : Int, (shl .u8 x12_3 x16_3) = j_ := ⟨_, rfl⟩
                                  replace H : (if ((x13_3 + x16_3) % 256) = a2 then (if x11_3.length < 140737488355328 then (bech32_ConvertBits.l1 k3 a1 a2 a3 (x11_3 ++ [Go.bits .or .u8 (ji29) (shr .u8 x15_3 ((8 - x16_3) % 256))]) 0 0 (shl .u8 x15_3 x16_3) ((x16_3 - x16_3) % 256) l0 (l0.length : Int) x48_2) else (none)) else (bech32_ConvertBits.l1 k3 a1 a2 a3 x11_3 (Go.bits .or .u8 (ji29) (shr .u8 x15_3 ((8 - x16_3) % 256))) ((x13_3 + x16_3) % 256) (shl .u8 x15_3 x16_3) ((x16_3 - x16_3) % 256) l0 (l0.length : Int) x48_2)) = some (r1, r2) := by first | (rw [hji29] at H; exact H) | (simp only [hji29] at H ⊢; exact H)
                                  have hji29_ : (IntKind.u8.wrap (x12_3 * 2 ^ min x16_3.toNat 8)) = ji29 := hji29
                                  have hji29z : x16_3 ≤ 8 → (IntKind.u8.wrap (x12_3 * 2 ^ x16_3.toNat)) = ji29 := shl_small hji29
                                  obtain ⟨ji30, hji30⟩ : ∃ j_ : Int, (shr .u8 x15_3 ((8 - x16_3) % 256)) = j_ := ⟨_, rfl⟩
                                  replace H : (if ((x13_3 + x16_3) % 256) = a2 then (if x11_3.length < 140737488355328 then (bech32_ConvertBits.l1 k3 a1 a2 a3 (x11_3 ++ [Go.bits .or .u8 (ji29) (ji30)]) 0 0 (shl .u8 x15_3 x16_3) ((x16_3 - x16_3) % 256) l0 (l0.length : Int) x48_2) else (none)) else (bech32_ConvertBits.l1 k3 a1 a2 a3 x11_3 (Go.bits .or .u8 (ji29) (ji30)) ((x13_3 + x16_3) % 256) (shl .u8 x15_3 x16_3) ((x16_3 - x16_3) % 256) l0 (l0.length : Int) x48_2)) = some (r1, r2) := by first | (rw [hji30] at H; exact H) | (simp only [hji30] at H ⊢; exact H)
                                  have hji30_ : (x15_3 / 2 ^ min ((8 - x16_3) % 256).toNat 8) = ji30 := hji30
                                  have hji30z : ((8 - x16_3) % 256) ≤ 8 → (x15_3 / 2 ^ ((8 - x16_3) % 256).toNat) = ji30 := shr_small hji30
                                  have c31b0 := eq_true (of_decide_eq_true (by first | (with_reducible assumption) | assumption) : 0 ≤ x16_3)
                                  obtain ⟨ji32, hji32⟩ : ∃ j_ : Int, (shl .u8 x15_3 x16_3) = j_ := ⟨_, rfl⟩
                                  replace H : (if ((x13_3 + x16_3) % 256) = a2 then (if x11_3.length < 140737488355328 then (bech32_ConvertBits.l1 k3 a1 a2 a3 (x11_3 ++ [Go.bits .or .u8 (ji29) (ji30)]) 0 0 ji32 ((x16_3 - x16_3) % 256) l0 (l0.length : Int) x48_2) else (none)) else (bech32_ConvertBits.l1 k3 a1 a2 a3 x11_3 (Go.bits .or .u8 (ji29) (ji30)) ((x13_3 + x16_3) % 256) ji32 ((x16_3 - x16_3) % 256) l0 (l0.length : Int) x48_2)) = some (r1, r2) := by first | (rw [hji32] at H; exact H) | (simp only [hji32] at H ⊢; exact H)
                                  have hji32_ : (IntKind.u8.wrap (x15_3 * 2 ^ min x16_3.toNat 8)) = ji32 := hji32
                                  have hji32z : x16_3 ≤ 8 → (IntKind.u8.wrap (x15_3 * 2 ^ x16_3.toNat)) = ji32 := shl_small hji32
                                  by_cases c33 : ((x13_3 + x16_3) % 256) = a2
                                  · rw [if_pos c33] at H
                                    have c33b0 : (((x13_3 + x16_3) % 256) == a2) = true := beq_iff_eq.mpr c33
                                    have c33b1 : (((x13_3 + x16_3) % 256) != a2) = false := bne_eq_false_iff_eq.mpr c33
                                    clear c33
                                    by_cases c34 : x11_3.length < 140737488355328
                                    · rw [if_pos c34] at H
                                      have LMc34 := Aside0.mk c34
                                      clear c34
                                      obtain ⟨y136, hy136⟩ : ∃ y_ : List Int, y_ = (x11_3 ++ [Go.bits .or .u8 (ji29) (ji30)]) := ⟨_, rfl⟩
                                      replace H : (bech32_ConvertBits.l1 k3 a1 a2 a3 y136 0 0 ji32 ((x16_3 - x16_3) % 256) l0 (l0.length : Int) x48_2) = some (r1, r2) := by first | (rw [hy136]; with_reducible exact H) | (have H2_ := (Option.bind_some _ _).symm.trans H; rw [hy136]; with_reducible exact H2_) | (have H2_ := (Option.bind_some _ _).symm.trans H; with_reducible exact H2_) | with_reducible exact H | (rw [hy136]; exact H) | exact H
                                      have Ny136 := Aside0.mk hy136
                                      clear hy136
                                      have H' := Aside0.mk H
                                      clear H
                                      go_wp2_with (first | ((with_reducible refine gate_builtin (b := .append) (xs := #[.tmp 87, .tmp 89]) rfl ?_); at_builtin; refine Kd.R_append (Kd.int .u8) (w0 := w) w.heap.size rfl (.tmp 87) (.tmp 89) 27 5 (.int .u8 0) 1 rfl Try.underlying27 info5 rfl (by decide) (by omega) u11 x11_3 (Go.bits .or .u8 (ji29) (ji30)) [.int .u8 (Go.bits .or .u8 (ji29) (ji30))] (fun _ => True) (fun _ => False) rfl rfl ?aP (fun _ hk => hk.elim) ?aF ?aO ?aB ?aS ?aL ?_; (case aP => exact rfl); (case aB => exact (by repeat (first | (with_reducible first | exact HB.out | apply below_alloc | apply pw_below_drewN | apply below_drew1) | exact HB.out))); (case aF => exact (fun _ _ => trivial)); (case aO => exact (by (with_reducible repeat (first | apply Kd.R_alloc | apply Kd.R_drewN | apply Kd.R_drew)); exact HO_11.out)); (case aS => exact (below_size (by repeat (first | (with_reducible first | exact HB.out | apply below_alloc | apply pw_below_drewN | apply below_drew1) | exact HB.out)))); (case aL => have := LMc34.out; omega); intro v137 w35 ho hb hg hat; rw [← Ny136.out] at ho; have n0_ := Aside0.mk (hb); have n1_ := Aside0.mk (ho); clear HB; clear HO_11; have HB := n0_; have HO138 := n1_; clear n0_ n1_; clear ho hb hg hat))
                                      go_roundg k3
                                      case measure => have := HJ4.out; have := HK2.out; have := HK3.out; omega
                                      case rel => exact ⟨(y136), (0), (0), (ji32), ((x16_3 - x16_3) % 256), (by first | rfl | (simp; done) | (simp [*]; done)), (by first | rfl | (simp; done) | (simp [*]; done)), (by first | rfl | (simp; done) | (simp only [← hji32] <;> (first | rfl | simp)) | (simp [*]; done)), (by first | rfl | (simp; done) | (simp [*]; done)), H', ⟨by have := HJ4.out; have := HK2.out; have := HK3.out; omega⟩, ⟨by (with_reducible repeat (first | apply Kd.R_alloc | apply Kd.R_drewN | apply Kd.R_drew)); exact HO138.out⟩, ⟨by repeat (first | (with_reducible first | exact HB.out | apply below_alloc | apply pw_below_drewN | apply below_drew1) | exact HB.out)⟩⟩
                                    · rw [if_neg c34] at H
                                      exact absurd H (by simp)
                                  · rw [if_neg c33] at H
                                    have c33b0 : (((x13_3 + x16_3) % 256) == a2) = false := beq_eq_false_iff_ne.mpr c33
                                    have c33b1 : (((x13_3 + x16_3) % 256) != a2) = true := bne_iff_ne.mpr c33
                                    have H' := Aside0.mk H
                                    clear H
                                    go_wp2
                                    go_roundg k3
                                    case measure => have := HJ4.out; have := HK2.out; have := HK3.out; omega
                                    case rel => exact ⟨(x11_3), (Go.bits .or .u8 (ji29) (ji30)), ((x13_3 + x16_3) % 256), (ji32), ((x16_3 - x16_3) % 256), (by first | rfl | (simp; done) | (simp only [← hji29, ← hji30] <;> (first | rfl | simp)) | (simp [*]; done)), (by first | rfl | (simp; done) | (simp [*]; done)), (by first | rfl | (simp; done) | (simp only [← hji32] <;> (first | rfl | simp)) | (simp [*]; done)), (by first | rfl | (simp; done) | (simp [*]; done)), H', ⟨by have := HJ4.out; have := HK2.out; have := HK3.out; omega⟩, ⟨by (with_reducible repeat (first | apply Kd.R_alloc | apply Kd.R_drewN | apply Kd.R_drew)); exact HO_11.out⟩, ⟨by repeat (first | (with_reducible first | exact HB.out | apply below_alloc | apply pw_below_drewN | apply below_drew1) | exact HB.out)⟩⟩
                                · rw [if_neg c28] at H
                                  exact absurd H (by simp)
                            · rw [if_neg c20] at H
                              have c20b0 : decide (0 < x16_3) = false := decide_eq_false c20
                              clear c20
                              have H' := Aside0.mk H
                              clear H
                              go_wp2
                              go_roundg k3
                              case measure => have := HJ4.out; have := HK2.out; have := HK3.out; omega
                              case rel => exact ⟨(x11_3), (x12_3), (x13_3), (wrap64 (x48_2 + 1)), (by first | rfl | (simp; done) | (simp [*]; done)), (by first | rfl | (simp; done) | (simp [*]; done)), (by first | rfl | (simp; done) | (simp [*]; done)), H', ⟨by have := HJ4.out; have := HK2.out; have := HK3.out; omega⟩, ⟨by (with_reducible repeat (first | apply Kd.R_alloc | apply Kd.R_drewN | apply Kd.R_drew)); exact HO_11.out⟩, ⟨by repeat (first | (with_reducible first | exact HB.out | apply below_alloc | apply pw_below_drewN | apply below_drew1) | exact HB.out)⟩⟩
                      · rw [if_neg c18] at H
                        exact absurd H (by simp)
                    · rw [if_neg c17] at H
                      exact absurd H (by simp)
                  · rw [if_neg c16] at H
                    have c16b0 : decide (x48_2 < (l0.length : Int)) = false := decide_eq_false c16
                    clear c16
                    have HC36 := Aside0.mk H
                    clear H
                    go_upto_region 26 with (fail)
                    go_cut [96] (fun v96 wc => ∃ (kq : Nat) (x96_35 : Bool), v96 = .bool x96_35 ∧ Aside0 (bech32_ConvertBits.j3 kq a2 x11_2 x12_2 x13_2 x96_35 = some (r1, r2)) ∧ Aside0 (kq ≤ k2) ∧ Aside0 (Kd.R (Kd.int .u8) 5 wc w.heap.size (fun _ => True) u11 x11_2) ∧ Aside0 (Below w.heap.size w wc))
                    case first =>
                      have H := HC36.out
                      clear HC36
                      by_cases c37 : a3 = true
                      · subst c37
                        have H1 : (bech32_ConvertBits.j3 k2 a2 x11_2 x12_2 x13_2 (decide (x13_2 > 0))) = some (r1, r2) := by rw [if_pos rfl] at H; exact H
                        clear H
                        have H := H1
                        clear H1
                        have H' := Aside0.mk H
                        clear H
                        go_wp2
                        go_meet
                        case rel => exact ⟨_, (decide (x13_2 > 0)), (by first | rfl | (simp; done) | (simp [*]; done)), H', ⟨by have := HJ4.out; have := HK2.out; first | omega | exact Nat.le_refl _⟩, ⟨by (with_reducible repeat (first | apply Kd.R_alloc | apply Kd.R_drewN | apply Kd.R_drew)); exact HO_11.out⟩, ⟨by repeat (first | (with_reducible first | exact HB.out | apply below_alloc | apply pw_below_drewN | apply below_drew1) | exact HB.out)⟩⟩
                      · replace c37 := Bool.eq_false_iff.mpr c37
                        subst c37
                        have H1 : (bech32_ConvertBits.j3 k2 a2 x11_2 x12_2 x13_2 false) = some (r1, r2) := by rw [if_neg (show ¬ (false = true) by decide)] at H; exact H
                        clear H
                        have H := H1
                        clear H1
                        have H' := Aside0.mk H
                        clear H
                        go_wp2
                        go_meet
                        case rel => exact ⟨_, (false), (by first | rfl | (simp; done) | (simp [*]; done)), H', ⟨by have := HJ4.out; have := HK2.out; first | omega | exact Nat.le_refl _⟩, ⟨by (with_reducible repeat (first | apply Kd.R_alloc | apply Kd.R_drewN | apply Kd.R_drew)); exact HO_11.out⟩, ⟨by repeat (first | (with_reducible first | exact HB.out | apply below_alloc | apply pw_below_drewN | apply below_drew1) | exact HB.out)⟩⟩
                    case rest =>
                      clear HC36
                      try clear c1
                      try clear p1
                      try clear q1
                      try clear hx1
                      try clear c2
                      try clear p2
                      try clear c3
                      try clear c6
                      try clear c6b0
                      try clear p6
                      try clear c7
                      try clear c7b0
                      try clear c8
                      try clear c8b0
                      try clear c9
                      try clear c10
                      try clear c10b0
                      try clear c10b1
                      try clear c12
                      try clear c12b0
                      try clear c12b1
                      try clear c13
                      try clear c13b0
                      try clear c13b1
                      try clear p13
                      try clear q13
                      try clear hx13
                      try clear c16
                      try clear c16b0
                      try clear c17
                      try clear c17b0
                      try clear c18
                      try clear c18b0
                      try clear c20
                      try clear c20b0
                      try clear c21
                      try clear c21b0
                      try clear c25
                      try clear c25b0
                      try clear c25b1
                      try clear c26
                      try clear c28
                      try clear c28b0
                      try clear c28b1
                      try clear c31
                      try clear c31b0
                      try clear c33
                      try clear c33b0
                      try clear c33b1
                      try clear c34
                      try clear c35
                      try clear c37
                      try clear hx132_0
                      try clear p1
                      try clear p13
                      try clear p132
                      try clear p2
                      try clear p6
                      try clear q1
                      try clear q13
                      try clear q132
                      obtain ⟨kq, x96_35, rfl, HA, HJ35, HO_11, HB⟩ := hcut
                      cases kq with
                      | zero => exact absurd HA.out (by simp [bech32_ConvertBits.j3])
                      | succ kj35 =>
                        have H := HA.out
                        clear HA
                        simp only [bech32_ConvertBits.j3] at H
                        by_cases c38 : x96_35 = true
                        · subst c38
                          have H1 : (if x11_2.length < 140737488355328 then (some ((x11_2 ++ [shl .u8 x12_2 ((a2 - x13_2) % 256)]), none)) else (none)) = some (r1, r2) := by rw [if_pos rfl] at H; exact H
                          clear H
                          have H := H1
                          clear H1
                          obtain ⟨ji39, hji39⟩ : ∃ j_ : Int, (shl .u8 x12_2 ((a2 - x13_2) % 256)) = j_ := ⟨_, rfl⟩
                          replace H : (if x11_2.length < 140737488355328 then (some ((x11_2 ++ [ji39]), none)) else (none)) = some (r1, r2) := by first | (rw [hji39] at H; exact H) | (simp only [hji39] at H ⊢; exact H)
                          have hji39_ : (IntKind.u8.wrap (x12_2 * 2 ^ min ((a2 - x13_2) % 256).toNat 8)) = ji39 := hji39
                          have hji39z : ((a2 - x13_2) % 256) ≤ 8 → (IntKind.u8.wrap (x12_2 * 2 ^ ((a2 - x13_2) % 256).toNat)) = ji39 := shl_small hji39
                          by_cases c40 : x11_2.length < 140737488355328
                          · rw [if_pos c40] at H
                            have LMc40 := Aside0.mk c40
                            clear c40
                            obtain ⟨y139, hy139⟩ : ∃ y_ : List Int, y_ = (x11_2 ++ [ji39]) := ⟨_, rfl⟩
                            replace H : (some (y139, none)) = some (r1, r2) := by first | (rw [hy139]; with_reducible exact H) | (have H2_ := (Option.bind_some _ _).symm.trans H; rw [hy139]; with_reducible exact H2_) | (have H2_ := (Option.bind_some _ _).symm.trans H; with_reducible exact H2_) | with_reducible exact H | (rw [hy139]; exact H) | exact H
                            have Ny139 := Aside0.mk hy139
                            clear hy139
                            simp only [Option.some.injEq, Prod.mk.injEq] at H
                            obtain ⟨rfl, rfl⟩ := H
                            go_wp2_with (first | ((with_reducible refine gate_builtin (b := .append) (xs := #[.tmp 102, .tmp 104]) rfl ?_); at_builtin; refine Kd.R_append (Kd.int .u8) (w0 := w) w.heap.size rfl (.tmp 102) (.tmp 104) 27 5 (.int .u8 0) 1 rfl Try.underlying27 info5 rfl (by decide) (by omega) u11 x11_2 ji39 [.int .u8 ji39] (fun _ => True) (fun _ => False) rfl rfl ?aP (fun _ hk => hk.elim) ?aF ?aO ?aB ?aS ?aL ?_; (case aP => exact rfl); (case aB => exact (by repeat (first | (with_reducible first | exact HB.out | apply below_alloc | apply pw_below_drewN | apply below_drew1) | exact HB.out))); (case aF => exact (fun _ _ => trivial)); (case aO => exact (by (with_reducible repeat (first | apply Kd.R_alloc | apply Kd.R_drewN | apply Kd.R_drew)); exact HO_11.out)); (case aS => exact (below_size (by repeat (first | (with_reducible first | exact HB.out | apply below_alloc | apply pw_below_drewN | apply below_drew1) | exact HB.out)))); (case aL => have := LMc40.out; omega); intro v140 w41 ho hb hg hat; rw [← Ny139.out] at ho; have n0_ := Aside0.mk (hb); have n1_ := Aside0.mk (ho); clear HB; clear HO_11; have HB := n0_; have HO141 := n1_; clear n0_ n1_; clear ho hb hg hat))
                            go_ret2
                            exact ⟨_, by first | rfl | (simp [errW_none, errW_some] <;> rfl) | (simp only [← hji11, ← hji39]; first | rfl | (simp [errW_none, errW_some] <;> rfl)) | (simp [*, errW_none, errW_some] <;> rfl), by (with_reducible repeat (first | apply Kd.R_alloc | apply Kd.R_drewN | apply Kd.R_drew)); exact HO141.out, by repeat (first | (with_reducible first | exact HB.out | apply below_alloc | apply pw_below_drewN | apply below_drew1) | exact HB.out)⟩
                          · rw [if_neg c40] at H
                            exact absurd H (by simp)
                        · replace c38 := Bool.eq_false_iff.mpr c38
                          subst c38
                          have H1 : (if x13_2 > 0 then (if x13_2 > 4 then (some (([] : List Int), some 107)) else (if x12_2 = 0 then (some (x11_2, none)) else (some (([] : List Int), some 107)))) else (some (x11_2, none))) = some (r1, r2) := by rw [if_neg (show ¬ (false = true) by decide)] at H; exact H
                          clear H
                          have H := H1
                          clear H1
                          by_cases c42 : x13_2 > 0
                          · rw [if_pos c42] at H
                            have c42b0 : decide (0 < x13_2) = true := decide_eq_true c42
                            clear c42
                            by_cases c43 : x13_2 > 4
                            · rw [if_pos c43] at H
                              have c43b0 : decide (4 < x13_2) = true := decide_eq_true c43
                              clear c43
                              simp only [Option.some.injEq, Prod.mk.injEq] at H
                              obtain ⟨rfl, rfl⟩ := H
                              go_wp2
                              go_ret2
                              exact ⟨_, by first | rfl | (simp [errW_none, errW_some] <;> rfl) | (simp only [← hji11]; first | rfl | (simp [errW_none, errW_some] <;> rfl)) | (simp [*, errW_none, errW_some] <;> rfl), by first | exact Kd.R_nil _ _ _ _ _ | exact Kd.N_nil _ _ _ _ _ | exact Kd.V_nil _ _ _ _ _ | exact Kd.Q_nil _ _ _ _ _ | exact Kd.S_nil _ _ _ _ _, by repeat (first | (with_reducible first | exact HB.out | apply below_alloc | apply pw_below_drewN | apply below_drew1) | exact HB.out)⟩
                            · rw [if_neg c43] at H
                              have c43b0 : decide (4 < x13_2) = false := decide_eq_false c43
                              clear c43
                              by_cases c44 : x12_2 = 0
                              · rw [if_pos c44] at H
                                have c44b0 : (x12_2 == 0) = true := beq_iff_eq.mpr c44
                                have c44b1 : (x12_2 != 0) = false := bne_eq_false_iff_eq.mpr c44
                                clear c44
                                simp only [Option.some.injEq, Prod.mk.injEq] at H
                                obtain ⟨rfl, rfl⟩ := H
                                go_wp2
                                go_ret2
                                exact ⟨_, by first | rfl | (simp [errW_none, errW_some] <;> rfl) | (simp only [← hji11]; first | rfl | (simp [errW_none, errW_some] <;> rfl)) | (simp [*, errW_none, errW_some] <;> rfl), by (with_reducible repeat (first | apply Kd.R_alloc | apply Kd.R_drewN | apply Kd.R_drew)); exact HO_11.out, by repeat (first | (with_reducible first | exact HB.out | apply below_alloc | apply pw_below_drewN | apply below_drew1) | exact HB.out)⟩
                              · rw [if_neg c44] at H
                                have c44b0 : (x12_2 == 0) = false := beq_eq_false_iff_ne.mpr c44
                                have c44b1 : (x12_2 != 0) = true := bne_iff_ne.mpr c44
                                simp only [Option.some.injEq, Prod.mk.injEq] at H
                                obtain ⟨rfl, rfl⟩ := H
                                go_wp2
                                go_ret2
                                exact ⟨_, by first | rfl | (simp [errW_none, errW_some] <;> rfl) | (simp only [← hji11]; first | rfl | (simp [errW_none, errW_some] <;> rfl)) | (simp [*, errW_none, errW_some] <;> rfl), by first | exact Kd.R_nil _ _ _ _ _ | exact Kd.N_nil _ _ _ _ _ | exact Kd.V_nil _ _ _ _ _ | exact Kd.Q_nil _ _ _ _ _ | exact Kd.S_nil _ _ _ _ _, by repeat (first | (with_reducible first | exact HB.out | apply below_alloc | apply pw_below_drewN | apply below_drew1) | exact HB.out)⟩
                          · rw [if_neg c42] at H
                            have c42b0 : decide (0 < x13_2) = false := decide_eq_false c42
                            clear c42
                            simp only [Option.some.injEq, Prod.mk.injEq] at H
                            obtain ⟨rfl, rfl⟩ := H
                            go_wp2
                            go_ret2
                            exact ⟨_, by first | rfl | (simp [errW_none, errW_some] <;> rfl) | (simp only [← hji11]; first | rfl | (simp [errW_none, errW_some] <;> rfl)) | (simp [*, errW_none, errW_some] <;> rfl), by (with_reducible repeat (first | apply Kd.R_alloc | apply Kd.R_drewN | apply Kd.R_drew)); exact HO_11.out, by repeat (first | (with_reducible first | exact HB.out | apply below_alloc | apply pw_below_drewN | apply below_drew1) | exact HB.out)⟩
            · rw [if_neg c13] at H
              exact absurd H (by simp)
          · rw [if_neg c12] at H
            exact absurd H (by simp)

/-! ### impl_Regroup: function 17 -/
def impl_Regroup.f (k : Nat) (l0 : List Int) (a1 : Int) (a2 : Int) (a3 : Bool) : Option (List Int × Int) := (impl_copied.f l0).bind fun t142 => ((bech32_ConvertBits.f k t142 a1 a2 a3).bind fun bt145 => (if bt145.2.isNone = true then ((impl_copied.f bt145.1).bind fun t150 => (some (t150, 0))) else (some (([] : List Int), 1))))
theorem impl_Regroup.mono : ∀ a0 a1 a2 a3 k, LeO (impl_Regroup.f k a0 a1 a2 a3) (impl_Regroup.f (k + 1) a0 a1 a2 a3) := by
  intro a0 a1 a2 a3 k
  unfold impl_Regroup.f
  repeat' first
      | (with_reducible exact bech32_ConvertBits.mono _ _ _ _ _)
      | (with_reducible exact LeO.refl _)
      | (with_reducible exact LeO.none _)
      | (with_reducible refine LeO.ite ?_ ?_)
      | (with_reducible refine LeO.bind ?_ (fun _ => ?_))
      | exact bech32_ConvertBits.mono _ _ _ _ _
      | exact LeO.none _
      | refine LeO.ite ?_ ?_
      | refine LeO.bind ?_ (fun _ => ?_)
set_option maxHeartbeats 8000000 in
set_option maxRecDepth 100000 in
theorem impl_Regroup.calls (k : Nat) (A0 : Option Addr) (c0 : Nat) (l0 : List Int) (a1 : Int) (a2 : Int) (a3 : Bool) (r1 : List Int) (r2 : Int) (w : World) (hr0 : Kd.C (Kd.int .u8) w A0 l0.length l0) (hc0 : l0.length ≤ c0) (h : impl_Regroup.f k l0 a1 a2 a3 = some (r1, r2)) :
    Calls Try.prog 17 #[.slice A0 l0.length c0, .int .u8 a1, .int .u8 a2, .bool a3] w fun e w' => ∃ v0_ : Value, e = .returned (.tuple #[v0_, .int .i64 r2]) ∧ Kd.R (Kd.int .u8) 5 w' w.heap.size (fun _ => True) v0_ r1 ∧ Below w.heap.size w w' := by
  have hu81 := Try.underlying81
  have hu107 := Try.underlying107
  have HR0 := Aside0.mk hr0
  have HC0 := Aside0.mk hc0
  clear hr0 hc0
  have HB := Aside0.mk (Below.refl w.heap.size w)
  have H : ((impl_copied.f l0).bind fun t142 => ((bech32_ConvertBits.f k t142 a1 a2 a3).bind fun bt145 => (if bt145.2.isNone = true then ((impl_copied.f bt145.1).bind fun t150 => (some (t150, 0))) else (some (([] : List Int), 1))))) = some (r1, r2) := h
  clear h
  replace H := Option.bind_eq_some_iff.mp H
  obtain ⟨t142, A50, H⟩ := H
  replace H : ((bech32_ConvertBits.f k t142 a1 a2 a3).bind fun bt145 => (if bt145.2.isNone = true then ((impl_copied.f bt145.1).bind fun t150 => (some (t150, 0))) else (some (([] : List Int), 1)))) = some (r1, r2) := H
  have A5 := Aside0.mk A50
  clear A50
  replace H := Option.bind_eq_some_iff.mp H
  obtain ⟨⟨t145, t146⟩, A60, H⟩ := H
  replace H : (if t146.isNone = true then ((impl_copied.f t145).bind fun t150 => (some (t150, 0))) else (some (([] : List Int), 1))) = some (r1, r2) := H
  have A6 := Aside0.mk A60
  clear A60
  rcases t146 with _ | q149
  · have H1 : ((impl_copied.f t145).bind fun t150 => (some (t150, 0))) = some (r1, r2) := by rw [if_pos (show (none : Option Int).isNone = true by rfl)] at H; exact H
    clear H
    have H := H1
    clear H1
    try simp only [errW_none, errW_some]
    replace H := Option.bind_eq_some_iff.mp H
    obtain ⟨t150, A70, H⟩ := H
    replace H : (some (t150, 0)) = some (r1, r2) := H
    have A7 := Aside0.mk A70
    clear A70
    simp only [Option.some.injEq, Prod.mk.injEq] at H
    obtain ⟨rfl, rfl⟩ := H
    go_enter Try.func17, Try.ntmps17
    go_wp2_with (first | ((with_reducible refine gate_callee (f := 30) rfl ?_); refine goesL_ (some 14) rfl rfl Try.func30 (by kernel_rfl) rfl #[.slice A0 l0.length c0] rfl (by (try simp only [List.map_toArray, List.map_cons, List.map_nil]); first | done | rfl | (simp only [List.length_drop, List.length_take]; rfl)) ?_; (with_reducible refine (impl_copied.calls _ _ l0 t142 _ ?side1 ?side2 A5.out).mono ?_); (case side1 => repeat (first | exact HR0.out | (with_reducible refine Kd.C_alloc ?_ _) | (with_reducible refine Kd.C_drewN ?_ _) | (with_reducible refine Kd.C_drew ?_))); (case side2 => exact HC0.out); rintro e w8 ⟨v143, rfl, ho0, hb⟩; refine ⟨_, rfl, ?_⟩; have n0_ := Aside0.mk (Kd.R_lower ho0 (below_size (by repeat (first | (with_reducible first | exact HB.out | apply below_alloc | apply pw_below_drewN | apply below_drew1) | exact HB.out)))); have n1_ := Aside0.mk (below_step (by repeat (first | (with_reducible first | exact HB.out | apply below_alloc | apply pw_below_drewN | apply below_drew1) | exact HB.out)) hb); clear HB; have HO144 := n0_; have HB := n1_; clear n0_ n1_; (try clear hb); (try clear hb2); (try clear hk); (try clear hi); (try clear ho0); obtain ⟨Ao9, co9, eo9⟩ := Kd.R_slice HO144.out; subst eo9) | ((with_reducible refine gate_callee (f := 35) rfl ?_); refine goesL_ (some 18) rfl rfl Try.func35 (by kernel_rfl) rfl #[.slice Ao9 t142.length co9, .int .u8 a1, .int .u8 a2, .bool a3] rfl (by (try simp only [List.map_toArray, List.map_cons, List.map_nil]); first | done | rfl | (simp only [List.length_drop, List.length_take]; rfl)) ?_; (with_reducible refine (bech32_ConvertBits.calls k _ _ t142 a1 a2 a3 t145 none _ ?side1 ?side2 A6.out).mono ?_); (case side1 => repeat (first | exact (Kd.R_reads' HO144.out).2.2 | (with_reducible refine Kd.C_alloc ?_ _) | (with_reducible refine Kd.C_drewN ?_ _) | (with_reducible refine Kd.C_drew ?_))); (case side2 => exact (Kd.R_reads' HO144.out).2.1); rintro e w10 ⟨v147, rfl, ho0, hb⟩; refine ⟨_, rfl, ?_⟩; have n0_ := Aside0.mk (Kd.R_elder' (by (with_reducible repeat (first | apply Kd.R_alloc | apply Kd.R_drewN | apply Kd.R_drew)); exact HO144.out) (Kd.R_base ho0) hb); have n1_ := Aside0.mk (Kd.R_lower (Kd.R_new' ho0 (Kd.R_lt (by (with_reducible repeat (first | apply Kd.R_alloc | apply Kd.R_drewN | apply Kd.R_drew)); exact HO144.out))) (below_size (by repeat (first | (with_reducible first | exact HB.out | apply below_alloc | apply pw_below_drewN | apply below_drew1) | exact HB.out)))); have n2_ := Aside0.mk (below_step (by repeat (first | (with_reducible first | exact HB.out | apply below_alloc | apply pw_below_drewN | apply below_drew1) | exact HB.out)) hb); clear HO144; clear HB; have HO144 := n0_; have HO148 := n1_; have HB := n2_; clear n0_ n1_ n2_; (try clear hb); (try clear hb2); (try clear hk); (try clear hi); (try clear ho0); (try simp only [errW_none, errW_some]); obtain ⟨Ao11, co11, eo11⟩ := Kd.R_slice HO148.out; subst eo11) | ((with_reducible refine gate_callee (f := 30) rfl ?_); refine goesL_ (some 24) rfl rfl Try.func30 (by kernel_rfl) rfl #[.slice Ao11 t145.length co11] rfl (by (try simp only [List.map_toArray, List.map_cons, List.map_nil]); first | done | rfl | (simp only [List.length_drop, List.length_take]; rfl)) ?_; (with_reducible refine (impl_copied.calls _ _ t145 t150 _ ?side1 ?side2 A7.out).mono ?_); (case side1 => repeat (first | exact (Kd.R_reads' HO148.out).2.2 | (with_reducible refine Kd.C_alloc ?_ _) | (with_reducible refine Kd.C_drewN ?_ _) | (with_reducible refine Kd.C_drew ?_))); (case side2 => exact (Kd.R_reads' HO148.out).2.1); rintro e w12 ⟨v151, rfl, ho0, hb⟩; refine ⟨_, rfl, ?_⟩; have n0_ := Aside0.mk (Kd.R_elder' (by (with_reducible repeat (first | apply Kd.R_alloc | apply Kd.R_drewN | apply Kd.R_drew)); exact HO144.out) (Kd.R_base ho0) hb); have n1_ := Aside0.mk (Kd.R_elder' (by (with_reducible repeat (first | apply Kd.R_alloc | apply Kd.R_drewN | apply Kd.R_drew)); exact HO148.out) (Kd.R_base ho0) hb); have n2_ := Aside0.mk (Kd.R_lower (Kd.R_new' (Kd.R_new' ho0 (Kd.R_lt (by (with_reducible repeat (first | apply Kd.R_alloc | apply Kd.R_drewN | apply Kd.R_drew)); exact HO144.out))) (Kd.R_lt (by (with_reducible repeat (first | apply Kd.R_alloc | apply Kd.R_drewN | apply Kd.R_drew)); exact HO148.out))) (below_size (by repeat (first | (with_reducible first | exact HB.out | apply below_alloc | apply pw_below_drewN | apply below_drew1) | exact HB.out)))); have n3_ := Aside0.mk (below_step (by repeat (first | (with_reducible first | exact HB.out | apply below_alloc | apply pw_below_drewN | apply below_drew1) | exact HB.out)) hb); clear HO144; clear HO148; clear HB; have HO144 := n0_; have HO148 := n1_; have HO152 := n2_; have HB := n3_; clear n0_ n1_ n2_ n3_; (try clear hb); (try clear hb2); (try clear hk); (try clear hi); (try clear ho0)))
    go_ret2
    exact ⟨_, by first | rfl | (simp [errW_none, errW_some] <;> rfl) | (simp [*, errW_none, errW_some] <;> rfl), by (with_reducible repeat (first | apply Kd.R_alloc | apply Kd.R_drewN | apply Kd.R_drew)); exact Kd.R_mono HO152.out (fun _ hk => trivial), by repeat (first | (with_reducible first | exact HB.out | apply below_alloc | apply pw_below_drewN | apply below_drew1) | exact HB.out)⟩
  · have H1 : (some (([] : List Int), 1)) = some (r1, r2) := by rw [if_neg (show ¬ (some q149).isNone = true by simp)] at H; exact H
    clear H
    have H := H1
    clear H1
    try simp only [errW_none, errW_some]
    simp only [Option.some.injEq, Prod.mk.injEq] at H
    obtain ⟨rfl, rfl⟩ := H
    go_enter Try.func17, Try.ntmps17
    go_wp2_with (first | ((with_reducible refine gate_callee (f := 30) rfl ?_); refine goesL_ (some 14) rfl rfl Try.func30 (by kernel_rfl) rfl #[.slice A0 l0.length c0] rfl (by (try simp only [List.map_toArray, List.map_cons, List.map_nil]); first | done | rfl | (simp only [List.length_drop, List.length_take]; rfl)) ?_; (with_reducible refine (impl_copied.calls _ _ l0 t142 _ ?side1 ?side2 A5.out).mono ?_); (case side1 => repeat (first | exact HR0.out | (with_reducible refine Kd.C_alloc ?_ _) | (with_reducible refine Kd.C_drewN ?_ _) | (with_reducible refine Kd.C_drew ?_))); (case side2 => exact HC0.out); rintro e w13 ⟨v143, rfl, ho0, hb⟩; refine ⟨_, rfl, ?_⟩; have n0_ := Aside0.mk (Kd.R_lower ho0 (below_size (by repeat (first | (with_reducible first | exact HB.out | apply below_alloc | apply pw_below_drewN | apply below_drew1) | exact HB.out)))); have n1_ := Aside0.mk (below_step (by repeat (first | (with_reducible first | exact HB.out | apply below_alloc | apply pw_below_drewN | apply below_drew1) | exact HB.out)) hb); clear HB; have HO144 := n0_; have HB := n1_; clear n0_ n1_; (try clear hb); (try clear hb2); (try clear hk); (try clear hi); (try clear ho0); obtain ⟨Ao14, co14, eo14⟩ := Kd.R_slice HO144.out; subst eo14) | ((with_reducible refine gate_callee (f := 35) rfl ?_); refine goesL_ (some 18) rfl rfl Try.func35 (by kernel_rfl) rfl #[.slice Ao14 t142.length co14, .int .u8 a1, .int .u8 a2, .bool a3] rfl (by (try simp only [List.map_toArray, List.map_cons, List.map_nil]); first | done | rfl | (simp only [List.length_drop, List.length_take]; rfl)) ?_; (with_reducible refine (bech32_ConvertBits.calls k _ _ t142 a1 a2 a3 t145 (some q149) _ ?side1 ?side2 A6.out).mono ?_); (case side1 => repeat (first | exact (Kd.R_reads' HO144.out).2.2 | (with_reducible refine Kd.C_alloc ?_ _) | (with_reducible refine Kd.C_drewN ?_ _) | (with_reducible refine Kd.C_drew ?_))); (case side2 => exact (Kd.R_reads' HO144.out).2.1); rintro e w15 ⟨v147, rfl, ho0, hb⟩; refine ⟨_, rfl, ?_⟩; have n0_ := Aside0.mk (Kd.R_elder' (by (with_reducible repeat (first | apply Kd.R_alloc | apply Kd.R_drewN | apply Kd.R_drew)); exact HO144.out) (Kd.R_base ho0) hb); have n1_ := Aside0.mk (Kd.R_lower (Kd.R_new' ho0 (Kd.R_lt (by (with_reducible repeat (first | apply Kd.R_alloc | apply Kd.R_drewN | apply Kd.R_drew)); exact HO144.out))) (below_size (by repeat (first | (with_reducible first | exact HB.out | apply below_alloc | apply pw_below_drewN | apply below_drew1) | exact HB.out)))); have n2_ := Aside0.mk (below_step (by repeat (first | (with_reducible first | exact HB.out | apply below_alloc | apply pw_below_drewN | apply below_drew1) | exact HB.out)) hb); clear HO144; clear HB; have HO144 := n0_; have HO148 := n1_; have HB := n2_; clear n0_ n1_ n2_; (try clear hb); (try clear hb2); (try clear hk); (try clear hi); (try clear ho0); (try simp only [errW_none, errW_some])))
    go_ret2
    exact ⟨_, by first | rfl | (simp [errW_none, errW_some] <;> rfl) | (simp [*, errW_none, errW_some] <;> rfl), by first | exact Kd.R_nil _ _ _ _ _ | exact Kd.N_nil _ _ _ _ _ | exact Kd.V_nil _ _ _ _ _ | exact Kd.Q_nil _ _ _ _ _ | exact Kd.S_nil _ _ _ _ _, by repeat (first | (with_reducible first | exact HB.out | apply below_alloc | apply pw_below_drewN | apply below_drew1) | exact HB.out)⟩

end Go.Proofs.Ytnbecklojmbbbaa.QFnRegroup
