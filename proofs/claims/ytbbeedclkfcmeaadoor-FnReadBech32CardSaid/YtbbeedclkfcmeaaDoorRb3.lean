/- Printed functions over contracts that were proved by hand. -/
import Derived.Test.YtbbeedclkfcmeaaDoorRb2
namespace Go.Proofs.YtbbeedclkfcmeaaDoor.KFnReadBech32
open Go.RowKit Go.Proofs.YtbbeedclkfcmeaaDoorW.PrintWords Go.Proofs.YtbbeedclkfcmeaaDoorW.PrintLast Go.Proofs.YtbbeedclkfcmeaaDoorW.PrintMore
attribute [local go_sem] nn_mod256 nn_mod65536 nn_mod32 max2_int min2_int max_two min_two max_three min_three max_four min_four   -- for this text's walks alone
set_option linter.unusedVariables false
set_option linter.unusedSimpArgs false
/-! ### spec_ReadBech32: function 4 -/
mutual
def spec_ReadBech32.j0 : Nat → ByteArray → List Int → Bool → Option (ByteArray × List Int × Int × Bool)
  | 0, _, _, _ => none
  | k + 1, x0, x5, x24 => if x24 = true then (some ((⟨#[]⟩ : ByteArray), ([] : List Int), 0, false)) else (spec_ReadBech32.l0 k x0 x5 (-1) 0)
def spec_ReadBech32.l0 : Nat → ByteArray → List Int → Int → Int → Option (ByteArray × List Int × Int × Bool)
  | 0, _, _, _, _ => none
  | k + 1, x0, x5, x8, x9 => if x9 < (x0.size : Int) then (if 0 ≤ x9 then (if (bt x0 x9) < 33 then (spec_ReadBech32.j2 k x0 x5 x8 x9 true) else (spec_ReadBech32.j2 k x0 x5 x8 x9 (decide ((bt x0 x9) > 126)))) else (none)) else (if x8 < 1 then (spec_ReadBech32.j3 k x0 x5 x8 true) else (spec_ReadBech32.j3 k x0 x5 x8 (decide ((wrap64 (x8 + 7)) > (x0.size : Int)))))
def spec_ReadBech32.j2 : Nat → ByteArray → List Int → Int → Int → Bool → Option (ByteArray × List Int × Int × Bool)
  | 0, _, _, _, _, _ => none
  | k + 1, x0, x5, x8, x9, x40 => if x40 = true then (some ((⟨#[]⟩ : ByteArray), ([] : List Int), 0, false)) else (if 0 ≤ x9 then (if x9 < (x0.size : Int) then (if (bt x0 x9) = 49 then (spec_ReadBech32.l0 k x0 x5 x9 (wrap64 (x9 + 1))) else (spec_ReadBech32.l0 k x0 x5 x8 (wrap64 (x9 + 1)))) else (none)) else (none))
def spec_ReadBech32.j3 : Nat → ByteArray → List Int → Int → Bool → Option (ByteArray × List Int × Int × Bool)
  | 0, _, _, _, _ => none
  | k + 1, x0, x5, x8, x54 => if x54 = true then (some ((⟨#[]⟩ : ByteArray), ([] : List Int), 0, false)) else ((spec_lower.f x0).bind fun t119 => (if 0 ≤ x8 then (if x8 ≤ (t119.size : Int) then (spec_ReadBech32.l1 k t119 (t119.extract 0 (x8 : Int).toNat) x5 (wrap64 (x8 + 1))) else (none)) else (none)))
def spec_ReadBech32.l1 : Nat → ByteArray → ByteArray → List Int → Int → Option (ByteArray × List Int × Int × Bool)
  | 0, _, _, _, _ => none
  | k + 1, x0, x4, x5, x10 => if x10 < (x0.size : Int) then (if 0 ≤ x10 then ((spec_place.f k (⟨#[113, 112, 122, 114, 121, 57, 120, 56, 103, 102, 50, 116, 118, 100, 119, 48, 115, 51, 106, 110, 53, 52, 107, 104, 99, 101, 54, 109, 117, 97, 55, 108]⟩ : ByteArray) (bt x0 x10)).bind fun t120 => (if t120 < 0 then (some ((⟨#[]⟩ : ByteArray), ([] : List Int), 0, false)) else (if x5.length < 140737488355328 then (spec_ReadBech32.l1 k x0 x4 (x5 ++ [(t120) % 256]) (wrap64 (x10 + 1))) else (none)))) else (none)) else ((spec_expand.f k x4).bind fun t124 => (if t124.length + x5.length < 140737488355328 then ((spec_polymod.f k (t124 ++ x5)).bind fun t130 => (if t130 = 1 then (if 0 ≤ (wrap64 ((x5.length : Int) - 6)) then (if (wrap64 ((x5.length : Int) - 6)) ≤ (x5.length : Int) then (some (x4, (x5.take ((wrap64 ((x5.length : Int) - 6)) : Int).toNat), t130, true)) else (none)) else (none)) else (if t130 = 734539939 then (if 0 ≤ (wrap64 ((x5.length : Int) - 6)) then (if (wrap64 ((x5.length : Int) - 6)) ≤ (x5.length : Int) then (some (x4, (x5.take ((wrap64 ((x5.length : Int) - 6)) : Int).toNat), t130, true)) else (none)) else (none)) else (some ((⟨#[]⟩ : ByteArray), ([] : List Int), 0, false))))) else (none)))
end
def spec_ReadBech32.f (k : Nat) (a0 : ByteArray) (a1 : Int) : Option (ByteArray × List Int × Int × Bool) := if (a0.size : Int) < 8 then (spec_ReadBech32.j0 k a0 ([] : List Int) true) else (if (a0.size : Int) > a1 then (spec_ReadBech32.j0 k a0 ([] : List Int) true) else ((spec_mixed.f k a0).bind fun t118 => (spec_ReadBech32.j0 k a0 ([] : List Int) t118)))
theorem spec_ReadBech32.mono_l : ∀ k, (∀ y0 y1 y2, LeO (spec_ReadBech32.j0 k y0 y1 y2) (spec_ReadBech32.j0 (k + 1) y0 y1 y2)) ∧ (∀ y0 y1 y2 y3, LeO (spec_ReadBech32.l0 k y0 y1 y2 y3) (spec_ReadBech32.l0 (k + 1) y0 y1 y2 y3)) ∧ (∀ y0 y1 y2 y3 y4, LeO (spec_ReadBech32.j2 k y0 y1 y2 y3 y4) (spec_ReadBech32.j2 (k + 1) y0 y1 y2 y3 y4)) ∧ (∀ y0 y1 y2 y3, LeO (spec_ReadBech32.j3 k y0 y1 y2 y3) (spec_ReadBech32.j3 (k + 1) y0 y1 y2 y3)) ∧ (∀ y0 y1 y2 y3, LeO (spec_ReadBech32.l1 k y0 y1 y2 y3) (spec_ReadBech32.l1 (k + 1) y0 y1 y2 y3))
  | 0 => ⟨fun _ _ _ r h => by simp [spec_ReadBech32.j0] at h, fun _ _ _ _ r h => by simp [spec_ReadBech32.l0] at h, fun _ _ _ _ _ r h => by simp [spec_ReadBech32.j2] at h, fun _ _ _ _ r h => by simp [spec_ReadBech32.j3] at h, fun _ _ _ _ r h => by simp [spec_ReadBech32.l1] at h⟩
  | k + 1 => by
    obtain ⟨ih0, ih1, ih2, ih3, ih4⟩ := spec_ReadBech32.mono_l k
    refine ⟨?_, ?_, ?_, ?_, ?_⟩
    · intro y0 y1 y2
      unfold spec_ReadBech32.j0
      repeat' first
      | (with_reducible exact ih0 _ _ _)
      | (with_reducible exact ih1 _ _ _ _)
      | (with_reducible exact ih2 _ _ _ _ _)
      | (with_reducible exact ih3 _ _ _ _)
      | (with_reducible exact ih4 _ _ _ _)
      | (with_reducible exact spec_expand.mono _ _)
      | (with_reducible exact spec_mixed.mono _ _)
      | (with_reducible exact spec_place.mono _ _ _)
      | (with_reducible exact spec_polymod.mono _ _)
      | (with_reducible exact LeO.refl _)
      | (with_reducible exact LeO.none _)
      | (with_reducible refine LeO.ite ?_ ?_)
      | (with_reducible refine LeO.bind ?_ (fun _ => ?_))
      | exact ih0 _ _ _
      | exact ih1 _ _ _ _
      | exact ih2 _ _ _ _ _
      | exact ih3 _ _ _ _
      | exact ih4 _ _ _ _
      | exact spec_expand.mono _ _
      | exact spec_mixed.mono _ _
      | exact spec_place.mono _ _ _
      | exact spec_polymod.mono _ _
      | exact LeO.none _
      | refine LeO.ite ?_ ?_
      | refine LeO.bind ?_ (fun _ => ?_)
    · intro y0 y1 y2 y3
      unfold spec_ReadBech32.l0
      repeat' first
      | (with_reducible exact ih0 _ _ _)
      | (with_reducible exact ih1 _ _ _ _)
      | (with_reducible exact ih2 _ _ _ _ _)
      | (with_reducible exact ih3 _ _ _ _)
      | (with_reducible exact ih4 _ _ _ _)
      | (with_reducible exact spec_expand.mono _ _)
      | (with_reducible exact spec_mixed.mono _ _)
      | (with_reducible exact spec_place.mono _ _ _)
      | (with_reducible exact spec_polymod.mono _ _)
      | (with_reducible exact LeO.refl _)
      | (with_reducible exact LeO.none _)
      | (with_reducible refine LeO.ite ?_ ?_)
      | (with_reducible refine LeO.bind ?_ (fun _ => ?_))
      | exact ih0 _ _ _
      | exact ih1 _ _ _ _
      | exact ih2 _ _ _ _ _
      | exact ih3 _ _ _ _
      | exact ih4 _ _ _ _
      | exact spec_expand.mono _ _
      | exact spec_mixed.mono _ _
      | exact spec_place.mono _ _ _
      | exact spec_polymod.mono _ _
      | exact LeO.none _
      | refine LeO.ite ?_ ?_
      | refine LeO.bind ?_ (fun _ => ?_)
    · intro y0 y1 y2 y3 y4
      unfold spec_ReadBech32.j2
      repeat' first
      | (with_reducible exact ih0 _ _ _)
      | (with_reducible exact ih1 _ _ _ _)
      | (with_reducible exact ih2 _ _ _ _ _)
      | (with_reducible exact ih3 _ _ _ _)
      | (with_reducible exact ih4 _ _ _ _)
      | (with_reducible exact spec_expand.mono _ _)
      | (with_reducible exact spec_mixed.mono _ _)
      | (with_reducible exact spec_place.mono _ _ _)
      | (with_reducible exact spec_polymod.mono _ _)
      | (with_reducible exact LeO.refl _)
      | (with_reducible exact LeO.none _)
      | (with_reducible refine LeO.ite ?_ ?_)
      | (with_reducible refine LeO.bind ?_ (fun _ => ?_))
      | exact ih0 _ _ _
      | exact ih1 _ _ _ _
      | exact ih2 _ _ _ _ _
      | exact ih3 _ _ _ _
      | exact ih4 _ _ _ _
      | exact spec_expand.mono _ _
      | exact spec_mixed.mono _ _
      | exact spec_place.mono _ _ _
      | exact spec_polymod.mono _ _
      | exact LeO.none _
      | refine LeO.ite ?_ ?_
      | refine LeO.bind ?_ (fun _ => ?_)
    · intro y0 y1 y2 y3
      unfold spec_ReadBech32.j3
      repeat' first
      | (with_reducible exact ih0 _ _ _)
      | (with_reducible exact ih1 _ _ _ _)
      | (with_reducible exact ih2 _ _ _ _ _)
      | (with_reducible exact ih3 _ _ _ _)
      | (with_reducible exact ih4 _ _ _ _)
      | (with_reducible exact spec_expand.mono _ _)
      | (with_reducible exact spec_mixed.mono _ _)
      | (with_reducible exact spec_place.mono _ _ _)
      | (with_reducible exact spec_polymod.mono _ _)
      | (with_reducible exact LeO.refl _)
      | (with_reducible exact LeO.none _)
      | (with_reducible refine LeO.ite ?_ ?_)
      | (with_reducible refine LeO.bind ?_ (fun _ => ?_))
      | exact ih0 _ _ _
      | exact ih1 _ _ _ _
      | exact ih2 _ _ _ _ _
      | exact ih3 _ _ _ _
      | exact ih4 _ _ _ _
      | exact spec_expand.mono _ _
      | exact spec_mixed.mono _ _
      | exact spec_place.mono _ _ _
      | exact spec_polymod.mono _ _
      | exact LeO.none _
      | refine LeO.ite ?_ ?_
      | refine LeO.bind ?_ (fun _ => ?_)
    · intro y0 y1 y2 y3
      unfold spec_ReadBech32.l1
      repeat' first
      | (with_reducible exact ih0 _ _ _)
      | (with_reducible exact ih1 _ _ _ _)
      | (with_reducible exact ih2 _ _ _ _ _)
      | (with_reducible exact ih3 _ _ _ _)
      | (with_reducible exact ih4 _ _ _ _)
      | (with_reducible exact spec_expand.mono _ _)
      | (with_reducible exact spec_mixed.mono _ _)
      | (with_reducible exact spec_place.mono _ _ _)
      | (with_reducible exact spec_polymod.mono _ _)
      | (with_reducible exact LeO.refl _)
      | (with_reducible exact LeO.none _)
      | (with_reducible refine LeO.ite ?_ ?_)
      | (with_reducible refine LeO.bind ?_ (fun _ => ?_))
      | exact ih0 _ _ _
      | exact ih1 _ _ _ _
      | exact ih2 _ _ _ _ _
      | exact ih3 _ _ _ _
      | exact ih4 _ _ _ _
      | exact spec_expand.mono _ _
      | exact spec_mixed.mono _ _
      | exact spec_place.mono _ _ _
      | exact spec_polymod.mono _ _
      | exact LeO.none _
      | refine LeO.ite ?_ ?_
      | refine LeO.bind ?_ (fun _ => ?_)
theorem spec_ReadBech32.mono : ∀ a0 a1 k, LeO (spec_ReadBech32.f k a0 a1) (spec_ReadBech32.f (k + 1) a0 a1) := by
  intro a0 a1 k
  obtain ⟨ih0, ih1, ih2, ih3, ih4⟩ := spec_ReadBech32.mono_l k
  unfold spec_ReadBech32.f
  repeat' first
      | (with_reducible exact ih0 _ _ _)
      | (with_reducible exact ih1 _ _ _ _)
      | (with_reducible exact ih2 _ _ _ _ _)
      | (with_reducible exact ih3 _ _ _ _)
      | (with_reducible exact ih4 _ _ _ _)
      | (with_reducible exact spec_expand.mono _ _)
      | (with_reducible exact spec_mixed.mono _ _)
      | (with_reducible exact spec_place.mono _ _ _)
      | (with_reducible exact spec_polymod.mono _ _)
      | (with_reducible exact LeO.refl _)
      | (with_reducible exact LeO.none _)
      | (with_reducible refine LeO.ite ?_ ?_)
      | (with_reducible refine LeO.bind ?_ (fun _ => ?_))
      | exact ih0 _ _ _
      | exact ih1 _ _ _ _
      | exact ih2 _ _ _ _ _
      | exact ih3 _ _ _ _
      | exact ih4 _ _ _ _
      | exact spec_expand.mono _ _
      | exact spec_mixed.mono _ _
      | exact spec_place.mono _ _ _
      | exact spec_polymod.mono _ _
      | exact LeO.none _
      | refine LeO.ite ?_ ?_
      | refine LeO.bind ?_ (fun _ => ?_)
set_option maxHeartbeats 8000000 in
set_option maxRecDepth 100000 in
theorem spec_ReadBech32.calls (k : Nat) (a0 : ByteArray) (a1 : Int) (r1 : ByteArray) (r2 : List Int) (r3 : Int) (r4 : Bool) (w : World) (h : spec_ReadBech32.f k a0 a1 = some (r1, r2, r3, r4)) :
    Calls Tryd.prog 4 #[.string a0, .int .i64 a1] w fun e w' => ∃ v1_ : Value, e = .returned (.tuple #[.string r1, v1_, .int .u32 r3, .bool r4]) ∧ Kd.R (Kd.int .u8) 5 w' w.heap.size (fun _ => True) v1_ r2 ∧ Below w.heap.size w w' := by
  have HB := Aside0.mk (Below.refl w.heap.size w)
  have H : (if (a0.size : Int) < 8 then (spec_ReadBech32.j0 k a0 ([] : List Int) true) else (if (a0.size : Int) > a1 then (spec_ReadBech32.j0 k a0 ([] : List Int) true) else ((spec_mixed.f k a0).bind fun t118 => (spec_ReadBech32.j0 k a0 ([] : List Int) t118)))) = some (r1, r2, r3, r4) := h
  clear h
  have HC3 := Aside0.mk H
  clear H
  go_enter Tryd.func4, Tryd.ntmps4
  go_upto_region 1 with (fail)
  repeat (go_quiet (fail); go_upto_region 1 with (fail))
  go_cut [24] (fun v24 wc => ∃ (kq : Nat) (x24_2 : Bool), v24 = .bool x24_2 ∧ Aside0 (spec_ReadBech32.j0 kq a0 ([] : List Int) x24_2 = some (r1, r2, r3, r4)) ∧ Aside0 (kq ≤ k) ∧ Aside0 (Kd.R (Kd.int .u8) 5 wc w.heap.size (fun _ => True) (.slice none 0 0) ([] : List Int)) ∧ Aside0 (Below w.heap.size w wc))
  case first =>
    have H := HC3.out
    clear HC3
    by_cases c4 : (a0.size : Int) < 8
    · rw [if_pos c4] at H
      have c4b0 : decide ((a0.size : Int) < 8) = true := decide_eq_true c4
      have c4b1 : decide (a0.size < 8) = true := decide_eq_true (by omega)
      clear c4
      (first | rw [c4b0] | (simp only [i64_w, i32_w]; rw [c4b0]) | skip)
      have H' := Aside0.mk H
      clear H
      go_wp2
      repeat (go_quiet (fail); try go_wp2)
      go_meet
      case rel => exact ⟨_, (true), (by first | rfl | (simp; done) | (simp [*]; done)), (by first | exact H' | (subst_vars; exact H')), ⟨by first | omega | exact Nat.le_refl _⟩, ⟨by first | exact Kd.R_nil _ _ _ _ _ | exact Kd.N_nil _ _ _ _ _ | exact Kd.V_nil _ _ _ _ _ | exact Kd.Q_nil _ _ _ _ _ | exact Kd.S_nil _ _ _ _ _⟩, ⟨by repeat (first | (with_reducible first | exact HB.out | apply below_alloc | apply pw_below_drewN | apply below_drew1) | exact HB.out)⟩⟩
    · rw [if_neg c4] at H
      have c4b0 : decide ((a0.size : Int) < 8) = false := decide_eq_false c4
      have c4b1 : decide (a0.size < 8) = false := decide_eq_false (by omega)
      clear c4
      (first | rw [c4b0] | (simp only [i64_w, i32_w]; rw [c4b0]) | skip)
      by_cases c5 : (a0.size : Int) > a1
      · rw [if_pos c5] at H
        have c5b0 : decide (a1 < (a0.size : Int)) = true := decide_eq_true c5
        clear c5
        have H' := Aside0.mk H
        clear H
        go_wp2
        repeat (go_quiet (fail); try go_wp2)
        go_meet
        case rel => exact ⟨_, (true), (by first | rfl | (simp; done) | (simp [*]; done)), (by first | exact H' | (subst_vars; exact H')), ⟨by first | omega | exact Nat.le_refl _⟩, ⟨by first | exact Kd.R_nil _ _ _ _ _ | exact Kd.N_nil _ _ _ _ _ | exact Kd.V_nil _ _ _ _ _ | exact Kd.Q_nil _ _ _ _ _ | exact Kd.S_nil _ _ _ _ _⟩, ⟨by repeat (first | (with_reducible first | exact HB.out | apply below_alloc | apply pw_below_drewN | apply below_drew1) | exact HB.out)⟩⟩
      · rw [if_neg c5] at H
        have c5b0 : decide (a1 < (a0.size : Int)) = false := decide_eq_false c5
        clear c5
        replace H := Option.bind_eq_some_iff.mp H
        obtain ⟨t118, A60, H⟩ := H
        replace H : (spec_ReadBech32.j0 k a0 ([] : List Int) t118) = some (r1, r2, r3, r4) := H
        have A6 := Aside0.mk A60
        clear A60
        have H' := Aside0.mk H
        clear H
        go_wp2_with (first | (go_at_call 7; (with_reducible refine (spec_mixed.calls k a0 t118 _ A6.out).mono ?_); rintro e w' ⟨rfl, ⟨nd, rfl⟩⟩; (try first | exact ⟨rfl, _, World.drewN_drewN _ _ _⟩ | exact ⟨rfl, _, Eq.trans (World.drewN_drewN _ _ _) (congrArg (World.drewN _) (Nat.add_assoc _ _ _))⟩)))
        repeat (go_quiet (first | (go_at_call 7; (with_reducible refine (spec_mixed.calls k a0 t118 _ A6.out).mono ?_); rintro e w' ⟨rfl, ⟨nd, rfl⟩⟩; (try first | exact ⟨rfl, _, World.drewN_drewN _ _ _⟩ | exact ⟨rfl, _, Eq.trans (World.drewN_drewN _ _ _) (congrArg (World.drewN _) (Nat.add_assoc _ _ _))⟩))); try go_wp2_with (first | (go_at_call 7; (with_reducible refine (spec_mixed.calls k a0 t118 _ A6.out).mono ?_); rintro e w' ⟨rfl, ⟨nd, rfl⟩⟩; (try first | exact ⟨rfl, _, World.drewN_drewN _ _ _⟩ | exact ⟨rfl, _, Eq.trans (World.drewN_drewN _ _ _) (congrArg (World.drewN _) (Nat.add_assoc _ _ _))⟩))))
        go_meet
        case rel => exact ⟨_, (t118), (by first | rfl | (simp; done) | (simp [*]; done)), (by first | exact H' | (subst_vars; exact H')), ⟨by first | omega | exact Nat.le_refl _⟩, ⟨by first | exact Kd.R_nil _ _ _ _ _ | exact Kd.N_nil _ _ _ _ _ | exact Kd.V_nil _ _ _ _ _ | exact Kd.Q_nil _ _ _ _ _ | exact Kd.S_nil _ _ _ _ _⟩, ⟨by repeat (first | (with_reducible first | exact HB.out | apply below_alloc | apply pw_below_drewN | apply below_drew1) | exact HB.out)⟩⟩
  case rest =>
    clear HC3
    try clear p2
    try clear c4
    try clear c4b0
    try clear c4b1
    try clear c5
    try clear c5b0
    obtain ⟨kq, x24_2, rfl, HA, HJ2, HO_5, HB⟩ := hcut
    cases kq with
    | zero => exact absurd HA.out (by simp [spec_ReadBech32.j0])
    | succ kj2 =>
      have H := HA.out
      clear HA
      simp only [spec_ReadBech32.j0] at H
      by_cases c7 : x24_2 = true
      · subst c7
        have H1 : (some ((⟨#[]⟩ : ByteArray), ([] : List Int), 0, false)) = some (r1, r2, r3, r4) := by rw [if_pos rfl] at H; exact H
        clear H
        have H := H1
        clear H1
        simp only [Option.some.injEq, Prod.mk.injEq] at H
        obtain ⟨rfl, rfl, rfl, rfl⟩ := H
        go_wp2
        repeat (go_quiet (fail); try go_wp2)
        refine bodyPost_ret (results_list (rs := [.tmp 4, .tmp 5, .tmp 6, .tmp 7]) rfl (by simp) (.tmp (.tmp (.tmp (.tmp .nil))))) rfl ?_
        exact ⟨_, by first | rfl | (simp [errW_none, errW_some] <;> rfl) | (simp [*, errW_none, errW_some] <;> rfl), by first | exact Kd.R_nil _ _ _ _ _ | exact Kd.N_nil _ _ _ _ _ | exact Kd.V_nil _ _ _ _ _ | exact Kd.Q_nil _ _ _ _ _ | exact Kd.S_nil _ _ _ _ _, by repeat (first | (with_reducible first | exact HB.out | apply below_alloc | apply pw_below_drewN | apply below_drew1) | exact HB.out)⟩
      · replace c7 := Bool.eq_false_iff.mpr c7
        subst c7
        have H1 : (spec_ReadBech32.l0 kj2 a0 ([] : List Int) (-1) 0) = some (r1, r2, r3, r4) := by rw [if_neg (show ¬ (false = true) by decide)] at H; exact H
        clear H
        have H := H1
        clear H1
        have H' := Aside0.mk H
        clear H
        go_wp2
        repeat (go_quiet (fail); try go_wp2)
        go_loopg [5, 8, 9] kj2 (fun kq v5 v8 v9 w' => ∃ (x5_2 : List Int) (x8_2 : Int) (x9_2 : Int), v8 = .int .i64 x8_2 ∧ v9 = .int .i64 x9_2 ∧ Aside0 (spec_ReadBech32.l0 kq a0 x5_2 x8_2 x9_2 = some (r1, r2, r3, r4)) ∧ Aside0 (kq ≤ kj2) ∧ Aside0 (Kd.R (Kd.int .u8) 5 w' w.heap.size (fun _ => True) v5 x5_2) ∧ Aside0 (Below w.heap.size w w'))
        case atStart => exact ⟨(([] : List Int)), ((-1)), (0), (by first | rfl | (simp; done) | (simp [*]; done)), (by first | rfl | (simp; done) | (simp [*]; done)), H', ⟨Nat.le_refl _⟩, ⟨by (with_reducible repeat (first | apply Kd.R_alloc | apply Kd.R_drewN | apply Kd.R_drew)); exact HO_5.out⟩, ⟨by repeat (first | (with_reducible first | exact HB.out | apply below_alloc | apply pw_below_drewN | apply below_drew1) | exact HB.out)⟩⟩
        case round =>
          clear H'
          try clear p2
          try clear c4
          try clear c4b0
          try clear c4b1
          try clear c5
          try clear c5b0
          try clear c7
          try clear p2
          obtain ⟨x5_2, x8_2, x9_2, rfl, rfl, HA, HK2, HO_5, HB⟩ := hrel
          cases gk with
          | zero => exact absurd HA.out (by simp [spec_ReadBech32.l0])
          | succ k2 =>
            have H := HA.out
            clear HA
            simp only [spec_ReadBech32.l0] at H
            by_cases c8 : x9_2 < (a0.size : Int)
            · rw [if_pos c8] at H
              have c8b0 : decide (x9_2 < (a0.size : Int)) = true := decide_eq_true c8
              clear c8
              have HC9 := Aside0.mk H
              clear H
              go_upto_region 7 with (fail)
              repeat (go_quiet (fail); go_upto_region 7 with (fail))
              go_cut [40] (fun v40 wc => ∃ (kq : Nat) (x40_8 : Bool), v40 = .bool x40_8 ∧ Aside0 (spec_ReadBech32.j2 kq a0 x5_2 x8_2 x9_2 x40_8 = some (r1, r2, r3, r4)) ∧ Aside0 (kq ≤ k2) ∧ Aside0 (Kd.R (Kd.int .u8) 5 wc w.heap.size (fun _ => True) u5 x5_2) ∧ Aside0 (Below w.heap.size w wc))
              case first =>
                have H := HC9.out
                clear HC9
                by_cases c10 : 0 ≤ x9_2
                · rw [if_pos c10] at H
                  have c10b0 : decide (0 ≤ x9_2) = true := decide_eq_true c10
                  clear c10
                  (first | rw [c10b0] | (simp only [i64_w, i32_w]; rw [c10b0]) | skip)
                  by_cases c12 : (bt a0 x9_2) < 33
                  · rw [if_pos c12] at H
                    have c12b0 : decide ((bt a0 x9_2) < 33) = true := decide_eq_true c12
                    clear c12
                    have H' := Aside0.mk H
                    clear H
                    have p11 : 0 ≤ (x9_2 : Int) := of_decide_eq_true (by first | (with_reducible assumption) | assumption)
                    have q11 : x9_2 < (a0.size : Int) := of_decide_eq_true (by first | (with_reducible assumption) | assumption)
                    have hx11 := bt_at a0 x9_2
                    replace p11 := eq_true p11
                    replace q11 := eq_true q11
                    go_wp2
                    repeat (go_quiet (fail); try go_wp2)
                    go_meet
                    case rel => exact ⟨_, (true), (by first | rfl | (simp; done) | (simp [*]; done)), (by first | exact H' | (subst_vars; exact H')), ⟨by have := HJ2.out; have := HK2.out; first | omega | exact Nat.le_refl _⟩, ⟨by (with_reducible repeat (first | apply Kd.R_alloc | apply Kd.R_drewN | apply Kd.R_drew)); exact HO_5.out⟩, ⟨by repeat (first | (with_reducible first | exact HB.out | apply below_alloc | apply pw_below_drewN | apply below_drew1) | exact HB.out)⟩⟩
                  · rw [if_neg c12] at H
                    have c12b0 : decide ((bt a0 x9_2) < 33) = false := decide_eq_false c12
                    clear c12
                    have H' := Aside0.mk H
                    clear H
                    have p11 : 0 ≤ (x9_2 : Int) := of_decide_eq_true (by first | (with_reducible assumption) | assumption)
                    have q11 : x9_2 < (a0.size : Int) := of_decide_eq_true (by first | (with_reducible assumption) | assumption)
                    have hx11 := bt_at a0 x9_2
                    replace p11 := eq_true p11
                    replace q11 := eq_true q11
                    have p13 : 0 ≤ (x9_2 : Int) := of_decide_eq_true (by first | (with_reducible assumption) | assumption)
                    have q13 : x9_2 < (a0.size : Int) := of_decide_eq_true (by first | (with_reducible assumption) | assumption)
                    have hx13 := bt_at a0 x9_2
                    replace p13 := eq_true p13
                    replace q13 := eq_true q13
                    go_wp2
                    repeat (go_quiet (fail); try go_wp2)
                    go_meet
                    case rel => exact ⟨_, (decide ((bt a0 x9_2) > 126)), (by first | rfl | (simp; done) | (simp [*]; done)), (by first | exact H' | (subst_vars; exact H')), ⟨by have := HJ2.out; have := HK2.out; first | omega | exact Nat.le_refl _⟩, ⟨by (with_reducible repeat (first | apply Kd.R_alloc | apply Kd.R_drewN | apply Kd.R_drew)); exact HO_5.out⟩, ⟨by repeat (first | (with_reducible first | exact HB.out | apply below_alloc | apply pw_below_drewN | apply below_drew1) | exact HB.out)⟩⟩
                · rw [if_neg c10] at H
                  exact absurd H (by simp)
              case rest =>
                clear HC9
                try clear c1
                try clear p1
                try clear q1
                try clear hx1
                try clear p2
                try clear c4
                try clear c4b0
                try clear c4b1
                try clear c5
                try clear c5b0
                try clear c7
                try clear c8
                try clear c8b0
                try clear c10
                try clear c10b0
                try clear p11
                try clear q11
                try clear hx11
                try clear c12
                try clear c12b0
                try clear p13
                try clear q13
                try clear hx13
                try clear p11
                try clear p13
                try clear p2
                try clear q11
                try clear q13
                obtain ⟨kq, x40_8, rfl, HA, HJ8, HO_5, HB⟩ := hcut
                cases kq with
                | zero => exact absurd HA.out (by simp [spec_ReadBech32.j2])
                | succ kj8 =>
                  have H := HA.out
                  clear HA
                  simp only [spec_ReadBech32.j2] at H
                  by_cases c14 : x40_8 = true
                  · subst c14
                    have H1 : (some ((⟨#[]⟩ : ByteArray), ([] : List Int), 0, false)) = some (r1, r2, r3, r4) := by rw [if_pos rfl] at H; exact H
                    clear H
                    have H := H1
                    clear H1
                    simp only [Option.some.injEq, Prod.mk.injEq] at H
                    obtain ⟨rfl, rfl, rfl, rfl⟩ := H
                    go_wp2
                    repeat (go_quiet (fail); try go_wp2)
                    refine bodyPost_ret (results_list (rs := [.tmp 4, .tmp 5, .tmp 6, .tmp 7]) rfl (by simp) (.tmp (.tmp (.tmp (.tmp .nil))))) rfl ?_
                    exact ⟨_, by first | rfl | (simp [errW_none, errW_some] <;> rfl) | (simp [*, errW_none, errW_some] <;> rfl), by first | exact Kd.R_nil _ _ _ _ _ | exact Kd.N_nil _ _ _ _ _ | exact Kd.V_nil _ _ _ _ _ | exact Kd.Q_nil _ _ _ _ _ | exact Kd.S_nil _ _ _ _ _, by repeat (first | (with_reducible first | exact HB.out | apply below_alloc | apply pw_below_drewN | apply below_drew1) | exact HB.out)⟩
                  · replace c14 := Bool.eq_false_iff.mpr c14
                    subst c14
                    have H1 : (if 0 ≤ x9_2 then (if x9_2 < (a0.size : Int) then (if (bt a0 x9_2) = 49 then (spec_ReadBech32.l0 kj8 a0 x5_2 x9_2 (wrap64 (x9_2 + 1))) else (spec_ReadBech32.l0 kj8 a0 x5_2 x8_2 (wrap64 (x9_2 + 1)))) else (none)) else (none)) = some (r1, r2, r3, r4) := by rw [if_neg (show ¬ (false = true) by decide)] at H; exact H
                    clear H
                    have H := H1
                    clear H1
                    by_cases c15 : 0 ≤ x9_2
                    · rw [if_pos c15] at H
                      have c15b0 : decide (0 ≤ x9_2) = true := decide_eq_true c15
                      clear c15
                      by_cases c16 : x9_2 < (a0.size : Int)
                      · rw [if_pos c16] at H
                        have c16b0 : decide (x9_2 < (a0.size : Int)) = true := decide_eq_true c16
                        clear c16
                        by_cases c18 : (bt a0 x9_2) = 49
                        · rw [if_pos c18] at H
                          have c18b0 : ((bt a0 x9_2) == 49) = true := beq_iff_eq.mpr c18
                          have c18b1 : ((bt a0 x9_2) != 49) = false := bne_eq_false_iff_eq.mpr c18
                          clear c18
                          have H' := Aside0.mk H
                          clear H
                          have p17 : 0 ≤ (x9_2 : Int) := of_decide_eq_true (by first | (with_reducible assumption) | assumption)
                          have q17 : x9_2 < (a0.size : Int) := of_decide_eq_true (by first | (with_reducible assumption) | assumption)
                          have hx17 := bt_at a0 x9_2
                          replace p17 := eq_true p17
                          replace q17 := eq_true q17
                          go_wp2
                          repeat (go_quiet (fail); try go_wp2)
                          go_roundg kj8
                          case measure => have := HJ2.out; have := HK2.out; have := HJ8.out; omega
                          case rel => exact ⟨(x5_2), (x9_2), (wrap64 (x9_2 + 1)), (by first | rfl | (simp; done) | (simp [*]; done)), (by first | rfl | (simp; done) | (simp [*]; done)), (by first | exact H' | (subst_vars; exact H')), ⟨by have := HJ2.out; have := HK2.out; have := HJ8.out; omega⟩, ⟨by (with_reducible repeat (first | apply Kd.R_alloc | apply Kd.R_drewN | apply Kd.R_drew)); exact HO_5.out⟩, ⟨by repeat (first | (with_reducible first | exact HB.out | apply below_alloc | apply pw_below_drewN | apply below_drew1) | exact HB.out)⟩⟩
                        · rw [if_neg c18] at H
                          have c18b0 : ((bt a0 x9_2) == 49) = false := beq_eq_false_iff_ne.mpr c18
                          have c18b1 : ((bt a0 x9_2) != 49) = true := bne_iff_ne.mpr c18
                          have H' := Aside0.mk H
                          clear H
                          have p17 : 0 ≤ (x9_2 : Int) := of_decide_eq_true (by first | (with_reducible assumption) | assumption)
                          have q17 : x9_2 < (a0.size : Int) := of_decide_eq_true (by first | (with_reducible assumption) | assumption)
                          have hx17 := bt_at a0 x9_2
                          replace p17 := eq_true p17
                          replace q17 := eq_true q17
                          go_wp2
                          repeat (go_quiet (fail); try go_wp2)
                          go_roundg kj8
                          case measure => have := HJ2.out; have := HK2.out; have := HJ8.out; omega
                          case rel => exact ⟨(x5_2), (x8_2), (wrap64 (x9_2 + 1)), (by first | rfl | (simp; done) | (simp [*]; done)), (by first | rfl | (simp; done) | (simp [*]; done)), (by first | exact H' | (subst_vars; exact H')), ⟨by have := HJ2.out; have := HK2.out; have := HJ8.out; omega⟩, ⟨by (with_reducible repeat (first | apply Kd.R_alloc | apply Kd.R_drewN | apply Kd.R_drew)); exact HO_5.out⟩, ⟨by repeat (first | (with_reducible first | exact HB.out | apply below_alloc | apply pw_below_drewN | apply below_drew1) | exact HB.out)⟩⟩
                      · rw [if_neg c16] at H
                        exact absurd H (by simp)
                    · rw [if_neg c15] at H
                      exact absurd H (by simp)
            · rw [if_neg c8] at H
              have c8b0 : decide (x9_2 < (a0.size : Int)) = false := decide_eq_false c8
              clear c8
              have HC19 := Aside0.mk H
              clear H
              go_upto_region 11 with (fail)
              repeat (go_quiet (fail); go_upto_region 11 with (fail))
              go_cut [54] (fun v54 wc => ∃ (kq : Nat) (x54_18 : Bool), v54 = .bool x54_18 ∧ Aside0 (spec_ReadBech32.j3 kq a0 x5_2 x8_2 x54_18 = some (r1, r2, r3, r4)) ∧ Aside0 (kq ≤ k2) ∧ Aside0 (Kd.R (Kd.int .u8) 5 wc w.heap.size (fun _ => True) u5 x5_2) ∧ Aside0 (Below w.heap.size w wc))
              case first =>
                have H := HC19.out
                clear HC19
                by_cases c20 : x8_2 < 1
                · rw [if_pos c20] at H
                  have c20b0 : decide (x8_2 < 1) = true := decide_eq_true c20
                  clear c20
                  (first | rw [c20b0] | (simp only [i64_w, i32_w]; rw [c20b0]) | skip)
                  have H' := Aside0.mk H
                  clear H
                  go_wp2
                  repeat (go_quiet (fail); try go_wp2)
                  go_meet
                  case rel => exact ⟨_, (true), (by first | rfl | (simp; done) | (simp [*]; done)), (by first | exact H' | (subst_vars; exact H')), ⟨by have := HJ2.out; have := HK2.out; first | omega | exact Nat.le_refl _⟩, ⟨by (with_reducible repeat (first | apply Kd.R_alloc | apply Kd.R_drewN | apply Kd.R_drew)); exact HO_5.out⟩, ⟨by repeat (first | (with_reducible first | exact HB.out | apply below_alloc | apply pw_below_drewN | apply below_drew1) | exact HB.out)⟩⟩
                · rw [if_neg c20] at H
                  have c20b0 : decide (x8_2 < 1) = false := decide_eq_false c20
                  clear c20
                  (first | rw [c20b0] | (simp only [i64_w, i32_w]; rw [c20b0]) | skip)
                  have H' := Aside0.mk H
                  clear H
                  go_wp2
                  repeat (go_quiet (fail); try go_wp2)
                  go_meet
                  case rel => exact ⟨_, (decide ((wrap64 (x8_2 + 7)) > (a0.size : Int))), (by first | rfl | (simp; done) | (simp [*]; done)), (by first | exact H' | (subst_vars; exact H')), ⟨by have := HJ2.out; have := HK2.out; first | omega | exact Nat.le_refl _⟩, ⟨by (with_reducible repeat (first | apply Kd.R_alloc | apply Kd.R_drewN | apply Kd.R_drew)); exact HO_5.out⟩, ⟨by repeat (first | (with_reducible first | exact HB.out | apply below_alloc | apply pw_below_drewN | apply below_drew1) | exact HB.out)⟩⟩
              case rest =>
                clear HC19
                try clear c1
                try clear p1
                try clear q1
                try clear hx1
                try clear c2
                try clear p2
                try clear c4
                try clear c4b0
                try clear c4b1
                try clear c5
                try clear c5b0
                try clear p6
                try clear c7
                try clear c8
                try clear c8b0
                try clear c10
                try clear c10b0
                try clear p11
                try clear q11
                try clear hx11
                try clear c12
                try clear c12b0
                try clear p13
                try clear q13
                try clear hx13
                try clear c14
                try clear c15
                try clear c15b0
                try clear c16
                try clear c16b0
                try clear p17
                try clear q17
                try clear hx17
                try clear c18
                try clear c18b0
                try clear c18b1
                try clear c20
                try clear c20b0
                try clear p1
                try clear p11
                try clear p13
                try clear p17
                try clear p2
                try clear q1
                try clear q11
                try clear q13
                try clear q17
                obtain ⟨kq, x54_18, rfl, HA, HJ18, HO_5, HB⟩ := hcut
                cases kq with
                | zero => exact absurd HA.out (by simp [spec_ReadBech32.j3])
                | succ kj18 =>
                  have H := HA.out
                  clear HA
                  simp only [spec_ReadBech32.j3] at H
                  by_cases c21 : x54_18 = true
                  · subst c21
                    have H1 : (some ((⟨#[]⟩ : ByteArray), ([] : List Int), 0, false)) = some (r1, r2, r3, r4) := by rw [if_pos rfl] at H; exact H
                    clear H
                    have H := H1
                    clear H1
                    simp only [Option.some.injEq, Prod.mk.injEq] at H
                    obtain ⟨rfl, rfl, rfl, rfl⟩ := H
                    go_wp2
                    repeat (go_quiet (fail); try go_wp2)
                    refine bodyPost_ret (results_list (rs := [.tmp 4, .tmp 5, .tmp 6, .tmp 7]) rfl (by simp) (.tmp (.tmp (.tmp (.tmp .nil))))) rfl ?_
                    exact ⟨_, by first | rfl | (simp [errW_none, errW_some] <;> rfl) | (simp [*, errW_none, errW_some] <;> rfl), by first | exact Kd.R_nil _ _ _ _ _ | exact Kd.N_nil _ _ _ _ _ | exact Kd.V_nil _ _ _ _ _ | exact Kd.Q_nil _ _ _ _ _ | exact Kd.S_nil _ _ _ _ _, by repeat (first | (with_reducible first | exact HB.out | apply below_alloc | apply pw_below_drewN | apply below_drew1) | exact HB.out)⟩
                  · replace c21 := Bool.eq_false_iff.mpr c21
                    subst c21
                    have H1 : ((spec_lower.f a0).bind fun t119 => (if 0 ≤ x8_2 then (if x8_2 ≤ (t119.size : Int) then (spec_ReadBech32.l1 kj18 t119 (t119.extract 0 (x8_2 : Int).toNat) x5_2 (wrap64 (x8_2 + 1))) else (none)) else (none))) = some (r1, r2, r3, r4) := by rw [if_neg (show ¬ (false = true) by decide)] at H; exact H
                    clear H
                    have H := H1
                    clear H1
                    replace H := Option.bind_eq_some_iff.mp H
                    obtain ⟨t119, A220, H⟩ := H
                    replace H : (if 0 ≤ x8_2 then (if x8_2 ≤ (t119.size : Int) then (spec_ReadBech32.l1 kj18 t119 (t119.extract 0 (x8_2 : Int).toNat) x5_2 (wrap64 (x8_2 + 1))) else (none)) else (none)) = some (r1, r2, r3, r4) := H
                    have A22 := Aside0.mk A220
                    clear A220
                    by_cases c23 : 0 ≤ x8_2
                    · rw [if_pos c23] at H
                      have c23b0 := eq_true c23
                      have c23b1 : decide (0 ≤ x8_2) = true := decide_eq_true c23
                      clear c23
                      by_cases c24 : x8_2 ≤ (t119.size : Int)
                      · rw [if_pos c24] at H
                        have c24b0 := eq_true c24
                        have c24b1 : decide (x8_2 ≤ (t119.size : Int)) = true := decide_eq_true c24
                        clear c24
                        have H' := Aside0.mk H
                        clear H
                        go_wp2_with (first | (go_at_call 8; (with_reducible refine (spec_lower.calls a0 t119 _ A22.out).mono ?_); rintro e w25 ⟨rfl, hb⟩; have n0_ := Aside0.mk (Kd.R_below (by (with_reducible repeat (first | apply Kd.R_alloc | apply Kd.R_drewN | apply Kd.R_drew)); exact HO_5.out) hb); have n1_ := Aside0.mk (below_step (by repeat (first | (with_reducible first | exact HB.out | apply below_alloc | apply pw_below_drewN | apply below_drew1) | exact HB.out)) hb); clear HO_5; clear HB; have HO_5 := n0_; have HB := n1_; clear n0_ n1_; (try clear hb); (try clear hb2); (try clear hk); (try clear hi)))
                        repeat (go_quiet (first | (go_at_call 8; (with_reducible refine (spec_lower.calls a0 t119 _ A22.out).mono ?_); rintro e w25 ⟨rfl, hb⟩; have n0_ := Aside0.mk (Kd.R_below (by (with_reducible repeat (first | apply Kd.R_alloc | apply Kd.R_drewN | apply Kd.R_drew)); exact HO_5.out) hb); have n1_ := Aside0.mk (below_step (by repeat (first | (with_reducible first | exact HB.out | apply below_alloc | apply pw_below_drewN | apply below_drew1) | exact HB.out)) hb); clear HO_5; clear HB; have HO_5 := n0_; have HB := n1_; clear n0_ n1_; (try clear hb); (try clear hb2); (try clear hk); (try clear hi))); try go_wp2_with (first | (go_at_call 8; (with_reducible refine (spec_lower.calls a0 t119 _ A22.out).mono ?_); rintro e w25 ⟨rfl, hb⟩; have n0_ := Aside0.mk (Kd.R_below (by (with_reducible repeat (first | apply Kd.R_alloc | apply Kd.R_drewN | apply Kd.R_drew)); exact HO_5.out) hb); have n1_ := Aside0.mk (below_step (by repeat (first | (with_reducible first | exact HB.out | apply below_alloc | apply pw_below_drewN | apply below_drew1) | exact HB.out)) hb); clear HO_5; clear HB; have HO_5 := n0_; have HB := n1_; clear n0_ n1_; (try clear hb); (try clear hb2); (try clear hk); (try clear hi))))
                        go_loopg [4, 5, 10] kj18 (fun kq v4 v5 v10 w' => ∃ (x4_4 : ByteArray) (x5_4 : List Int) (x10_4 : Int), v4 = .string x4_4 ∧ v10 = .int .i64 x10_4 ∧ Aside0 (spec_ReadBech32.l1 kq t119 x4_4 x5_4 x10_4 = some (r1, r2, r3, r4)) ∧ Aside0 (kq ≤ kj18) ∧ Aside0 (Kd.R (Kd.int .u8) 5 w' w.heap.size (fun _ => True) v5 x5_4) ∧ Aside0 (Below w.heap.size w w'))
                        case atStart => exact ⟨(t119.extract 0 (x8_2 : Int).toNat), (x5_2), (wrap64 (x8_2 + 1)), (by first | rfl | (simp; done) | (simp [*]; done)), (by first | rfl | (simp; done) | (simp [*]; done)), H', ⟨Nat.le_refl _⟩, ⟨by (with_reducible repeat (first | apply Kd.R_alloc | apply Kd.R_drewN | apply Kd.R_drew)); exact HO_5.out⟩, ⟨by repeat (first | (with_reducible first | exact HB.out | apply below_alloc | apply pw_below_drewN | apply below_drew1) | exact HB.out)⟩⟩
                        case round =>
                          clear H'
                          try clear c1
                          try clear p1
                          try clear q1
                          try clear hx1
                          try clear c2
                          try clear p2
                          try clear c4
                          try clear c4b0
                          try clear c4b1
                          try clear c5
                          try clear c5b0
                          try clear p6
                          try clear c7
                          try clear c8
                          try clear c8b0
                          try clear c10
                          try clear c10b0
                          try clear p11
                          try clear q11
                          try clear hx11
                          try clear c12
                          try clear c12b0
                          try clear p13
                          try clear q13
                          try clear hx13
                          try clear c14
                          try clear c15
                          try clear c15b0
                          try clear c16
                          try clear c16b0
                          try clear p17
                          try clear q17
                          try clear hx17
                          try clear c18
                          try clear c18b0
                          try clear c18b1
                          try clear c20
                          try clear c20b0
                          try clear c21
                          try clear c23
                          try clear c23b0
                          try clear c23b1
                          try clear c24
                          try clear c24b0
                          try clear c24b1
                          try clear p1
                          try clear p11
                          try clear p13
                          try clear p17
                          try clear p2
                          try clear p6
                          try clear q1
                          try clear q11
                          try clear q13
                          try clear q17
                          obtain ⟨x4_4, x5_4, x10_4, rfl, rfl, HA, HK4, HO_5, HB⟩ := hrel
                          cases gk with
                          | zero => exact absurd HA.out (by simp [spec_ReadBech32.l1])
                          | succ k4 =>
                            have H := HA.out
                            clear HA
                            simp only [spec_ReadBech32.l1] at H
                            by_cases c26 : x10_4 < (t119.size : Int)
                            · rw [if_pos c26] at H
                              have c26b0 : decide (x10_4 < (t119.size : Int)) = true := decide_eq_true c26
                              clear c26
                              by_cases c27 : 0 ≤ x10_4
                              · rw [if_pos c27] at H
                                have c27b0 : decide (0 ≤ x10_4) = true := decide_eq_true c27
                                clear c27
                                replace H := Option.bind_eq_some_iff.mp H
                                obtain ⟨t120, A290, H⟩ := H
                                replace H : (if t120 < 0 then (some ((⟨#[]⟩ : ByteArray), ([] : List Int), 0, false)) else (if x5_4.length < 140737488355328 then (spec_ReadBech32.l1 k4 t119 x4_4 (x5_4 ++ [(t120) % 256]) (wrap64 (x10_4 + 1))) else (none))) = some (r1, r2, r3, r4) := H
                                have A29 := Aside0.mk A290
                                clear A290
                                by_cases c30 : t120 < 0
                                · rw [if_pos c30] at H
                                  have c30b0 : decide (t120 < 0) = true := decide_eq_true c30
                                  clear c30
                                  simp only [Option.some.injEq, Prod.mk.injEq] at H
                                  obtain ⟨rfl, rfl, rfl, rfl⟩ := H
                                  have p28 : 0 ≤ (x10_4 : Int) := of_decide_eq_true (by first | (with_reducible assumption) | assumption)
                                  have q28 : x10_4 < (t119.size : Int) := of_decide_eq_true (by first | (with_reducible assumption) | assumption)
                                  have hx28 := bt_at t119 x10_4
                                  replace p28 := eq_true p28
                                  replace q28 := eq_true q28
                                  go_wp2_with (first | (go_at_call 9; (with_reducible refine (spec_place.calls k4 (⟨#[113, 112, 122, 114, 121, 57, 120, 56, 103, 102, 50, 116, 118, 100, 119, 48, 115, 51, 106, 110, 53, 52, 107, 104, 99, 101, 54, 109, 117, 97, 55, 108]⟩ : ByteArray) (bt t119 x10_4) t120 _ A29.out).mono ?_); rintro e w' ⟨rfl, ⟨nd, rfl⟩⟩; (try first | exact ⟨rfl, _, World.drewN_drewN _ _ _⟩ | exact ⟨rfl, _, Eq.trans (World.drewN_drewN _ _ _) (congrArg (World.drewN _) (Nat.add_assoc _ _ _))⟩)))
                                  repeat (go_quiet (first | (go_at_call 9; (with_reducible refine (spec_place.calls k4 (⟨#[113, 112, 122, 114, 121, 57, 120, 56, 103, 102, 50, 116, 118, 100, 119, 48, 115, 51, 106, 110, 53, 52, 107, 104, 99, 101, 54, 109, 117, 97, 55, 108]⟩ : ByteArray) (bt t119 x10_4) t120 _ A29.out).mono ?_); rintro e w' ⟨rfl, ⟨nd, rfl⟩⟩; (try first | exact ⟨rfl, _, World.drewN_drewN _ _ _⟩ | exact ⟨rfl, _, Eq.trans (World.drewN_drewN _ _ _) (congrArg (World.drewN _) (Nat.add_assoc _ _ _))⟩))); try go_wp2_with (first | (go_at_call 9; (with_reducible refine (spec_place.calls k4 (⟨#[113, 112, 122, 114, 121, 57, 120, 56, 103, 102, 50, 116, 118, 100, 119, 48, 115, 51, 106, 110, 53, 52, 107, 104, 99, 101, 54, 109, 117, 97, 55, 108]⟩ : ByteArray) (bt t119 x10_4) t120 _ A29.out).mono ?_); rintro e w' ⟨rfl, ⟨nd, rfl⟩⟩; (try first | exact ⟨rfl, _, World.drewN_drewN _ _ _⟩ | exact ⟨rfl, _, Eq.trans (World.drewN_drewN _ _ _) (congrArg (World.drewN _) (Nat.add_assoc _ _ _))⟩))))
                                  refine bodyPost_ret (results_list (rs := [.tmp 4, .tmp 5, .tmp 6, .tmp 7]) rfl (by simp) (.tmp (.tmp (.tmp (.tmp .nil))))) rfl ?_
                                  exact ⟨_, by first | rfl | (simp [errW_none, errW_some] <;> rfl) | (simp [*, errW_none, errW_some] <;> rfl), by first | exact Kd.R_nil _ _ _ _ _ | exact Kd.N_nil _ _ _ _ _ | exact Kd.V_nil _ _ _ _ _ | exact Kd.Q_nil _ _ _ _ _ | exact Kd.S_nil _ _ _ _ _, by repeat (first | (with_reducible first | exact HB.out | apply below_alloc | apply pw_below_drewN | apply below_drew1) | exact HB.out)⟩
                                · rw [if_neg c30] at H
                                  have c30b0 : decide (t120 < 0) = false := decide_eq_false c30
                                  clear c30
                                  by_cases c31 : x5_4.length < 140737488355328
                                  · rw [if_pos c31] at H
                                    have LMc31 := Aside0.mk c31
                                    clear c31
                                    obtain ⟨y121, hy121⟩ : ∃ y_ : List Int, y_ = (x5_4 ++ [(t120) % 256]) := ⟨_, rfl⟩
                                    replace H : (spec_ReadBech32.l1 k4 t119 x4_4 y121 (wrap64 (x10_4 + 1))) = some (r1, r2, r3, r4) := by first | (rw [hy121]; with_reducible exact H) | (have H2_ := (Option.bind_some _ _).symm.trans H; rw [hy121]; with_reducible exact H2_) | (have H2_ := (Option.bind_some _ _).symm.trans H; with_reducible exact H2_) | with_reducible exact H | (rw [hy121]; exact H) | exact H
                                    have Ny121 := Aside0.mk hy121
                                    clear hy121
                                    have H' := Aside0.mk H
                                    clear H
                                    have p28 : 0 ≤ (x10_4 : Int) := of_decide_eq_true (by first | (with_reducible assumption) | assumption)
                                    have q28 : x10_4 < (t119.size : Int) := of_decide_eq_true (by first | (with_reducible assumption) | assumption)
                                    have hx28 := bt_at t119 x10_4
                                    replace p28 := eq_true p28
                                    replace q28 := eq_true q28
                                    go_wp2_with (first | (go_at_call 9; (with_reducible refine (spec_place.calls k4 (⟨#[113, 112, 122, 114, 121, 57, 120, 56, 103, 102, 50, 116, 118, 100, 119, 48, 115, 51, 106, 110, 53, 52, 107, 104, 99, 101, 54, 109, 117, 97, 55, 108]⟩ : ByteArray) (bt t119 x10_4) t120 _ A29.out).mono ?_); rintro e w' ⟨rfl, ⟨nd, rfl⟩⟩; (try first | exact ⟨rfl, _, World.drewN_drewN _ _ _⟩ | exact ⟨rfl, _, Eq.trans (World.drewN_drewN _ _ _) (congrArg (World.drewN _) (Nat.add_assoc _ _ _))⟩)) | ((with_reducible refine gate_builtin (b := .append) (xs := #[.tmp 74, .tmp 77]) rfl ?_); (try (refine gate_guard (by rfl) ?_; dsimp only)); at_builtin; refine Kd.R_append (Kd.int .u8) (w0 := w) w.heap.size rfl (.tmp 74) (.tmp 77) 22 5 (.int .u8 0) 1 rfl Tryd.underlying22 info5 rfl (by decide) (by omega) u5 x5_4 ((t120) % 256) [.int .u8 ((t120) % 256)] (fun _ => True) (fun _ => False) rfl rfl ?aP (fun _ hk => hk.elim) ?aF ?aO ?aB ?aS ?aL ?_; (case aP => exact rfl); (case aB => exact (by repeat (first | (with_reducible first | exact HB.out | apply below_alloc | apply pw_below_drewN | apply below_drew1) | exact HB.out))); (case aF => exact (fun _ _ => trivial)); (case aO => exact (by (with_reducible repeat (first | apply Kd.R_alloc | apply Kd.R_drewN | apply Kd.R_drew)); exact HO_5.out)); (case aS => exact (below_size (by repeat (first | (with_reducible first | exact HB.out | apply below_alloc | apply pw_below_drewN | apply below_drew1) | exact HB.out)))); (case aL => have := LMc31.out; omega); intro v122 w32 ho hb hg hat; rw [← Ny121.out] at ho; have n0_ := Aside0.mk (hb); have n1_ := Aside0.mk (ho); clear HB; clear HO_5; have HB := n0_; have HO123 := n1_; clear n0_ n1_; clear ho hb hg hat))
                                    repeat (go_quiet (first | (go_at_call 9; (with_reducible refine (spec_place.calls k4 (⟨#[113, 112, 122, 114, 121, 57, 120, 56, 103, 102, 50, 116, 118, 100, 119, 48, 115, 51, 106, 110, 53, 52, 107, 104, 99, 101, 54, 109, 117, 97, 55, 108]⟩ : ByteArray) (bt t119 x10_4) t120 _ A29.out).mono ?_); rintro e w' ⟨rfl, ⟨nd, rfl⟩⟩; (try first | exact ⟨rfl, _, World.drewN_drewN _ _ _⟩ | exact ⟨rfl, _, Eq.trans (World.drewN_drewN _ _ _) (congrArg (World.drewN _) (Nat.add_assoc _ _ _))⟩)) | ((with_reducible refine gate_builtin (b := .append) (xs := #[.tmp 74, .tmp 77]) rfl ?_); (try (refine gate_guard (by rfl) ?_; dsimp only)); at_builtin; refine Kd.R_append (Kd.int .u8) (w0 := w) w.heap.size rfl (.tmp 74) (.tmp 77) 22 5 (.int .u8 0) 1 rfl Tryd.underlying22 info5 rfl (by decide) (by omega) u5 x5_4 ((t120) % 256) [.int .u8 ((t120) % 256)] (fun _ => True) (fun _ => False) rfl rfl ?aP (fun _ hk => hk.elim) ?aF ?aO ?aB ?aS ?aL ?_; (case aP => exact rfl); (case aB => exact (by repeat (first | (with_reducible first | exact HB.out | apply below_alloc | apply pw_below_drewN | apply below_drew1) | exact HB.out))); (case aF => exact (fun _ _ => trivial)); (case aO => exact (by (with_reducible repeat (first | apply Kd.R_alloc | apply Kd.R_drewN | apply Kd.R_drew)); exact HO_5.out)); (case aS => exact (below_size (by repeat (first | (with_reducible first | exact HB.out | apply below_alloc | apply pw_below_drewN | apply below_drew1) | exact HB.out)))); (case aL => have := LMc31.out; omega); intro v122 w32 ho hb hg hat; rw [← Ny121.out] at ho; have n0_ := Aside0.mk (hb); have n1_ := Aside0.mk (ho); clear HB; clear HO_5; have HB := n0_; have HO123 := n1_; clear n0_ n1_; clear ho hb hg hat)); try go_wp2_with (first | (go_at_call 9; (with_reducible refine (spec_place.calls k4 (⟨#[113, 112, 122, 114, 121, 57, 120, 56, 103, 102, 50, 116, 118, 100, 119, 48, 115, 51, 106, 110, 53, 52, 107, 104, 99, 101, 54, 109, 117, 97, 55, 108]⟩ : ByteArray) (bt t119 x10_4) t120 _ A29.out).mono ?_); rintro e w' ⟨rfl, ⟨nd, rfl⟩⟩; (try first | exact ⟨rfl, _, World.drewN_drewN _ _ _⟩ | exact ⟨rfl, _, Eq.trans (World.drewN_drewN _ _ _) (congrArg (World.drewN _) (Nat.add_assoc _ _ _))⟩)) | ((with_reducible refine gate_builtin (b := .append) (xs := #[.tmp 74, .tmp 77]) rfl ?_); (try (refine gate_guard (by rfl) ?_; dsimp only)); at_builtin; refine Kd.R_append (Kd.int .u8) (w0 := w) w.heap.size rfl (.tmp 74) (.tmp 77) 22 5 (.int .u8 0) 1 rfl Tryd.underlying22 info5 rfl (by decide) (by omega) u5 x5_4 ((t120) % 256) [.int .u8 ((t120) % 256)] (fun _ => True) (fun _ => False) rfl rfl ?aP (fun _ hk => hk.elim) ?aF ?aO ?aB ?aS ?aL ?_; (case aP => exact rfl); (case aB => exact (by repeat (first | (with_reducible first | exact HB.out | apply below_alloc | apply pw_below_drewN | apply below_drew1) | exact HB.out))); (case aF => exact (fun _ _ => trivial)); (case aO => exact (by (with_reducible repeat (first | apply Kd.R_alloc | apply Kd.R_drewN | apply Kd.R_drew)); exact HO_5.out)); (case aS => exact (below_size (by repeat (first | (with_reducible first | exact HB.out | apply below_alloc | apply pw_below_drewN | apply below_drew1) | exact HB.out)))); (case aL => have := LMc31.out; omega); intro v122 w32 ho hb hg hat; rw [← Ny121.out] at ho; have n0_ := Aside0.mk (hb); have n1_ := Aside0.mk (ho); clear HB; clear HO_5; have HB := n0_; have HO123 := n1_; clear n0_ n1_; clear ho hb hg hat)))
                                    go_roundg k4
                                    case measure => have := HJ2.out; have := HK2.out; have := HJ18.out; have := HK4.out; omega
                                    case rel => exact ⟨(x4_4), (y121), (wrap64 (x10_4 + 1)), (by first | rfl | (simp; done) | (simp [*]; done)), (by first | rfl | (simp; done) | (simp [*]; done)), (by first | exact H' | (subst_vars; exact H')), ⟨by have := HJ2.out; have := HK2.out; have := HJ18.out; have := HK4.out; omega⟩, ⟨by (with_reducible repeat (first | apply Kd.R_alloc | apply Kd.R_drewN | apply Kd.R_drew)); exact HO123.out⟩, ⟨by repeat (first | (with_reducible first | exact HB.out | apply below_alloc | apply pw_below_drewN | apply below_drew1) | exact HB.out)⟩⟩
                                  · rw [if_neg c31] at H
                                    exact absurd H (by simp)
                              · rw [if_neg c27] at H
                                exact absurd H (by simp)
                            · rw [if_neg c26] at H
                              have c26b0 : decide (x10_4 < (t119.size : Int)) = false := decide_eq_false c26
                              clear c26
                              replace H := Option.bind_eq_some_iff.mp H
                              obtain ⟨t124, A330, H⟩ := H
                              replace H : (if t124.length + x5_4.length < 140737488355328 then ((spec_polymod.f k4 (t124 ++ x5_4)).bind fun t130 => (if t130 = 1 then (if 0 ≤ (wrap64 ((x5_4.length : Int) - 6)) then (if (wrap64 ((x5_4.length : Int) - 6)) ≤ (x5_4.length : Int) then (some (x4_4, (x5_4.take ((wrap64 ((x5_4.length : Int) - 6)) : Int).toNat), t130, true)) else (none)) else (none)) else (if t130 = 734539939 then (if 0 ≤ (wrap64 ((x5_4.length : Int) - 6)) then (if (wrap64 ((x5_4.length : Int) - 6)) ≤ (x5_4.length : Int) then (some (x4_4, (x5_4.take ((wrap64 ((x5_4.length : Int) - 6)) : Int).toNat), t130, true)) else (none)) else (none)) else (some ((⟨#[]⟩ : ByteArray), ([] : List Int), 0, false))))) else (none)) = some (r1, r2, r3, r4) := H
                              have A33 := Aside0.mk A330
                              clear A330
                              by_cases c34 : t124.length + x5_4.length < 140737488355328
                              · rw [if_pos c34] at H
                                have LMc34 := Aside0.mk c34
                                clear c34
                                obtain ⟨y127, hy127⟩ : ∃ y_ : List Int, y_ = (t124 ++ x5_4) := ⟨_, rfl⟩
                                replace H : ((spec_polymod.f k4 y127).bind fun t130 => (if t130 = 1 then (if 0 ≤ (wrap64 ((x5_4.length : Int) - 6)) then (if (wrap64 ((x5_4.length : Int) - 6)) ≤ (x5_4.length : Int) then (some (x4_4, (x5_4.take ((wrap64 ((x5_4.length : Int) - 6)) : Int).toNat), t130, true)) else (none)) else (none)) else (if t130 = 734539939 then (if 0 ≤ (wrap64 ((x5_4.length : Int) - 6)) then (if (wrap64 ((x5_4.length : Int) - 6)) ≤ (x5_4.length : Int) then (some (x4_4, (x5_4.take ((wrap64 ((x5_4.length : Int) - 6)) : Int).toNat), t130, true)) else (none)) else (none)) else (some ((⟨#[]⟩ : ByteArray), ([] : List Int), 0, false))))) = some (r1, r2, r3, r4) := by first | (rw [hy127]; with_reducible exact H) | (have H2_ := (Option.bind_some _ _).symm.trans H; rw [hy127]; with_reducible exact H2_) | (have H2_ := (Option.bind_some _ _).symm.trans H; with_reducible exact H2_) | with_reducible exact H | (rw [hy127]; exact H) | exact H
                                have Ny127 := Aside0.mk hy127
                                clear hy127
                                replace H := Option.bind_eq_some_iff.mp H
                                obtain ⟨t130, A350, H⟩ := H
                                replace H : (if t130 = 1 then (if 0 ≤ (wrap64 ((x5_4.length : Int) - 6)) then (if (wrap64 ((x5_4.length : Int) - 6)) ≤ (x5_4.length : Int) then (some (x4_4, (x5_4.take ((wrap64 ((x5_4.length : Int) - 6)) : Int).toNat), t130, true)) else (none)) else (none)) else (if t130 = 734539939 then (if 0 ≤ (wrap64 ((x5_4.length : Int) - 6)) then (if (wrap64 ((x5_4.length : Int) - 6)) ≤ (x5_4.length : Int) then (some (x4_4, (x5_4.take ((wrap64 ((x5_4.length : Int) - 6)) : Int).toNat), t130, true)) else (none)) else (none)) else (some ((⟨#[]⟩ : ByteArray), ([] : List Int), 0, false)))) = some (r1, r2, r3, r4) := H
                                have A35 := Aside0.mk A350
                                clear A350
                                by_cases c36 : t130 = 1
                                · rw [if_pos c36] at H
                                  have c36b0 : (t130 == 1) = true := beq_iff_eq.mpr c36
                                  have c36b1 : (t130 != 1) = false := bne_eq_false_iff_eq.mpr c36
                                  clear c36
                                  obtain ⟨ji37, hji37⟩ : ∃ j_ : Int, (wrap64 ((x5_4.length : Int) - 6)) = j_ := ⟨_, rfl⟩
                                  replace H : (if 0 ≤ (ji37) then (if (ji37) ≤ (x5_4.length : Int) then (some (x4_4, (x5_4.take ((ji37) : Int).toNat), t130, true)) else (none)) else (none)) = some (r1, r2, r3, r4) := by first | (rw [hji37] at H; exact H) | (simp only [hji37] at H ⊢; exact H)
                                  (try rw [hji37] at A33)
                                  (try rw [hji37] at A35)
                                  have hji37w : (IntKind.i64.wrap ((x5_4.length : Int) - 6)) = ji37 := (i64_w _).trans hji37
                                  by_cases c38 : 0 ≤ (ji37)
                                  · rw [if_pos c38] at H
                                    have c38b0 := eq_true c38
                                    have c38b1 : decide (0 ≤ (ji37)) = true := decide_eq_true c38
                                    clear c38
                                    by_cases c39 : (ji37) ≤ (x5_4.length : Int)
                                    · rw [if_pos c39] at H
                                      have c39b0 := eq_true c39
                                      have c39b1 : decide ((ji37) ≤ (x5_4.length : Int)) = true := decide_eq_true c39
                                      clear c39
                                      obtain ⟨y131, hy131⟩ : ∃ y_ : List Int, y_ = (x5_4.take ((ji37) : Int).toNat) := ⟨_, rfl⟩
                                      replace H : (some (x4_4, y131, t130, true)) = some (r1, r2, r3, r4) := by first | (rw [hy131]; with_reducible exact H) | (have H2_ := (Option.bind_some _ _).symm.trans H; rw [hy131]; with_reducible exact H2_) | (have H2_ := (Option.bind_some _ _).symm.trans H; with_reducible exact H2_) | with_reducible exact H | (rw [hy131]; exact H) | exact H
                                      have Ny131 := Aside0.mk hy131
                                      clear hy131
                                      simp only [Option.some.injEq, Prod.mk.injEq] at H
                                      obtain ⟨rfl, rfl, rfl, rfl⟩ := H
                                      go_wp2_with (first | (go_at_call 11; (with_reducible refine (spec_expand.calls k4 x4_4 t124 _ A33.out).mono ?_); rintro e w40 ⟨v125, rfl, ho0, hb⟩; have n0_ := Aside0.mk (Kd.R_elder' (by (with_reducible repeat (first | apply Kd.R_alloc | apply Kd.R_drewN | apply Kd.R_drew)); exact HO_5.out) (Kd.R_base ho0) hb); have n1_ := Aside0.mk (Kd.R_lower (Kd.R_new' ho0 (Kd.R_lt (by (with_reducible repeat (first | apply Kd.R_alloc | apply Kd.R_drewN | apply Kd.R_drew)); exact HO_5.out))) (below_size (by repeat (first | (with_reducible first | exact HB.out | apply below_alloc | apply pw_below_drewN | apply below_drew1) | exact HB.out)))); have n2_ := Aside0.mk (below_step (by repeat (first | (with_reducible first | exact HB.out | apply below_alloc | apply pw_below_drewN | apply below_drew1) | exact HB.out)) hb); clear HO_5; clear HB; have HO_5 := n0_; have HO126 := n1_; have HB := n2_; clear n0_ n1_ n2_; (try clear hb); (try clear hb2); (try clear hk); (try clear hi); (try clear ho0); obtain ⟨Ao42, co42, eo42⟩ := Kd.R_slice HO_5.out; subst eo42) | ((with_reducible refine gate_builtin (b := .append) (xs := #[.tmp 80, .tmp 81]) rfl ?_); (try (refine gate_guard (by rfl) ?_; dsimp only)); at_builtin; refine Kd.R_append_rows (Kd.int .u8) (w0 := w) w.heap.size rfl (.tmp 80) (.tmp 81) 22 5 (.int .u8 0) 1 rfl Tryd.underlying22 info5 rfl (by decide) (by omega) v125 t124 x5_4 _ _ _ (fun k_ => some k_ ≠ (.slice Ao42 x5_4.length co42 : Value).ownBlock) (fun _ => False) rfl rfl ?aO ?aR (fun _ _ h => h) (fun _ h => h.elim) ?aF ?aB ?aS ?aL ?_; (case aR => repeat (first | exact (Kd.R_reads' HO_5.out).2.2 | (with_reducible refine Kd.C_alloc ?_ _) | (with_reducible refine Kd.C_drewN ?_ _) | (with_reducible refine Kd.C_drew ?_))); (case aB => exact (by repeat (first | (with_reducible first | exact HB.out | apply below_alloc | apply pw_below_drewN | apply below_drew1) | exact HB.out))); (case aF => exact (fun k_ hk => Kd.fresh' (Kd.R_lt (by (with_reducible repeat (first | apply Kd.R_alloc | apply Kd.R_drewN | apply Kd.R_drew)); exact HO_5.out)) k_ hk)); (case aO => exact (by (with_reducible repeat (first | apply Kd.R_alloc | apply Kd.R_drewN | apply Kd.R_drew)); exact Kd.R_mono HO126.out (fun _ hk => hk.2))); (case aS => exact (below_size (by repeat (first | (with_reducible first | exact HB.out | apply below_alloc | apply pw_below_drewN | apply below_drew1) | exact HB.out)))); (case aL => have := LMc34.out; omega); intro v128 w41 ho hb hg hat; rw [← Ny127.out] at ho; have n0_ := Aside0.mk (Kd.R_after (ok := (fun _ => True)) (by (with_reducible repeat (first | apply Kd.R_alloc | apply Kd.R_drewN | apply Kd.R_drew)); exact HO_5.out) hg hat); have n1_ := Aside0.mk (hb); have n2_ := Aside0.mk (ho); clear HO_5; clear HB; clear HO126; have HO_5 := n0_; have HB := n1_; have HO129 := n2_; clear n0_ n1_ n2_; clear ho hb hg hat; obtain ⟨Ao43, co43, eo43⟩ := Kd.R_slice HO129.out; subst eo43) | (go_at_call 10; (with_reducible refine (spec_polymod.calls k4 _ _ y127 t130 _ ?side1 ?side2 A35.out).mono ?_); (case side1 => repeat (first | exact (Kd.R_reads' HO129.out).2.2 | (with_reducible refine Kd.C_alloc ?_ _) | (with_reducible refine Kd.C_drewN ?_ _) | (with_reducible refine Kd.C_drew ?_))); (case side2 => exact (Kd.R_reads' HO129.out).2.1); rintro e w44 ⟨rfl, hb⟩; have n0_ := Aside0.mk (Kd.R_below (by (with_reducible repeat (first | apply Kd.R_alloc | apply Kd.R_drewN | apply Kd.R_drew)); exact HO_5.out) hb); have n1_ := Aside0.mk (Kd.R_below (by (with_reducible repeat (first | apply Kd.R_alloc | apply Kd.R_drewN | apply Kd.R_drew)); exact HO129.out) hb); have n2_ := Aside0.mk (below_step (by repeat (first | (with_reducible first | exact HB.out | apply below_alloc | apply pw_below_drewN | apply below_drew1) | exact HB.out)) hb); clear HO_5; clear HO129; clear HB; have HO_5 := n0_; have HO129 := n1_; have HB := n2_; clear n0_ n1_ n2_; (try clear hb); (try clear hb2); (try clear hk); (try clear hi); have q45 : ((ji37) : Int) ≤ ((x5_4.length : Int) : Int) := of_decide_eq_true (by first | (with_reducible assumption) | assumption); obtain ⟨i045, hi045, _, hsz45, _⟩ := info_parts info5; have hcut45 := cut_to (P := Tryd.prog) 22 5 .i64 Tryd.underlying22 hi045 Ao42 x5_4.length co42 (ji37) (of_decide_eq_true (by first | (with_reducible assumption) | assumption)) q45 (Kd.R_reads' HO_5.out).2.1; have hr45 := Kd.R_take (m := ((ji37) : Int).toNat) HO_5.out (by omega); have hy45 : y131.length = ((ji37) : Int).toNat := (by rw [Ny131.out, List.length_take]; omega); rw [← Ny131.out] at hr45; rw [← hy45] at hr45 hcut45; clear hy45 hi045 hsz45 HO_5; have HO133 := Aside0.mk hr45; clear hr45; replace q45 := eq_true q45))
                                      repeat (go_quiet (first | (go_at_call 11; (with_reducible refine (spec_expand.calls k4 x4_4 t124 _ A33.out).mono ?_); rintro e w40 ⟨v125, rfl, ho0, hb⟩; have n0_ := Aside0.mk (Kd.R_elder' (by (with_reducible repeat (first | apply Kd.R_alloc | apply Kd.R_drewN | apply Kd.R_drew)); exact HO_5.out) (Kd.R_base ho0) hb); have n1_ := Aside0.mk (Kd.R_lower (Kd.R_new' ho0 (Kd.R_lt (by (with_reducible repeat (first | apply Kd.R_alloc | apply Kd.R_drewN | apply Kd.R_drew)); exact HO_5.out))) (below_size (by repeat (first | (with_reducible first | exact HB.out | apply below_alloc | apply pw_below_drewN | apply below_drew1) | exact HB.out)))); have n2_ := Aside0.mk (below_step (by repeat (first | (with_reducible first | exact HB.out | apply below_alloc | apply pw_below_drewN | apply below_drew1) | exact HB.out)) hb); clear HO_5; clear HB; have HO_5 := n0_; have HO126 := n1_; have HB := n2_; clear n0_ n1_ n2_; (try clear hb); (try clear hb2); (try clear hk); (try clear hi); (try clear ho0); obtain ⟨Ao42, co42, eo42⟩ := Kd.R_slice HO_5.out; subst eo42) | ((with_reducible refine gate_builtin (b := .append) (xs := #[.tmp 80, .tmp 81]) rfl ?_); (try (refine gate_guard (by rfl) ?_; dsimp only)); at_builtin; refine Kd.R_append_rows (Kd.int .u8) (w0 := w) w.heap.size rfl (.tmp 80) (.tmp 81) 22 5 (.int .u8 0) 1 rfl Tryd.underlying22 info5 rfl (by decide) (by omega) v125 t124 x5_4 _ _ _ (fun k_ => some k_ ≠ (.slice Ao42 x5_4.length co42 : Value).ownBlock) (fun _ => False) rfl rfl ?aO ?aR (fun _ _ h => h) (fun _ h => h.elim) ?aF ?aB ?aS ?aL ?_; (case aR => repeat (first | exact (Kd.R_reads' HO_5.out).2.2 | (with_reducible refine Kd.C_alloc ?_ _) | (with_reducible refine Kd.C_drewN ?_ _) | (with_reducible refine Kd.C_drew ?_))); (case aB => exact (by repeat (first | (with_reducible first | exact HB.out | apply below_alloc | apply pw_below_drewN | apply below_drew1) | exact HB.out))); (case aF => exact (fun k_ hk => Kd.fresh' (Kd.R_lt (by (with_reducible repeat (first | apply Kd.R_alloc | apply Kd.R_drewN | apply Kd.R_drew)); exact HO_5.out)) k_ hk)); (case aO => exact (by (with_reducible repeat (first | apply Kd.R_alloc | apply Kd.R_drewN | apply Kd.R_drew)); exact Kd.R_mono HO126.out (fun _ hk => hk.2))); (case aS => exact (below_size (by repeat (first | (with_reducible first | exact HB.out | apply below_alloc | apply pw_below_drewN | apply below_drew1) | exact HB.out)))); (case aL => have := LMc34.out; omega); intro v128 w41 ho hb hg hat; rw [← Ny127.out] at ho; have n0_ := Aside0.mk (Kd.R_after (ok := (fun _ => True)) (by (with_reducible repeat (first | apply Kd.R_alloc | apply Kd.R_drewN | apply Kd.R_drew)); exact HO_5.out) hg hat); have n1_ := Aside0.mk (hb); have n2_ := Aside0.mk (ho); clear HO_5; clear HB; clear HO126; have HO_5 := n0_; have HB := n1_; have HO129 := n2_; clear n0_ n1_ n2_; clear ho hb hg hat; obtain ⟨Ao43, co43, eo43⟩ := Kd.R_slice HO129.out; subst eo43) | (go_at_call 10; (with_reducible refine (spec_polymod.calls k4 _ _ y127 t130 _ ?side1 ?side2 A35.out).mono ?_); (case side1 => repeat (first | exact (Kd.R_reads' HO129.out).2.2 | (with_reducible refine Kd.C_alloc ?_ _) | (with_reducible refine Kd.C_drewN ?_ _) | (with_reducible refine Kd.C_drew ?_))); (case side2 => exact (Kd.R_reads' HO129.out).2.1); rintro e w44 ⟨rfl, hb⟩; have n0_ := Aside0.mk (Kd.R_below (by (with_reducible repeat (first | apply Kd.R_alloc | apply Kd.R_drewN | apply Kd.R_drew)); exact HO_5.out) hb); have n1_ := Aside0.mk (Kd.R_below (by (with_reducible repeat (first | apply Kd.R_alloc | apply Kd.R_drewN | apply Kd.R_drew)); exact HO129.out) hb); have n2_ := Aside0.mk (below_step (by repeat (first | (with_reducible first | exact HB.out | apply below_alloc | apply pw_below_drewN | apply below_drew1) | exact HB.out)) hb); clear HO_5; clear HO129; clear HB; have HO_5 := n0_; have HO129 := n1_; have HB := n2_; clear n0_ n1_ n2_; (try clear hb); (try clear hb2); (try clear hk); (try clear hi); have q45 : ((ji37) : Int) ≤ ((x5_4.length : Int) : Int) := of_decide_eq_true (by first | (with_reducible assumption) | assumption); obtain ⟨i045, hi045, _, hsz45, _⟩ := info_parts info5; have hcut45 := cut_to (P := Tryd.prog) 22 5 .i64 Tryd.underlying22 hi045 Ao42 x5_4.length co42 (ji37) (of_decide_eq_true (by first | (with_reducible assumption) | assumption)) q45 (Kd.R_reads' HO_5.out).2.1; have hr45 := Kd.R_take (m := ((ji37) : Int).toNat) HO_5.out (by omega); have hy45 : y131.length = ((ji37) : Int).toNat := (by rw [Ny131.out, List.length_take]; omega); rw [← Ny131.out] at hr45; rw [← hy45] at hr45 hcut45; clear hy45 hi045 hsz45 HO_5; have HO133 := Aside0.mk hr45; clear hr45; replace q45 := eq_true q45)); try go_wp2_with (first | (go_at_call 11; (with_reducible refine (spec_expand.calls k4 x4_4 t124 _ A33.out).mono ?_); rintro e w40 ⟨v125, rfl, ho0, hb⟩; have n0_ := Aside0.mk (Kd.R_elder' (by (with_reducible repeat (first | apply Kd.R_alloc | apply Kd.R_drewN | apply Kd.R_drew)); exact HO_5.out) (Kd.R_base ho0) hb); have n1_ := Aside0.mk (Kd.R_lower (Kd.R_new' ho0 (Kd.R_lt (by (with_reducible repeat (first | apply Kd.R_alloc | apply Kd.R_drewN | apply Kd.R_drew)); exact HO_5.out))) (below_size (by repeat (first | (with_reducible first | exact HB.out | apply below_alloc | apply pw_below_drewN | apply below_drew1) | exact HB.out)))); have n2_ := Aside0.mk (below_step (by repeat (first | (with_reducible first | exact HB.out | apply below_alloc | apply pw_below_drewN | apply below_drew1) | exact HB.out)) hb); clear HO_5; clear HB; have HO_5 := n0_; have HO126 := n1_; have HB := n2_; clear n0_ n1_ n2_; (try clear hb); (try clear hb2); (try clear hk); (try clear hi); (try clear ho0); obtain ⟨Ao42, co42, eo42⟩ := Kd.R_slice HO_5.out; subst eo42) | ((with_reducible refine gate_builtin (b := .append) (xs := #[.tmp 80, .tmp 81]) rfl ?_); (try (refine gate_guard (by rfl) ?_; dsimp only)); at_builtin; refine Kd.R_append_rows (Kd.int .u8) (w0 := w) w.heap.size rfl (.tmp 80) (.tmp 81) 22 5 (.int .u8 0) 1 rfl Tryd.underlying22 info5 rfl (by decide) (by omega) v125 t124 x5_4 _ _ _ (fun k_ => some k_ ≠ (.slice Ao42 x5_4.length co42 : Value).ownBlock) (fun _ => False) rfl rfl ?aO ?aR (fun _ _ h => h) (fun _ h => h.elim) ?aF ?aB ?aS ?aL ?_; (case aR => repeat (first | exact (Kd.R_reads' HO_5.out).2.2 | (with_reducible refine Kd.C_alloc ?_ _) | (with_reducible refine Kd.C_drewN ?_ _) | (with_reducible refine Kd.C_drew ?_))); (case aB => exact (by repeat (first | (with_reducible first | exact HB.out | apply below_alloc | apply pw_below_drewN | apply below_drew1) | exact HB.out))); (case aF => exact (fun k_ hk => Kd.fresh' (Kd.R_lt (by (with_reducible repeat (first | apply Kd.R_alloc | apply Kd.R_drewN | apply Kd.R_drew)); exact HO_5.out)) k_ hk)); (case aO => exact (by (with_reducible repeat (first | apply Kd.R_alloc | apply Kd.R_drewN | apply Kd.R_drew)); exact Kd.R_mono HO126.out (fun _ hk => hk.2))); (case aS => exact (below_size (by repeat (first | (with_reducible first | exact HB.out | apply below_alloc | apply pw_below_drewN | apply below_drew1) | exact HB.out)))); (case aL => have := LMc34.out; omega); intro v128 w41 ho hb hg hat; rw [← Ny127.out] at ho; have n0_ := Aside0.mk (Kd.R_after (ok := (fun _ => True)) (by (with_reducible repeat (first | apply Kd.R_alloc | apply Kd.R_drewN | apply Kd.R_drew)); exact HO_5.out) hg hat); have n1_ := Aside0.mk (hb); have n2_ := Aside0.mk (ho); clear HO_5; clear HB; clear HO126; have HO_5 := n0_; have HB := n1_; have HO129 := n2_; clear n0_ n1_ n2_; clear ho hb hg hat; obtain ⟨Ao43, co43, eo43⟩ := Kd.R_slice HO129.out; subst eo43) | (go_at_call 10; (with_reducible refine (spec_polymod.calls k4 _ _ y127 t130 _ ?side1 ?side2 A35.out).mono ?_); (case side1 => repeat (first | exact (Kd.R_reads' HO129.out).2.2 | (with_reducible refine Kd.C_alloc ?_ _) | (with_reducible refine Kd.C_drewN ?_ _) | (with_reducible refine Kd.C_drew ?_))); (case side2 => exact (Kd.R_reads' HO129.out).2.1); rintro e w44 ⟨rfl, hb⟩; have n0_ := Aside0.mk (Kd.R_below (by (with_reducible repeat (first | apply Kd.R_alloc | apply Kd.R_drewN | apply Kd.R_drew)); exact HO_5.out) hb); have n1_ := Aside0.mk (Kd.R_below (by (with_reducible repeat (first | apply Kd.R_alloc | apply Kd.R_drewN | apply Kd.R_drew)); exact HO129.out) hb); have n2_ := Aside0.mk (below_step (by repeat (first | (with_reducible first | exact HB.out | apply below_alloc | apply pw_below_drewN | apply below_drew1) | exact HB.out)) hb); clear HO_5; clear HO129; clear HB; have HO_5 := n0_; have HO129 := n1_; have HB := n2_; clear n0_ n1_ n2_; (try clear hb); (try clear hb2); (try clear hk); (try clear hi); have q45 : ((ji37) : Int) ≤ ((x5_4.length : Int) : Int) := of_decide_eq_true (by first | (with_reducible assumption) | assumption); obtain ⟨i045, hi045, _, hsz45, _⟩ := info_parts info5; have hcut45 := cut_to (P := Tryd.prog) 22 5 .i64 Tryd.underlying22 hi045 Ao42 x5_4.length co42 (ji37) (of_decide_eq_true (by first | (with_reducible assumption) | assumption)) q45 (Kd.R_reads' HO_5.out).2.1; have hr45 := Kd.R_take (m := ((ji37) : Int).toNat) HO_5.out (by omega); have hy45 : y131.length = ((ji37) : Int).toNat := (by rw [Ny131.out, List.length_take]; omega); rw [← Ny131.out] at hr45; rw [← hy45] at hr45 hcut45; clear hy45 hi045 hsz45 HO_5; have HO133 := Aside0.mk hr45; clear hr45; replace q45 := eq_true q45)))
                                      refine bodyPost_ret (results_list (rs := [.tmp 4, .tmp 5, .tmp 6, .tmp 7]) rfl (by simp) (.tmp (.tmp (.tmp (.tmp .nil))))) rfl ?_
                                      exact ⟨_, by first | rfl | (simp [errW_none, errW_some] <;> rfl) | (simp only [← hji37]; first | rfl | (simp [errW_none, errW_some] <;> rfl)) | (simp [*, errW_none, errW_some] <;> rfl), by (with_reducible repeat (first | apply Kd.R_alloc | apply Kd.R_drewN | apply Kd.R_drew)); exact Kd.R_mono HO133.out (fun _ hk => trivial), by repeat (first | (with_reducible first | exact HB.out | apply below_alloc | apply pw_below_drewN | apply below_drew1) | exact HB.out)⟩
                                    · rw [if_neg c39] at H
                                      exact absurd H (by simp)
                                  · rw [if_neg c38] at H
                                    exact absurd H (by simp)
                                · rw [if_neg c36] at H
                                  have c36b0 : (t130 == 1) = false := beq_eq_false_iff_ne.mpr c36
                                  have c36b1 : (t130 != 1) = true := bne_iff_ne.mpr c36
                                  by_cases c46 : t130 = 734539939
                                  · rw [if_pos c46] at H
                                    have c46b0 : (t130 == 734539939) = true := beq_iff_eq.mpr c46
                                    have c46b1 : (t130 != 734539939) = false := bne_eq_false_iff_eq.mpr c46
                                    clear c46
                                    obtain ⟨ji47, hji47⟩ : ∃ j_ : Int, (wrap64 ((x5_4.length : Int) - 6)) = j_ := ⟨_, rfl⟩
                                    replace H : (if 0 ≤ (ji47) then (if (ji47) ≤ (x5_4.length : Int) then (some (x4_4, (x5_4.take ((ji47) : Int).toNat), t130, true)) else (none)) else (none)) = some (r1, r2, r3, r4) := by first | (rw [hji47] at H; exact H) | (simp only [hji47] at H ⊢; exact H)
                                    (try rw [hji47] at A33)
                                    (try rw [hji47] at A35)
                                    have hji47w : (IntKind.i64.wrap ((x5_4.length : Int) - 6)) = ji47 := (i64_w _).trans hji47
                                    by_cases c48 : 0 ≤ (ji47)
                                    · rw [if_pos c48] at H
                                      have c48b0 := eq_true c48
                                      have c48b1 : decide (0 ≤ (ji47)) = true := decide_eq_true c48
                                      clear c48
                                      by_cases c49 : (ji47) ≤ (x5_4.length : Int)
                                      · rw [if_pos c49] at H
                                        have c49b0 := eq_true c49
                                        have c49b1 : decide ((ji47) ≤ (x5_4.length : Int)) = true := decide_eq_true c49
                                        clear c49
                                        obtain ⟨y134, hy134⟩ : ∃ y_ : List Int, y_ = (x5_4.take ((ji47) : Int).toNat) := ⟨_, rfl⟩
                                        replace H : (some (x4_4, y134, t130, true)) = some (r1, r2, r3, r4) := by first | (rw [hy134]; with_reducible exact H) | (have H2_ := (Option.bind_some _ _).symm.trans H; rw [hy134]; with_reducible exact H2_) | (have H2_ := (Option.bind_some _ _).symm.trans H; with_reducible exact H2_) | with_reducible exact H | (rw [hy134]; exact H) | exact H
                                        have Ny134 := Aside0.mk hy134
                                        clear hy134
                                        simp only [Option.some.injEq, Prod.mk.injEq] at H
                                        obtain ⟨rfl, rfl, rfl, rfl⟩ := H
                                        go_wp2_with (first | (go_at_call 11; (with_reducible refine (spec_expand.calls k4 x4_4 t124 _ A33.out).mono ?_); rintro e w50 ⟨v125, rfl, ho0, hb⟩; have n0_ := Aside0.mk (Kd.R_elder' (by (with_reducible repeat (first | apply Kd.R_alloc | apply Kd.R_drewN | apply Kd.R_drew)); exact HO_5.out) (Kd.R_base ho0) hb); have n1_ := Aside0.mk (Kd.R_lower (Kd.R_new' ho0 (Kd.R_lt (by (with_reducible repeat (first | apply Kd.R_alloc | apply Kd.R_drewN | apply Kd.R_drew)); exact HO_5.out))) (below_size (by repeat (first | (with_reducible first | exact HB.out | apply below_alloc | apply pw_below_drewN | apply below_drew1) | exact HB.out)))); have n2_ := Aside0.mk (below_step (by repeat (first | (with_reducible first | exact HB.out | apply below_alloc | apply pw_below_drewN | apply below_drew1) | exact HB.out)) hb); clear HO_5; clear HB; have HO_5 := n0_; have HO126 := n1_; have HB := n2_; clear n0_ n1_ n2_; (try clear hb); (try clear hb2); (try clear hk); (try clear hi); (try clear ho0); obtain ⟨Ao52, co52, eo52⟩ := Kd.R_slice HO_5.out; subst eo52) | ((with_reducible refine gate_builtin (b := .append) (xs := #[.tmp 80, .tmp 81]) rfl ?_); (try (refine gate_guard (by rfl) ?_; dsimp only)); at_builtin; refine Kd.R_append_rows (Kd.int .u8) (w0 := w) w.heap.size rfl (.tmp 80) (.tmp 81) 22 5 (.int .u8 0) 1 rfl Tryd.underlying22 info5 rfl (by decide) (by omega) v125 t124 x5_4 _ _ _ (fun k_ => some k_ ≠ (.slice Ao52 x5_4.length co52 : Value).ownBlock) (fun _ => False) rfl rfl ?aO ?aR (fun _ _ h => h) (fun _ h => h.elim) ?aF ?aB ?aS ?aL ?_; (case aR => repeat (first | exact (Kd.R_reads' HO_5.out).2.2 | (with_reducible refine Kd.C_alloc ?_ _) | (with_reducible refine Kd.C_drewN ?_ _) | (with_reducible refine Kd.C_drew ?_))); (case aB => exact (by repeat (first | (with_reducible first | exact HB.out | apply below_alloc | apply pw_below_drewN | apply below_drew1) | exact HB.out))); (case aF => exact (fun k_ hk => Kd.fresh' (Kd.R_lt (by (with_reducible repeat (first | apply Kd.R_alloc | apply Kd.R_drewN | apply Kd.R_drew)); exact HO_5.out)) k_ hk)); (case aO => exact (by (with_reducible repeat (first | apply Kd.R_alloc | apply Kd.R_drewN | apply Kd.R_drew)); exact Kd.R_mono HO126.out (fun _ hk => hk.2))); (case aS => exact (below_size (by repeat (first | (with_reducible first | exact HB.out | apply below_alloc | apply pw_below_drewN | apply below_drew1) | exact HB.out)))); (case aL => have := LMc34.out; omega); intro v128 w51 ho hb hg hat; rw [← Ny127.out] at ho; have n0_ := Aside0.mk (Kd.R_after (ok := (fun _ => True)) (by (with_reducible repeat (first | apply Kd.R_alloc | apply Kd.R_drewN | apply Kd.R_drew)); exact HO_5.out) hg hat); have n1_ := Aside0.mk (hb); have n2_ := Aside0.mk (ho); clear HO_5; clear HB; clear HO126; have HO_5 := n0_; have HB := n1_; have HO129 := n2_; clear n0_ n1_ n2_; clear ho hb hg hat; obtain ⟨Ao53, co53, eo53⟩ := Kd.R_slice HO129.out; subst eo53) | (go_at_call 10; (with_reducible refine (spec_polymod.calls k4 _ _ y127 t130 _ ?side1 ?side2 A35.out).mono ?_); (case side1 => repeat (first | exact (Kd.R_reads' HO129.out).2.2 | (with_reducible refine Kd.C_alloc ?_ _) | (with_reducible refine Kd.C_drewN ?_ _) | (with_reducible refine Kd.C_drew ?_))); (case side2 => exact (Kd.R_reads' HO129.out).2.1); rintro e w54 ⟨rfl, hb⟩; have n0_ := Aside0.mk (Kd.R_below (by (with_reducible repeat (first | apply Kd.R_alloc | apply Kd.R_drewN | apply Kd.R_drew)); exact HO_5.out) hb); have n1_ := Aside0.mk (Kd.R_below (by (with_reducible repeat (first | apply Kd.R_alloc | apply Kd.R_drewN | apply Kd.R_drew)); exact HO129.out) hb); have n2_ := Aside0.mk (below_step (by repeat (first | (with_reducible first | exact HB.out | apply below_alloc | apply pw_below_drewN | apply below_drew1) | exact HB.out)) hb); clear HO_5; clear HO129; clear HB; have HO_5 := n0_; have HO129 := n1_; have HB := n2_; clear n0_ n1_ n2_; (try clear hb); (try clear hb2); (try clear hk); (try clear hi); have q55 : ((ji47) : Int) ≤ ((x5_4.length : Int) : Int) := of_decide_eq_true (by first | (with_reducible assumption) | assumption); obtain ⟨i055, hi055, _, hsz55, _⟩ := info_parts info5; have hcut55 := cut_to (P := Tryd.prog) 22 5 .i64 Tryd.underlying22 hi055 Ao52 x5_4.length co52 (ji47) (of_decide_eq_true (by first | (with_reducible assumption) | assumption)) q55 (Kd.R_reads' HO_5.out).2.1; have hr55 := Kd.R_take (m := ((ji47) : Int).toNat) HO_5.out (by omega); have hy55 : y134.length = ((ji47) : Int).toNat := (by rw [Ny134.out, List.length_take]; omega); rw [← Ny134.out] at hr55; rw [← hy55] at hr55 hcut55; clear hy55 hi055 hsz55 HO_5; have HO136 := Aside0.mk hr55; clear hr55; replace q55 := eq_true q55))
                                        repeat (go_quiet (first | (go_at_call 11; (with_reducible refine (spec_expand.calls k4 x4_4 t124 _ A33.out).mono ?_); rintro e w50 ⟨v125, rfl, ho0, hb⟩; have n0_ := Aside0.mk (Kd.R_elder' (by (with_reducible repeat (first | apply Kd.R_alloc | apply Kd.R_drewN | apply Kd.R_drew)); exact HO_5.out) (Kd.R_base ho0) hb); have n1_ := Aside0.mk (Kd.R_lower (Kd.R_new' ho0 (Kd.R_lt (by (with_reducible repeat (first | apply Kd.R_alloc | apply Kd.R_drewN | apply Kd.R_drew)); exact HO_5.out))) (below_size (by repeat (first | (with_reducible first | exact HB.out | apply below_alloc | apply pw_below_drewN | apply below_drew1) | exact HB.out)))); have n2_ := Aside0.mk (below_step (by repeat (first | (with_reducible first | exact HB.out | apply below_alloc | apply pw_below_drewN | apply below_drew1) | exact HB.out)) hb); clear HO_5; clear HB; have HO_5 := n0_; have HO126 := n1_; have HB := n2_; clear n0_ n1_ n2_; (try clear hb); (try clear hb2); (try clear hk); (try clear hi); (try clear ho0); obtain ⟨Ao52, co52, eo52⟩ := Kd.R_slice HO_5.out; subst eo52) | ((with_reducible refine gate_builtin (b := .append) (xs := #[.tmp 80, .tmp 81]) rfl ?_); (try (refine gate_guard (by rfl) ?_; dsimp only)); at_builtin; refine Kd.R_append_rows (Kd.int .u8) (w0 := w) w.heap.size rfl (.tmp 80) (.tmp 81) 22 5 (.int .u8 0) 1 rfl Tryd.underlying22 info5 rfl (by decide) (by omega) v125 t124 x5_4 _ _ _ (fun k_ => some k_ ≠ (.slice Ao52 x5_4.length co52 : Value).ownBlock) (fun _ => False) rfl rfl ?aO ?aR (fun _ _ h => h) (fun _ h => h.elim) ?aF ?aB ?aS ?aL ?_; (case aR => repeat (first | exact (Kd.R_reads' HO_5.out).2.2 | (with_reducible refine Kd.C_alloc ?_ _) | (with_reducible refine Kd.C_drewN ?_ _) | (with_reducible refine Kd.C_drew ?_))); (case aB => exact (by repeat (first | (with_reducible first | exact HB.out | apply below_alloc | apply pw_below_drewN | apply below_drew1) | exact HB.out))); (case aF => exact (fun k_ hk => Kd.fresh' (Kd.R_lt (by (with_reducible repeat (first | apply Kd.R_alloc | apply Kd.R_drewN | apply Kd.R_drew)); exact HO_5.out)) k_ hk)); (case aO => exact (by (with_reducible repeat (first | apply Kd.R_alloc | apply Kd.R_drewN | apply Kd.R_drew)); exact Kd.R_mono HO126.out (fun _ hk => hk.2))); (case aS => exact (below_size (by repeat (first | (with_reducible first | exact HB.out | apply below_alloc | apply pw_below_drewN | apply below_drew1) | exact HB.out)))); (case aL => have := LMc34.out; omega); intro v128 w51 ho hb hg hat; rw [← Ny127.out] at ho; have n0_ := Aside0.mk (Kd.R_after (ok := (fun _ => True)) (by (with_reducible repeat (first | apply Kd.R_alloc | apply Kd.R_drewN | apply Kd.R_drew)); exact HO_5.out) hg hat); have n1_ := Aside0.mk (hb); have n2_ := Aside0.mk (ho); clear HO_5; clear HB; clear HO126; have HO_5 := n0_; have HB := n1_; have HO129 := n2_; clear n0_ n1_ n2_; clear ho hb hg hat; obtain ⟨Ao53, co53, eo53⟩ := Kd.R_slice HO129.out; subst eo53) | (go_at_call 10; (with_reducible refine (spec_polymod.calls k4 _ _ y127 t130 _ ?side1 ?side2 A35.out).mono ?_); (case side1 => repeat (first | exact (Kd.R_reads' HO129.out).2.2 | (with_reducible refine Kd.C_alloc ?_ _) | (with_reducible refine Kd.C_drewN ?_ _) | (with_reducible refine Kd.C_drew ?_))); (case side2 => exact (Kd.R_reads' HO129.out).2.1); rintro e w54 ⟨rfl, hb⟩; have n0_ := Aside0.mk (Kd.R_below (by (with_reducible repeat (first | apply Kd.R_alloc | apply Kd.R_drewN | apply Kd.R_drew)); exact HO_5.out) hb); have n1_ := Aside0.mk (Kd.R_below (by (with_reducible repeat (first | apply Kd.R_alloc | apply Kd.R_drewN | apply Kd.R_drew)); exact HO129.out) hb); have n2_ := Aside0.mk (below_step (by repeat (first | (with_reducible first | exact HB.out | apply below_alloc | apply pw_below_drewN | apply below_drew1) | exact HB.out)) hb); clear HO_5; clear HO129; clear HB; have HO_5 := n0_; have HO129 := n1_; have HB := n2_; clear n0_ n1_ n2_; (try clear hb); (try clear hb2); (try clear hk); (try clear hi); have q55 : ((ji47) : Int) ≤ ((x5_4.length : Int) : Int) := of_decide_eq_true (by first | (with_reducible assumption) | assumption); obtain ⟨i055, hi055, _, hsz55, _⟩ := info_parts info5; have hcut55 := cut_to (P := Tryd.prog) 22 5 .i64 Tryd.underlying22 hi055 Ao52 x5_4.length co52 (ji47) (of_decide_eq_true (by first | (with_reducible assumption) | assumption)) q55 (Kd.R_reads' HO_5.out).2.1; have hr55 := Kd.R_take (m := ((ji47) : Int).toNat) HO_5.out (by omega); have hy55 : y134.length = ((ji47) : Int).toNat := (by rw [Ny134.out, List.length_take]; omega); rw [← Ny134.out] at hr55; rw [← hy55] at hr55 hcut55; clear hy55 hi055 hsz55 HO_5; have HO136 := Aside0.mk hr55; clear hr55; replace q55 := eq_true q55)); try go_wp2_with (first | (go_at_call 11; (with_reducible refine (spec_expand.calls k4 x4_4 t124 _ A33.out).mono ?_); rintro e w50 ⟨v125, rfl, ho0, hb⟩; have n0_ := Aside0.mk (Kd.R_elder' (by (with_reducible repeat (first | apply Kd.R_alloc | apply Kd.R_drewN | apply Kd.R_drew)); exact HO_5.out) (Kd.R_base ho0) hb); have n1_ := Aside0.mk (Kd.R_lower (Kd.R_new' ho0 (Kd.R_lt (by (with_reducible repeat (first | apply Kd.R_alloc | apply Kd.R_drewN | apply Kd.R_drew)); exact HO_5.out))) (below_size (by repeat (first | (with_reducible first | exact HB.out | apply below_alloc | apply pw_below_drewN | apply below_drew1) | exact HB.out)))); have n2_ := Aside0.mk (below_step (by repeat (first | (with_reducible first | exact HB.out | apply below_alloc | apply pw_below_drewN | apply below_drew1) | exact HB.out)) hb); clear HO_5; clear HB; have HO_5 := n0_; have HO126 := n1_; have HB := n2_; clear n0_ n1_ n2_; (try clear hb); (try clear hb2); (try clear hk); (try clear hi); (try clear ho0); obtain ⟨Ao52, co52, eo52⟩ := Kd.R_slice HO_5.out; subst eo52) | ((with_reducible refine gate_builtin (b := .append) (xs := #[.tmp 80, .tmp 81]) rfl ?_); (try (refine gate_guard (by rfl) ?_; dsimp only)); at_builtin; refine Kd.R_append_rows (Kd.int .u8) (w0 := w) w.heap.size rfl (.tmp 80) (.tmp 81) 22 5 (.int .u8 0) 1 rfl Tryd.underlying22 info5 rfl (by decide) (by omega) v125 t124 x5_4 _ _ _ (fun k_ => some k_ ≠ (.slice Ao52 x5_4.length co52 : Value).ownBlock) (fun _ => False) rfl rfl ?aO ?aR (fun _ _ h => h) (fun _ h => h.elim) ?aF ?aB ?aS ?aL ?_; (case aR => repeat (first | exact (Kd.R_reads' HO_5.out).2.2 | (with_reducible refine Kd.C_alloc ?_ _) | (with_reducible refine Kd.C_drewN ?_ _) | (with_reducible refine Kd.C_drew ?_))); (case aB => exact (by repeat (first | (with_reducible first | exact HB.out | apply below_alloc | apply pw_below_drewN | apply below_drew1) | exact HB.out))); (case aF => exact (fun k_ hk => Kd.fresh' (Kd.R_lt (by (with_reducible repeat (first | apply Kd.R_alloc | apply Kd.R_drewN | apply Kd.R_drew)); exact HO_5.out)) k_ hk)); (case aO => exact (by (with_reducible repeat (first | apply Kd.R_alloc | apply Kd.R_drewN | apply Kd.R_drew)); exact Kd.R_mono HO126.out (fun _ hk => hk.2))); (case aS => exact (below_size (by repeat (first | (with_reducible first | exact HB.out | apply below_alloc | apply pw_below_drewN | apply below_drew1) | exact HB.out)))); (case aL => have := LMc34.out; omega); intro v128 w51 ho hb hg hat; rw [← Ny127.out] at ho; have n0_ := Aside0.mk (Kd.R_after (ok := (fun _ => True)) (by (with_reducible repeat (first | apply Kd.R_alloc | apply Kd.R_drewN | apply Kd.R_drew)); exact HO_5.out) hg hat); have n1_ := Aside0.mk (hb); have n2_ := Aside0.mk (ho); clear HO_5; clear HB; clear HO126; have HO_5 := n0_; have HB := n1_; have HO129 := n2_; clear n0_ n1_ n2_; clear ho hb hg hat; obtain ⟨Ao53, co53, eo53⟩ := Kd.R_slice HO129.out; subst eo53) | (go_at_call 10; (with_reducible refine (spec_polymod.calls k4 _ _ y127 t130 _ ?side1 ?side2 A35.out).mono ?_); (case side1 => repeat (first | exact (Kd.R_reads' HO129.out).2.2 | (with_reducible refine Kd.C_alloc ?_ _) | (with_reducible refine Kd.C_drewN ?_ _) | (with_reducible refine Kd.C_drew ?_))); (case side2 => exact (Kd.R_reads' HO129.out).2.1); rintro e w54 ⟨rfl, hb⟩; have n0_ := Aside0.mk (Kd.R_below (by (with_reducible repeat (first | apply Kd.R_alloc | apply Kd.R_drewN | apply Kd.R_drew)); exact HO_5.out) hb); have n1_ := Aside0.mk (Kd.R_below (by (with_reducible repeat (first | apply Kd.R_alloc | apply Kd.R_drewN | apply Kd.R_drew)); exact HO129.out) hb); have n2_ := Aside0.mk (below_step (by repeat (first | (with_reducible first | exact HB.out | apply below_alloc | apply pw_below_drewN | apply below_drew1) | exact HB.out)) hb); clear HO_5; clear HO129; clear HB; have HO_5 := n0_; have HO129 := n1_; have HB := n2_; clear n0_ n1_ n2_; (try clear hb); (try clear hb2); (try clear hk); (try clear hi); have q55 : ((ji47) : Int) ≤ ((x5_4.length : Int) : Int) := of_decide_eq_true (by first | (with_reducible assumption) | assumption); obtain ⟨i055, hi055, _, hsz55, _⟩ := info_parts info5; have hcut55 := cut_to (P := Tryd.prog) 22 5 .i64 Tryd.underlying22 hi055 Ao52 x5_4.length co52 (ji47) (of_decide_eq_true (by first | (with_reducible assumption) | assumption)) q55 (Kd.R_reads' HO_5.out).2.1; have hr55 := Kd.R_take (m := ((ji47) : Int).toNat) HO_5.out (by omega); have hy55 : y134.length = ((ji47) : Int).toNat := (by rw [Ny134.out, List.length_take]; omega); rw [← Ny134.out] at hr55; rw [← hy55] at hr55 hcut55; clear hy55 hi055 hsz55 HO_5; have HO136 := Aside0.mk hr55; clear hr55; replace q55 := eq_true q55)))
                                        refine bodyPost_ret (results_list (rs := [.tmp 4, .tmp 5, .tmp 6, .tmp 7]) rfl (by simp) (.tmp (.tmp (.tmp (.tmp .nil))))) rfl ?_
                                        exact ⟨_, by first | rfl | (simp [errW_none, errW_some] <;> rfl) | (simp only [← hji47]; first | rfl | (simp [errW_none, errW_some] <;> rfl)) | (simp [*, errW_none, errW_some] <;> rfl), by (with_reducible repeat (first | apply Kd.R_alloc | apply Kd.R_drewN | apply Kd.R_drew)); exact Kd.R_mono HO136.out (fun _ hk => trivial), by repeat (first | (with_reducible first | exact HB.out | apply below_alloc | apply pw_below_drewN | apply below_drew1) | exact HB.out)⟩
                                      · rw [if_neg c49] at H
                                        exact absurd H (by simp)
                                    · rw [if_neg c48] at H
                                      exact absurd H (by simp)
                                  · rw [if_neg c46] at H
                                    have c46b0 : (t130 == 734539939) = false := beq_eq_false_iff_ne.mpr c46
                                    have c46b1 : (t130 != 734539939) = true := bne_iff_ne.mpr c46
                                    simp only [Option.some.injEq, Prod.mk.injEq] at H
                                    obtain ⟨rfl, rfl, rfl, rfl⟩ := H
                                    go_wp2_with (first | (go_at_call 11; (with_reducible refine (spec_expand.calls k4 x4_4 t124 _ A33.out).mono ?_); rintro e w56 ⟨v125, rfl, ho0, hb⟩; have n0_ := Aside0.mk (Kd.R_elder' (by (with_reducible repeat (first | apply Kd.R_alloc | apply Kd.R_drewN | apply Kd.R_drew)); exact HO_5.out) (Kd.R_base ho0) hb); have n1_ := Aside0.mk (Kd.R_lower (Kd.R_new' ho0 (Kd.R_lt (by (with_reducible repeat (first | apply Kd.R_alloc | apply Kd.R_drewN | apply Kd.R_drew)); exact HO_5.out))) (below_size (by repeat (first | (with_reducible first | exact HB.out | apply below_alloc | apply pw_below_drewN | apply below_drew1) | exact HB.out)))); have n2_ := Aside0.mk (below_step (by repeat (first | (with_reducible first | exact HB.out | apply below_alloc | apply pw_below_drewN | apply below_drew1) | exact HB.out)) hb); clear HO_5; clear HB; have HO_5 := n0_; have HO126 := n1_; have HB := n2_; clear n0_ n1_ n2_; (try clear hb); (try clear hb2); (try clear hk); (try clear hi); (try clear ho0); obtain ⟨Ao58, co58, eo58⟩ := Kd.R_slice HO_5.out; subst eo58) | ((with_reducible refine gate_builtin (b := .append) (xs := #[.tmp 80, .tmp 81]) rfl ?_); (try (refine gate_guard (by rfl) ?_; dsimp only)); at_builtin; refine Kd.R_append_rows (Kd.int .u8) (w0 := w) w.heap.size rfl (.tmp 80) (.tmp 81) 22 5 (.int .u8 0) 1 rfl Tryd.underlying22 info5 rfl (by decide) (by omega) v125 t124 x5_4 _ _ _ (fun k_ => some k_ ≠ (.slice Ao58 x5_4.length co58 : Value).ownBlock) (fun _ => False) rfl rfl ?aO ?aR (fun _ _ h => h) (fun _ h => h.elim) ?aF ?aB ?aS ?aL ?_; (case aR => repeat (first | exact (Kd.R_reads' HO_5.out).2.2 | (with_reducible refine Kd.C_alloc ?_ _) | (with_reducible refine Kd.C_drewN ?_ _) | (with_reducible refine Kd.C_drew ?_))); (case aB => exact (by repeat (first | (with_reducible first | exact HB.out | apply below_alloc | apply pw_below_drewN | apply below_drew1) | exact HB.out))); (case aF => exact (fun k_ hk => Kd.fresh' (Kd.R_lt (by (with_reducible repeat (first | apply Kd.R_alloc | apply Kd.R_drewN | apply Kd.R_drew)); exact HO_5.out)) k_ hk)); (case aO => exact (by (with_reducible repeat (first | apply Kd.R_alloc | apply Kd.R_drewN | apply Kd.R_drew)); exact Kd.R_mono HO126.out (fun _ hk => hk.2))); (case aS => exact (below_size (by repeat (first | (with_reducible first | exact HB.out | apply below_alloc | apply pw_below_drewN | apply below_drew1) | exact HB.out)))); (case aL => have := LMc34.out; omega); intro v128 w57 ho hb hg hat; rw [← Ny127.out] at ho; have n0_ := Aside0.mk (Kd.R_after (ok := (fun _ => True)) (by (with_reducible repeat (first | apply Kd.R_alloc | apply Kd.R_drewN | apply Kd.R_drew)); exact HO_5.out) hg hat); have n1_ := Aside0.mk (hb); have n2_ := Aside0.mk (ho); clear HO_5; clear HB; clear HO126; have HO_5 := n0_; have HB := n1_; have HO129 := n2_; clear n0_ n1_ n2_; clear ho hb hg hat; obtain ⟨Ao59, co59, eo59⟩ := Kd.R_slice HO129.out; subst eo59) | (go_at_call 10; (with_reducible refine (spec_polymod.calls k4 _ _ y127 t130 _ ?side1 ?side2 A35.out).mono ?_); (case side1 => repeat (first | exact (Kd.R_reads' HO129.out).2.2 | (with_reducible refine Kd.C_alloc ?_ _) | (with_reducible refine Kd.C_drewN ?_ _) | (with_reducible refine Kd.C_drew ?_))); (case side2 => exact (Kd.R_reads' HO129.out).2.1); rintro e w60 ⟨rfl, hb⟩; have n0_ := Aside0.mk (Kd.R_below (by (with_reducible repeat (first | apply Kd.R_alloc | apply Kd.R_drewN | apply Kd.R_drew)); exact HO_5.out) hb); have n1_ := Aside0.mk (Kd.R_below (by (with_reducible repeat (first | apply Kd.R_alloc | apply Kd.R_drewN | apply Kd.R_drew)); exact HO129.out) hb); have n2_ := Aside0.mk (below_step (by repeat (first | (with_reducible first | exact HB.out | apply below_alloc | apply pw_below_drewN | apply below_drew1) | exact HB.out)) hb); clear HO_5; clear HO129; clear HB; have HO_5 := n0_; have HO129 := n1_; have HB := n2_; clear n0_ n1_ n2_; (try clear hb); (try clear hb2); (try clear hk); (try clear hi)))
                                    repeat (go_quiet (first | (go_at_call 11; (with_reducible refine (spec_expand.calls k4 x4_4 t124 _ A33.out).mono ?_); rintro e w56 ⟨v125, rfl, ho0, hb⟩; have n0_ := Aside0.mk (Kd.R_elder' (by (with_reducible repeat (first | apply Kd.R_alloc | apply Kd.R_drewN | apply Kd.R_drew)); exact HO_5.out) (Kd.R_base ho0) hb); have n1_ := Aside0.mk (Kd.R_lower (Kd.R_new' ho0 (Kd.R_lt (by (with_reducible repeat (first | apply Kd.R_alloc | apply Kd.R_drewN | apply Kd.R_drew)); exact HO_5.out))) (below_size (by repeat (first | (with_reducible first | exact HB.out | apply below_alloc | apply pw_below_drewN | apply below_drew1) | exact HB.out)))); have n2_ := Aside0.mk (below_step (by repeat (first | (with_reducible first | exact HB.out | apply below_alloc | apply pw_below_drewN | apply below_drew1) | exact HB.out)) hb); clear HO_5; clear HB; have HO_5 := n0_; have HO126 := n1_; have HB := n2_; clear n0_ n1_ n2_; (try clear hb); (try clear hb2); (try clear hk); (try clear hi); (try clear ho0); obtain ⟨Ao58, co58, eo58⟩ := Kd.R_slice HO_5.out; subst eo58) | ((with_reducible refine gate_builtin (b := .append) (xs := #[.tmp 80, .tmp 81]) rfl ?_); (try (refine gate_guard (by rfl) ?_; dsimp only)); at_builtin; refine Kd.R_append_rows (Kd.int .u8) (w0 := w) w.heap.size rfl (.tmp 80) (.tmp 81) 22 5 (.int .u8 0) 1 rfl Tryd.underlying22 info5 rfl (by decide) (by omega) v125 t124 x5_4 _ _ _ (fun k_ => some k_ ≠ (.slice Ao58 x5_4.length co58 : Value).ownBlock) (fun _ => False) rfl rfl ?aO ?aR (fun _ _ h => h) (fun _ h => h.elim) ?aF ?aB ?aS ?aL ?_; (case aR => repeat (first | exact (Kd.R_reads' HO_5.out).2.2 | (with_reducible refine Kd.C_alloc ?_ _) | (with_reducible refine Kd.C_drewN ?_ _) | (with_reducible refine Kd.C_drew ?_))); (case aB => exact (by repeat (first | (with_reducible first | exact HB.out | apply below_alloc | apply pw_below_drewN | apply below_drew1) | exact HB.out))); (case aF => exact (fun k_ hk => Kd.fresh' (Kd.R_lt (by (with_reducible repeat (first | apply Kd.R_alloc | apply Kd.R_drewN | apply Kd.R_drew)); exact HO_5.out)) k_ hk)); (case aO => exact (by (with_reducible repeat (first | apply Kd.R_alloc | apply Kd.R_drewN | apply Kd.R_drew)); exact Kd.R_mono HO126.out (fun _ hk => hk.2))); (case aS => exact (below_size (by repeat (first | (with_reducible first | exact HB.out | apply below_alloc | apply pw_below_drewN | apply below_drew1) | exact HB.out)))); (case aL => have := LMc34.out; omega); intro v128 w57 ho hb hg hat; rw [← Ny127.out] at ho; have n0_ := Aside0.mk (Kd.R_after (ok := (fun _ => True)) (by (with_reducible repeat (first | apply Kd.R_alloc | apply Kd.R_drewN | apply Kd.R_drew)); exact HO_5.out) hg hat); have n1_ := Aside0.mk (hb); have n2_ := Aside0.mk (ho); clear HO_5; clear HB; clear HO126; have HO_5 := n0_; have HB := n1_; have HO129 := n2_; clear n0_ n1_ n2_; clear ho hb hg hat; obtain ⟨Ao59, co59, eo59⟩ := Kd.R_slice HO129.out; subst eo59) | (go_at_call 10; (with_reducible refine (spec_polymod.calls k4 _ _ y127 t130 _ ?side1 ?side2 A35.out).mono ?_); (case side1 => repeat (first | exact (Kd.R_reads' HO129.out).2.2 | (with_reducible refine Kd.C_alloc ?_ _) | (with_reducible refine Kd.C_drewN ?_ _) | (with_reducible refine Kd.C_drew ?_))); (case side2 => exact (Kd.R_reads' HO129.out).2.1); rintro e w60 ⟨rfl, hb⟩; have n0_ := Aside0.mk (Kd.R_below (by (with_reducible repeat (first | apply Kd.R_alloc | apply Kd.R_drewN | apply Kd.R_drew)); exact HO_5.out) hb); have n1_ := Aside0.mk (Kd.R_below (by (with_reducible repeat (first | apply Kd.R_alloc | apply Kd.R_drewN | apply Kd.R_drew)); exact HO129.out) hb); have n2_ := Aside0.mk (below_step (by repeat (first | (with_reducible first | exact HB.out | apply below_alloc | apply pw_below_drewN | apply below_drew1) | exact HB.out)) hb); clear HO_5; clear HO129; clear HB; have HO_5 := n0_; have HO129 := n1_; have HB := n2_; clear n0_ n1_ n2_; (try clear hb); (try clear hb2); (try clear hk); (try clear hi))); try go_wp2_with (first | (go_at_call 11; (with_reducible refine (spec_expand.calls k4 x4_4 t124 _ A33.out).mono ?_); rintro e w56 ⟨v125, rfl, ho0, hb⟩; have n0_ := Aside0.mk (Kd.R_elder' (by (with_reducible repeat (first | apply Kd.R_alloc | apply Kd.R_drewN | apply Kd.R_drew)); exact HO_5.out) (Kd.R_base ho0) hb); have n1_ := Aside0.mk (Kd.R_lower (Kd.R_new' ho0 (Kd.R_lt (by (with_reducible repeat (first | apply Kd.R_alloc | apply Kd.R_drewN | apply Kd.R_drew)); exact HO_5.out))) (below_size (by repeat (first | (with_reducible first | exact HB.out | apply below_alloc | apply pw_below_drewN | apply below_drew1) | exact HB.out)))); have n2_ := Aside0.mk (below_step (by repeat (first | (with_reducible first | exact HB.out | apply below_alloc | apply pw_below_drewN | apply below_drew1) | exact HB.out)) hb); clear HO_5; clear HB; have HO_5 := n0_; have HO126 := n1_; have HB := n2_; clear n0_ n1_ n2_; (try clear hb); (try clear hb2); (try clear hk); (try clear hi); (try clear ho0); obtain ⟨Ao58, co58, eo58⟩ := Kd.R_slice HO_5.out; subst eo58) | ((with_reducible refine gate_builtin (b := .append) (xs := #[.tmp 80, .tmp 81]) rfl ?_); (try (refine gate_guard (by rfl) ?_; dsimp only)); at_builtin; refine Kd.R_append_rows (Kd.int .u8) (w0 := w) w.heap.size rfl (.tmp 80) (.tmp 81) 22 5 (.int .u8 0) 1 rfl Tryd.underlying22 info5 rfl (by decide) (by omega) v125 t124 x5_4 _ _ _ (fun k_ => some k_ ≠ (.slice Ao58 x5_4.length co58 : Value).ownBlock) (fun _ => False) rfl rfl ?aO ?aR (fun _ _ h => h) (fun _ h => h.elim) ?aF ?aB ?aS ?aL ?_; (case aR => repeat (first | exact (Kd.R_reads' HO_5.out).2.2 | (with_reducible refine Kd.C_alloc ?_ _) | (with_reducible refine Kd.C_drewN ?_ _) | (with_reducible refine Kd.C_drew ?_))); (case aB => exact (by repeat (first | (with_reducible first | exact HB.out | apply below_alloc | apply pw_below_drewN | apply below_drew1) | exact HB.out))); (case aF => exact (fun k_ hk => Kd.fresh' (Kd.R_lt (by (with_reducible repeat (first | apply Kd.R_alloc | apply Kd.R_drewN | apply Kd.R_drew)); exact HO_5.out)) k_ hk)); (case aO => exact (by (with_reducible repeat (first | apply Kd.R_alloc | apply Kd.R_drewN | apply Kd.R_drew)); exact Kd.R_mono HO126.out (fun _ hk => hk.2))); (case aS => exact (below_size (by repeat (first | (with_reducible first | exact HB.out | apply below_alloc | apply pw_below_drewN | apply below_drew1) | exact HB.out)))); (case aL => have := LMc34.out; omega); intro v128 w57 ho hb hg hat; rw [← Ny127.out] at ho; have n0_ := Aside0.mk (Kd.R_after (ok := (fun _ => True)) (by (with_reducible repeat (first | apply Kd.R_alloc | apply Kd.R_drewN | apply Kd.R_drew)); exact HO_5.out) hg hat); have n1_ := Aside0.mk (hb); have n2_ := Aside0.mk (ho); clear HO_5; clear HB; clear HO126; have HO_5 := n0_; have HB := n1_; have HO129 := n2_; clear n0_ n1_ n2_; clear ho hb hg hat; obtain ⟨Ao59, co59, eo59⟩ := Kd.R_slice HO129.out; subst eo59) | (go_at_call 10; (with_reducible refine (spec_polymod.calls k4 _ _ y127 t130 _ ?side1 ?side2 A35.out).mono ?_); (case side1 => repeat (first | exact (Kd.R_reads' HO129.out).2.2 | (with_reducible refine Kd.C_alloc ?_ _) | (with_reducible refine Kd.C_drewN ?_ _) | (with_reducible refine Kd.C_drew ?_))); (case side2 => exact (Kd.R_reads' HO129.out).2.1); rintro e w60 ⟨rfl, hb⟩; have n0_ := Aside0.mk (Kd.R_below (by (with_reducible repeat (first | apply Kd.R_alloc | apply Kd.R_drewN | apply Kd.R_drew)); exact HO_5.out) hb); have n1_ := Aside0.mk (Kd.R_below (by (with_reducible repeat (first | apply Kd.R_alloc | apply Kd.R_drewN | apply Kd.R_drew)); exact HO129.out) hb); have n2_ := Aside0.mk (below_step (by repeat (first | (with_reducible first | exact HB.out | apply below_alloc | apply pw_below_drewN | apply below_drew1) | exact HB.out)) hb); clear HO_5; clear HO129; clear HB; have HO_5 := n0_; have HO129 := n1_; have HB := n2_; clear n0_ n1_ n2_; (try clear hb); (try clear hb2); (try clear hk); (try clear hi))))
                                    refine bodyPost_ret (results_list (rs := [.tmp 4, .tmp 5, .tmp 6, .tmp 7]) rfl (by simp) (.tmp (.tmp (.tmp (.tmp .nil))))) rfl ?_
                                    exact ⟨_, by first | rfl | (simp [errW_none, errW_some] <;> rfl) | (simp [*, errW_none, errW_some] <;> rfl), by first | exact Kd.R_nil _ _ _ _ _ | exact Kd.N_nil _ _ _ _ _ | exact Kd.V_nil _ _ _ _ _ | exact Kd.Q_nil _ _ _ _ _ | exact Kd.S_nil _ _ _ _ _, by repeat (first | (with_reducible first | exact HB.out | apply below_alloc | apply pw_below_drewN | apply below_drew1) | exact HB.out)⟩
                              · rw [if_neg c34] at H
                                exact absurd H (by simp)
                      · rw [if_neg c24] at H
                        exact absurd H (by simp)
                    · rw [if_neg c23] at H
                      exact absurd H (by simp)

/-! ### bech32_toBytes: function 17 -/
def bech32_toBytes.l0 : Nat → ByteArray → List Int → Int → Option (List Int × Option (Nat × Value))
  | 0, _, _, _ => none
  | k + 1, x0, x4, x5 => if x5 < (x0.size : Int) then (if 0 ≤ x5 then ((strings_IndexByte.f (⟨#[113, 112, 122, 114, 121, 57, 120, 56, 103, 102, 50, 116, 118, 100, 119, 48, 115, 51, 106, 110, 53, 52, 107, 104, 99, 101, 54, 109, 117, 97, 55, 108]⟩ : ByteArray) (bt x0 x5)).bind fun t144 => (if t144 < 0 then (some (([] : List Int), some (59, .int .i32 (wrap32 (bt x0 x5))))) else (if x4.length < 140737488355328 then (bech32_toBytes.l0 k x0 (x4 ++ [(t144) % 256]) (wrap64 (x5 + 1))) else (none)))) else (none)) else (some (x4, none))
def bech32_toBytes.f (k : Nat) (a0 : ByteArray) : Option (List Int × Option (Nat × Value)) := if 0 ≤ (a0.size : Int) then (if ((a0.size : Int) : Int).toNat ≤ 281474976710656 then (bech32_toBytes.l0 k a0 (List.replicate 0 0) 0) else (none)) else (none)
theorem bech32_toBytes.mono_l : ∀ k, (∀ y0 y1 y2, LeO (bech32_toBytes.l0 k y0 y1 y2) (bech32_toBytes.l0 (k + 1) y0 y1 y2))
  | 0 => fun _ _ _ r h => by simp [bech32_toBytes.l0] at h
  | k + 1 => by
    have ih0 := bech32_toBytes.mono_l k
    · intro y0 y1 y2
      unfold bech32_toBytes.l0
      repeat' first
      | (with_reducible exact ih0 _ _ _)
      | (with_reducible exact LeO.refl _)
      | (with_reducible exact LeO.none _)
      | (with_reducible refine LeO.ite ?_ ?_)
      | (with_reducible refine LeO.bind ?_ (fun _ => ?_))
      | exact ih0 _ _ _
      | exact LeO.none _
      | refine LeO.ite ?_ ?_
      | refine LeO.bind ?_ (fun _ => ?_)
theorem bech32_toBytes.mono : ∀ a0 k, LeO (bech32_toBytes.f k a0) (bech32_toBytes.f (k + 1) a0) := by
  intro a0 k
  have ih0 := bech32_toBytes.mono_l k
  unfold bech32_toBytes.f
  repeat' first
      | (with_reducible exact ih0 _ _ _)
      | (with_reducible exact LeO.refl _)
      | (with_reducible exact LeO.none _)
      | (with_reducible refine LeO.ite ?_ ?_)
      | (with_reducible refine LeO.bind ?_ (fun _ => ?_))
      | exact ih0 _ _ _
      | exact LeO.none _
      | refine LeO.ite ?_ ?_
      | refine LeO.bind ?_ (fun _ => ?_)
set_option maxHeartbeats 8000000 in
set_option maxRecDepth 100000 in
theorem bech32_toBytes.calls (k : Nat) (a0 : ByteArray) (r1 : List Int) (r2 : Option (Nat × Value)) (w : World) (h : bech32_toBytes.f k a0 = some (r1, r2)) :
    Calls Tryd.prog 17 #[.string a0] w fun e w' => ∃ v0_ : Value, e = .returned (.tuple #[v0_, errW r2]) ∧ Kd.R (Kd.int .u8) 5 w' w.heap.size (fun _ => True) v0_ r1 ∧ Below w.heap.size w w' := by
  have hu36 := Tryd.underlying36
  have hu59 := Tryd.underlying59
  have HB := Aside0.mk (Below.refl w.heap.size w)
  have H : (if 0 ≤ (a0.size : Int) then (if ((a0.size : Int) : Int).toNat ≤ 281474976710656 then (bech32_toBytes.l0 k a0 (List.replicate 0 0) 0) else (none)) else (none)) = some (r1, r2) := h
  clear h
  by_cases c2 : 0 ≤ (a0.size : Int)
  · rw [if_pos c2] at H
    have c2b0 := eq_true c2
    have c2b1 : decide (0 ≤ (a0.size : Int)) = true := decide_eq_true c2
    clear c2
    by_cases c3 : ((a0.size : Int) : Int).toNat ≤ 281474976710656
    · rw [if_pos c3] at H
      have c3b0 := eq_true c3
      have c3b1 : decide (((a0.size : Int) : Int).toNat ≤ 281474976710656) = true := decide_eq_true c3
      clear c3
      obtain ⟨y141, hy141⟩ : ∃ y_ : List Int, y_ = (List.replicate 0 0) := ⟨_, rfl⟩
      replace H : (bech32_toBytes.l0 k a0 y141 0) = some (r1, r2) := by first | (rw [hy141]; with_reducible exact H) | (have H2_ := (Option.bind_some _ _).symm.trans H; rw [hy141]; with_reducible exact H2_) | (have H2_ := (Option.bind_some _ _).symm.trans H; with_reducible exact H2_) | with_reducible exact H | (rw [hy141]; exact H) | exact H
      have Ny141 := Aside0.mk hy141
      clear hy141
      have H' := Aside0.mk H
      clear H
      go_enter Tryd.func17, Tryd.ntmps17
      go_wp2_with (first | ((with_reducible refine gate_dst (N := 9) rfl ?_); refine Kd.R_makecap (Kd.int .u8) _ 5 rfl (N := 9) rfl 22 _ _ rfl (a0.size : Int) rfl rfl Tryd.underlying22 (.int .u8 0) 1 info5 rfl (by decide) (by omega) 0 (ok := fun _ => True) (okp := fun _ => True) rfl (fun _ hk => hk) trivial (of_decide_eq_true (by first | (with_reducible assumption) | assumption)) (Nat.le_trans (Nat.mul_le_mul_right _ (of_decide_eq_true (by first | (with_reducible assumption) | assumption) : (a0.size : Int).toNat ≤ 281474976710656)) (by omega)) (Below.refl _ _) (Nat.le_refl _) ?_; intro v142 w4 ho5 hb hg_ hnew_; clear hg_ hnew_; (first | rw [← Ny141.out] at ho5 | (simp only [Int.reduceToNat] at ho5; rw [← Ny141.out] at ho5)); have n0_ := Aside0.mk (Kd.R_lower ho5 (below_size (by repeat (first | (with_reducible first | exact HB.out | apply below_alloc | apply pw_below_drewN | apply below_drew1) | exact HB.out)))); have n1_ := Aside0.mk (below_step (by repeat (first | (with_reducible first | exact HB.out | apply below_alloc | apply pw_below_drewN | apply below_drew1) | exact HB.out)) hb); clear HB; have HO143 := n0_; have HB := n1_; clear n0_ n1_; clear hb ho5))
      repeat (go_quiet (first | ((with_reducible refine gate_dst (N := 9) rfl ?_); refine Kd.R_makecap (Kd.int .u8) _ 5 rfl (N := 9) rfl 22 _ _ rfl (a0.size : Int) rfl rfl Tryd.underlying22 (.int .u8 0) 1 info5 rfl (by decide) (by omega) 0 (ok := fun _ => True) (okp := fun _ => True) rfl (fun _ hk => hk) trivial (of_decide_eq_true (by first | (with_reducible assumption) | assumption)) (Nat.le_trans (Nat.mul_le_mul_right _ (of_decide_eq_true (by first | (with_reducible assumption) | assumption) : (a0.size : Int).toNat ≤ 281474976710656)) (by omega)) (Below.refl _ _) (Nat.le_refl _) ?_; intro v142 w4 ho5 hb hg_ hnew_; clear hg_ hnew_; (first | rw [← Ny141.out] at ho5 | (simp only [Int.reduceToNat] at ho5; rw [← Ny141.out] at ho5)); have n0_ := Aside0.mk (Kd.R_lower ho5 (below_size (by repeat (first | (with_reducible first | exact HB.out | apply below_alloc | apply pw_below_drewN | apply below_drew1) | exact HB.out)))); have n1_ := Aside0.mk (below_step (by repeat (first | (with_reducible first | exact HB.out | apply below_alloc | apply pw_below_drewN | apply below_drew1) | exact HB.out)) hb); clear HB; have HO143 := n0_; have HB := n1_; clear n0_ n1_; clear hb ho5)); try go_wp2_with (first | ((with_reducible refine gate_dst (N := 9) rfl ?_); refine Kd.R_makecap (Kd.int .u8) _ 5 rfl (N := 9) rfl 22 _ _ rfl (a0.size : Int) rfl rfl Tryd.underlying22 (.int .u8 0) 1 info5 rfl (by decide) (by omega) 0 (ok := fun _ => True) (okp := fun _ => True) rfl (fun _ hk => hk) trivial (of_decide_eq_true (by first | (with_reducible assumption) | assumption)) (Nat.le_trans (Nat.mul_le_mul_right _ (of_decide_eq_true (by first | (with_reducible assumption) | assumption) : (a0.size : Int).toNat ≤ 281474976710656)) (by omega)) (Below.refl _ _) (Nat.le_refl _) ?_; intro v142 w4 ho5 hb hg_ hnew_; clear hg_ hnew_; (first | rw [← Ny141.out] at ho5 | (simp only [Int.reduceToNat] at ho5; rw [← Ny141.out] at ho5)); have n0_ := Aside0.mk (Kd.R_lower ho5 (below_size (by repeat (first | (with_reducible first | exact HB.out | apply below_alloc | apply pw_below_drewN | apply below_drew1) | exact HB.out)))); have n1_ := Aside0.mk (below_step (by repeat (first | (with_reducible first | exact HB.out | apply below_alloc | apply pw_below_drewN | apply below_drew1) | exact HB.out)) hb); clear HB; have HO143 := n0_; have HB := n1_; clear n0_ n1_; clear hb ho5)))
      go_loopg [4, 5] k (fun kq v4 v5 w' => ∃ (x4_1 : List Int) (x5_1 : Int), v5 = .int .i64 x5_1 ∧ Aside0 (bech32_toBytes.l0 kq a0 x4_1 x5_1 = some (r1, r2)) ∧ Aside0 (kq ≤ k) ∧ Aside0 (Kd.R (Kd.int .u8) 5 w' w.heap.size (fun _ => True) v4 x4_1) ∧ Aside0 (Below w.heap.size w w'))
      case atStart => exact ⟨(y141), (0), (by first | rfl | (simp; done) | (simp [*]; done)), H', ⟨Nat.le_refl _⟩, ⟨by (with_reducible repeat (first | apply Kd.R_alloc | apply Kd.R_drewN | apply Kd.R_drew)); exact HO143.out⟩, ⟨by repeat (first | (with_reducible first | exact HB.out | apply below_alloc | apply pw_below_drewN | apply below_drew1) | exact HB.out)⟩⟩
      case round =>
        clear H'
        try clear c1
        try clear c2
        try clear c2b0
        try clear c2b1
        try clear p2
        try clear c3
        try clear c3b0
        try clear c3b1
        obtain ⟨x4_1, x5_1, rfl, HA, HK1, HO_4, HB⟩ := hrel
        cases gk with
        | zero => exact absurd HA.out (by simp [bech32_toBytes.l0])
        | succ k1 =>
          have H := HA.out
          clear HA
          simp only [bech32_toBytes.l0] at H
          by_cases c6 : x5_1 < (a0.size : Int)
          · rw [if_pos c6] at H
            have c6b0 : decide (x5_1 < (a0.size : Int)) = true := decide_eq_true c6
            clear c6
            by_cases c7 : 0 ≤ x5_1
            · rw [if_pos c7] at H
              have c7b0 : decide (0 ≤ x5_1) = true := decide_eq_true c7
              clear c7
              replace H := Option.bind_eq_some_iff.mp H
              obtain ⟨t144, A90, H⟩ := H
              replace H : (if t144 < 0 then (some (([] : List Int), some (59, .int .i32 (wrap32 (bt a0 x5_1))))) else (if x4_1.length < 140737488355328 then (bech32_toBytes.l0 k1 a0 (x4_1 ++ [(t144) % 256]) (wrap64 (x5_1 + 1))) else (none))) = some (r1, r2) := H
              have A9 := Aside0.mk A90
              clear A90
              by_cases c10 : t144 < 0
              · rw [if_pos c10] at H
                have c10b0 : decide (t144 < 0) = true := decide_eq_true c10
                clear c10
                simp only [Option.some.injEq, Prod.mk.injEq] at H
                obtain ⟨rfl, rfl⟩ := H
                have p8 : 0 ≤ (x5_1 : Int) := of_decide_eq_true (by first | (with_reducible assumption) | assumption)
                have q8 : x5_1 < (a0.size : Int) := of_decide_eq_true (by first | (with_reducible assumption) | assumption)
                have hx8 := bt_at a0 x5_1
                replace p8 := eq_true p8
                replace q8 := eq_true q8
                go_wp2_with (first | (go_at_call 23; (with_reducible refine (strings_IndexByte.calls (⟨#[113, 112, 122, 114, 121, 57, 120, 56, 103, 102, 50, 116, 118, 100, 119, 48, 115, 51, 106, 110, 53, 52, 107, 104, 99, 101, 54, 109, 117, 97, 55, 108]⟩ : ByteArray) (bt a0 x5_1) t144 _ A9.out).mono ?_); rintro e w' ⟨rfl, ⟨nd, rfl⟩⟩; (try first | exact ⟨rfl, _, World.drewN_drewN _ _ _⟩ | exact ⟨rfl, _, Eq.trans (World.drewN_drewN _ _ _) (congrArg (World.drewN _) (Nat.add_assoc _ _ _))⟩); have p11 : 0 ≤ (x5_1 : Int) := of_decide_eq_true (by first | (with_reducible assumption) | assumption); have q11 : x5_1 < (a0.size : Int) := of_decide_eq_true (by first | (with_reducible assumption) | assumption); have hx11 := bt_at a0 x5_1; replace p11 := eq_true p11; replace q11 := eq_true q11))
                repeat (go_quiet (first | (go_at_call 23; (with_reducible refine (strings_IndexByte.calls (⟨#[113, 112, 122, 114, 121, 57, 120, 56, 103, 102, 50, 116, 118, 100, 119, 48, 115, 51, 106, 110, 53, 52, 107, 104, 99, 101, 54, 109, 117, 97, 55, 108]⟩ : ByteArray) (bt a0 x5_1) t144 _ A9.out).mono ?_); rintro e w' ⟨rfl, ⟨nd, rfl⟩⟩; (try first | exact ⟨rfl, _, World.drewN_drewN _ _ _⟩ | exact ⟨rfl, _, Eq.trans (World.drewN_drewN _ _ _) (congrArg (World.drewN _) (Nat.add_assoc _ _ _))⟩); have p11 : 0 ≤ (x5_1 : Int) := of_decide_eq_true (by first | (with_reducible assumption) | assumption); have q11 : x5_1 < (a0.size : Int) := of_decide_eq_true (by first | (with_reducible assumption) | assumption); have hx11 := bt_at a0 x5_1; replace p11 := eq_true p11; replace q11 := eq_true q11)); try go_wp2_with (first | (go_at_call 23; (with_reducible refine (strings_IndexByte.calls (⟨#[113, 112, 122, 114, 121, 57, 120, 56, 103, 102, 50, 116, 118, 100, 119, 48, 115, 51, 106, 110, 53, 52, 107, 104, 99, 101, 54, 109, 117, 97, 55, 108]⟩ : ByteArray) (bt a0 x5_1) t144 _ A9.out).mono ?_); rintro e w' ⟨rfl, ⟨nd, rfl⟩⟩; (try first | exact ⟨rfl, _, World.drewN_drewN _ _ _⟩ | exact ⟨rfl, _, Eq.trans (World.drewN_drewN _ _ _) (congrArg (World.drewN _) (Nat.add_assoc _ _ _))⟩); have p11 : 0 ≤ (x5_1 : Int) := of_decide_eq_true (by first | (with_reducible assumption) | assumption); have q11 : x5_1 < (a0.size : Int) := of_decide_eq_true (by first | (with_reducible assumption) | assumption); have hx11 := bt_at a0 x5_1; replace p11 := eq_true p11; replace q11 := eq_true q11)))
                go_ret2
                exact ⟨_, by first | rfl | (simp [errW_none, errW_some] <;> rfl) | (simp [*, errW_none, errW_some] <;> rfl), by first | exact Kd.R_nil _ _ _ _ _ | exact Kd.N_nil _ _ _ _ _ | exact Kd.V_nil _ _ _ _ _ | exact Kd.Q_nil _ _ _ _ _ | exact Kd.S_nil _ _ _ _ _, by repeat (first | (with_reducible first | exact HB.out | apply below_alloc | apply pw_below_drewN | apply below_drew1) | exact HB.out)⟩
              · rw [if_neg c10] at H
                have c10b0 : decide (t144 < 0) = false := decide_eq_false c10
                clear c10
                by_cases c12 : x4_1.length < 140737488355328
                · rw [if_pos c12] at H
                  have LMc12 := Aside0.mk c12
                  clear c12
                  obtain ⟨y145, hy145⟩ : ∃ y_ : List Int, y_ = (x4_1 ++ [(t144) % 256]) := ⟨_, rfl⟩
                  replace H : (bech32_toBytes.l0 k1 a0 y145 (wrap64 (x5_1 + 1))) = some (r1, r2) := by first | (rw [hy145]; with_reducible exact H) | (have H2_ := (Option.bind_some _ _).symm.trans H; rw [hy145]; with_reducible exact H2_) | (have H2_ := (Option.bind_some _ _).symm.trans H; with_reducible exact H2_) | with_reducible exact H | (rw [hy145]; exact H) | exact H
                  have Ny145 := Aside0.mk hy145
                  clear hy145
                  have H' := Aside0.mk H
                  clear H
                  have p8 : 0 ≤ (x5_1 : Int) := of_decide_eq_true (by first | (with_reducible assumption) | assumption)
                  have q8 : x5_1 < (a0.size : Int) := of_decide_eq_true (by first | (with_reducible assumption) | assumption)
                  have hx8 := bt_at a0 x5_1
                  replace p8 := eq_true p8
                  replace q8 := eq_true q8
                  go_wp2_with (first | (go_at_call 23; (with_reducible refine (strings_IndexByte.calls (⟨#[113, 112, 122, 114, 121, 57, 120, 56, 103, 102, 50, 116, 118, 100, 119, 48, 115, 51, 106, 110, 53, 52, 107, 104, 99, 101, 54, 109, 117, 97, 55, 108]⟩ : ByteArray) (bt a0 x5_1) t144 _ A9.out).mono ?_); rintro e w' ⟨rfl, ⟨nd, rfl⟩⟩; (try first | exact ⟨rfl, _, World.drewN_drewN _ _ _⟩ | exact ⟨rfl, _, Eq.trans (World.drewN_drewN _ _ _) (congrArg (World.drewN _) (Nat.add_assoc _ _ _))⟩)) | ((with_reducible refine gate_builtin (b := .append) (xs := #[.tmp 27, .tmp 30]) rfl ?_); at_builtin; refine Kd.R_append (Kd.int .u8) (w0 := w) w.heap.size rfl (.tmp 27) (.tmp 30) 22 5 (.int .u8 0) 1 rfl Tryd.underlying22 info5 rfl (by decide) (by omega) u4 x4_1 ((t144) % 256) [.int .u8 ((t144) % 256)] (fun _ => True) (fun _ => False) rfl rfl ?aP (fun _ hk => hk.elim) ?aF ?aO ?aB ?aS ?aL ?_; (case aP => exact rfl); (case aB => exact (by repeat (first | (with_reducible first | exact HB.out | apply below_alloc | apply pw_below_drewN | apply below_drew1) | exact HB.out))); (case aF => exact (fun _ _ => trivial)); (case aO => exact (by (with_reducible repeat (first | apply Kd.R_alloc | apply Kd.R_drewN | apply Kd.R_drew)); exact HO_4.out)); (case aS => exact (below_size (by repeat (first | (with_reducible first | exact HB.out | apply below_alloc | apply pw_below_drewN | apply below_drew1) | exact HB.out)))); (case aL => have := LMc12.out; omega); intro v146 w13 ho hb hg hat; rw [← Ny145.out] at ho; have n0_ := Aside0.mk (hb); have n1_ := Aside0.mk (ho); clear HB; clear HO_4; have HB := n0_; have HO147 := n1_; clear n0_ n1_; clear ho hb hg hat))
                  repeat (go_quiet (first | (go_at_call 23; (with_reducible refine (strings_IndexByte.calls (⟨#[113, 112, 122, 114, 121, 57, 120, 56, 103, 102, 50, 116, 118, 100, 119, 48, 115, 51, 106, 110, 53, 52, 107, 104, 99, 101, 54, 109, 117, 97, 55, 108]⟩ : ByteArray) (bt a0 x5_1) t144 _ A9.out).mono ?_); rintro e w' ⟨rfl, ⟨nd, rfl⟩⟩; (try first | exact ⟨rfl, _, World.drewN_drewN _ _ _⟩ | exact ⟨rfl, _, Eq.trans (World.drewN_drewN _ _ _) (congrArg (World.drewN _) (Nat.add_assoc _ _ _))⟩)) | ((with_reducible refine gate_builtin (b := .append) (xs := #[.tmp 27, .tmp 30]) rfl ?_); at_builtin; refine Kd.R_append (Kd.int .u8) (w0 := w) w.heap.size rfl (.tmp 27) (.tmp 30) 22 5 (.int .u8 0) 1 rfl Tryd.underlying22 info5 rfl (by decide) (by omega) u4 x4_1 ((t144) % 256) [.int .u8 ((t144) % 256)] (fun _ => True) (fun _ => False) rfl rfl ?aP (fun _ hk => hk.elim) ?aF ?aO ?aB ?aS ?aL ?_; (case aP => exact rfl); (case aB => exact (by repeat (first | (with_reducible first | exact HB.out | apply below_alloc | apply pw_below_drewN | apply below_drew1) | exact HB.out))); (case aF => exact (fun _ _ => trivial)); (case aO => exact (by (with_reducible repeat (first | apply Kd.R_alloc | apply Kd.R_drewN | apply Kd.R_drew)); exact HO_4.out)); (case aS => exact (below_size (by repeat (first | (with_reducible first | exact HB.out | apply below_alloc | apply pw_below_drewN | apply below_drew1) | exact HB.out)))); (case aL => have := LMc12.out; omega); intro v146 w13 ho hb hg hat; rw [← Ny145.out] at ho; have n0_ := Aside0.mk (hb); have n1_ := Aside0.mk (ho); clear HB; clear HO_4; have HB := n0_; have HO147 := n1_; clear n0_ n1_; clear ho hb hg hat)); try go_wp2_with (first | (go_at_call 23; (with_reducible refine (strings_IndexByte.calls (⟨#[113, 112, 122, 114, 121, 57, 120, 56, 103, 102, 50, 116, 118, 100, 119, 48, 115, 51, 106, 110, 53, 52, 107, 104, 99, 101, 54, 109, 117, 97, 55, 108]⟩ : ByteArray) (bt a0 x5_1) t144 _ A9.out).mono ?_); rintro e w' ⟨rfl, ⟨nd, rfl⟩⟩; (try first | exact ⟨rfl, _, World.drewN_drewN _ _ _⟩ | exact ⟨rfl, _, Eq.trans (World.drewN_drewN _ _ _) (congrArg (World.drewN _) (Nat.add_assoc _ _ _))⟩)) | ((with_reducible refine gate_builtin (b := .append) (xs := #[.tmp 27, .tmp 30]) rfl ?_); at_builtin; refine Kd.R_append (Kd.int .u8) (w0 := w) w.heap.size rfl (.tmp 27) (.tmp 30) 22 5 (.int .u8 0) 1 rfl Tryd.underlying22 info5 rfl (by decide) (by omega) u4 x4_1 ((t144) % 256) [.int .u8 ((t144) % 256)] (fun _ => True) (fun _ => False) rfl rfl ?aP (fun _ hk => hk.elim) ?aF ?aO ?aB ?aS ?aL ?_; (case aP => exact rfl); (case aB => exact (by repeat (first | (with_reducible first | exact HB.out | apply below_alloc | apply pw_below_drewN | apply below_drew1) | exact HB.out))); (case aF => exact (fun _ _ => trivial)); (case aO => exact (by (with_reducible repeat (first | apply Kd.R_alloc | apply Kd.R_drewN | apply Kd.R_drew)); exact HO_4.out)); (case aS => exact (below_size (by repeat (first | (with_reducible first | exact HB.out | apply below_alloc | apply pw_below_drewN | apply below_drew1) | exact HB.out)))); (case aL => have := LMc12.out; omega); intro v146 w13 ho hb hg hat; rw [← Ny145.out] at ho; have n0_ := Aside0.mk (hb); have n1_ := Aside0.mk (ho); clear HB; clear HO_4; have HB := n0_; have HO147 := n1_; clear n0_ n1_; clear ho hb hg hat)))
                  go_roundg k1
                  case measure => have := HK1.out; omega
                  case rel => exact ⟨(y145), (wrap64 (x5_1 + 1)), (by first | rfl | (simp; done) | (simp [*]; done)), (by first | exact H' | (subst_vars; exact H')), ⟨by have := HK1.out; omega⟩, ⟨by (with_reducible repeat (first | apply Kd.R_alloc | apply Kd.R_drewN | apply Kd.R_drew)); exact HO147.out⟩, ⟨by repeat (first | (with_reducible first | exact HB.out | apply below_alloc | apply pw_below_drewN | apply below_drew1) | exact HB.out)⟩⟩
                · rw [if_neg c12] at H
                  exact absurd H (by simp)
            · rw [if_neg c7] at H
              exact absurd H (by simp)
          · rw [if_neg c6] at H
            have c6b0 : decide (x5_1 < (a0.size : Int)) = false := decide_eq_false c6
            clear c6
            simp only [Option.some.injEq, Prod.mk.injEq] at H
            obtain ⟨rfl, rfl⟩ := H
            go_wp2
            repeat (go_quiet (fail); try go_wp2)
            go_ret2
            exact ⟨_, by first | rfl | (simp [errW_none, errW_some] <;> rfl) | (simp [*, errW_none, errW_some] <;> rfl), by (with_reducible repeat (first | apply Kd.R_alloc | apply Kd.R_drewN | apply Kd.R_drew)); exact HO_4.out, by repeat (first | (with_reducible first | exact HB.out | apply below_alloc | apply pw_below_drewN | apply below_drew1) | exact HB.out)⟩
    · rw [if_neg c3] at H
      exact absurd H (by simp)
  · rw [if_neg c2] at H
    exact absurd H (by simp)

end Go.Proofs.YtbbeedclkfcmeaaDoor.KFnReadBech32
