-- Made by a turned print (own tool turnprint.py over the kit print).
import Derived.Test.YtnbecklojmbbbaaQFnRegroupx0
import Derived.Test.YtnbecklojmbbbaaQFnRegroupx1
import Derived.Test.YtnbecklojmbbbaaQFnRegroupx2
namespace Go.Proofs.Ytnbecklojmbbbaa.QFnRegroup
open Go.RowKit Go.Proofs.YtnbecklojmbbbaaW.PrintWords Go.Proofs.YtnbecklojmbbbaaW.PrintLast Go.Proofs.YtnbecklojmbbbaaW.PrintMore
attribute [local go_sem] nn_mod256 nn_mod65536 nn_mod32 max2_int min2_int max_two min_two max_three min_three max_four min_four   -- for this text's walks alone
set_option linter.unusedVariables false
set_option linter.unusedSimpArgs false

/-! ### laws_FnRegroup: function 6 -/
mutual
def laws_FnRegroup.j0 : Nat → List Int → Int → Int → Bool → Bool → Option (Bool)
  | 0, _, _, _, _, _ => none
  | k + 1, x0, x1, x2, x3, x35 => if x35 = true then (some true) else (laws_FnRegroup.l0 k x0 x1 x2 x3 0)
def laws_FnRegroup.l0 : Nat → List Int → Int → Int → Bool → Int → Option (Bool)
  | 0, _, _, _, _, _ => none
  | k + 1, x0, x1, x2, x3, x9 => if x9 < (x0.length : Int) then (if 0 ≤ x9 then (if 0 ≤ x1 then (if (wrap64 (rd x0 x9)) ≥ (shl .i64 1 x1) then (some true) else (laws_FnRegroup.l0 k x0 x1 x2 x3 (wrap64 (x9 + 1)))) else (none)) else (none)) else (if x3 = true then (laws_FnRegroup.j2 k x0 x1 x2 x3 false) else (if x1 = 5 then (if x2 = 8 then (laws_FnRegroup.j2 k x0 x1 x2 x3 (!true)) else (if x1 = 8 then (laws_FnRegroup.j2 k x0 x1 x2 x3 (!(x2 == 5))) else (laws_FnRegroup.j2 k x0 x1 x2 x3 (!false)))) else (if x1 = 8 then (laws_FnRegroup.j2 k x0 x1 x2 x3 (!(x2 == 5))) else (laws_FnRegroup.j2 k x0 x1 x2 x3 (!false)))))
def laws_FnRegroup.j2 : Nat → List Int → Int → Int → Bool → Bool → Option (Bool)
  | 0, _, _, _, _, _ => none
  | k + 1, x0, x1, x2, x3, x68 => if x68 = true then (some true) else ((spec_Regroup.f k x0 (wrap64 (x1)) (wrap64 (x2)) x3).bind fun bt154 => ((impl_Regroup.f k x0 x1 x2 x3).bind fun bt158 => (if ((bt158.2 == 0) != bt154.2) = true then (some false) else (if bt154.2 = true then ((laws_same.f k bt158.1 bt154.1).bind fun t162 => (some t162)) else (some true)))))
end
def laws_FnRegroup.f (k : Nat) (l0 : List Int) (a1 : Int) (a2 : Int) (a3 : Bool) : Option (Bool) := if (l0.length : Int) > 2147483647 then (some true) else (if a1 < 1 then (laws_FnRegroup.j0 k l0 a1 a2 a3 true) else (if a1 > 8 then (laws_FnRegroup.j0 k l0 a1 a2 a3 true) else (if a2 < 1 then (laws_FnRegroup.j0 k l0 a1 a2 a3 true) else (if a2 > 8 then (laws_FnRegroup.j0 k l0 a1 a2 a3 true) else (laws_FnRegroup.j0 k l0 a1 a2 a3 (decide ((l0.length : Int) > 400)))))))
theorem laws_FnRegroup.mono_l : ∀ k, (∀ y0 y1 y2 y3 y4, LeO (laws_FnRegroup.j0 k y0 y1 y2 y3 y4) (laws_FnRegroup.j0 (k + 1) y0 y1 y2 y3 y4)) ∧ (∀ y0 y1 y2 y3 y4, LeO (laws_FnRegroup.l0 k y0 y1 y2 y3 y4) (laws_FnRegroup.l0 (k + 1) y0 y1 y2 y3 y4)) ∧ (∀ y0 y1 y2 y3 y4, LeO (laws_FnRegroup.j2 k y0 y1 y2 y3 y4) (laws_FnRegroup.j2 (k + 1) y0 y1 y2 y3 y4))
  | 0 => ⟨fun _ _ _ _ _ r h => by simp [laws_FnRegroup.j0] at h, fun _ _ _ _ _ r h => by simp [laws_FnRegroup.l0] at h, fun _ _ _ _ _ r h => by simp [laws_FnRegroup.j2] at h⟩
  | k + 1 => by
    obtain ⟨ih0, ih1, ih2⟩ := laws_FnRegroup.mono_l k
    refine ⟨?_, ?_, ?_⟩
    · intro y0 y1 y2 y3 y4
      unfold laws_FnRegroup.j0
      repeat' first
      | (with_reducible exact ih0 _ _ _ _ _)
      | (with_reducible exact ih1 _ _ _ _ _)
      | (with_reducible exact ih2 _ _ _ _ _)
      | (with_reducible exact impl_Regroup.mono _ _ _ _ _)
      | (with_reducible exact laws_same.mono _ _ _)
      | (with_reducible exact spec_Regroup.mono _ _ _ _ _)
      | (with_reducible exact LeO.refl _)
      | (with_reducible exact LeO.none _)
      | (with_reducible refine LeO.ite ?_ ?_)
      | (with_reducible refine LeO.bind ?_ (fun _ => ?_))
      | exact ih0 _ _ _ _ _
      | exact ih1 _ _ _ _ _
      | exact ih2 _ _ _ _ _
      | exact impl_Regroup.mono _ _ _ _ _
      | exact laws_same.mono _ _ _
      | exact spec_Regroup.mono _ _ _ _ _
      | exact LeO.none _
      | refine LeO.ite ?_ ?_
      | refine LeO.bind ?_ (fun _ => ?_)
    · intro y0 y1 y2 y3 y4
      unfold laws_FnRegroup.l0
      repeat' first
      | (with_reducible exact ih0 _ _ _ _ _)
      | (with_reducible exact ih1 _ _ _ _ _)
      | (with_reducible exact ih2 _ _ _ _ _)
      | (with_reducible exact impl_Regroup.mono _ _ _ _ _)
      | (with_reducible exact laws_same.mono _ _ _)
      | (with_reducible exact spec_Regroup.mono _ _ _ _ _)
      | (with_reducible exact LeO.refl _)
      | (with_reducible exact LeO.none _)
      | (with_reducible refine LeO.ite ?_ ?_)
      | (with_reducible refine LeO.bind ?_ (fun _ => ?_))
      | exact ih0 _ _ _ _ _
      | exact ih1 _ _ _ _ _
      | exact ih2 _ _ _ _ _
      | exact impl_Regroup.mono _ _ _ _ _
      | exact laws_same.mono _ _ _
      | exact spec_Regroup.mono _ _ _ _ _
      | exact LeO.none _
      | refine LeO.ite ?_ ?_
      | refine LeO.bind ?_ (fun _ => ?_)
    · intro y0 y1 y2 y3 y4
      unfold laws_FnRegroup.j2
      repeat' first
      | (with_reducible exact ih0 _ _ _ _ _)
      | (with_reducible exact ih1 _ _ _ _ _)
      | (with_reducible exact ih2 _ _ _ _ _)
      | (with_reducible exact impl_Regroup.mono _ _ _ _ _)
      | (with_reducible exact laws_same.mono _ _ _)
      | (with_reducible exact spec_Regroup.mono _ _ _ _ _)
      | (with_reducible exact LeO.refl _)
      | (with_reducible exact LeO.none _)
      | (with_reducible refine LeO.ite ?_ ?_)
      | (with_reducible refine LeO.bind ?_ (fun _ => ?_))
      | exact ih0 _ _ _ _ _
      | exact ih1 _ _ _ _ _
      | exact ih2 _ _ _ _ _
      | exact impl_Regroup.mono _ _ _ _ _
      | exact laws_same.mono _ _ _
      | exact spec_Regroup.mono _ _ _ _ _
      | exact LeO.none _
      | refine LeO.ite ?_ ?_
      | refine LeO.bind ?_ (fun _ => ?_)
theorem laws_FnRegroup.mono : ∀ a0 a1 a2 a3 k, LeO (laws_FnRegroup.f k a0 a1 a2 a3) (laws_FnRegroup.f (k + 1) a0 a1 a2 a3) := by
  intro a0 a1 a2 a3 k
  obtain ⟨ih0, ih1, ih2⟩ := laws_FnRegroup.mono_l k
  unfold laws_FnRegroup.f
  repeat' first
      | (with_reducible exact ih0 _ _ _ _ _)
      | (with_reducible exact ih1 _ _ _ _ _)
      | (with_reducible exact ih2 _ _ _ _ _)
      | (with_reducible exact impl_Regroup.mono _ _ _ _ _)
      | (with_reducible exact laws_same.mono _ _ _)
      | (with_reducible exact spec_Regroup.mono _ _ _ _ _)
      | (with_reducible exact LeO.refl _)
      | (with_reducible exact LeO.none _)
      | (with_reducible refine LeO.ite ?_ ?_)
      | (with_reducible refine LeO.bind ?_ (fun _ => ?_))
      | exact ih0 _ _ _ _ _
      | exact ih1 _ _ _ _ _
      | exact ih2 _ _ _ _ _
      | exact impl_Regroup.mono _ _ _ _ _
      | exact laws_same.mono _ _ _
      | exact spec_Regroup.mono _ _ _ _ _
      | exact LeO.none _
      | refine LeO.ite ?_ ?_
      | refine LeO.bind ?_ (fun _ => ?_)
set_option maxHeartbeats 8000000 in
set_option maxRecDepth 100000 in
theorem laws_FnRegroup.calls (k : Nat) (A0 : Option Addr) (c0 : Nat) (l0 : List Int) (a1 : Int) (a2 : Int) (a3 : Bool) (r : Bool) (w : World) (hr0 : Kd.C (Kd.int .u8) w A0 l0.length l0) (hc0 : l0.length ≤ c0) (h : laws_FnRegroup.f k l0 a1 a2 a3 = some r) :
    Calls Try.prog 6 #[.slice A0 l0.length c0, .int .u8 a1, .int .u8 a2, .bool a3] w fun e w' => e = .returned (.bool r) ∧ Below w.heap.size w w' := by
  have HR0 := Aside0.mk hr0
  have HC0 := Aside0.mk hc0
  clear hr0 hc0
  have HB := Aside0.mk (Below.refl w.heap.size w)
  have H : (if (l0.length : Int) > 2147483647 then (some true) else (if a1 < 1 then (laws_FnRegroup.j0 k l0 a1 a2 a3 true) else (if a1 > 8 then (laws_FnRegroup.j0 k l0 a1 a2 a3 true) else (if a2 < 1 then (laws_FnRegroup.j0 k l0 a1 a2 a3 true) else (if a2 > 8 then (laws_FnRegroup.j0 k l0 a1 a2 a3 true) else (laws_FnRegroup.j0 k l0 a1 a2 a3 (decide ((l0.length : Int) > 400)))))))) = some r := h
  clear h
  by_cases c5 : (l0.length : Int) > 2147483647
  · rw [if_pos c5] at H
    have c5b0 : decide (2147483647 < (l0.length : Int)) = true := decide_eq_true c5
    have c5b1 : decide (2147483647 < l0.length) = true := decide_eq_true (by omega)
    clear c5
    obtain rfl := Option.some.inj H
    go_enter Try.func6, Try.ntmps6
    go_wp2
    go_ret
    exact ⟨by first | rfl | (simp [errW_none, errW_some] <;> rfl) | (simp [*, errW_none, errW_some] <;> rfl), by repeat (first | (with_reducible first | exact HB.out | apply below_alloc | apply pw_below_drewN | apply below_drew1) | exact HB.out)⟩
  · rw [if_neg c5] at H
    have c5b0 : decide (2147483647 < (l0.length : Int)) = false := decide_eq_false c5
    have c5b1 : decide (2147483647 < l0.length) = false := decide_eq_false (by omega)
    clear c5
    have HC6 := Aside0.mk H
    clear H
    go_enter Try.func6, Try.ntmps6
    go_upto_region 3 with (fail)
    go_cut [35] (fun v35 wc => ∃ (kq : Nat) (x35_5 : Bool), v35 = .bool x35_5 ∧ Aside0 (laws_FnRegroup.j0 kq l0 a1 a2 a3 x35_5 = some r) ∧ Aside0 (kq ≤ k) ∧ Aside0 (Below w.heap.size w wc))
    case first =>
      have H := HC6.out
      clear HC6
      by_cases c7 : a1 < 1
      · rw [if_pos c7] at H
        have c7b0 : decide (a1 < 1) = true := decide_eq_true c7
        clear c7
        (first | rw [c7b0] | (simp only [i64_w, i32_w]; rw [c7b0]) | skip)
        have H' := Aside0.mk H
        clear H
        go_wp2
        go_meet
        case rel => exact ⟨_, (true), (by first | rfl | (simp; done) | (simp [*]; done)), H', ⟨by first | omega | exact Nat.le_refl _⟩, ⟨by repeat (first | (with_reducible first | exact HB.out | apply below_alloc | apply pw_below_drewN | apply below_drew1) | exact HB.out)⟩⟩
      · rw [if_neg c7] at H
        have c7b0 : decide (a1 < 1) = false := decide_eq_false c7
        clear c7
        (first | rw [c7b0] | (simp only [i64_w, i32_w]; rw [c7b0]) | skip)
        by_cases c8 : a1 > 8
        · rw [if_pos c8] at H
          have c8b0 : decide (8 < a1) = true := decide_eq_true c8
          clear c8
          have H' := Aside0.mk H
          clear H
          go_wp2
          go_meet
          case rel => exact ⟨_, (true), (by first | rfl | (simp; done) | (simp [*]; done)), H', ⟨by first | omega | exact Nat.le_refl _⟩, ⟨by repeat (first | (with_reducible first | exact HB.out | apply below_alloc | apply pw_below_drewN | apply below_drew1) | exact HB.out)⟩⟩
        · rw [if_neg c8] at H
          have c8b0 : decide (8 < a1) = false := decide_eq_false c8
          clear c8
          by_cases c9 : a2 < 1
          · rw [if_pos c9] at H
            have c9b0 : decide (a2 < 1) = true := decide_eq_true c9
            clear c9
            have H' := Aside0.mk H
            clear H
            go_wp2
            go_meet
            case rel => exact ⟨_, (true), (by first | rfl | (simp; done) | (simp [*]; done)), H', ⟨by first | omega | exact Nat.le_refl _⟩, ⟨by repeat (first | (with_reducible first | exact HB.out | apply below_alloc | apply pw_below_drewN | apply below_drew1) | exact HB.out)⟩⟩
          · rw [if_neg c9] at H
            have c9b0 : decide (a2 < 1) = false := decide_eq_false c9
            clear c9
            by_cases c10 : a2 > 8
            · rw [if_pos c10] at H
              have c10b0 : decide (8 < a2) = true := decide_eq_true c10
              clear c10
              have H' := Aside0.mk H
              clear H
              go_wp2
              go_meet
              case rel => exact ⟨_, (true), (by first | rfl | (simp; done) | (simp [*]; done)), H', ⟨by first | omega | exact Nat.le_refl _⟩, ⟨by repeat (first | (with_reducible first | exact HB.out | apply below_alloc | apply pw_below_drewN | apply below_drew1) | exact HB.out)⟩⟩
            · rw [if_neg c10] at H
              have c10b0 : decide (8 < a2) = false := decide_eq_false c10
              clear c10
              have H' := Aside0.mk H
              clear H
              go_wp2
              go_meet
              case rel => exact ⟨_, (decide ((l0.length : Int) > 400)), (by first | rfl | (simp; done) | (simp [*]; done)), H', ⟨by first | omega | exact Nat.le_refl _⟩, ⟨by repeat (first | (with_reducible first | exact HB.out | apply below_alloc | apply pw_below_drewN | apply below_drew1) | exact HB.out)⟩⟩
    case rest =>
      clear HC6
      try clear c1
      try clear p2
      try clear c5
      try clear c5b0
      try clear c5b1
      try clear c6
      try clear c7
      try clear c7b0
      try clear c8
      try clear c8b0
      try clear c9
      try clear c9b0
      try clear c10
      try clear c10b0
      obtain ⟨kq, x35_5, rfl, HA, HJ5, HB⟩ := hcut
      cases kq with
      | zero => exact absurd HA.out (by simp [laws_FnRegroup.j0])
      | succ kj5 =>
        have H := HA.out
        clear HA
        simp only [laws_FnRegroup.j0] at H
        by_cases c11 : x35_5 = true
        · subst c11
          have H1 : (some true) = some r := by rw [if_pos rfl] at H; exact H
          clear H
          have H := H1
          clear H1
          obtain rfl := Option.some.inj H
          go_wp2
          go_ret
          exact ⟨by first | rfl | (simp [errW_none, errW_some] <;> rfl) | (simp [*, errW_none, errW_some] <;> rfl), by repeat (first | (with_reducible first | exact HB.out | apply below_alloc | apply pw_below_drewN | apply below_drew1) | exact HB.out)⟩
        · replace c11 := Bool.eq_false_iff.mpr c11
          subst c11
          have H1 : (laws_FnRegroup.l0 kj5 l0 a1 a2 a3 0) = some r := by rw [if_neg (show ¬ (false = true) by decide)] at H; exact H
          clear H
          have H := H1
          clear H1
          have H' := Aside0.mk H
          clear H
          go_wp2
          go_loopg [9] kj5 (fun kq v9 w' => ∃ (x9_2 : Int), v9 = .int .i64 x9_2 ∧ Aside0 (laws_FnRegroup.l0 kq l0 a1 a2 a3 x9_2 = some r) ∧ Aside0 (kq ≤ kj5) ∧ Aside0 (Below w.heap.size w w'))
          case atStart => exact ⟨(0), (by first | rfl | (simp; done) | (simp [*]; done)), H', ⟨Nat.le_refl _⟩, ⟨by repeat (first | (with_reducible first | exact HB.out | apply below_alloc | apply pw_below_drewN | apply below_drew1) | exact HB.out)⟩⟩
          case round =>
            clear H'
            try clear c1
            try clear p2
            try clear c5
            try clear c5b0
            try clear c5b1
            try clear c6
            try clear c7
            try clear c7b0
            try clear c8
            try clear c8b0
            try clear c9
            try clear c9b0
            try clear c10
            try clear c10b0
            try clear c11
            try clear p2
            obtain ⟨x9_2, rfl, HA, HK2, HB⟩ := hrel
            cases gk with
            | zero => exact absurd HA.out (by simp [laws_FnRegroup.l0])
            | succ k2 =>
              have H := HA.out
              clear HA
              simp only [laws_FnRegroup.l0] at H
              by_cases c12 : x9_2 < (l0.length : Int)
              · rw [if_pos c12] at H
                have c12b0 : decide (x9_2 < (l0.length : Int)) = true := decide_eq_true c12
                clear c12
                by_cases c13 : 0 ≤ x9_2
                · rw [if_pos c13] at H
                  have c13b0 : decide (0 ≤ x9_2) = true := decide_eq_true c13
                  clear c13
                  by_cases c14 : 0 ≤ a1
                  · rw [if_pos c14] at H
                    have c14b0 := eq_true c14
                    have c14b1 : decide (0 ≤ a1) = true := decide_eq_true c14
                    clear c14
                    obtain ⟨ji15, hji15⟩ : ∃ j_ : Int, (shl .i64 1 a1) = j_ := ⟨_, rfl⟩
                    replace H : (if (wrap64 (rd l0 x9_2)) ≥ (ji15) then (some true) else (laws_FnRegroup.l0 k2 l0 a1 a2 a3 (wrap64 (x9_2 + 1)))) = some r := by first | (rw [hji15] at H; exact H) | (simp only [hji15] at H ⊢; exact H)
                    have hji15_ : (IntKind.i64.wrap (1 * 2 ^ min a1.toNat 64)) = ji15 := hji15
                    have hji15z : a1 ≤ 64 → (IntKind.i64.wrap (1 * 2 ^ a1.toNat)) = ji15 := shl_small hji15
                    have hji15u : (IntKind.i64.wrap (2 ^ min a1.toNat 64)) = ji15 := by have h_ := hji15_; rw [Int.one_mul] at h_; exact h_
                    have hji15v : a1 ≤ 64 → (IntKind.i64.wrap (2 ^ a1.toNat)) = ji15 := fun hle_ => by have h_ := hji15z hle_; rw [Int.one_mul] at h_; exact h_
                    have hji15y : (wrap64 (1 * 2 ^ min a1.toNat 64)) = ji15 := (i64_w _).symm.trans hji15_
                    have hji15x : a1 ≤ 64 → (wrap64 (1 * 2 ^ a1.toNat)) = ji15 := fun h_ => (i64_w _).symm.trans (hji15z h_)
                    by_cases c16 : (wrap64 (rd l0 x9_2)) ≥ (ji15)
                    · rw [if_pos c16] at H
                      have c16b0 : decide ((ji15) ≤ (wrap64 (rd l0 x9_2))) = true := decide_eq_true c16
                      clear c16
                      obtain rfl := Option.some.inj H
                      have p153 : 0 ≤ (x9_2 : Int) := of_decide_eq_true (by first | (with_reducible assumption) | assumption)
                      have q153 : x9_2 < (l0.length : Int) := of_decide_eq_true (by first | (with_reducible assumption) | assumption)
                      obtain ⟨ad153, e153, hx153_0⟩ := Kd.at_int HR0.out x9_2 p153 q153
                      cases e153
                      replace hx153_0 := (HB.out.cell (World.block_lt_of_cell? w _ hx153_0)).trans hx153_0
                      replace p153 := eq_true p153
                      replace q153 := eq_true q153
                      go_wp2
                      go_ret
                      exact ⟨by first | rfl | (simp [errW_none, errW_some] <;> rfl) | (simp only [← hji15]; first | rfl | (simp [errW_none, errW_some] <;> rfl)) | (simp [*, errW_none, errW_some] <;> rfl), by repeat (first | (with_reducible first | exact HB.out | apply below_alloc | apply pw_below_drewN | apply below_drew1) | exact HB.out)⟩
                    · rw [if_neg c16] at H
                      have c16b0 : decide ((ji15) ≤ (wrap64 (rd l0 x9_2))) = false := decide_eq_false c16
                      clear c16
                      have H' := Aside0.mk H
                      clear H
                      have p153 : 0 ≤ (x9_2 : Int) := of_decide_eq_true (by first | (with_reducible assumption) | assumption)
                      have q153 : x9_2 < (l0.length : Int) := of_decide_eq_true (by first | (with_reducible assumption) | assumption)
                      obtain ⟨ad153, e153, hx153_0⟩ := Kd.at_int HR0.out x9_2 p153 q153
                      cases e153
                      replace hx153_0 := (HB.out.cell (World.block_lt_of_cell? w _ hx153_0)).trans hx153_0
                      replace p153 := eq_true p153
                      replace q153 := eq_true q153
                      go_wp2
                      go_roundg k2
                      case measure => have := HJ5.out; have := HK2.out; omega
                      case rel => exact ⟨(wrap64 (x9_2 + 1)), (by first | rfl | (simp; done) | (simp [*]; done)), H', ⟨by have := HJ5.out; have := HK2.out; omega⟩, ⟨by repeat (first | (with_reducible first | exact HB.out | apply below_alloc | apply pw_below_drewN | apply below_drew1) | exact HB.out)⟩⟩
                  · rw [if_neg c14] at H
                    exact absurd H (by simp)
                · rw [if_neg c13] at H
                  exact absurd H (by simp)
              · rw [if_neg c12] at H
                have c12b0 : decide (x9_2 < (l0.length : Int)) = false := decide_eq_false c12
                clear c12
                have HC17 := Aside0.mk H
                clear H
                go_upto_region 10 with (fail)
                go_cut [68] (fun v68 wc => ∃ (kq : Nat) (x68_16 : Bool), v68 = .bool x68_16 ∧ Aside0 (laws_FnRegroup.j2 kq l0 a1 a2 a3 x68_16 = some r) ∧ Aside0 (kq ≤ k2) ∧ Aside0 (Below w.heap.size w wc))
                case first =>
                  have H := HC17.out
                  clear HC17
                  by_cases c18 : a3 = true
                  · subst c18
                    have H1 : (laws_FnRegroup.j2 k2 l0 a1 a2 true false) = some r := by rw [if_pos rfl] at H; exact H
                    clear H
                    have H := H1
                    clear H1
                    have H' := Aside0.mk H
                    clear H
                    go_wp2
                    go_meet
                    case rel => exact ⟨_, (false), (by first | rfl | (simp; done) | (simp [*]; done)), H', ⟨by have := HJ5.out; have := HK2.out; first | omega | exact Nat.le_refl _⟩, ⟨by repeat (first | (with_reducible first | exact HB.out | apply below_alloc | apply pw_below_drewN | apply below_drew1) | exact HB.out)⟩⟩
                  · replace c18 := Bool.eq_false_iff.mpr c18
                    subst c18
                    have H1 : (if a1 = 5 then (if a2 = 8 then (laws_FnRegroup.j2 k2 l0 a1 a2 false (!true)) else (if a1 = 8 then (laws_FnRegroup.j2 k2 l0 a1 a2 false (!(a2 == 5))) else (laws_FnRegroup.j2 k2 l0 a1 a2 false (!false)))) else (if a1 = 8 then (laws_FnRegroup.j2 k2 l0 a1 a2 false (!(a2 == 5))) else (laws_FnRegroup.j2 k2 l0 a1 a2 false (!false)))) = some r := by rw [if_neg (show ¬ (false = true) by decide)] at H; exact H
                    clear H
                    have H := H1
                    clear H1
                    by_cases c19 : a1 = 5
                    · rw [if_pos c19] at H
                      have c19b0 : (a1 == 5) = true := beq_iff_eq.mpr c19
                      have c19b1 : (a1 != 5) = false := bne_eq_false_iff_eq.mpr c19
                      clear c19
                      (first | rw [c19b0] | (simp only [i64_w, i32_w]; rw [c19b0]) | skip)
                      by_cases c20 : a2 = 8
                      · rw [if_pos c20] at H
                        have c20b0 : (a2 == 8) = true := beq_iff_eq.mpr c20
                        have c20b1 : (a2 != 8) = false := bne_eq_false_iff_eq.mpr c20
                        clear c20
                        have H' := Aside0.mk H
                        clear H
                        go_wp2
                        go_meet
                        case rel => exact ⟨_, (!true), (by first | rfl | (simp; done) | (simp [*]; done)), H', ⟨by have := HJ5.out; have := HK2.out; first | omega | exact Nat.le_refl _⟩, ⟨by repeat (first | (with_reducible first | exact HB.out | apply below_alloc | apply pw_below_drewN | apply below_drew1) | exact HB.out)⟩⟩
                      · rw [if_neg c20] at H
                        have c20b0 : (a2 == 8) = false := beq_eq_false_iff_ne.mpr c20
                        have c20b1 : (a2 != 8) = true := bne_iff_ne.mpr c20
                        by_cases c21 : a1 = 8
                        · rw [if_pos c21] at H
                          have c21b0 : (a1 == 8) = true := beq_iff_eq.mpr c21
                          have c21b1 : (a1 != 8) = false := bne_eq_false_iff_eq.mpr c21
                          clear c21
                          have H' := Aside0.mk H
                          clear H
                          go_wp2
                          go_meet
                          case rel => exact ⟨_, (!(a2 == 5)), (by first | rfl | (simp; done) | (simp [*]; done)), H', ⟨by have := HJ5.out; have := HK2.out; first | omega | exact Nat.le_refl _⟩, ⟨by repeat (first | (with_reducible first | exact HB.out | apply below_alloc | apply pw_below_drewN | apply below_drew1) | exact HB.out)⟩⟩
                        · rw [if_neg c21] at H
                          have c21b0 : (a1 == 8) = false := beq_eq_false_iff_ne.mpr c21
                          have c21b1 : (a1 != 8) = true := bne_iff_ne.mpr c21
                          have H' := Aside0.mk H
                          clear H
                          go_wp2
                          go_meet
                          case rel => exact ⟨_, (!false), (by first | rfl | (simp; done) | (simp [*]; done)), H', ⟨by have := HJ5.out; have := HK2.out; first | omega | exact Nat.le_refl _⟩, ⟨by repeat (first | (with_reducible first | exact HB.out | apply below_alloc | apply pw_below_drewN | apply below_drew1) | exact HB.out)⟩⟩
                    · rw [if_neg c19] at H
                      have c19b0 : (a1 == 5) = false := beq_eq_false_iff_ne.mpr c19
                      have c19b1 : (a1 != 5) = true := bne_iff_ne.mpr c19
                      (first | rw [c19b0] | (simp only [i64_w, i32_w]; rw [c19b0]) | skip)
                      by_cases c22 : a1 = 8
                      · rw [if_pos c22] at H
                        have c22b0 : (a1 == 8) = true := beq_iff_eq.mpr c22
                        have c22b1 : (a1 != 8) = false := bne_eq_false_iff_eq.mpr c22
                        clear c22
                        have H' := Aside0.mk H
                        clear H
                        go_wp2
                        go_meet
                        case rel => exact ⟨_, (!(a2 == 5)), (by first | rfl | (simp; done) | (simp [*]; done)), H', ⟨by have := HJ5.out; have := HK2.out; first | omega | exact Nat.le_refl _⟩, ⟨by repeat (first | (with_reducible first | exact HB.out | apply below_alloc | apply pw_below_drewN | apply below_drew1) | exact HB.out)⟩⟩
                      · rw [if_neg c22] at H
                        have c22b0 : (a1 == 8) = false := beq_eq_false_iff_ne.mpr c22
                        have c22b1 : (a1 != 8) = true := bne_iff_ne.mpr c22
                        have H' := Aside0.mk H
                        clear H
                        go_wp2
                        go_meet
                        case rel => exact ⟨_, (!false), (by first | rfl | (simp; done) | (simp [*]; done)), H', ⟨by have := HJ5.out; have := HK2.out; first | omega | exact Nat.le_refl _⟩, ⟨by repeat (first | (with_reducible first | exact HB.out | apply below_alloc | apply pw_below_drewN | apply below_drew1) | exact HB.out)⟩⟩
                case rest =>
                  clear HC17
                  try clear c1
                  try clear p1
                  try clear q1
                  try clear hx1
                  try clear c2
                  try clear p2
                  try clear c5
                  try clear c5b0
                  try clear c5b1
                  try clear c6
                  try clear p6
                  try clear c7
                  try clear c7b0
                  try clear c8
                  try clear c8b0
                  try clear c9
                  try clear c9b0
                  try clear c10
                  try clear c10b0
                  try clear c11
                  try clear c12
                  try clear c12b0
                  try clear c13
                  try clear c13b0
                  try clear c14
                  try clear c14b0
                  try clear c14b1
                  try clear p15
                  try clear q15
                  try clear hx15
                  try clear c16
                  try clear c16b0
                  try clear c18
                  try clear c19
                  try clear c19b0
                  try clear c19b1
                  try clear c20
                  try clear c20b0
                  try clear c20b1
                  try clear c21
                  try clear c21b0
                  try clear c21b1
                  try clear c22
                  try clear c22b0
                  try clear c22b1
                  try clear hx153_0
                  try clear p153
                  try clear p2
                  try clear q153
                  obtain ⟨kq, x68_16, rfl, HA, HJ16, HB⟩ := hcut
                  cases kq with
                  | zero => exact absurd HA.out (by simp [laws_FnRegroup.j2])
                  | succ kj16 =>
                    have H := HA.out
                    clear HA
                    simp only [laws_FnRegroup.j2] at H
                    by_cases c23 : x68_16 = true
                    · subst c23
                      have H1 : (some true) = some r := by rw [if_pos rfl] at H; exact H
                      clear H
                      have H := H1
                      clear H1
                      obtain rfl := Option.some.inj H
                      go_wp2
                      go_ret
                      exact ⟨by first | rfl | (simp [errW_none, errW_some] <;> rfl) | (simp [*, errW_none, errW_some] <;> rfl), by repeat (first | (with_reducible first | exact HB.out | apply below_alloc | apply pw_below_drewN | apply below_drew1) | exact HB.out)⟩
                    · replace c23 := Bool.eq_false_iff.mpr c23
                      subst c23
                      have H1 : ((spec_Regroup.f kj16 l0 (wrap64 (a1)) (wrap64 (a2)) a3).bind fun bt154 => ((impl_Regroup.f kj16 l0 a1 a2 a3).bind fun bt158 => (if ((bt158.2 == 0) != bt154.2) = true then (some false) else (if bt154.2 = true then ((laws_same.f kj16 bt158.1 bt154.1).bind fun t162 => (some t162)) else (some true))))) = some r := by rw [if_neg (show ¬ (false = true) by decide)] at H; exact H
                      clear H
                      have H := H1
                      clear H1
                      replace H := Option.bind_eq_some_iff.mp H
                      obtain ⟨⟨t154, t155⟩, A240, H⟩ := H
                      replace H : ((impl_Regroup.f kj16 l0 a1 a2 a3).bind fun bt158 => (if ((bt158.2 == 0) != t155) = true then (some false) else (if t155 = true then ((laws_same.f kj16 bt158.1 t154).bind fun t162 => (some t162)) else (some true)))) = some r := H
                      have A24 := Aside0.mk A240
                      clear A240
                      replace H := Option.bind_eq_some_iff.mp H
                      obtain ⟨⟨t158, t159⟩, A250, H⟩ := H
                      replace H : (if ((t159 == 0) != t155) = true then (some false) else (if t155 = true then ((laws_same.f kj16 t158 t154).bind fun t162 => (some t162)) else (some true))) = some r := H
                      have A25 := Aside0.mk A250
                      clear A250
                      by_cases c26 : ((t159 == 0) != t155) = true
                      · rw [if_pos c26] at H
                        have c26b0 : ((t159 == 0) != t155) = true := c26
                        (try (have c26b1 : decide ((t159 == 0) = t155) = false := by simpa using c26))
                        (try (have c26b2 : ((t159 == 0) == t155) = false := by simpa using c26))
                        (try (have c26b3 : ¬ ((t159 == 0) = t155) := by simpa using c26))
                        clear c26
                        obtain rfl := Option.some.inj H
                        go_wp2_with (first | ((with_reducible refine gate_callee (f := 16) rfl ?_); refine goesL_ (some 76) rfl rfl Try.func16 (by kernel_rfl) rfl #[.slice A0 l0.length c0, .int .i64 (wrap64 (a1)), .int .i64 (wrap64 (a2)), .bool a3] rfl (by (try simp only [List.map_toArray, List.map_cons, List.map_nil]); first | done | rfl | (simp only [List.length_drop, List.length_take]; rfl)) ?_; (with_reducible refine (spec_Regroup.calls kj16 _ _ l0 (wrap64 (a1)) (wrap64 (a2)) a3 t154 t155 _ ?side1 ?side2 A24.out).mono ?_); (case side1 => repeat (first | exact (Kd.C_below HR0.out HB.out) | (with_reducible refine Kd.C_alloc ?_ _) | (with_reducible refine Kd.C_drewN ?_ _) | (with_reducible refine Kd.C_drew ?_))); (case side2 => exact HC0.out); rintro e w27 ⟨v156, rfl, ho0, hb⟩; refine ⟨_, rfl, ?_⟩; have n0_ := Aside0.mk (Kd.R_lower ho0 (below_size (by repeat (first | (with_reducible first | exact HB.out | apply below_alloc | apply pw_below_drewN | apply below_drew1) | exact HB.out)))); have n1_ := Aside0.mk (below_step (by repeat (first | (with_reducible first | exact HB.out | apply below_alloc | apply pw_below_drewN | apply below_drew1) | exact HB.out)) hb); clear HB; have HO157 := n0_; have HB := n1_; clear n0_ n1_; (try clear hb); (try clear hb2); (try clear hk); (try clear hi); (try clear ho0)) | ((with_reducible refine gate_callee (f := 17) rfl ?_); refine goesL_ (some 84) rfl rfl Try.func17 (by kernel_rfl) rfl #[.slice A0 l0.length c0, .int .u8 a1, .int .u8 a2, .bool a3] rfl (by (try simp only [List.map_toArray, List.map_cons, List.map_nil]); first | done | rfl | (simp only [List.length_drop, List.length_take]; rfl)) ?_; (with_reducible refine (impl_Regroup.calls kj16 _ _ l0 a1 a2 a3 t158 t159 _ ?side1 ?side2 A25.out).mono ?_); (case side1 => repeat (first | exact (Kd.C_below HR0.out HB.out) | (with_reducible refine Kd.C_alloc ?_ _) | (with_reducible refine Kd.C_drewN ?_ _) | (with_reducible refine Kd.C_drew ?_))); (case side2 => exact HC0.out); rintro e w28 ⟨v160, rfl, ho0, hb⟩; refine ⟨_, rfl, ?_⟩; have n0_ := Aside0.mk (Kd.R_elder' (by (with_reducible repeat (first | apply Kd.R_alloc | apply Kd.R_drewN | apply Kd.R_drew)); exact HO157.out) (Kd.R_base ho0) hb); have n1_ := Aside0.mk (Kd.R_lower (Kd.R_new' ho0 (Kd.R_lt (by (with_reducible repeat (first | apply Kd.R_alloc | apply Kd.R_drewN | apply Kd.R_drew)); exact HO157.out))) (below_size (by repeat (first | (with_reducible first | exact HB.out | apply below_alloc | apply pw_below_drewN | apply below_drew1) | exact HB.out)))); have n2_ := Aside0.mk (below_step (by repeat (first | (with_reducible first | exact HB.out | apply below_alloc | apply pw_below_drewN | apply below_drew1) | exact HB.out)) hb); clear HO157; clear HB; have HO157 := n0_; have HO161 := n1_; have HB := n2_; clear n0_ n1_ n2_; (try clear hb); (try clear hb2); (try clear hk); (try clear hi); (try clear ho0)))
                        go_ret
                        exact ⟨by first | rfl | (simp [errW_none, errW_some] <;> rfl) | (simp [*, errW_none, errW_some] <;> rfl), by repeat (first | (with_reducible first | exact HB.out | apply below_alloc | apply pw_below_drewN | apply below_drew1) | exact HB.out)⟩
                      · rw [if_neg c26] at H
                        have c26b0 : ((t159 == 0) != t155) = false := by simpa using c26
                        (try (have c26b1 : decide ((t159 == 0) = t155) = true := by simpa using c26))
                        (try (have c26b2 : ((t159 == 0) == t155) = true := by simpa using c26))
                        clear c26
                        by_cases c29 : t155 = true
                        · subst c29
                          have H1 : ((laws_same.f kj16 t158 t154).bind fun t162 => (some t162)) = some r := by rw [if_pos rfl] at H; exact H
                          clear H
                          have H := H1
                          clear H1
                          replace H := Option.bind_eq_some_iff.mp H
                          obtain ⟨t162, A300, H⟩ := H
                          replace H : (some t162) = some r := H
                          have A30 := Aside0.mk A300
                          clear A300
                          obtain rfl := Option.some.inj H
                          go_wp2_with (first | ((with_reducible refine gate_callee (f := 16) rfl ?_); refine goesL_ (some 76) rfl rfl Try.func16 (by kernel_rfl) rfl #[.slice A0 l0.length c0, .int .i64 (wrap64 (a1)), .int .i64 (wrap64 (a2)), .bool a3] rfl (by (try simp only [List.map_toArray, List.map_cons, List.map_nil]); first | done | rfl | (simp only [List.length_drop, List.length_take]; rfl)) ?_; (with_reducible refine (spec_Regroup.calls kj16 _ _ l0 (wrap64 (a1)) (wrap64 (a2)) a3 t154 true _ ?side1 ?side2 A24.out).mono ?_); (case side1 => repeat (first | exact (Kd.C_below HR0.out HB.out) | (with_reducible refine Kd.C_alloc ?_ _) | (with_reducible refine Kd.C_drewN ?_ _) | (with_reducible refine Kd.C_drew ?_))); (case side2 => exact HC0.out); rintro e w31 ⟨v156, rfl, ho0, hb⟩; refine ⟨_, rfl, ?_⟩; have n0_ := Aside0.mk (Kd.R_lower ho0 (below_size (by repeat (first | (with_reducible first | exact HB.out | apply below_alloc | apply pw_below_drewN | apply below_drew1) | exact HB.out)))); have n1_ := Aside0.mk (below_step (by repeat (first | (with_reducible first | exact HB.out | apply below_alloc | apply pw_below_drewN | apply below_drew1) | exact HB.out)) hb); clear HB; have HO157 := n0_; have HB := n1_; clear n0_ n1_; (try clear hb); (try clear hb2); (try clear hk); (try clear hi); (try clear ho0)) | ((with_reducible refine gate_callee (f := 17) rfl ?_); refine goesL_ (some 84) rfl rfl Try.func17 (by kernel_rfl) rfl #[.slice A0 l0.length c0, .int .u8 a1, .int .u8 a2, .bool a3] rfl (by (try simp only [List.map_toArray, List.map_cons, List.map_nil]); first | done | rfl | (simp only [List.length_drop, List.length_take]; rfl)) ?_; (with_reducible refine (impl_Regroup.calls kj16 _ _ l0 a1 a2 a3 t158 t159 _ ?side1 ?side2 A25.out).mono ?_); (case side1 => repeat (first | exact (Kd.C_below HR0.out HB.out) | (with_reducible refine Kd.C_alloc ?_ _) | (with_reducible refine Kd.C_drewN ?_ _) | (with_reducible refine Kd.C_drew ?_))); (case side2 => exact HC0.out); rintro e w32 ⟨v160, rfl, ho0, hb⟩; refine ⟨_, rfl, ?_⟩; have n0_ := Aside0.mk (Kd.R_elder' (by (with_reducible repeat (first | apply Kd.R_alloc | apply Kd.R_drewN | apply Kd.R_drew)); exact HO157.out) (Kd.R_base ho0) hb); have n1_ := Aside0.mk (Kd.R_lower (Kd.R_new' ho0 (Kd.R_lt (by (with_reducible repeat (first | apply Kd.R_alloc | apply Kd.R_drewN | apply Kd.R_drew)); exact HO157.out))) (below_size (by repeat (first | (with_reducible first | exact HB.out | apply below_alloc | apply pw_below_drewN | apply below_drew1) | exact HB.out)))); have n2_ := Aside0.mk (below_step (by repeat (first | (with_reducible first | exact HB.out | apply below_alloc | apply pw_below_drewN | apply below_drew1) | exact HB.out)) hb); clear HO157; clear HB; have HO157 := n0_; have HO161 := n1_; have HB := n2_; clear n0_ n1_ n2_; (try clear hb); (try clear hb2); (try clear hk); (try clear hi); (try clear ho0); obtain ⟨Ao33, co33, eo33⟩ := Kd.R_slice HO161.out; subst eo33; obtain ⟨Ao34, co34, eo34⟩ := Kd.R_slice HO157.out; subst eo34) | (go_at_call 13; (with_reducible refine (laws_same.calls kj16 _ _ t158 _ _ t154 t162 _ ?side1 ?side2 ?side3 ?side4 A30.out).mono ?_); (case side1 => repeat (first | exact (Kd.R_reads' HO161.out).2.2 | (with_reducible refine Kd.C_alloc ?_ _) | (with_reducible refine Kd.C_drewN ?_ _) | (with_reducible refine Kd.C_drew ?_))); (case side2 => exact (Kd.R_reads' HO161.out).2.1); (case side3 => repeat (first | exact (Kd.R_reads' HO157.out).2.2 | (with_reducible refine Kd.C_alloc ?_ _) | (with_reducible refine Kd.C_drewN ?_ _) | (with_reducible refine Kd.C_drew ?_))); (case side4 => exact (Kd.R_reads' HO157.out).2.1); rintro e w' ⟨rfl, ⟨nd, rfl⟩⟩))
                          go_ret
                          exact ⟨by first | rfl | (simp [errW_none, errW_some] <;> rfl) | (simp [*, errW_none, errW_some] <;> rfl), by repeat (first | (with_reducible first | exact HB.out | apply below_alloc | apply pw_below_drewN | apply below_drew1) | exact HB.out)⟩
                        · replace c29 := Bool.eq_false_iff.mpr c29
                          subst c29
                          have H1 : (some true) = some r := by rw [if_neg (show ¬ (false = true) by decide)] at H; exact H
                          clear H
                          have H := H1
                          clear H1
                          obtain rfl := Option.some.inj H
                          go_wp2_with (first | ((with_reducible refine gate_callee (f := 16) rfl ?_); refine goesL_ (some 76) rfl rfl Try.func16 (by kernel_rfl) rfl #[.slice A0 l0.length c0, .int .i64 (wrap64 (a1)), .int .i64 (wrap64 (a2)), .bool a3] rfl (by (try simp only [List.map_toArray, List.map_cons, List.map_nil]); first | done | rfl | (simp only [List.length_drop, List.length_take]; rfl)) ?_; (with_reducible refine (spec_Regroup.calls kj16 _ _ l0 (wrap64 (a1)) (wrap64 (a2)) a3 t154 false _ ?side1 ?side2 A24.out).mono ?_); (case side1 => repeat (first | exact (Kd.C_below HR0.out HB.out) | (with_reducible refine Kd.C_alloc ?_ _) | (with_reducible refine Kd.C_drewN ?_ _) | (with_reducible refine Kd.C_drew ?_))); (case side2 => exact HC0.out); rintro e w35 ⟨v156, rfl, ho0, hb⟩; refine ⟨_, rfl, ?_⟩; have n0_ := Aside0.mk (Kd.R_lower ho0 (below_size (by repeat (first | (with_reducible first | exact HB.out | apply below_alloc | apply pw_below_drewN | apply below_drew1) | exact HB.out)))); have n1_ := Aside0.mk (below_step (by repeat (first | (with_reducible first | exact HB.out | apply below_alloc | apply pw_below_drewN | apply below_drew1) | exact HB.out)) hb); clear HB; have HO157 := n0_; have HB := n1_; clear n0_ n1_; (try clear hb); (try clear hb2); (try clear hk); (try clear hi); (try clear ho0)) | ((with_reducible refine gate_callee (f := 17) rfl ?_); refine goesL_ (some 84) rfl rfl Try.func17 (by kernel_rfl) rfl #[.slice A0 l0.length c0, .int .u8 a1, .int .u8 a2, .bool a3] rfl (by (try simp only [List.map_toArray, List.map_cons, List.map_nil]); first | done | rfl | (simp only [List.length_drop, List.length_take]; rfl)) ?_; (with_reducible refine (impl_Regroup.calls kj16 _ _ l0 a1 a2 a3 t158 t159 _ ?side1 ?side2 A25.out).mono ?_); (case side1 => repeat (first | exact (Kd.C_below HR0.out HB.out) | (with_reducible refine Kd.C_alloc ?_ _) | (with_reducible refine Kd.C_drewN ?_ _) | (with_reducible refine Kd.C_drew ?_))); (case side2 => exact HC0.out); rintro e w36 ⟨v160, rfl, ho0, hb⟩; refine ⟨_, rfl, ?_⟩; have n0_ := Aside0.mk (Kd.R_elder' (by (with_reducible repeat (first | apply Kd.R_alloc | apply Kd.R_drewN | apply Kd.R_drew)); exact HO157.out) (Kd.R_base ho0) hb); have n1_ := Aside0.mk (Kd.R_lower (Kd.R_new' ho0 (Kd.R_lt (by (with_reducible repeat (first | apply Kd.R_alloc | apply Kd.R_drewN | apply Kd.R_drew)); exact HO157.out))) (below_size (by repeat (first | (with_reducible first | exact HB.out | apply below_alloc | apply pw_below_drewN | apply below_drew1) | exact HB.out)))); have n2_ := Aside0.mk (below_step (by repeat (first | (with_reducible first | exact HB.out | apply below_alloc | apply pw_below_drewN | apply below_drew1) | exact HB.out)) hb); clear HO157; clear HB; have HO157 := n0_; have HO161 := n1_; have HB := n2_; clear n0_ n1_ n2_; (try clear hb); (try clear hb2); (try clear hk); (try clear hi); (try clear ho0)))
                          go_ret
                          exact ⟨by first | rfl | (simp [errW_none, errW_some] <;> rfl) | (simp [*, errW_none, errW_some] <;> rfl), by repeat (first | (with_reducible first | exact HB.out | apply below_alloc | apply pw_below_drewN | apply below_drew1) | exact HB.out)⟩

/-- THE ONE PURE STATEMENT of laws_FnRegroup: yours. -/
def laws_FnRegroup.Pure : Prop := ∀ (l0 : List Int) (a1 : Int) (a2 : Int) (a3 : Bool), l0.length ≤ maxLen → l0.length * 1 ≤ 140737488351232 → (∀ x ∈ l0, (Lit.int .u8 x).wf = true) → (Lit.int .u8 a1).wf = true → (Lit.int .u8 a2).wf = true → ∃ k, laws_FnRegroup.f k l0 a1 a2 a3 = some true
theorem laws_FnRegroup.walk (P : laws_FnRegroup.Pure) (a0 : Option Addr) (len0 cap0 : Nat) (z0 : List Int) (a1 : Int) (a2 : Int) (a3 : Bool) (w : World) (w0 : (a0 = none ∧ len0 = 0 ∧ cap0 = 0 ∧ z0 = []) ∨ ∃ x, a0 = some x ∧ len0 ≤ cap0 ∧ cap0 ≤ maxLen ∧ z0.length = cap0 ∧ (∀ i, i < z0.length → w.cell? (x.add i) = some (.int .u8 (z0.getD i 0))) ∧ ∀ n ∈ z0, (Lit.int .u8 n).wf = true) (y0 : len0 * 1 ≤ 140737488351232) (w1 : (Lit.int .u8 a1).wf = true) (w2 : (Lit.int .u8 a2).wf = true) :
    Calls Try.prog 6 #[.slice a0 len0 cap0, .int .u8 a1, .int .u8 a2, .bool a3] w fun e w' => e = .returned (.bool true) ∧ Below w.heap.size w w' := by
  obtain ⟨l0, rfl, hr0, hm0, hw0, hc0⟩ := ReadsInt.ofRowC w0
  obtain ⟨k, h⟩ := P l0 a1 a2 a3 hm0 y0 hw0 w1 w2
  refine (laws_FnRegroup.calls k _ _ l0 a1 a2 a3 true w (Kd.C_of_reads (d := (0 : Int)) (h1 := fun _ => rfl) hr0) hc0 h).mono ?_
  rintro e w' ⟨rfl, hd⟩
  exact ⟨rfl, hd⟩

end Go.Proofs.Ytnbecklojmbbbaa.QFnRegroup
