/- The law FnBuildTooMuch comes to what its function tells. -/
import Derived.Test.YtdmpjoglejnpbabTooD
namespace Go.Proofs.Ytdmpjoglejnpbab.QFnBuilt
open Go.RowKit Go.Proofs.YtdmpjoglejnpbabW.PrintWords Go.Proofs.YtdmpjoglejnpbabW.PrintLast Go.Proofs.YtdmpjoglejnpbabW.PrintMore
attribute [local go_sem] nn_mod256 nn_mod65536 nn_mod32 max2_int min2_int max_two min_two max_three min_three max_four min_four   -- for this text's walks alone
set_option linter.unusedVariables false
set_option linter.unusedSimpArgs false
set_option maxHeartbeats 100000000 in
set_option maxRecDepth 100000 in
theorem laws_FnBuildTooMuch.calls (k : Nat) (A0 : Option Addr) (c0 : Nat) (l0 : List (S27)) (A1 : Option Addr) (c1 : Nat) (l1 : List Int) (A2 : Option Addr) (c2 : Nat) (l2 : List (S27)) (r : Bool) (w : World) (hr0 : Kd.C k27 w A0 l0.length l0) (hc0 : l0.length ≤ c0) (hr1 : Kd.C (Kd.int .u8) w A1 l1.length l1) (hc1 : l1.length ≤ c1) (hr2 : Kd.C k27 w A2 l2.length l2) (hc2 : l2.length ≤ c2) (h : laws_FnBuildTooMuch.f k l0 l1 l2 = some r) :
    Calls Try.prog 3 #[.slice A0 l0.length c0, .slice A1 l1.length c1, .slice A2 l2.length c2] w fun e w' => e = .returned (.bool r) ∧ Below w.heap.size w w' := by
  have hu27 := Try.underlying27
  have HR0 := Aside0.mk hr0
  have HC0 := Aside0.mk hc0
  clear hr0 hc0
  have HR1 := Aside0.mk hr1
  have HC1 := Aside0.mk hc1
  clear hr1 hc1
  have HR2 := Aside0.mk hr2
  have HC2 := Aside0.mk hc2
  clear hr2 hc2
  have HB := Aside0.mk (Below.refl w.heap.size w)
  have H : ((laws_zzFits18.f k l0).bind fun t140 => (if t140 = true then (if (l1.length : Int) > 2147483647 then (laws_FnBuildTooMuch.j0 k l0 l1 l2 true) else ((laws_zzFits18.f k l2).bind fun t141 => (laws_FnBuildTooMuch.j0 k l0 l1 l2 (!t141)))) else (laws_FnBuildTooMuch.j0 k l0 l1 l2 true))) = some r := h
  clear h
  have HC4 := Aside0.mk H
  clear H
  go_enter Try.func3, Try.ntmps3
  go_upto_region 1 with (fail)
  go_cut [24] (fun v24 wc => ∃ (kq : Nat) (x24_3 : Bool), v24 = .bool x24_3 ∧ Aside0 (laws_FnBuildTooMuch.j0 kq l0 l1 l2 x24_3 = some r) ∧ Aside0 (kq ≤ k) ∧ Aside0 (Below w.heap.size w wc))
  case first =>
    have H := HC4.out
    clear HC4
    replace H := Option.bind_eq_some_iff.mp H
    obtain ⟨t140, A50, H⟩ := H
    replace H : (if t140 = true then (if (l1.length : Int) > 2147483647 then (laws_FnBuildTooMuch.j0 k l0 l1 l2 true) else ((laws_zzFits18.f k l2).bind fun t141 => (laws_FnBuildTooMuch.j0 k l0 l1 l2 (!t141)))) else (laws_FnBuildTooMuch.j0 k l0 l1 l2 true)) = some r := H
    have A5 := Aside0.mk A50
    clear A50
    by_cases c6 : t140 = true
    · subst c6
      have H1 : (if (l1.length : Int) > 2147483647 then (laws_FnBuildTooMuch.j0 k l0 l1 l2 true) else ((laws_zzFits18.f k l2).bind fun t141 => (laws_FnBuildTooMuch.j0 k l0 l1 l2 (!t141)))) = some r := by rw [if_pos rfl] at H; exact H
      clear H
      have H := H1
      clear H1
      by_cases c7 : (l1.length : Int) > 2147483647
      · rw [if_pos c7] at H
        have c7b0 : decide (2147483647 < (l1.length : Int)) = true := decide_eq_true c7
        have c7b1 : decide (2147483647 < l1.length) = true := decide_eq_true (by omega)
        clear c7
        (first | rw [c7b0] | (simp only [i64_w, i32_w]; rw [c7b0]) | skip)
        have H' := Aside0.mk H
        clear H
        go_wp2_with (first | ((with_reducible refine gate_callee (f := 5) rfl ?_); refine goesL_ (some 13) rfl rfl Try.func5 (by kernel_rfl) rfl #[.slice A0 l0.length c0] rfl (by (try simp only [List.map_toArray, List.map_cons, List.map_nil]); first | done | rfl | (simp only [List.length_drop, List.length_take]; rfl)) ?_; (with_reducible refine (laws_zzFits18.calls k _ _ l0 true _ ?side1 ?side2 A5.out).mono ?_); (case side1 => repeat (first | exact (Kd.C_below HR0.out HB.out) | (with_reducible refine Kd.C_alloc ?_ _) | (with_reducible refine Kd.C_drewN ?_ _) | (with_reducible refine Kd.C_drew ?_))); (case side2 => exact HC0.out); rintro e w8 ⟨rfl, hb⟩; refine ⟨_, rfl, ?_⟩; have n0_ := Aside0.mk (below_step (by repeat (first | (with_reducible first | exact HB.out | apply below_alloc | apply pw_below_drewN | apply below_drew1) | exact HB.out)) hb); clear HB; have HB := n0_; clear n0_; (try clear hb); (try clear hb2); (try clear hk); (try clear hi)))
        go_meet
        case rel => exact ⟨_, (true), (by first | rfl | (simp; done) | (simp [*]; done)), (by first | exact H' | (subst_vars; exact H')), ⟨by first | omega | exact Nat.le_refl _⟩, ⟨by repeat (first | (with_reducible first | exact HB.out | apply below_alloc | apply pw_below_drewN | apply below_drew1) | exact HB.out)⟩⟩
      · rw [if_neg c7] at H
        have c7b0 : decide (2147483647 < (l1.length : Int)) = false := decide_eq_false c7
        have c7b1 : decide (2147483647 < l1.length) = false := decide_eq_false (by omega)
        clear c7
        (first | rw [c7b0] | (simp only [i64_w, i32_w]; rw [c7b0]) | skip)
        replace H := Option.bind_eq_some_iff.mp H
        obtain ⟨t141, A90, H⟩ := H
        replace H : (laws_FnBuildTooMuch.j0 k l0 l1 l2 (!t141)) = some r := H
        have A9 := Aside0.mk A90
        clear A90
        have H' := Aside0.mk H
        clear H
        go_wp2_with (first | ((with_reducible refine gate_callee (f := 5) rfl ?_); refine goesL_ (some 13) rfl rfl Try.func5 (by kernel_rfl) rfl #[.slice A0 l0.length c0] rfl (by (try simp only [List.map_toArray, List.map_cons, List.map_nil]); first | done | rfl | (simp only [List.length_drop, List.length_take]; rfl)) ?_; (with_reducible refine (laws_zzFits18.calls k _ _ l0 true _ ?side1 ?side2 A5.out).mono ?_); (case side1 => repeat (first | exact (Kd.C_below HR0.out HB.out) | (with_reducible refine Kd.C_alloc ?_ _) | (with_reducible refine Kd.C_drewN ?_ _) | (with_reducible refine Kd.C_drew ?_))); (case side2 => exact HC0.out); rintro e w10 ⟨rfl, hb⟩; refine ⟨_, rfl, ?_⟩; have n0_ := Aside0.mk (below_step (by repeat (first | (with_reducible first | exact HB.out | apply below_alloc | apply pw_below_drewN | apply below_drew1) | exact HB.out)) hb); clear HB; have HB := n0_; clear n0_; (try clear hb); (try clear hb2); (try clear hk); (try clear hi)) | (go_at_call 5; (with_reducible refine (laws_zzFits18.calls k _ _ l2 t141 _ ?side1 ?side2 A9.out).mono ?_); (case side1 => repeat (first | exact (Kd.C_below HR2.out HB.out) | (with_reducible refine Kd.C_alloc ?_ _) | (with_reducible refine Kd.C_drewN ?_ _) | (with_reducible refine Kd.C_drew ?_))); (case side2 => exact HC2.out); rintro e w11 ⟨rfl, hb⟩; have n0_ := Aside0.mk (below_step (by repeat (first | (with_reducible first | exact HB.out | apply below_alloc | apply pw_below_drewN | apply below_drew1) | exact HB.out)) hb); clear HB; have HB := n0_; clear n0_; (try clear hb); (try clear hb2); (try clear hk); (try clear hi)))
        go_meet
        case rel => exact ⟨_, (!t141), (by first | rfl | (simp; done) | (simp [*]; done)), (by first | exact H' | (subst_vars; exact H')), ⟨by first | omega | exact Nat.le_refl _⟩, ⟨by repeat (first | (with_reducible first | exact HB.out | apply below_alloc | apply pw_below_drewN | apply below_drew1) | exact HB.out)⟩⟩
    · replace c6 := Bool.eq_false_iff.mpr c6
      subst c6
      have H1 : (laws_FnBuildTooMuch.j0 k l0 l1 l2 true) = some r := by rw [if_neg (show ¬ (false = true) by decide)] at H; exact H
      clear H
      have H := H1
      clear H1
      have H' := Aside0.mk H
      clear H
      go_wp2_with (first | ((with_reducible refine gate_callee (f := 5) rfl ?_); refine goesL_ (some 13) rfl rfl Try.func5 (by kernel_rfl) rfl #[.slice A0 l0.length c0] rfl (by (try simp only [List.map_toArray, List.map_cons, List.map_nil]); first | done | rfl | (simp only [List.length_drop, List.length_take]; rfl)) ?_; (with_reducible refine (laws_zzFits18.calls k _ _ l0 false _ ?side1 ?side2 A5.out).mono ?_); (case side1 => repeat (first | exact (Kd.C_below HR0.out HB.out) | (with_reducible refine Kd.C_alloc ?_ _) | (with_reducible refine Kd.C_drewN ?_ _) | (with_reducible refine Kd.C_drew ?_))); (case side2 => exact HC0.out); rintro e w12 ⟨rfl, hb⟩; refine ⟨_, rfl, ?_⟩; have n0_ := Aside0.mk (below_step (by repeat (first | (with_reducible first | exact HB.out | apply below_alloc | apply pw_below_drewN | apply below_drew1) | exact HB.out)) hb); clear HB; have HB := n0_; clear n0_; (try clear hb); (try clear hb2); (try clear hk); (try clear hi)))
      go_meet
      case rel => exact ⟨_, (true), (by first | rfl | (simp; done) | (simp [*]; done)), (by first | exact H' | (subst_vars; exact H')), ⟨by first | omega | exact Nat.le_refl _⟩, ⟨by repeat (first | (with_reducible first | exact HB.out | apply below_alloc | apply pw_below_drewN | apply below_drew1) | exact HB.out)⟩⟩
  case rest =>
    clear HC4
    try clear c1
    try clear c2
    try clear p2
    try clear c3
    try clear c5
    try clear c6
    try clear c7
    try clear c7b0
    try clear c7b1
    obtain ⟨kq, x24_3, rfl, HA, HJ3, HB⟩ := hcut
    cases kq with
    | zero => exact absurd HA.out (by simp [laws_FnBuildTooMuch.j0])
    | succ kj3 =>
      have H := HA.out
      clear HA
      simp only [laws_FnBuildTooMuch.j0] at H
      by_cases c13 : x24_3 = true
      · subst c13
        have H1 : (some true) = some r := by rw [if_pos rfl] at H; exact H
        clear H
        have H := H1
        clear H1
        obtain rfl := Option.some.inj H
        go_wp2
        go_ret
        exact ⟨by first | rfl | (simp [errW_none, errW_some] <;> rfl) | (simp [*, errW_none, errW_some] <;> rfl), by repeat (first | (with_reducible first | exact HB.out | apply below_alloc | apply pw_below_drewN | apply below_drew1) | exact HB.out)⟩
      · replace c13 := Bool.eq_false_iff.mpr c13
        subst c13
        have H1 : ((laws_awakeBuild.f).bind fun t142 => (if t142 = true then (if (l0.length : Int) > 100 then (laws_FnBuildTooMuch.j1 kj3 l0 l1 l2 true) else (if (l2.length : Int) > 100 then (laws_FnBuildTooMuch.j1 kj3 l0 l1 l2 true) else (laws_FnBuildTooMuch.j1 kj3 l0 l1 l2 (decide ((l1.length : Int) > 100000))))) else (some false))) = some r := by rw [if_neg (show ¬ (false = true) by decide)] at H; exact H
        clear H
        have H := H1
        clear H1
        replace H := Option.bind_eq_some_iff.mp H
        obtain ⟨t142, A140, H⟩ := H
        replace H : (if t142 = true then (if (l0.length : Int) > 100 then (laws_FnBuildTooMuch.j1 kj3 l0 l1 l2 true) else (if (l2.length : Int) > 100 then (laws_FnBuildTooMuch.j1 kj3 l0 l1 l2 true) else (laws_FnBuildTooMuch.j1 kj3 l0 l1 l2 (decide ((l1.length : Int) > 100000))))) else (some false)) = some r := H
        have A14 := Aside0.mk A140
        clear A140
        by_cases c15 : t142 = true
        · subst c15
          have H1 : (if (l0.length : Int) > 100 then (laws_FnBuildTooMuch.j1 kj3 l0 l1 l2 true) else (if (l2.length : Int) > 100 then (laws_FnBuildTooMuch.j1 kj3 l0 l1 l2 true) else (laws_FnBuildTooMuch.j1 kj3 l0 l1 l2 (decide ((l1.length : Int) > 100000))))) = some r := by rw [if_pos rfl] at H; exact H
          clear H
          have H := H1
          clear H1
          have HC16 := Aside0.mk H
          clear H
          go_upto_region 5 with (first | ((with_reducible refine gate_callee (f := 6) rfl ?_); refine goesL_ (some 25) rfl rfl Try.func6 (by kernel_rfl) rfl #[] rfl (by (try simp only [List.map_toArray, List.map_cons, List.map_nil]); first | done | rfl | (simp only [List.length_drop, List.length_take]; rfl)) ?_; (with_reducible refine (laws_awakeBuild.calls  true _ A14.out).mono ?_); rintro e w17 ⟨rfl, hb⟩; refine ⟨_, rfl, ?_⟩; have n0_ := Aside0.mk (below_step (by repeat (first | (with_reducible first | exact HB.out | apply below_alloc | apply pw_below_drewN | apply below_drew1) | exact HB.out)) hb); clear HB; have HB := n0_; clear n0_; (try clear hb); (try clear hb2); (try clear hk); (try clear hi)))
          (try simp only [Act.put, List.setIfInBounds_toArray, List.set_cons_zero, List.set_cons_succ])
          go_cut [39] (fun v39 wc => ∃ (kq : Nat) (x39_15 : Bool), v39 = .bool x39_15 ∧ Aside0 (laws_FnBuildTooMuch.j1 kq l0 l1 l2 x39_15 = some r) ∧ Aside0 (kq ≤ kj3) ∧ Aside0 (Below w.heap.size w wc))
          case first =>
            have H := HC16.out
            clear HC16
            by_cases c18 : (l0.length : Int) > 100
            · rw [if_pos c18] at H
              have c18b0 : decide (100 < (l0.length : Int)) = true := decide_eq_true c18
              have c18b1 : decide (100 < l0.length) = true := decide_eq_true (by omega)
              clear c18
              (first | rw [c18b0] | (simp only [i64_w, i32_w]; rw [c18b0]) | skip)
              have H' := Aside0.mk H
              clear H
              go_wp2
              go_meet
              case rel => exact ⟨_, (true), (by first | rfl | (simp; done) | (simp [*]; done)), (by first | exact H' | (subst_vars; exact H')), ⟨by have := HJ3.out; first | omega | exact Nat.le_refl _⟩, ⟨by repeat (first | (with_reducible first | exact HB.out | apply below_alloc | apply pw_below_drewN | apply below_drew1) | exact HB.out)⟩⟩
            · rw [if_neg c18] at H
              have c18b0 : decide (100 < (l0.length : Int)) = false := decide_eq_false c18
              have c18b1 : decide (100 < l0.length) = false := decide_eq_false (by omega)
              clear c18
              (first | rw [c18b0] | (simp only [i64_w, i32_w]; rw [c18b0]) | skip)
              by_cases c19 : (l2.length : Int) > 100
              · rw [if_pos c19] at H
                have c19b0 : decide (100 < (l2.length : Int)) = true := decide_eq_true c19
                have c19b1 : decide (100 < l2.length) = true := decide_eq_true (by omega)
                clear c19
                have H' := Aside0.mk H
                clear H
                go_wp2
                go_meet
                case rel => exact ⟨_, (true), (by first | rfl | (simp; done) | (simp [*]; done)), (by first | exact H' | (subst_vars; exact H')), ⟨by have := HJ3.out; first | omega | exact Nat.le_refl _⟩, ⟨by repeat (first | (with_reducible first | exact HB.out | apply below_alloc | apply pw_below_drewN | apply below_drew1) | exact HB.out)⟩⟩
              · rw [if_neg c19] at H
                have c19b0 : decide (100 < (l2.length : Int)) = false := decide_eq_false c19
                have c19b1 : decide (100 < l2.length) = false := decide_eq_false (by omega)
                clear c19
                have H' := Aside0.mk H
                clear H
                go_wp2
                go_meet
                case rel => exact ⟨_, (decide ((l1.length : Int) > 100000)), (by first | rfl | (simp; done) | (simp [*]; done)), (by first | exact H' | (subst_vars; exact H')), ⟨by have := HJ3.out; first | omega | exact Nat.le_refl _⟩, ⟨by repeat (first | (with_reducible first | exact HB.out | apply below_alloc | apply pw_below_drewN | apply below_drew1) | exact HB.out)⟩⟩
          case rest =>
            clear HC16
            try clear c1
            try clear c2
            try clear p2
            try clear c3
            try clear c5
            try clear c6
            try clear c7
            try clear c7b0
            try clear c7b1
            try clear c13
            try clear c15
            try clear c18
            try clear c18b0
            try clear c18b1
            try clear c19
            try clear c19b0
            try clear c19b1
            try clear p2
            obtain ⟨kq, x39_15, rfl, HA, HJ15, HB⟩ := hcut
            cases kq with
            | zero => exact absurd HA.out (by simp [laws_FnBuildTooMuch.j1])
            | succ kj15 =>
              have H := HA.out
              clear HA
              simp only [laws_FnBuildTooMuch.j1] at H
              by_cases c20 : x39_15 = true
              · subst c20
                have H1 : (some true) = some r := by rw [if_pos rfl] at H; exact H
                clear H
                have H := H1
                clear H1
                obtain rfl := Option.some.inj H
                go_wp2
                go_ret
                exact ⟨by first | rfl | (simp [errW_none, errW_some] <;> rfl) | (simp [*, errW_none, errW_some] <;> rfl), by repeat (first | (with_reducible first | exact HB.out | apply below_alloc | apply pw_below_drewN | apply below_drew1) | exact HB.out)⟩
              · replace c20 := Bool.eq_false_iff.mpr c20
                subst c20
                have H1 : (laws_FnBuildTooMuch.l0 kj15 l0 l1 l2 0) = some r := by rw [if_neg (show ¬ (false = true) by decide)] at H; exact H
                clear H
                have H := H1
                clear H1
                have H' := Aside0.mk H
                clear H
                go_wp2
                go_loopg [7] kj15 (fun kq v7 w' => ∃ (x7_3 : Int), v7 = .int .i64 x7_3 ∧ Aside0 (laws_FnBuildTooMuch.l0 kq l0 l1 l2 x7_3 = some r) ∧ Aside0 (kq ≤ kj15) ∧ Aside0 (Below w.heap.size w w'))
                case atStart => exact ⟨(0), (by first | rfl | (simp; done) | (simp [*]; done)), H', ⟨Nat.le_refl _⟩, ⟨by repeat (first | (with_reducible first | exact HB.out | apply below_alloc | apply pw_below_drewN | apply below_drew1) | exact HB.out)⟩⟩
                case round =>
                  clear H'
                  try clear c1
                  try clear c2
                  try clear p2
                  try clear c3
                  try clear c5
                  try clear c6
                  try clear c7
                  try clear c7b0
                  try clear c7b1
                  try clear c13
                  try clear c15
                  try clear c18
                  try clear c18b0
                  try clear c18b1
                  try clear c19
                  try clear c19b0
                  try clear c19b1
                  try clear c20
                  try clear p2
                  obtain ⟨x7_3, rfl, HA, HK3, HB⟩ := hrel
                  cases gk with
                  | zero => exact absurd HA.out (by simp [laws_FnBuildTooMuch.l0])
                  | succ k3 =>
                    have H := HA.out
                    clear HA
                    simp only [laws_FnBuildTooMuch.l0] at H
                    by_cases c21 : x7_3 < (wrap64 ((l0.length : Int) + (l2.length : Int)))
                    · rw [if_pos c21] at H
                      have c21b0 : decide (x7_3 < (wrap64 ((l0.length : Int) + (l2.length : Int)))) = true := decide_eq_true c21
                      clear c21
                      obtain ⟨xv, hxv, H⟩ : ∃ xv : S27, ((x7_3 < (l0.length : Int) ∧ 0 ≤ x7_3 ∧ xv = rd_T27 l0 x7_3) ∨ (¬ x7_3 < (l0.length : Int) ∧ 0 ≤ wrap64 (x7_3 - (l0.length : Int)) ∧ wrap64 (x7_3 - (l0.length : Int)) < (l2.length : Int) ∧ xv = rd_T27 l2 (wrap64 (x7_3 - (l0.length : Int))))) ∧ (if (xv.f0) < 0 then (some true) else (if (xv.f0) > 2 then (some true) else (if (xv.f1) = (-9223372036854775808) then (some true) else (if (xv.f0) = 0 then (if (xv.f1) < 0 then (some true) else (if (xv.f1) > 255 then (some true) else (if ((xv.f2).length : Int) > 520 then (some true) else (laws_FnBuildTooMuch.l0 k3 l0 l1 l2 (wrap64 (x7_3 + 1)))))) else (if ((xv.f2).length : Int) > 520 then (some true) else (laws_FnBuildTooMuch.l0 k3 l0 l1 l2 (wrap64 (x7_3 + 1)))))))) = some r := by
                        by_cases c22 : x7_3 < (l0.length : Int)
                        · rw [if_pos c22] at H
                          by_cases c23 : 0 ≤ x7_3
                          · rw [if_pos c23] at H
                            exact ⟨_, .inl ⟨c22, c23, rfl⟩, H⟩
                          · rw [if_neg c23] at H; cases H
                        · rw [if_neg c22] at H
                          by_cases c23 : 0 ≤ wrap64 (x7_3 - (l0.length : Int))
                          · rw [if_pos c23] at H
                            by_cases c24 : wrap64 (x7_3 - (l0.length : Int)) < (l2.length : Int)
                            · rw [if_pos c24] at H
                              exact ⟨_, .inr ⟨c22, c23, c24, rfl⟩, H⟩
                            · rw [if_neg c24] at H; cases H
                          · rw [if_neg c23] at H; cases H
                      have HXV := Aside0.mk hxv
                      have HH := Aside0.mk H
                      clear hxv H
                      go_upto_if 53 with (first | ((with_reducible refine gate_dst (N := 8) rfl ?_); refine box_event ?hg (N := 8) ?hd (cs := #[.int .i64 0, .int .i64 0, .slice none 0 0]) (t := 27) ?hr ?_; (case hd => rfl); (case hg => rfl); (case hr => first | (go_simp; done) | (go_simp; rfl)); intro gb hg w7 hbox hb; have HW7 := Aside0.mk hb; have HBX := Aside0.mk hbox; have HGB := Aside0.mk hg; clear hb hbox hg; have hcz0 : w7.cell? ⟨gb, 0, none⟩ = some (.int .i64 0) := (blk_cell HBX.out 0).trans rfl; have hcz1 : w7.cell? ⟨gb, 1, none⟩ = some (.int .i64 0) := (blk_cell HBX.out 1).trans rfl; have hcz2 : w7.cell? ⟨gb, 2, none⟩ = some (.slice none 0 0) := (blk_cell HBX.out 2).trans rfl; have hfz0 := blk_frozen HBX.out 0; have hfz1 := blk_frozen HBX.out 1; have hfz2 := blk_frozen HBX.out 2))
                      go_cut [8] (fun p8 wx => ∃ (gb : Nat) (f0 f1 : Int) (A9 : Option Addr) (c9 : Nat) (f2 : List Int), p8 = .pointer (some ⟨gb, 0, none⟩) ∧ Aside0 ((if (f0) < 0 then (some true) else (if (f0) > 2 then (some true) else (if (f1) = (-9223372036854775808) then (some true) else (if (f0) = 0 then (if (f1) < 0 then (some true) else (if (f1) > 255 then (some true) else (if ((f2).length : Int) > 520 then (some true) else (laws_FnBuildTooMuch.l0 k3 l0 l1 l2 (wrap64 (x7_3 + 1)))))) else (if ((f2).length : Int) > 520 then (some true) else (laws_FnBuildTooMuch.l0 k3 l0 l1 l2 (wrap64 (x7_3 + 1)))))))) = some r) ∧ wx.cell? ⟨gb, 0, none⟩ = some (.int .i64 f0) ∧ wx.cell? ⟨gb, 1, none⟩ = some (.int .i64 f1) ∧ wx.cell? ⟨gb, 2, none⟩ = some (.slice A9 f2.length c9) ∧ Aside0 (Below w.heap.size w wx))
                      case first =>
                        rcases HXV.out with ⟨hc, hp0, hxv⟩ | ⟨hc, hp0, hp1, hxv⟩
                        · have hp1 : x7_3 < (l0.length : Int) := hc
                          clear HXV
                          have hc0 : decide (x7_3 < (l0.length : Int)) = true := decide_eq_true hc
                          obtain ⟨ad, A9, c9, e9, hx0, hx1, hx2, hl9, hi9⟩ := at_T27 HR0.out x7_3 hp0 hp1
                          cases e9
                          obtain ⟨f0, f1, f2⟩ := xv
                          have hxe : rd_T27 l0 x7_3 = ⟨f0, f1, f2⟩ := hxv.symm
                          rw [hxe] at hx0 hx1 hx2 hl9 hi9
                          dsimp only at hx0 hx1 hx2 hl9 hi9
                          have hn : ∀ j, (ad.add j).block ≠ gb := fun j => by rw [add_block]; have h8 := World.block_lt_of_cell? _ _ hx0; rw [add_block] at h8; have h9 := HGB.out; have h10 := HB.out.size; omega
                          have HL9 := Aside0.mk hl9
                          have hb9 := HB.out.trans (HW7.out.mono HB.out.size)
                          replace hx0 := (hb9.cell (World.block_lt_of_cell? w _ hx0)).trans hx0
                          replace hx1 := (hb9.cell (World.block_lt_of_cell? w _ hx1)).trans hx1
                          replace hx2 := (hb9.cell (World.block_lt_of_cell? w _ hx2)).trans hx2
                          replace hx0 := (cell_far (p := ⟨gb, 0, none⟩) (hn _) (.int .i64 0)).trans hx0
                          replace hx1 := (cell_far (p := ⟨gb, 0, none⟩) (show (⟨(ad.add (x7_3.toNat * 3)).block, (ad.add (x7_3.toNat * 3)).off + 1, none⟩ : Addr).block ≠ _ from hn _) (.int .i64 0)).trans hx1
                          replace hx2 := (cell_far (p := ⟨gb, 0, none⟩) (show (⟨(ad.add (x7_3.toNat * 3)).block, (ad.add (x7_3.toNat * 3)).off + 2, none⟩ : Addr).block ≠ _ from hn _) (.int .i64 0)).trans hx2
                          replace hx0 := (cell_far (p := ⟨gb, 1, none⟩) (hn _) (.int .i64 0)).trans hx0
                          replace hx1 := (cell_far (p := ⟨gb, 1, none⟩) (show (⟨(ad.add (x7_3.toNat * 3)).block, (ad.add (x7_3.toNat * 3)).off + 1, none⟩ : Addr).block ≠ _ from hn _) (.int .i64 0)).trans hx1
                          replace hx2 := (cell_far (p := ⟨gb, 1, none⟩) (show (⟨(ad.add (x7_3.toNat * 3)).block, (ad.add (x7_3.toNat * 3)).off + 2, none⟩ : Addr).block ≠ _ from hn _) (.int .i64 0)).trans hx2
                          replace hx0 := (cell_far (p := ⟨gb, 2, none⟩) (hn _) (.slice none 0 0)).trans hx0
                          replace hx1 := (cell_far (p := ⟨gb, 2, none⟩) (show (⟨(ad.add (x7_3.toNat * 3)).block, (ad.add (x7_3.toNat * 3)).off + 1, none⟩ : Addr).block ≠ _ from hn _) (.slice none 0 0)).trans hx1
                          replace hx2 := (cell_far (p := ⟨gb, 2, none⟩) (show (⟨(ad.add (x7_3.toNat * 3)).block, (ad.add (x7_3.toNat * 3)).off + 2, none⟩ : Addr).block ≠ _ from hn _) (.slice none 0 0)).trans hx2
                          have HB9 := Aside0.mk hb9
                          have HN9 := Aside0.mk hn
                          clear hb9 hn hl9 hi9 hxv hxe
                          go_wp2_with fail
                          go_meet
                          case rel => exact ⟨gb, f0, f1, A9, c9, f2, rfl, HH, cell_of (heap_set_same (heap_set_same (heap_set_same (heap_set_same (heap_set_same (heap_set_same HBX.out _) _) _) _) _) _) (j := 0) rfl, cell_of (heap_set_same (heap_set_same (heap_set_same (heap_set_same (heap_set_same (heap_set_same HBX.out _) _) _) _) _) _) (j := 1) rfl, cell_of (heap_set_same (heap_set_same (heap_set_same (heap_set_same (heap_set_same (heap_set_same HBX.out _) _) _) _) _) _) (j := 2) rfl, ⟨by repeat (first | exact HB9.out | refine below_set ?_ (by have h9 := HGB.out; have h10 := HB.out.size; omega))⟩⟩
                        · have hc0 : decide (x7_3 < (l0.length : Int)) = false := decide_eq_false hc
                          clear HXV
                          obtain ⟨ji, hji⟩ : ∃ ji, ji = wrap64 (x7_3 - (l0.length : Int)) := ⟨_, rfl⟩
                          rw [← hji] at hp0 hp1 hxv
                          have hji2 : IntKind.i64.wrap (x7_3 - (l0.length : Int)) = ji := (i64_w _).trans hji.symm
                          have hji3 := hji.symm
                          clear hji
                          obtain ⟨ad, A9, c9, e9, hx0, hx1, hx2, hl9, hi9⟩ := at_T27 HR2.out ji hp0 hp1
                          cases e9
                          obtain ⟨f0, f1, f2⟩ := xv
                          have hxe : rd_T27 l2 ji = ⟨f0, f1, f2⟩ := hxv.symm
                          rw [hxe] at hx0 hx1 hx2 hl9 hi9
                          dsimp only at hx0 hx1 hx2 hl9 hi9
                          have hn : ∀ j, (ad.add j).block ≠ gb := fun j => by rw [add_block]; have h8 := World.block_lt_of_cell? _ _ hx0; rw [add_block] at h8; have h9 := HGB.out; have h10 := HB.out.size; omega
                          have HL9 := Aside0.mk hl9
                          have hb9 := HB.out.trans (HW7.out.mono HB.out.size)
                          replace hx0 := (hb9.cell (World.block_lt_of_cell? w _ hx0)).trans hx0
                          replace hx1 := (hb9.cell (World.block_lt_of_cell? w _ hx1)).trans hx1
                          replace hx2 := (hb9.cell (World.block_lt_of_cell? w _ hx2)).trans hx2
                          replace hx0 := (cell_far (p := ⟨gb, 0, none⟩) (hn _) (.int .i64 0)).trans hx0
                          replace hx1 := (cell_far (p := ⟨gb, 0, none⟩) (show (⟨(ad.add (ji.toNat * 3)).block, (ad.add (ji.toNat * 3)).off + 1, none⟩ : Addr).block ≠ _ from hn _) (.int .i64 0)).trans hx1
                          replace hx2 := (cell_far (p := ⟨gb, 0, none⟩) (show (⟨(ad.add (ji.toNat * 3)).block, (ad.add (ji.toNat * 3)).off + 2, none⟩ : Addr).block ≠ _ from hn _) (.int .i64 0)).trans hx2
                          replace hx0 := (cell_far (p := ⟨gb, 1, none⟩) (hn _) (.int .i64 0)).trans hx0
                          replace hx1 := (cell_far (p := ⟨gb, 1, none⟩) (show (⟨(ad.add (ji.toNat * 3)).block, (ad.add (ji.toNat * 3)).off + 1, none⟩ : Addr).block ≠ _ from hn _) (.int .i64 0)).trans hx1
                          replace hx2 := (cell_far (p := ⟨gb, 1, none⟩) (show (⟨(ad.add (ji.toNat * 3)).block, (ad.add (ji.toNat * 3)).off + 2, none⟩ : Addr).block ≠ _ from hn _) (.int .i64 0)).trans hx2
                          replace hx0 := (cell_far (p := ⟨gb, 2, none⟩) (hn _) (.slice none 0 0)).trans hx0
                          replace hx1 := (cell_far (p := ⟨gb, 2, none⟩) (show (⟨(ad.add (ji.toNat * 3)).block, (ad.add (ji.toNat * 3)).off + 1, none⟩ : Addr).block ≠ _ from hn _) (.slice none 0 0)).trans hx1
                          replace hx2 := (cell_far (p := ⟨gb, 2, none⟩) (show (⟨(ad.add (ji.toNat * 3)).block, (ad.add (ji.toNat * 3)).off + 2, none⟩ : Addr).block ≠ _ from hn _) (.slice none 0 0)).trans hx2
                          have HB9 := Aside0.mk hb9
                          have HN9 := Aside0.mk hn
                          clear hb9 hn hl9 hi9 hxv hxe
                          go_wp2_with fail
                          go_meet
                          case rel => exact ⟨gb, f0, f1, A9, c9, f2, rfl, HH, cell_of (heap_set_same (heap_set_same (heap_set_same (heap_set_same (heap_set_same (heap_set_same HBX.out _) _) _) _) _) _) (j := 0) rfl, cell_of (heap_set_same (heap_set_same (heap_set_same (heap_set_same (heap_set_same (heap_set_same HBX.out _) _) _) _) _) _) (j := 1) rfl, cell_of (heap_set_same (heap_set_same (heap_set_same (heap_set_same (heap_set_same (heap_set_same HBX.out _) _) _) _) _) _) (j := 2) rfl, ⟨by repeat (first | exact HB9.out | refine below_set ?_ (by have h9 := HGB.out; have h10 := HB.out.size; omega))⟩⟩
                      case rest =>
                        obtain ⟨gb, f0, f1, A9, c9, f2, rfl, HH2, g0, g1, g2, HB2⟩ := hcut
                        have H := HH2.out
                        clear HH HB HXV
                        have HB := HB2
                        clear HB2 HH2
                        by_cases t0 : f0 < 0
                        · rw [if_pos t0] at H
                          have t0b : (decide (f0 < 0)) = true := decide_eq_true t0
                          obtain rfl := Option.some.inj H
                          go_wp2_with fail
                          go_ret
                          exact ⟨rfl, HB.out⟩
                        · rw [if_neg t0] at H
                          have t0b : (decide (f0 < 0)) = false := decide_eq_false t0
                          by_cases t1 : 2 < f0
                          · rw [if_pos t1] at H
                            have t1b : (decide (2 < f0)) = true := decide_eq_true t1
                            obtain rfl := Option.some.inj H
                            go_wp2_with fail
                            go_ret
                            exact ⟨rfl, HB.out⟩
                          · rw [if_neg t1] at H
                            have t1b : (decide (2 < f0)) = false := decide_eq_false t1
                            by_cases t2 : f1 = -9223372036854775808
                            · rw [if_pos t2] at H
                              have t2b : (f1 == -9223372036854775808) = true := beq_iff_eq.mpr t2
                              obtain rfl := Option.some.inj H
                              go_wp2_with fail
                              go_ret
                              exact ⟨rfl, HB.out⟩
                            · rw [if_neg t2] at H
                              have t2b : (f1 == -9223372036854775808) = false := beq_eq_false_iff_ne.mpr t2
                              by_cases t3 : f0 = 0
                              · rw [if_pos t3] at H
                                have t3b : (f0 == 0) = true := beq_iff_eq.mpr t3
                                by_cases t4 : f1 < 0
                                · rw [if_pos t4] at H
                                  have t4b : (decide (f1 < 0)) = true := decide_eq_true t4
                                  obtain rfl := Option.some.inj H
                                  go_wp2_with fail
                                  go_ret
                                  exact ⟨rfl, HB.out⟩
                                · rw [if_neg t4] at H
                                  have t4b : (decide (f1 < 0)) = false := decide_eq_false t4
                                  by_cases t5 : 255 < f1
                                  · rw [if_pos t5] at H
                                    have t5b : (decide (255 < f1)) = true := decide_eq_true t5
                                    obtain rfl := Option.some.inj H
                                    go_wp2_with fail
                                    go_ret
                                    exact ⟨rfl, HB.out⟩
                                  · rw [if_neg t5] at H
                                    have t5b : (decide (255 < f1)) = false := decide_eq_false t5
                                    by_cases t6 : 520 < (f2.length : Int)
                                    · rw [if_pos t6] at H
                                      have t6b : (decide (520 < (f2.length : Int))) = true := decide_eq_true t6
                                      have t6n : decide (520 < f2.length) = true := decide_eq_true (by omega)
                                      obtain rfl := Option.some.inj H
                                      go_wp2_with fail
                                      go_ret
                                      exact ⟨rfl, HB.out⟩
                                    · rw [if_neg t6] at H
                                      have t6b : (decide (520 < (f2.length : Int))) = false := decide_eq_false t6
                                      have t6n : decide (520 < f2.length) = false := decide_eq_false (by omega)
                                      have H' := Aside0.mk H
                                      clear H
                                      go_wp2_with fail
                                      go_roundg k3
                                      case measure => have := HJ3.out; have := HJ15.out; have := HK3.out; omega
                                      case rel => exact ⟨(wrap64 (x7_3 + 1)), (by first | rfl | (simp; done) | (simp [*]; done)), H', ⟨by have := HJ3.out; have := HJ15.out; have := HK3.out; omega⟩, HB⟩
                              · rw [if_neg t3] at H
                                have t3b : (f0 == 0) = false := beq_eq_false_iff_ne.mpr t3
                                by_cases t7 : 520 < (f2.length : Int)
                                · rw [if_pos t7] at H
                                  have t7b : (decide (520 < (f2.length : Int))) = true := decide_eq_true t7
                                  have t7n : decide (520 < f2.length) = true := decide_eq_true (by omega)
                                  obtain rfl := Option.some.inj H
                                  go_wp2_with fail
                                  go_ret
                                  exact ⟨rfl, HB.out⟩
                                · rw [if_neg t7] at H
                                  have t7b : (decide (520 < (f2.length : Int))) = false := decide_eq_false t7
                                  have t7n : decide (520 < f2.length) = false := decide_eq_false (by omega)
                                  have H' := Aside0.mk H
                                  clear H
                                  go_wp2_with fail
                                  go_roundg k3
                                  case measure => have := HJ3.out; have := HJ15.out; have := HK3.out; omega
                                  case rel => exact ⟨(wrap64 (x7_3 + 1)), (by first | rfl | (simp; done) | (simp [*]; done)), H', ⟨by have := HJ3.out; have := HJ15.out; have := HK3.out; omega⟩, HB⟩
                    · rw [if_neg c21] at H
                      have c21b0 : decide (x7_3 < (wrap64 ((l0.length : Int) + (l2.length : Int)))) = false := decide_eq_false c21
                      clear c21
                      replace H := Option.bind_eq_some_iff.mp H
                      obtain ⟨t143, A790, H⟩ := H
                      replace H : ((tooTail.f l0 l1 l2).bind fun bt146 => (some (!bt146.2))) = some r := H
                      have A79 := Aside0.mk A790
                      clear A790
                      replace H := Option.bind_eq_some_iff.mp H
                      obtain ⟨⟨t146, t147⟩, A800, H⟩ := H
                      replace H : (some (!t147)) = some r := H
                      have A80 := Aside0.mk A800
                      clear A800
                      obtain rfl := Option.some.inj H
                      go_wp2_with fail
                      go_loopg [1] 7 (fun kq p1 w' => ∃ A c, ∃ xs : List Int, p1 = .slice A xs.length c ∧ Aside0 (xs.length ≤ c ∧ Kd.F (Kd.int .u8) w' (fun k => k < w'.heap.size) A xs.length xs) ∧ Aside0 (pad xs = pad l1 ∧ 521 ≤ xs.length + 100 * kq) ∧ Aside0 (Below w.heap.size w w'))
                      case atStart => exact ⟨_, _, l1, rfl, ⟨HC1.out, Kd.C_F (Kd.heap_int .u8) (Kd.C_below HR1.out HB.out)⟩, ⟨rfl, by omega⟩, HB⟩
                      case round =>
                        clear HB
                        obtain ⟨A, c, xs, rfl, HX, HP, HB⟩ := hrel
                        by_cases hx : xs.length ≤ 520
                        · have hxi : (xs.length : Int) ≤ 520 := by omega
                          have HQ0 : xs.length ≤ 520 := hx
                          obtain ⟨y0, hy0⟩ : ∃ y : List Int, y = [] := ⟨_, rfl⟩
                          obtain ⟨y1, hy1⟩ : ∃ y : List Int, y = y0 ++ xs := ⟨_, rfl⟩
                          obtain ⟨y2, hy2⟩ : ∃ y : List Int, y = y1 ++ List.replicate (100 : Int).toNat 0 := ⟨_, rfl⟩
                          have HQ : Aside0 (y0.length + xs.length ≤ 520 ∧ y1.length ≤ 520) := ⟨by rw [hy1, hy0]; simp; omega⟩
                          have HY : Aside0 (y2 = xs ++ List.replicate 100 0) := ⟨by rw [hy2, hy1, hy0]; rfl⟩
                          have NY0 := Aside0.mk hy0
                          have NY1 := Aside0.mk hy1
                          have NY2 := Aside0.mk hy2
                          have HX0 := Aside0.mk HQ0
                          clear hy0 hy1 hy2 hx HQ0
                          go_wp2_with (first | ((with_reducible refine gate_dst (N := 102) rfl ?_); refine Kd.R_lit (Kd.int .u8) (w0 := wr) wr.heap.size 5 ?hg (N := 102) ?hd (xs := ([] : List Int)) (inner := []) (ok := fun _ => True) (okp := fun _ => True) ?hr ?hp (fun _ hk => hk) trivial (Below.refl _ _) (Nat.le_refl _) (by simp) ?_; (case hd => rfl); (case hg => rfl); (case hr => first | (go_simp; done) | (go_simp; rfl)); (case hp => exact (Reps.none _ _)); intro v1 w1 hn hb hg_ hnew_; clear hg_ hnew_; rw [← NY0.out] at hn; have HO1 := Aside0.mk hn; have HW1 := Aside0.mk hb; clear hn hb) | ((with_reducible refine gate_builtin (b := .append) (xs := #[.tmp 102, .tmp 103]) rfl ?_); at_builtin; refine Kd.R_append_rows (Kd.int .u8) (w0 := wr) wr.heap.size rfl (.tmp 102) (.tmp 103) 23 5 (.int .u8 0) 1 rfl Try.underlying23 info5 rfl (by decide) (by decide) v1 y0 xs _ _ _ (fun _ => True) (fun _ => False) rfl rfl HO1.out (Kd.F_now (Kd.F_below HX.out.2 HW1.out)) (fun _ _ h => h) (fun _ h => h.elim) (fun _ _ => trivial) HW1.out HW1.out.size ?aL ?_; (case aL => have := HQ.out; omega); intro v2 w2 hn hb hg hat; rw [← NY1.out] at hn; have HO2 := Aside0.mk hn; have HW2 := Aside0.mk hb; clear hn hb hg hat) | ((with_reducible refine gate_builtin (b := .append) (xs := #[.tmp 104, .const (.int .i64 100)]) rfl ?_); at_builtin; refine Kd.R_append_zeros (Kd.int .u8) (w0 := wr) wr.heap.size rfl (.tmp 104) (.const (.int .i64 100)) 23 3 5 (.int .u8 0) 1 rfl Try.underlying23 Try.underlying3 info5 rfl (by decide) (by decide) v2 y1 0 100 (fun _ => True) rfl rfl rfl (fun _ _ => trivial) HO2.out (by decide) HW2.out HW2.out.size ?aL ?_; (case aL => have := HQ.out; have e : (100 : Int).toNat = 100 := rfl; omega); intro v3 w3 hn hb hg hat; rw [← NY2.out] at hn; have HO3 := Aside0.mk hn; have HW3 := Aside0.mk hb; clear hn hb hg hat; (obtain ⟨A3, c3, e3⟩ := Kd.R_slice HO3.out); subst e3))
                          go_roundg (gk - 1)
                          case measure => have := HP.out; have := HX0.out; omega
                          case rel => exact ⟨A3, c3, y2, rfl, ⟨(Kd.R_reads' HO3.out).2.1, Kd.C_F (Kd.heap_int .u8) (Kd.R_reads' HO3.out).2.2⟩, ⟨by rw [HY.out, ← pad_short HX0.out]; exact HP.out.1, by rw [HY.out]; have := HP.out.2; have := HX0.out; simp; omega⟩, ⟨HB.out.trans (HW3.out.mono HB.out.size)⟩⟩
                        · have hxi : ¬ (xs.length : Int) ≤ 520 := by omega
                          have HE : Aside0 (pad l1 = xs) := ⟨by rw [← HP.out.1]; exact pad_long hx⟩
                          obtain ⟨z0, hz0⟩ : ∃ y : List S27, y = [] := ⟨_, rfl⟩
                          obtain ⟨z1, hz1⟩ : ∃ y : List S27, y = z0 ++ l0 := ⟨_, rfl⟩
                          obtain ⟨z2, hz2⟩ : ∃ y : List S27, y = [(⟨1, 0, xs⟩ : S27)] := ⟨_, rfl⟩
                          obtain ⟨z3, hz3⟩ : ∃ y : List S27, y = z1 ++ z2 := ⟨_, rfl⟩
                          obtain ⟨z4, hz4⟩ : ∃ y : List S27, y = z3 ++ l2 := ⟨_, rfl⟩
                          have A81 : Aside0 (impl_Build.f z4 = some (t146, t147)) := ⟨by have h := A80.out; unfold tooTail.f at h; rw [HE.out] at h; rw [hz4, hz3, hz2, hz1, hz0, List.nil_append]; exact h⟩
                          have HL : Aside0 ((z0.length + l0.length) * 40 ≤ 140737488355328 ∧ (z1.length + 1) * 40 ≤ 140737488355328 ∧ (z1.length + z2.length) * 40 ≤ 140737488355328 ∧ (z3.length + l2.length) * 40 ≤ 140737488355328) := ⟨by
                            have h := A81.out
                            unfold impl_Build.f at h
                            split at h
                            · rename_i hok
                              have h1 := hok.1
                              rw [hz4, hz3, hz2, hz1, hz0] at h1
                              rw [hz3, hz2, hz1, hz0]
                              simp at h1 ⊢
                              omega
                            · cases h⟩
                          have HF0 : Aside0 (Kd.F k27 wr (fun k => k < wr.heap.size) A0 l0.length l0) := ⟨Kd.C_F heap27 (Kd.C_below HR0.out HB.out)⟩
                          have HF2 : Aside0 (Kd.F k27 wr (fun k => k < wr.heap.size) A2 l2.length l2) := ⟨Kd.C_F heap27 (Kd.C_below HR2.out HB.out)⟩
                          have NZ0 := Aside0.mk hz0
                          have NZ1 := Aside0.mk hz1
                          have NZ2 := Aside0.mk hz2
                          have NZ3 := Aside0.mk hz3
                          have NZ4 := Aside0.mk hz4
                          clear hz0 hz1 hz2 hz3 hz4 hx
                          go_wp2_with (first | ((with_reducible refine gate_dst (N := 106) rfl ?_); refine Kd.N_lit k27 (w0 := wr) wr.heap.size 27 ?hg (N' := 106) ?hd (xs := ([] : List S27)) (inner := []) (ok := fun _ => True) (okp := fun _ => False) ?hr ?hp (fun _ hk => hk.elim) ?hf (Below.refl _ _) (Nat.le_refl _) (by simp) ?_; (case hd => rfl); (case hg => rfl); (case hr => first | (go_simp; done) | (go_simp; rfl)); (case hp => exact (Reps.none _ _)); (case hf => trivial); intro v1 w1 hn hb hg_ hnew_; clear hg_ hnew_; rw [← NZ0.out] at hn; have HN1 := Aside0.mk hn; have HW1 := Aside0.mk hb; clear hn hb) | ((with_reducible refine gate_builtin (b := .append) (xs := #[.tmp 106, .tmp 107]) rfl ?_); at_builtin; refine Kd.N_append_rows k27 (w0 := wr) wr.heap.size rfl (.tmp 106) (.tmp 107) 22 27 (.agg #[(.int .i64 0), (.int .i64 0), (.slice none 0 0)]) 40 rfl Try.underlying22 info27 rfl (by decide) (by decide) v1 z0 l0 _ _ _ (fun _ => True) (fun k => k < wr.heap.size) rfl rfl HN1.out (Kd.F_below HF0.out HW1.out) ?aK (fun _ _ => trivial) HW1.out HW1.out.size ?aL ?_; (case aK => exact fun k hk => ⟨trivial, fun e => by have := Kd.N_base HN1.out k e.symm; omega⟩); (case aL => have := HL.out; omega); intro v2 w2 hn hb hg hat; rw [← NZ1.out] at hn; have HN2 := Aside0.mk hn; have HW2 := Aside0.mk hb; clear hn hb hg hat) | ((with_reducible refine gate_dst (N := 111) rfl ?_); refine Kd.N_lit k27 (w0 := wr) wr.heap.size 27 ?hg (N' := 111) ?hd (xs := ([(⟨1, 0, xs⟩ : S27)] : List S27)) (inner := [.int .i64 1, .int .i64 0, .slice A xs.length c]) (ok := fun k => k < wr.heap.size ∨ w2.heap.size ≤ k) (okp := fun k => k < wr.heap.size) ?hr ?hp (fun _ hk => Or.inl hk) ?hf HW2.out HW2.out.size (by simp) ?_; (case hd => rfl); (case hg => rfl); (case hr => first | (go_simp; done) | (go_simp; rfl)); (case hp => exact (Reps.c3 (show Kd.FK k27 _ _ (⟨1, 0, xs⟩ : S27) [.int .i64 1, .int .i64 0, .slice A xs.length c] from fun W' hW => k27_mk W' ⟨1, 0, xs⟩ HX.out.1 ((Kd.F_below HX.out.2 HW2.out) W' hW)) (Reps.none _ _))); (case hf => exact Or.inr (Nat.le_refl _)); intro v3 w3 hn hb hg_ hnew_; clear hnew_; rw [← NZ2.out] at hn; have HN3 := Aside0.mk hn; have HN2b := Aside0.mk (Kd.N_grown HN2.out hg_ (fun k _ h => by cases h)); have HW3 := Aside0.mk hb; clear hn hb hg_; (obtain ⟨A3, c3, e3⟩ := Kd.N_slice HN3.out); subst e3) | ((with_reducible refine gate_builtin (b := .append) (xs := #[.tmp 108, .tmp 111]) rfl ?_); at_builtin; refine Kd.N_append_rows k27 (w0 := wr) wr.heap.size rfl (.tmp 108) (.tmp 111) 22 27 (.agg #[(.int .i64 0), (.int .i64 0), (.slice none 0 0)]) 40 rfl Try.underlying22 info27 rfl (by decide) (by decide) v2 z1 z2 _ _ _ (fun _ => True) (fun k => k < wr.heap.size ∨ w2.heap.size ≤ k) rfl rfl HN2b.out (Kd.N_F HN3.out) ?aK (fun _ _ => trivial) HW3.out HW3.out.size ?aL ?_; (case aK => exact fun k hk => ⟨trivial, fun e => by have h1 := Kd.N_base HN2.out k e.symm; have h2 := Kd.N_lt HN2.out k e.symm; rcases hk with hk | hk <;> omega⟩); (case aL => have := HL.out; omega); intro v4 w4 hn hb hg hat; rw [← NZ3.out] at hn; have HN4 := Aside0.mk hn; have HW4 := Aside0.mk hb; clear hn hb hg hat) | ((with_reducible refine gate_builtin (b := .append) (xs := #[.tmp 114, .tmp 115]) rfl ?_); at_builtin; refine Kd.N_append_rows k27 (w0 := wr) wr.heap.size rfl (.tmp 114) (.tmp 115) 22 27 (.agg #[(.int .i64 0), (.int .i64 0), (.slice none 0 0)]) 40 rfl Try.underlying22 info27 rfl (by decide) (by decide) v4 z3 l2 _ _ _ (fun _ => True) (fun k => k < wr.heap.size) rfl rfl HN4.out (Kd.F_below HF2.out HW4.out) ?aK (fun _ _ => trivial) HW4.out HW4.out.size ?aL ?_; (case aK => exact fun k hk => ⟨trivial, fun e => by have := Kd.N_base HN4.out k e.symm; omega⟩); (case aL => have := HL.out; omega); intro v5 w5 hn hb hg hat; rw [← NZ4.out] at hn; have HN5 := Aside0.mk hn; have HW5 := Aside0.mk hb; clear hn hb hg hat; (obtain ⟨A5, c5, e5⟩ := Kd.N_slice HN5.out); subst e5) | ((with_reducible refine gate_callee (f := 7) rfl ?_); refine goesL_ (some 117) rfl rfl Try.func7 (by kernel_rfl) rfl #[.slice A5 z4.length c5] rfl (by (try simp only [List.map_toArray, List.map_cons, List.map_nil]); first | done | rfl | (simp only [List.length_drop, List.length_take]; rfl)) ?_; (with_reducible refine (impl_Build.calls _ _ z4 t146 t147 _ ?side1 ?side2 A81.out).mono ?_); (case side1 => exact (Kd.N_reads' HN5.out).2.2); (case side2 => exact (Kd.N_reads' HN5.out).2.1); rintro e w8 ⟨v8, rfl, ho0, hb⟩; refine ⟨_, rfl, ?_⟩; have HB8 := Aside0.mk (HB.out.trans ((HW5.out.trans (hb.mono HW5.out.size)).mono HB.out.size)); have HS8 := Kd.R_slice ho0; (obtain ⟨A8, c8, e8⟩ := HS8); subst e8; clear ho0 hb))
                          go_ret
                          exact ⟨by first | rfl | (simp [errW_none, errW_some] <;> rfl) | (simp [*, errW_none, errW_some] <;> rfl), HB8.out⟩
        · replace c15 := Bool.eq_false_iff.mpr c15
          subst c15
          have H1 : (some false) = some r := by rw [if_neg (show ¬ (false = true) by decide)] at H; exact H
          clear H
          have H := H1
          clear H1
          obtain rfl := Option.some.inj H
          go_wp2_with (first | ((with_reducible refine gate_callee (f := 6) rfl ?_); refine goesL_ (some 25) rfl rfl Try.func6 (by kernel_rfl) rfl #[] rfl (by (try simp only [List.map_toArray, List.map_cons, List.map_nil]); first | done | rfl | (simp only [List.length_drop, List.length_take]; rfl)) ?_; (with_reducible refine (laws_awakeBuild.calls  false _ A14.out).mono ?_); rintro e w83 ⟨rfl, hb⟩; refine ⟨_, rfl, ?_⟩; have n0_ := Aside0.mk (below_step (by repeat (first | (with_reducible first | exact HB.out | apply below_alloc | apply pw_below_drewN | apply below_drew1) | exact HB.out)) hb); clear HB; have HB := n0_; clear n0_; (try clear hb); (try clear hb2); (try clear hk); (try clear hi)))
          go_ret
          exact ⟨by first | rfl | (simp [errW_none, errW_some] <;> rfl) | (simp [*, errW_none, errW_some] <;> rfl), by repeat (first | (with_reducible first | exact HB.out | apply below_alloc | apply pw_below_drewN | apply below_drew1) | exact HB.out)⟩

end Go.Proofs.Ytdmpjoglejnpbab.QFnBuilt
