/- Scripts known by their bytes: the other questions after a class. -/
import Derived.Test.YtfbkjkihcajmdacOne0
namespace Go.Proofs.Ytfbkjkihcajmdac.Tok
open Go.RowKit Go.Proofs.YtfbkjkihcajmdacW.PrintWords Go.Proofs.YtfbkjkihcajmdacW.PrintLast Go.Proofs.YtfbkjkihcajmdacW.PrintMore Go.Proofs.Ytfbkjkihcajmdac.QFnClasses
set_option linter.unusedVariables false
set_option linter.unusedSimpArgs false
def PkhP (s : List Int) : Prop := s.length = 25 ∧ s.getD 0 0 = 118 ∧ s.getD 1 0 = 169 ∧ s.getD 2 0 = 20 ∧ s.getD 23 0 = 136 ∧ s.getD 24 0 = 172
instance (s : List Int) : Decidable (PkhP s) := by unfold PkhP; infer_instance
set_option maxRecDepth 100000 in
set_option maxHeartbeats 8000000 in
theorem xPkh (A : Option Addr) (s : List Int) (c : Nat) (w : World) (hC : Kd.C (Kd.int .u8) w A s.length s) (hc : s.length ≤ c) :
    Calls Try.prog 55 #[.slice A s.length c] w fun e w' => (PkhP s → ∃ ad n c', e = .returned (.slice (some ad) n c')) ∧ (¬ PkhP s → e = .returned (.slice none 0 0)) ∧ w' = w := by
  obtain ⟨i05, hi05, _, hsz5, _⟩ := info_parts info5
  by_cases h1 : s.length = 25
  · obtain ⟨A1, hcut, hA1, _⟩ := print_mid_of (P := Try.prog) (Value.int .u8) 0 22 5 .i64 .i64 Try.underlying22 hi05 hsz5 A c s 3 23 (by omega) (by omega) (by omega) hc
    obtain ⟨a1, ea1, -⟩ := (hA1 w (Kd.reads_of_C hC)).2.2 (by simp; omega)
    subst ea1
    obtain ⟨ad, rfl, k0⟩ := Kd.at_int hC (0 : Int) (by omega) (by omega)
    obtain ⟨_, e1, k1⟩ := Kd.at_int hC (1 : Int) (by omega) (by omega)
    injection e1 with e1; subst e1
    obtain ⟨_, e1, k2⟩ := Kd.at_int hC (2 : Int) (by omega) (by omega)
    injection e1 with e1; subst e1
    obtain ⟨_, e1, k3⟩ := Kd.at_int hC (23 : Int) (by omega) (by omega)
    injection e1 with e1; subst e1
    obtain ⟨_, e1, k4⟩ := Kd.at_int hC (24 : Int) (by omega) (by omega)
    injection e1 with e1; subst e1
    rw [show rd s 0 = s.getD 0 0 from rd_nat s 0] at k0
    rw [show rd s 1 = s.getD 1 0 from rd_nat s 1] at k1
    rw [show rd s 2 = s.getD 2 0 from rd_nat s 2] at k2
    rw [show rd s 23 = s.getD 23 0 from rd_nat s 23] at k3
    rw [show rd s 24 = s.getD 24 0 from rd_nat s 24] at k4
    obtain ⟨v0, hv0⟩ : ∃ v, s.getD 0 0 = v := ⟨_, rfl⟩
    obtain ⟨v1, hv1⟩ : ∃ v, s.getD 1 0 = v := ⟨_, rfl⟩
    obtain ⟨v2, hv2⟩ : ∃ v, s.getD 2 0 = v := ⟨_, rfl⟩
    obtain ⟨v3, hv3⟩ : ∃ v, s.getD 23 0 = v := ⟨_, rfl⟩
    obtain ⟨v4, hv4⟩ : ∃ v, s.getD 24 0 = v := ⟨_, rfl⟩
    have HPS : Aside0 (PkhP s ↔ (v0 = 118 ∧ v1 = 169 ∧ v2 = 20 ∧ v3 = 136 ∧ v4 = 172)) := ⟨by unfold PkhP; rw [hv0, hv1, hv2, hv3, hv4]; exact ⟨fun h => h.2, fun h => ⟨h1, h⟩⟩⟩
    rw [hv0] at k0
    rw [hv1] at k1
    rw [hv2] at k2
    rw [hv3] at k3
    rw [hv4] at k4
    rw [h1] at hcut ⊢
    have k0 : w.cell? ad = some (.int .u8 v0) := by have h := k0; rwa [show ad.add (Int.toNat 0) = ad from add_zero_ ad] at h
    have k1 : w.cell? { block := ad.block, off := ad.off + 1 } = some (.int .u8 v1) := k1
    have k2 : w.cell? { block := ad.block, off := ad.off + 2 } = some (.int .u8 v2) := k2
    have k3 : w.cell? { block := ad.block, off := ad.off + 23 } = some (.int .u8 v3) := k3
    have k4 : w.cell? { block := ad.block, off := ad.off + 24 } = some (.int .u8 v4) := k4
    obtain ⟨m, hm⟩ : ∃ m, ((s.take (23 : Int).toNat).drop (3 : Int).toNat).length = m := ⟨_, rfl⟩
    rw [hm] at hcut
    clear hv0 hv1 hv2 hv3 hv4 hm hA1 hC
    go_enter Try.func55, Try.ntmps55
    rcases Classical.em (v0 = 118) with q0_118 | q0_118
    · subst q0_118
      rcases Classical.em (v1 = 169) with q1_169 | q1_169
      · subst q1_169
        rcases Classical.em (v2 = 20) with q2_20 | q2_20
        · subst q2_20
          rcases Classical.em (v3 = 136) with q3_136 | q3_136
          · subst q3_136
            rcases Classical.em (v4 = 172) with q4_172 | q4_172
            · subst q4_172
              go_wp2
              go_ret
              exact ⟨fun _ => ⟨_, _, _, rfl⟩, fun h => absurd (HPS.out.2 (by simp)) h, rfl⟩
            have d4_172 : decide (v4 = 172) = false := decide_eq_false q4_172
            have e4_172 : (v4 == 172) = false := by simpa using q4_172
            have HNO : Aside0 (¬ PkhP s) := ⟨fun h => by have h9 := HPS.out.1 h; omega⟩
            go_wp2
            go_ret
            exact ⟨fun h => absurd h HNO.out, fun _ => rfl, rfl⟩
          have d3_136 : decide (v3 = 136) = false := decide_eq_false q3_136
          have e3_136 : (v3 == 136) = false := by simpa using q3_136
          have HNO : Aside0 (¬ PkhP s) := ⟨fun h => by have h9 := HPS.out.1 h; omega⟩
          go_wp2
          go_ret
          exact ⟨fun h => absurd h HNO.out, fun _ => rfl, rfl⟩
        have d2_20 : decide (v2 = 20) = false := decide_eq_false q2_20
        have e2_20 : (v2 == 20) = false := by simpa using q2_20
        have HNO : Aside0 (¬ PkhP s) := ⟨fun h => by have h9 := HPS.out.1 h; omega⟩
        go_wp2
        go_ret
        exact ⟨fun h => absurd h HNO.out, fun _ => rfl, rfl⟩
      have d1_169 : decide (v1 = 169) = false := decide_eq_false q1_169
      have e1_169 : (v1 == 169) = false := by simpa using q1_169
      have HNO : Aside0 (¬ PkhP s) := ⟨fun h => by have h9 := HPS.out.1 h; omega⟩
      go_wp2
      go_ret
      exact ⟨fun h => absurd h HNO.out, fun _ => rfl, rfl⟩
    have d0_118 : decide (v0 = 118) = false := decide_eq_false q0_118
    have e0_118 : (v0 == 118) = false := by simpa using q0_118
    have HNO : Aside0 (¬ PkhP s) := ⟨fun h => by have h9 := HPS.out.1 h; omega⟩
    go_wp2
    go_ret
    exact ⟨fun h => absurd h HNO.out, fun _ => rfl, rfl⟩
  · have HN : Aside0 (¬ PkhP s) := ⟨fun h => h1 h.1⟩
    have d1 : decide ((s.length : Int) = 25) = false := decide_eq_false (by omega)
    have d2 : decide (s.length = 25) = false := decide_eq_false h1
    have d3 : ¬ (s.length : Int) = 25 := by omega
    go_enter Try.func55, Try.ntmps55
    go_wp2
    go_ret
    exact ⟨fun h => absurd h HN.out, fun _ => rfl, rfl⟩
set_option maxRecDepth 100000 in
set_option maxHeartbeats 4000000 in
theorem isPkhC (A : Option Addr) (s : List Int) (c : Nat) (w : World) (hC : Kd.C (Kd.int .u8) w A s.length s) (hc : s.length ≤ c) :
    Calls Try.prog 41 #[.slice A s.length c] w fun e w' => e = .returned (.bool (decide (PkhP s))) ∧ w' = w := by
  have H := xPkh A s c w hC hc
  by_cases hp : PkhP s
  · rw [decide_eq_true hp]
    have H := Aside0.mk H
    have HP := Aside0.mk hp
    clear hp hC hc
    go_enter Try.func41, Try.ntmps41
    go_wp2_with fail
    go_at_call 55
    refine H.out.mono ?_
    rintro e w1 ⟨h1, h2, rfl⟩
    obtain ⟨ad, n, c', rfl⟩ := h1 HP.out
    clear h1 h2
    go_wp2_with fail
    go_ret
    exact ⟨rfl, rfl⟩
  · rw [decide_eq_false hp]
    have H := Aside0.mk H
    have HP := Aside0.mk hp
    clear hp hC hc
    go_enter Try.func41, Try.ntmps41
    go_wp2_with fail
    go_at_call 55
    refine H.out.mono ?_
    rintro e w1 ⟨h1, h2, rfl⟩
    obtain rfl := h2 HP.out
    clear h1 h2
    go_wp2_with fail
    go_ret
    exact ⟨rfl, rfl⟩
set_option maxRecDepth 100000 in
set_option maxHeartbeats 4000000 in
theorem payPkhC (A : Option Addr) (s : List Int) (c : Nat) (w : World) (hC : Kd.C (Kd.int .u8) w A s.length s) (hc : s.length ≤ c) :
    Calls Try.prog 30 #[.slice A s.length c] w fun e w' => e = .returned (.bool (decide (PkhP s))) ∧ w' = w := by
  have H := Aside0.mk (isPkhC A s c w hC hc)
  clear hC hc
  go_enter Try.func30, Try.ntmps30
  go_wp2_with fail
  go_at_call 41
  refine H.out.mono ?_
  rintro e w1 ⟨rfl, rfl⟩
  go_wp2_with fail
  go_ret
  exact ⟨rfl, rfl⟩
set_option maxRecDepth 100000 in
set_option maxHeartbeats 4000000 in
theorem implPkhC (A : Option Addr) (s : List Int) (c : Nat) (w : World) (hC : Kd.C (Kd.int .u8) w A s.length s) (hc : s.length ≤ c) :
    Calls Try.prog 16 #[.slice A s.length c] w fun e w' => e = .returned (.bool (decide (PkhP s))) ∧ w' = w := by
  have H := Aside0.mk (payPkhC A s c w hC hc)
  clear hC hc
  go_enter Try.func16, Try.ntmps16
  go_wp2_with fail
  go_at_call 30
  refine H.out.mono ?_
  rintro e w1 ⟨rfl, rfl⟩
  go_wp2_with fail
  go_ret
  exact ⟨rfl, rfl⟩
def WpkhP (s : List Int) : Prop := s.length = 22 ∧ s.getD 0 0 = 0 ∧ s.getD 1 0 = 20
instance (s : List Int) : Decidable (WpkhP s) := by unfold WpkhP; infer_instance
set_option maxRecDepth 100000 in
set_option maxHeartbeats 8000000 in
theorem xWpkh (A : Option Addr) (s : List Int) (c : Nat) (w : World) (hC : Kd.C (Kd.int .u8) w A s.length s) (hc : s.length ≤ c) :
    Calls Try.prog 56 #[.slice A s.length c] w fun e w' => (WpkhP s → ∃ ad n c', e = .returned (.slice (some ad) n c')) ∧ (¬ WpkhP s → e = .returned (.slice none 0 0)) ∧ w' = w := by
  obtain ⟨i05, hi05, _, hsz5, _⟩ := info_parts info5
  by_cases h1 : s.length = 22
  · obtain ⟨A1, hcut, hA1, _⟩ := print_mid_of (P := Try.prog) (Value.int .u8) 0 22 5 .i64 .i64 Try.underlying22 hi05 hsz5 A c s 2 22 (by omega) (by omega) (by omega) hc
    obtain ⟨a1, ea1, -⟩ := (hA1 w (Kd.reads_of_C hC)).2.2 (by simp; omega)
    subst ea1
    obtain ⟨ad, rfl, k0⟩ := Kd.at_int hC (0 : Int) (by omega) (by omega)
    obtain ⟨_, e1, k1⟩ := Kd.at_int hC (1 : Int) (by omega) (by omega)
    injection e1 with e1; subst e1
    rw [show rd s 0 = s.getD 0 0 from rd_nat s 0] at k0
    rw [show rd s 1 = s.getD 1 0 from rd_nat s 1] at k1
    obtain ⟨v0, hv0⟩ : ∃ v, s.getD 0 0 = v := ⟨_, rfl⟩
    obtain ⟨v1, hv1⟩ : ∃ v, s.getD 1 0 = v := ⟨_, rfl⟩
    have HPS : Aside0 (WpkhP s ↔ (v0 = 0 ∧ v1 = 20)) := ⟨by unfold WpkhP; rw [hv0, hv1]; exact ⟨fun h => h.2, fun h => ⟨h1, h⟩⟩⟩
    rw [hv0] at k0
    rw [hv1] at k1
    rw [h1] at hcut ⊢
    have k0 : w.cell? ad = some (.int .u8 v0) := by have h := k0; rwa [show ad.add (Int.toNat 0) = ad from add_zero_ ad] at h
    have k1 : w.cell? { block := ad.block, off := ad.off + 1 } = some (.int .u8 v1) := k1
    obtain ⟨m, hm⟩ : ∃ m, ((s.take (22 : Int).toNat).drop (2 : Int).toNat).length = m := ⟨_, rfl⟩
    rw [hm] at hcut
    clear hv0 hv1 hm hA1 hC
    go_enter Try.func56, Try.ntmps56
    rcases Classical.em (v0 = 0) with q0_0 | q0_0
    · subst q0_0
      rcases Classical.em (v1 = 20) with q1_20 | q1_20
      · subst q1_20
        go_wp2
        go_ret
        exact ⟨fun _ => ⟨_, _, _, rfl⟩, fun h => absurd (HPS.out.2 (by simp)) h, rfl⟩
      have d1_20 : decide (v1 = 20) = false := decide_eq_false q1_20
      have e1_20 : (v1 == 20) = false := by simpa using q1_20
      have HNO : Aside0 (¬ WpkhP s) := ⟨fun h => by have h9 := HPS.out.1 h; omega⟩
      go_wp2
      go_ret
      exact ⟨fun h => absurd h HNO.out, fun _ => rfl, rfl⟩
    have d0_0 : decide (v0 = 0) = false := decide_eq_false q0_0
    have e0_0 : (v0 == 0) = false := by simpa using q0_0
    have HNO : Aside0 (¬ WpkhP s) := ⟨fun h => by have h9 := HPS.out.1 h; omega⟩
    go_wp2
    go_ret
    exact ⟨fun h => absurd h HNO.out, fun _ => rfl, rfl⟩
  · have HN : Aside0 (¬ WpkhP s) := ⟨fun h => h1 h.1⟩
    have d1 : decide ((s.length : Int) = 22) = false := decide_eq_false (by omega)
    have d2 : decide (s.length = 22) = false := decide_eq_false h1
    have d3 : ¬ (s.length : Int) = 22 := by omega
    go_enter Try.func56, Try.ntmps56
    go_wp2
    go_ret
    exact ⟨fun h => absurd h HN.out, fun _ => rfl, rfl⟩
set_option maxRecDepth 100000 in
set_option maxHeartbeats 4000000 in
theorem isWpkhC (A : Option Addr) (s : List Int) (c : Nat) (w : World) (hC : Kd.C (Kd.int .u8) w A s.length s) (hc : s.length ≤ c) :
    Calls Try.prog 42 #[.slice A s.length c] w fun e w' => e = .returned (.bool (decide (WpkhP s))) ∧ w' = w := by
  have H := xWpkh A s c w hC hc
  by_cases hp : WpkhP s
  · rw [decide_eq_true hp]
    have H := Aside0.mk H
    have HP := Aside0.mk hp
    clear hp hC hc
    go_enter Try.func42, Try.ntmps42
    go_wp2_with fail
    go_at_call 56
    refine H.out.mono ?_
    rintro e w1 ⟨h1, h2, rfl⟩
    obtain ⟨ad, n, c', rfl⟩ := h1 HP.out
    clear h1 h2
    go_wp2_with fail
    go_ret
    exact ⟨rfl, rfl⟩
  · rw [decide_eq_false hp]
    have H := Aside0.mk H
    have HP := Aside0.mk hp
    clear hp hC hc
    go_enter Try.func42, Try.ntmps42
    go_wp2_with fail
    go_at_call 56
    refine H.out.mono ?_
    rintro e w1 ⟨h1, h2, rfl⟩
    obtain rfl := h2 HP.out
    clear h1 h2
    go_wp2_with fail
    go_ret
    exact ⟨rfl, rfl⟩
set_option maxRecDepth 100000 in
set_option maxHeartbeats 4000000 in
theorem payWpkhC (A : Option Addr) (s : List Int) (c : Nat) (w : World) (hC : Kd.C (Kd.int .u8) w A s.length s) (hc : s.length ≤ c) :
    Calls Try.prog 31 #[.slice A s.length c] w fun e w' => e = .returned (.bool (decide (WpkhP s))) ∧ w' = w := by
  have H := Aside0.mk (isWpkhC A s c w hC hc)
  clear hC hc
  go_enter Try.func31, Try.ntmps31
  go_wp2_with fail
  go_at_call 42
  refine H.out.mono ?_
  rintro e w1 ⟨rfl, rfl⟩
  go_wp2_with fail
  go_ret
  exact ⟨rfl, rfl⟩
set_option maxRecDepth 100000 in
set_option maxHeartbeats 4000000 in
theorem implWpkhC (A : Option Addr) (s : List Int) (c : Nat) (w : World) (hC : Kd.C (Kd.int .u8) w A s.length s) (hc : s.length ≤ c) :
    Calls Try.prog 17 #[.slice A s.length c] w fun e w' => e = .returned (.bool (decide (WpkhP s))) ∧ w' = w := by
  have H := Aside0.mk (payWpkhC A s c w hC hc)
  clear hC hc
  go_enter Try.func17, Try.ntmps17
  go_wp2_with fail
  go_at_call 31
  refine H.out.mono ?_
  rintro e w1 ⟨rfl, rfl⟩
  go_wp2_with fail
  go_ret
  exact ⟨rfl, rfl⟩
def ShP (s : List Int) : Prop := s.length = 23 ∧ s.getD 0 0 = 169 ∧ s.getD 1 0 = 20 ∧ s.getD 22 0 = 135
instance (s : List Int) : Decidable (ShP s) := by unfold ShP; infer_instance
set_option maxRecDepth 100000 in
set_option maxHeartbeats 8000000 in
theorem xSh (A : Option Addr) (s : List Int) (c : Nat) (w : World) (hC : Kd.C (Kd.int .u8) w A s.length s) (hc : s.length ≤ c) :
    Calls Try.prog 57 #[.slice A s.length c] w fun e w' => (ShP s → ∃ ad n c', e = .returned (.slice (some ad) n c')) ∧ (¬ ShP s → e = .returned (.slice none 0 0)) ∧ w' = w := by
  obtain ⟨i05, hi05, _, hsz5, _⟩ := info_parts info5
  by_cases h1 : s.length = 23
  · obtain ⟨A1, hcut, hA1, _⟩ := print_mid_of (P := Try.prog) (Value.int .u8) 0 22 5 .i64 .i64 Try.underlying22 hi05 hsz5 A c s 2 22 (by omega) (by omega) (by omega) hc
    obtain ⟨a1, ea1, -⟩ := (hA1 w (Kd.reads_of_C hC)).2.2 (by simp; omega)
    subst ea1
    obtain ⟨ad, rfl, k0⟩ := Kd.at_int hC (0 : Int) (by omega) (by omega)
    obtain ⟨_, e1, k1⟩ := Kd.at_int hC (1 : Int) (by omega) (by omega)
    injection e1 with e1; subst e1
    obtain ⟨_, e1, k2⟩ := Kd.at_int hC (22 : Int) (by omega) (by omega)
    injection e1 with e1; subst e1
    rw [show rd s 0 = s.getD 0 0 from rd_nat s 0] at k0
    rw [show rd s 1 = s.getD 1 0 from rd_nat s 1] at k1
    rw [show rd s 22 = s.getD 22 0 from rd_nat s 22] at k2
    obtain ⟨v0, hv0⟩ : ∃ v, s.getD 0 0 = v := ⟨_, rfl⟩
    obtain ⟨v1, hv1⟩ : ∃ v, s.getD 1 0 = v := ⟨_, rfl⟩
    obtain ⟨v2, hv2⟩ : ∃ v, s.getD 22 0 = v := ⟨_, rfl⟩
    have HPS : Aside0 (ShP s ↔ (v0 = 169 ∧ v1 = 20 ∧ v2 = 135)) := ⟨by unfold ShP; rw [hv0, hv1, hv2]; exact ⟨fun h => h.2, fun h => ⟨h1, h⟩⟩⟩
    rw [hv0] at k0
    rw [hv1] at k1
    rw [hv2] at k2
    rw [h1] at hcut ⊢
    have k0 : w.cell? ad = some (.int .u8 v0) := by have h := k0; rwa [show ad.add (Int.toNat 0) = ad from add_zero_ ad] at h
    have k1 : w.cell? { block := ad.block, off := ad.off + 1 } = some (.int .u8 v1) := k1
    have k2 : w.cell? { block := ad.block, off := ad.off + 22 } = some (.int .u8 v2) := k2
    obtain ⟨m, hm⟩ : ∃ m, ((s.take (22 : Int).toNat).drop (2 : Int).toNat).length = m := ⟨_, rfl⟩
    rw [hm] at hcut
    clear hv0 hv1 hv2 hm hA1 hC
    go_enter Try.func57, Try.ntmps57
    rcases Classical.em (v0 = 169) with q0_169 | q0_169
    · subst q0_169
      rcases Classical.em (v1 = 20) with q1_20 | q1_20
      · subst q1_20
        rcases Classical.em (v2 = 135) with q2_135 | q2_135
        · subst q2_135
          go_wp2
          go_ret
          exact ⟨fun _ => ⟨_, _, _, rfl⟩, fun h => absurd (HPS.out.2 (by simp)) h, rfl⟩
        have d2_135 : decide (v2 = 135) = false := decide_eq_false q2_135
        have e2_135 : (v2 == 135) = false := by simpa using q2_135
        have HNO : Aside0 (¬ ShP s) := ⟨fun h => by have h9 := HPS.out.1 h; omega⟩
        go_wp2
        go_ret
        exact ⟨fun h => absurd h HNO.out, fun _ => rfl, rfl⟩
      have d1_20 : decide (v1 = 20) = false := decide_eq_false q1_20
      have e1_20 : (v1 == 20) = false := by simpa using q1_20
      have HNO : Aside0 (¬ ShP s) := ⟨fun h => by have h9 := HPS.out.1 h; omega⟩
      go_wp2
      go_ret
      exact ⟨fun h => absurd h HNO.out, fun _ => rfl, rfl⟩
    have d0_169 : decide (v0 = 169) = false := decide_eq_false q0_169
    have e0_169 : (v0 == 169) = false := by simpa using q0_169
    have HNO : Aside0 (¬ ShP s) := ⟨fun h => by have h9 := HPS.out.1 h; omega⟩
    go_wp2
    go_ret
    exact ⟨fun h => absurd h HNO.out, fun _ => rfl, rfl⟩
  · have HN : Aside0 (¬ ShP s) := ⟨fun h => h1 h.1⟩
    have d1 : decide ((s.length : Int) = 23) = false := decide_eq_false (by omega)
    have d2 : decide (s.length = 23) = false := decide_eq_false h1
    have d3 : ¬ (s.length : Int) = 23 := by omega
    go_enter Try.func57, Try.ntmps57
    go_wp2
    go_ret
    exact ⟨fun h => absurd h HN.out, fun _ => rfl, rfl⟩
set_option maxRecDepth 100000 in
set_option maxHeartbeats 4000000 in
theorem isShC (A : Option Addr) (s : List Int) (c : Nat) (w : World) (hC : Kd.C (Kd.int .u8) w A s.length s) (hc : s.length ≤ c) :
    Calls Try.prog 43 #[.slice A s.length c] w fun e w' => e = .returned (.bool (decide (ShP s))) ∧ w' = w := by
  have H := xSh A s c w hC hc
  by_cases hp : ShP s
  · rw [decide_eq_true hp]
    have H := Aside0.mk H
    have HP := Aside0.mk hp
    clear hp hC hc
    go_enter Try.func43, Try.ntmps43
    go_wp2_with fail
    go_at_call 57
    refine H.out.mono ?_
    rintro e w1 ⟨h1, h2, rfl⟩
    obtain ⟨ad, n, c', rfl⟩ := h1 HP.out
    clear h1 h2
    go_wp2_with fail
    go_ret
    exact ⟨rfl, rfl⟩
  · rw [decide_eq_false hp]
    have H := Aside0.mk H
    have HP := Aside0.mk hp
    clear hp hC hc
    go_enter Try.func43, Try.ntmps43
    go_wp2_with fail
    go_at_call 57
    refine H.out.mono ?_
    rintro e w1 ⟨h1, h2, rfl⟩
    obtain rfl := h2 HP.out
    clear h1 h2
    go_wp2_with fail
    go_ret
    exact ⟨rfl, rfl⟩
set_option maxRecDepth 100000 in
set_option maxHeartbeats 4000000 in
theorem payShC (A : Option Addr) (s : List Int) (c : Nat) (w : World) (hC : Kd.C (Kd.int .u8) w A s.length s) (hc : s.length ≤ c) :
    Calls Try.prog 32 #[.slice A s.length c] w fun e w' => e = .returned (.bool (decide (ShP s))) ∧ w' = w := by
  have H := Aside0.mk (isShC A s c w hC hc)
  clear hC hc
  go_enter Try.func32, Try.ntmps32
  go_wp2_with fail
  go_at_call 43
  refine H.out.mono ?_
  rintro e w1 ⟨rfl, rfl⟩
  go_wp2_with fail
  go_ret
  exact ⟨rfl, rfl⟩
set_option maxRecDepth 100000 in
set_option maxHeartbeats 4000000 in
theorem implShC (A : Option Addr) (s : List Int) (c : Nat) (w : World) (hC : Kd.C (Kd.int .u8) w A s.length s) (hc : s.length ≤ c) :
    Calls Try.prog 18 #[.slice A s.length c] w fun e w' => e = .returned (.bool (decide (ShP s))) ∧ w' = w := by
  have H := Aside0.mk (payShC A s c w hC hc)
  clear hC hc
  go_enter Try.func18, Try.ntmps18
  go_wp2_with fail
  go_at_call 32
  refine H.out.mono ?_
  rintro e w1 ⟨rfl, rfl⟩
  go_wp2_with fail
  go_ret
  exact ⟨rfl, rfl⟩
def WshP (s : List Int) : Prop := s.length = 34 ∧ s.getD 0 0 = 0 ∧ s.getD 1 0 = 32
instance (s : List Int) : Decidable (WshP s) := by unfold WshP; infer_instance
set_option maxRecDepth 100000 in
set_option maxHeartbeats 8000000 in
theorem xWsh (A : Option Addr) (s : List Int) (c : Nat) (w : World) (hC : Kd.C (Kd.int .u8) w A s.length s) (hc : s.length ≤ c) :
    Calls Try.prog 58 #[.slice A s.length c] w fun e w' => (WshP s → ∃ ad n c', e = .returned (.slice (some ad) n c')) ∧ (¬ WshP s → e = .returned (.slice none 0 0)) ∧ w' = w := by
  obtain ⟨i05, hi05, _, hsz5, _⟩ := info_parts info5
  by_cases h1 : s.length = 34
  · obtain ⟨A1, hcut, hA1, _⟩ := print_mid_of (P := Try.prog) (Value.int .u8) 0 22 5 .i64 .i64 Try.underlying22 hi05 hsz5 A c s 2 34 (by omega) (by omega) (by omega) hc
    obtain ⟨a1, ea1, -⟩ := (hA1 w (Kd.reads_of_C hC)).2.2 (by simp; omega)
    subst ea1
    obtain ⟨ad, rfl, k0⟩ := Kd.at_int hC (0 : Int) (by omega) (by omega)
    obtain ⟨_, e1, k1⟩ := Kd.at_int hC (1 : Int) (by omega) (by omega)
    injection e1 with e1; subst e1
    rw [show rd s 0 = s.getD 0 0 from rd_nat s 0] at k0
    rw [show rd s 1 = s.getD 1 0 from rd_nat s 1] at k1
    obtain ⟨v0, hv0⟩ : ∃ v, s.getD 0 0 = v := ⟨_, rfl⟩
    obtain ⟨v1, hv1⟩ : ∃ v, s.getD 1 0 = v := ⟨_, rfl⟩
    have HPS : Aside0 (WshP s ↔ (v0 = 0 ∧ v1 = 32)) := ⟨by unfold WshP; rw [hv0, hv1]; exact ⟨fun h => h.2, fun h => ⟨h1, h⟩⟩⟩
    rw [hv0] at k0
    rw [hv1] at k1
    rw [h1] at hcut ⊢
    have k0 : w.cell? ad = some (.int .u8 v0) := by have h := k0; rwa [show ad.add (Int.toNat 0) = ad from add_zero_ ad] at h
    have k1 : w.cell? { block := ad.block, off := ad.off + 1 } = some (.int .u8 v1) := k1
    obtain ⟨m, hm⟩ : ∃ m, ((s.take (34 : Int).toNat).drop (2 : Int).toNat).length = m := ⟨_, rfl⟩
    rw [hm] at hcut
    clear hv0 hv1 hm hA1 hC
    go_enter Try.func58, Try.ntmps58
    rcases Classical.em (v0 = 0) with q0_0 | q0_0
    · subst q0_0
      rcases Classical.em (v1 = 32) with q1_32 | q1_32
      · subst q1_32
        go_wp2
        go_ret
        exact ⟨fun _ => ⟨_, _, _, rfl⟩, fun h => absurd (HPS.out.2 (by simp)) h, rfl⟩
      have d1_32 : decide (v1 = 32) = false := decide_eq_false q1_32
      have e1_32 : (v1 == 32) = false := by simpa using q1_32
      have HNO : Aside0 (¬ WshP s) := ⟨fun h => by have h9 := HPS.out.1 h; omega⟩
      go_wp2
      go_ret
      exact ⟨fun h => absurd h HNO.out, fun _ => rfl, rfl⟩
    have d0_0 : decide (v0 = 0) = false := decide_eq_false q0_0
    have e0_0 : (v0 == 0) = false := by simpa using q0_0
    have HNO : Aside0 (¬ WshP s) := ⟨fun h => by have h9 := HPS.out.1 h; omega⟩
    go_wp2
    go_ret
    exact ⟨fun h => absurd h HNO.out, fun _ => rfl, rfl⟩
  · have HN : Aside0 (¬ WshP s) := ⟨fun h => h1 h.1⟩
    have d1 : decide ((s.length : Int) = 34) = false := decide_eq_false (by omega)
    have d2 : decide (s.length = 34) = false := decide_eq_false h1
    have d3 : ¬ (s.length : Int) = 34 := by omega
    go_enter Try.func58, Try.ntmps58
    go_wp2
    go_ret
    exact ⟨fun h => absurd h HN.out, fun _ => rfl, rfl⟩
set_option maxRecDepth 100000 in
set_option maxHeartbeats 4000000 in
theorem isWshC (A : Option Addr) (s : List Int) (c : Nat) (w : World) (hC : Kd.C (Kd.int .u8) w A s.length s) (hc : s.length ≤ c) :
    Calls Try.prog 44 #[.slice A s.length c] w fun e w' => e = .returned (.bool (decide (WshP s))) ∧ w' = w := by
  have H := xWsh A s c w hC hc
  by_cases hp : WshP s
  · rw [decide_eq_true hp]
    have H := Aside0.mk H
    have HP := Aside0.mk hp
    clear hp hC hc
    go_enter Try.func44, Try.ntmps44
    go_wp2_with fail
    go_at_call 58
    refine H.out.mono ?_
    rintro e w1 ⟨h1, h2, rfl⟩
    obtain ⟨ad, n, c', rfl⟩ := h1 HP.out
    clear h1 h2
    go_wp2_with fail
    go_ret
    exact ⟨rfl, rfl⟩
  · rw [decide_eq_false hp]
    have H := Aside0.mk H
    have HP := Aside0.mk hp
    clear hp hC hc
    go_enter Try.func44, Try.ntmps44
    go_wp2_with fail
    go_at_call 58
    refine H.out.mono ?_
    rintro e w1 ⟨h1, h2, rfl⟩
    obtain rfl := h2 HP.out
    clear h1 h2
    go_wp2_with fail
    go_ret
    exact ⟨rfl, rfl⟩
set_option maxRecDepth 100000 in
set_option maxHeartbeats 4000000 in
theorem payWshC (A : Option Addr) (s : List Int) (c : Nat) (w : World) (hC : Kd.C (Kd.int .u8) w A s.length s) (hc : s.length ≤ c) :
    Calls Try.prog 33 #[.slice A s.length c] w fun e w' => e = .returned (.bool (decide (WshP s))) ∧ w' = w := by
  have H := Aside0.mk (isWshC A s c w hC hc)
  clear hC hc
  go_enter Try.func33, Try.ntmps33
  go_wp2_with fail
  go_at_call 44
  refine H.out.mono ?_
  rintro e w1 ⟨rfl, rfl⟩
  go_wp2_with fail
  go_ret
  exact ⟨rfl, rfl⟩
set_option maxRecDepth 100000 in
set_option maxHeartbeats 4000000 in
theorem implWshC (A : Option Addr) (s : List Int) (c : Nat) (w : World) (hC : Kd.C (Kd.int .u8) w A s.length s) (hc : s.length ≤ c) :
    Calls Try.prog 19 #[.slice A s.length c] w fun e w' => e = .returned (.bool (decide (WshP s))) ∧ w' = w := by
  have H := Aside0.mk (payWshC A s c w hC hc)
  clear hC hc
  go_enter Try.func19, Try.ntmps19
  go_wp2_with fail
  go_at_call 33
  refine H.out.mono ?_
  rintro e w1 ⟨rfl, rfl⟩
  go_wp2_with fail
  go_ret
  exact ⟨rfl, rfl⟩
def TapP (s : List Int) : Prop := s.length = 34 ∧ s.getD 0 0 = 81 ∧ s.getD 1 0 = 32
instance (s : List Int) : Decidable (TapP s) := by unfold TapP; infer_instance
set_option maxRecDepth 100000 in
set_option maxHeartbeats 8000000 in
theorem xTap (A : Option Addr) (s : List Int) (c : Nat) (w : World) (hC : Kd.C (Kd.int .u8) w A s.length s) (hc : s.length ≤ c) :
    Calls Try.prog 59 #[.slice A s.length c] w fun e w' => (TapP s → ∃ ad n c', e = .returned (.slice (some ad) n c')) ∧ (¬ TapP s → e = .returned (.slice none 0 0)) ∧ w' = w := by
  obtain ⟨i05, hi05, _, hsz5, _⟩ := info_parts info5
  by_cases h1 : s.length = 34
  · obtain ⟨A1, hcut, hA1, _⟩ := print_mid_of (P := Try.prog) (Value.int .u8) 0 22 5 .i64 .i64 Try.underlying22 hi05 hsz5 A c s 2 34 (by omega) (by omega) (by omega) hc
    obtain ⟨a1, ea1, -⟩ := (hA1 w (Kd.reads_of_C hC)).2.2 (by simp; omega)
    subst ea1
    obtain ⟨ad, rfl, k0⟩ := Kd.at_int hC (0 : Int) (by omega) (by omega)
    obtain ⟨_, e1, k1⟩ := Kd.at_int hC (1 : Int) (by omega) (by omega)
    injection e1 with e1; subst e1
    rw [show rd s 0 = s.getD 0 0 from rd_nat s 0] at k0
    rw [show rd s 1 = s.getD 1 0 from rd_nat s 1] at k1
    obtain ⟨v0, hv0⟩ : ∃ v, s.getD 0 0 = v := ⟨_, rfl⟩
    obtain ⟨v1, hv1⟩ : ∃ v, s.getD 1 0 = v := ⟨_, rfl⟩
    have HPS : Aside0 (TapP s ↔ (v0 = 81 ∧ v1 = 32)) := ⟨by unfold TapP; rw [hv0, hv1]; exact ⟨fun h => h.2, fun h => ⟨h1, h⟩⟩⟩
    rw [hv0] at k0
    rw [hv1] at k1
    rw [h1] at hcut ⊢
    have k0 : w.cell? ad = some (.int .u8 v0) := by have h := k0; rwa [show ad.add (Int.toNat 0) = ad from add_zero_ ad] at h
    have k1 : w.cell? { block := ad.block, off := ad.off + 1 } = some (.int .u8 v1) := k1
    obtain ⟨m, hm⟩ : ∃ m, ((s.take (34 : Int).toNat).drop (2 : Int).toNat).length = m := ⟨_, rfl⟩
    rw [hm] at hcut
    clear hv0 hv1 hm hA1 hC
    go_enter Try.func59, Try.ntmps59
    rcases Classical.em (v0 = 81) with q0_81 | q0_81
    · subst q0_81
      rcases Classical.em (v1 = 32) with q1_32 | q1_32
      · subst q1_32
        go_wp2
        go_ret
        exact ⟨fun _ => ⟨_, _, _, rfl⟩, fun h => absurd (HPS.out.2 (by simp)) h, rfl⟩
      have d1_32 : decide (v1 = 32) = false := decide_eq_false q1_32
      have e1_32 : (v1 == 32) = false := by simpa using q1_32
      have HNO : Aside0 (¬ TapP s) := ⟨fun h => by have h9 := HPS.out.1 h; omega⟩
      go_wp2
      go_ret
      exact ⟨fun h => absurd h HNO.out, fun _ => rfl, rfl⟩
    have d0_81 : decide (v0 = 81) = false := decide_eq_false q0_81
    have e0_81 : (v0 == 81) = false := by simpa using q0_81
    have HNO : Aside0 (¬ TapP s) := ⟨fun h => by have h9 := HPS.out.1 h; omega⟩
    go_wp2
    go_ret
    exact ⟨fun h => absurd h HNO.out, fun _ => rfl, rfl⟩
  · have HN : Aside0 (¬ TapP s) := ⟨fun h => h1 h.1⟩
    have d1 : decide ((s.length : Int) = 34) = false := decide_eq_false (by omega)
    have d2 : decide (s.length = 34) = false := decide_eq_false h1
    have d3 : ¬ (s.length : Int) = 34 := by omega
    go_enter Try.func59, Try.ntmps59
    go_wp2
    go_ret
    exact ⟨fun h => absurd h HN.out, fun _ => rfl, rfl⟩
set_option maxRecDepth 100000 in
set_option maxHeartbeats 4000000 in
theorem isTapC (A : Option Addr) (s : List Int) (c : Nat) (w : World) (hC : Kd.C (Kd.int .u8) w A s.length s) (hc : s.length ≤ c) :
    Calls Try.prog 45 #[.slice A s.length c] w fun e w' => e = .returned (.bool (decide (TapP s))) ∧ w' = w := by
  have H := xTap A s c w hC hc
  by_cases hp : TapP s
  · rw [decide_eq_true hp]
    have H := Aside0.mk H
    have HP := Aside0.mk hp
    clear hp hC hc
    go_enter Try.func45, Try.ntmps45
    go_wp2_with fail
    go_at_call 59
    refine H.out.mono ?_
    rintro e w1 ⟨h1, h2, rfl⟩
    obtain ⟨ad, n, c', rfl⟩ := h1 HP.out
    clear h1 h2
    go_wp2_with fail
    go_ret
    exact ⟨rfl, rfl⟩
  · rw [decide_eq_false hp]
    have H := Aside0.mk H
    have HP := Aside0.mk hp
    clear hp hC hc
    go_enter Try.func45, Try.ntmps45
    go_wp2_with fail
    go_at_call 59
    refine H.out.mono ?_
    rintro e w1 ⟨h1, h2, rfl⟩
    obtain rfl := h2 HP.out
    clear h1 h2
    go_wp2_with fail
    go_ret
    exact ⟨rfl, rfl⟩
set_option maxRecDepth 100000 in
set_option maxHeartbeats 4000000 in
theorem payTapC (A : Option Addr) (s : List Int) (c : Nat) (w : World) (hC : Kd.C (Kd.int .u8) w A s.length s) (hc : s.length ≤ c) :
    Calls Try.prog 34 #[.slice A s.length c] w fun e w' => e = .returned (.bool (decide (TapP s))) ∧ w' = w := by
  have H := Aside0.mk (isTapC A s c w hC hc)
  clear hC hc
  go_enter Try.func34, Try.ntmps34
  go_wp2_with fail
  go_at_call 45
  refine H.out.mono ?_
  rintro e w1 ⟨rfl, rfl⟩
  go_wp2_with fail
  go_ret
  exact ⟨rfl, rfl⟩
set_option maxRecDepth 100000 in
set_option maxHeartbeats 4000000 in
theorem implTapC (A : Option Addr) (s : List Int) (c : Nat) (w : World) (hC : Kd.C (Kd.int .u8) w A s.length s) (hc : s.length ≤ c) :
    Calls Try.prog 20 #[.slice A s.length c] w fun e w' => e = .returned (.bool (decide (TapP s))) ∧ w' = w := by
  have H := Aside0.mk (payTapC A s c w hC hc)
  clear hC hc
  go_enter Try.func20, Try.ntmps20
  go_wp2_with fail
  go_at_call 34
  refine H.out.mono ?_
  rintro e w1 ⟨rfl, rfl⟩
  go_wp2_with fail
  go_ret
  exact ⟨rfl, rfl⟩
end Go.Proofs.Ytfbkjkihcajmdac.Tok
