/- Scripts known by their bytes: what the package's functions say of them. -/
import Derived.Test.YtfbkjkihcajmdacTok7
namespace Go.Proofs.Ytfbkjkihcajmdac.Tok
open Go.RowKit Go.Proofs.YtfbkjkihcajmdacW.PrintWords Go.Proofs.YtfbkjkihcajmdacW.PrintLast Go.Proofs.YtfbkjkihcajmdacW.PrintMore Go.Proofs.Ytfbkjkihcajmdac.QFnClasses
set_option linter.unusedVariables false
set_option linter.unusedSimpArgs false
def Key33 (s : List Int) : Prop := s.length = 35 ∧ s.getD 34 0 = 172 ∧ s.getD 0 0 = 33 ∧ (s.getD 1 0 = 2 ∨ s.getD 1 0 = 3)
instance (s : List Int) : Decidable (Key33 s) := by unfold Key33; infer_instance
def Key65 (s : List Int) : Prop := s.length = 67 ∧ s.getD 66 0 = 172 ∧ s.getD 0 0 = 65 ∧ (s.getD 1 0 = 4 ∨ s.getD 1 0 = 6 ∨ s.getD 1 0 = 7)
instance (s : List Int) : Decidable (Key65 s) := by unfold Key65; infer_instance
set_option maxRecDepth 100000 in
set_option maxHeartbeats 8000000 in
theorem x33 (A : Option Addr) (s : List Int) (c : Nat) (w : World) (hC : Kd.C (Kd.int .u8) w A s.length s) (hc : s.length ≤ c) :
    Calls Try.prog 60 #[.slice A s.length c] w fun e w' => (Key33 s → ∃ ad n c', e = .returned (.slice (some ad) n c')) ∧ (¬ Key33 s → e = .returned (.slice none 0 0)) ∧ w' = w := by
  obtain ⟨i05, hi05, _, hsz5, _⟩ := info_parts info5
  by_cases h1 : s.length = 35
  · obtain ⟨A1, hcut, hA1, _⟩ := print_mid_of (P := Try.prog) (Value.int .u8) 0 22 5 .i64 .i64 Try.underlying22 hi05 hsz5 A c s 1 34 (by omega) (by omega) (by omega) hc
    obtain ⟨a1, ea1, -⟩ := (hA1 w (Kd.reads_of_C hC)).2.2 (by simp; omega)
    subst ea1
    obtain ⟨ad, rfl, k0⟩ := Kd.at_int hC (34 : Int) (by omega) (by omega)
    obtain ⟨_, e1, k1⟩ := Kd.at_int hC (0 : Int) (by omega) (by omega)
    injection e1 with e1; subst e1
    obtain ⟨_, e1, k2⟩ := Kd.at_int hC (1 : Int) (by omega) (by omega)
    injection e1 with e1; subst e1
    rw [show rd s 34 = s.getD 34 0 from rd_nat s 34] at k0
    rw [show rd s 0 = s.getD 0 0 from rd_nat s 0] at k1
    rw [show rd s 1 = s.getD 1 0 from rd_nat s 1] at k2
    obtain ⟨v0, hv0⟩ : ∃ v, s.getD 34 0 = v := ⟨_, rfl⟩
    obtain ⟨v1, hv1⟩ : ∃ v, s.getD 0 0 = v := ⟨_, rfl⟩
    obtain ⟨v2, hv2⟩ : ∃ v, s.getD 1 0 = v := ⟨_, rfl⟩
    have HPS : Aside0 (Key33 s ↔ (v0 = 172 ∧ v1 = 33 ∧ (v2 = 2 ∨ v2 = 3))) := ⟨by unfold Key33; rw [hv0, hv1, hv2]; exact ⟨fun h => h.2, fun h => ⟨h1, h⟩⟩⟩
    rw [hv0] at k0
    rw [hv1] at k1
    rw [hv2] at k2
    rw [h1] at hcut ⊢
    have k0 : w.cell? { block := ad.block, off := ad.off + 34 } = some (.int .u8 v0) := k0
    have k1 : w.cell? ad = some (.int .u8 v1) := by have h := k1; rwa [show ad.add (Int.toNat 0) = ad from add_zero_ ad] at h
    have k2 : w.cell? { block := ad.block, off := ad.off + 1 } = some (.int .u8 v2) := k2
    obtain ⟨m, hm⟩ : ∃ m, ((s.take (34 : Int).toNat).drop (1 : Int).toNat).length = m := ⟨_, rfl⟩
    rw [hm] at hcut
    clear hv0 hv1 hv2 hm hA1 hC
    go_enter Try.func60, Try.ntmps60
    rcases Classical.em (v0 = 172) with q0_172 | q0_172
    · subst q0_172
      rcases Classical.em (v1 = 33) with q1_33 | q1_33
      · subst q1_33
        rcases Classical.em (v2 = 2) with q2_2 | q2_2
        · subst q2_2
          go_wp2
          go_ret
          exact ⟨fun _ => ⟨_, _, _, rfl⟩, fun h => absurd (HPS.out.2 (by simp)) h, rfl⟩
        rcases Classical.em (v2 = 3) with q2_3 | q2_3
        · subst q2_3
          go_wp2
          go_ret
          exact ⟨fun _ => ⟨_, _, _, rfl⟩, fun h => absurd (HPS.out.2 (by simp)) h, rfl⟩
        have d2_2 : decide (v2 = 2) = false := decide_eq_false q2_2
        have e2_2 : (v2 == 2) = false := by simpa using q2_2
        have d2_3 : decide (v2 = 3) = false := decide_eq_false q2_3
        have e2_3 : (v2 == 3) = false := by simpa using q2_3
        have HNO : Aside0 (¬ Key33 s) := ⟨fun h => by have h9 := HPS.out.1 h; omega⟩
        go_wp2
        go_ret
        exact ⟨fun h => absurd h HNO.out, fun _ => rfl, rfl⟩
      have d1_33 : decide (v1 = 33) = false := decide_eq_false q1_33
      have e1_33 : (v1 == 33) = false := by simpa using q1_33
      have HNO : Aside0 (¬ Key33 s) := ⟨fun h => by have h9 := HPS.out.1 h; omega⟩
      go_wp2
      go_ret
      exact ⟨fun h => absurd h HNO.out, fun _ => rfl, rfl⟩
    have d0_172 : decide (v0 = 172) = false := decide_eq_false q0_172
    have e0_172 : (v0 == 172) = false := by simpa using q0_172
    have HNO : Aside0 (¬ Key33 s) := ⟨fun h => by have h9 := HPS.out.1 h; omega⟩
    go_wp2
    go_ret
    exact ⟨fun h => absurd h HNO.out, fun _ => rfl, rfl⟩
  · have HN : Aside0 (¬ Key33 s) := ⟨fun h => h1 h.1⟩
    have d1 : decide ((s.length : Int) = 35) = false := decide_eq_false (by omega)
    have d2 : decide (s.length = 35) = false := decide_eq_false h1
    have d3 : ¬ (s.length : Int) = 35 := by omega
    go_enter Try.func60, Try.ntmps60
    go_wp2
    go_ret
    exact ⟨fun h => absurd h HN.out, fun _ => rfl, rfl⟩
set_option maxRecDepth 100000 in
set_option maxHeartbeats 8000000 in
theorem x65 (A : Option Addr) (s : List Int) (c : Nat) (w : World) (hC : Kd.C (Kd.int .u8) w A s.length s) (hc : s.length ≤ c) :
    Calls Try.prog 61 #[.slice A s.length c] w fun e w' => (Key65 s → ∃ ad n c', e = .returned (.slice (some ad) n c')) ∧ (¬ Key65 s → e = .returned (.slice none 0 0)) ∧ w' = w := by
  obtain ⟨i05, hi05, _, hsz5, _⟩ := info_parts info5
  by_cases h1 : s.length = 67
  · obtain ⟨A1, hcut, hA1, _⟩ := print_mid_of (P := Try.prog) (Value.int .u8) 0 22 5 .i64 .i64 Try.underlying22 hi05 hsz5 A c s 1 66 (by omega) (by omega) (by omega) hc
    obtain ⟨a1, ea1, -⟩ := (hA1 w (Kd.reads_of_C hC)).2.2 (by simp; omega)
    subst ea1
    obtain ⟨ad, rfl, k0⟩ := Kd.at_int hC (66 : Int) (by omega) (by omega)
    obtain ⟨_, e1, k1⟩ := Kd.at_int hC (0 : Int) (by omega) (by omega)
    injection e1 with e1; subst e1
    obtain ⟨_, e1, k2⟩ := Kd.at_int hC (1 : Int) (by omega) (by omega)
    injection e1 with e1; subst e1
    rw [show rd s 66 = s.getD 66 0 from rd_nat s 66] at k0
    rw [show rd s 0 = s.getD 0 0 from rd_nat s 0] at k1
    rw [show rd s 1 = s.getD 1 0 from rd_nat s 1] at k2
    obtain ⟨v0, hv0⟩ : ∃ v, s.getD 66 0 = v := ⟨_, rfl⟩
    obtain ⟨v1, hv1⟩ : ∃ v, s.getD 0 0 = v := ⟨_, rfl⟩
    obtain ⟨v2, hv2⟩ : ∃ v, s.getD 1 0 = v := ⟨_, rfl⟩
    have HPS : Aside0 (Key65 s ↔ (v0 = 172 ∧ v1 = 65 ∧ (v2 = 4 ∨ v2 = 6 ∨ v2 = 7))) := ⟨by unfold Key65; rw [hv0, hv1, hv2]; exact ⟨fun h => h.2, fun h => ⟨h1, h⟩⟩⟩
    rw [hv0] at k0
    rw [hv1] at k1
    rw [hv2] at k2
    rw [h1] at hcut ⊢
    have k0 : w.cell? { block := ad.block, off := ad.off + 66 } = some (.int .u8 v0) := k0
    have k1 : w.cell? ad = some (.int .u8 v1) := by have h := k1; rwa [show ad.add (Int.toNat 0) = ad from add_zero_ ad] at h
    have k2 : w.cell? { block := ad.block, off := ad.off + 1 } = some (.int .u8 v2) := k2
    obtain ⟨m, hm⟩ : ∃ m, ((s.take (66 : Int).toNat).drop (1 : Int).toNat).length = m := ⟨_, rfl⟩
    rw [hm] at hcut
    clear hv0 hv1 hv2 hm hA1 hC
    go_enter Try.func61, Try.ntmps61
    rcases Classical.em (v0 = 172) with q0_172 | q0_172
    · subst q0_172
      rcases Classical.em (v1 = 65) with q1_65 | q1_65
      · subst q1_65
        rcases Classical.em (v2 = 4) with q2_4 | q2_4
        · subst q2_4
          go_wp2
          go_ret
          exact ⟨fun _ => ⟨_, _, _, rfl⟩, fun h => absurd (HPS.out.2 (by simp)) h, rfl⟩
        rcases Classical.em (v2 = 6) with q2_6 | q2_6
        · subst q2_6
          go_wp2
          go_ret
          exact ⟨fun _ => ⟨_, _, _, rfl⟩, fun h => absurd (HPS.out.2 (by simp)) h, rfl⟩
        rcases Classical.em (v2 = 7) with q2_7 | q2_7
        · subst q2_7
          go_wp2
          go_ret
          exact ⟨fun _ => ⟨_, _, _, rfl⟩, fun h => absurd (HPS.out.2 (by simp)) h, rfl⟩
        have d2_4 : decide (v2 = 4) = false := decide_eq_false q2_4
        have e2_4 : (v2 == 4) = false := by simpa using q2_4
        have d2_6 : decide (v2 = 6) = false := decide_eq_false q2_6
        have e2_6 : (v2 == 6) = false := by simpa using q2_6
        have d2_7 : decide (v2 = 7) = false := decide_eq_false q2_7
        have e2_7 : (v2 == 7) = false := by simpa using q2_7
        have HNO : Aside0 (¬ Key65 s) := ⟨fun h => by have h9 := HPS.out.1 h; omega⟩
        go_wp2
        go_ret
        exact ⟨fun h => absurd h HNO.out, fun _ => rfl, rfl⟩
      have d1_65 : decide (v1 = 65) = false := decide_eq_false q1_65
      have e1_65 : (v1 == 65) = false := by simpa using q1_65
      have HNO : Aside0 (¬ Key65 s) := ⟨fun h => by have h9 := HPS.out.1 h; omega⟩
      go_wp2
      go_ret
      exact ⟨fun h => absurd h HNO.out, fun _ => rfl, rfl⟩
    have d0_172 : decide (v0 = 172) = false := decide_eq_false q0_172
    have e0_172 : (v0 == 172) = false := by simpa using q0_172
    have HNO : Aside0 (¬ Key65 s) := ⟨fun h => by have h9 := HPS.out.1 h; omega⟩
    go_wp2
    go_ret
    exact ⟨fun h => absurd h HNO.out, fun _ => rfl, rfl⟩
  · have HN : Aside0 (¬ Key65 s) := ⟨fun h => h1 h.1⟩
    have d1 : decide ((s.length : Int) = 67) = false := decide_eq_false (by omega)
    have d2 : decide (s.length = 67) = false := decide_eq_false h1
    have d3 : ¬ (s.length : Int) = 67 := by omega
    go_enter Try.func61, Try.ntmps61
    go_wp2
    go_ret
    exact ⟨fun h => absurd h HN.out, fun _ => rfl, rfl⟩
/-- A script that pays a key. -/
def KeyP (s : List Int) : Prop := Key33 s ∨ Key65 s
instance (s : List Int) : Decidable (KeyP s) := by unfold KeyP; infer_instance
set_option maxRecDepth 100000 in
set_option maxHeartbeats 4000000 in
theorem xkey (A : Option Addr) (s : List Int) (c : Nat) (w : World) (hC : Kd.C (Kd.int .u8) w A s.length s) (hc : s.length ≤ c) :
    Calls Try.prog 46 #[.slice A s.length c] w fun e w' => (KeyP s → ∃ ad n c', e = .returned (.slice (some ad) n c')) ∧ (¬ KeyP s → e = .returned (.slice none 0 0)) ∧ w' = w := by
  have H1 := Aside0.mk (x33 A s c w hC hc)
  have H2 := Aside0.mk (x65 A s c w hC hc)
  by_cases h1 : Key33 s
  · have HP := Aside0.mk h1
    clear h1 hC hc
    go_enter Try.func46, Try.ntmps46
    go_wp2_with fail
    go_at_call 60
    refine H1.out.mono ?_
    rintro e w1 ⟨h1, h2, rfl⟩
    obtain ⟨ad, n, c', rfl⟩ := h1 HP.out
    clear h1 h2
    go_wp2_with fail
    go_ret
    exact ⟨fun _ => ⟨_, _, _, rfl⟩, fun h => absurd (Or.inl HP.out) h, rfl⟩
  · by_cases h2 : Key65 s
    · have HP := Aside0.mk h1
      have HQ := Aside0.mk h2
      clear h1 h2 hC hc
      go_enter Try.func46, Try.ntmps46
      go_wp2_with fail
      go_at_call 60
      refine H1.out.mono ?_
      rintro e w1 ⟨h1, h2, rfl⟩
      obtain rfl := h2 HP.out
      clear h1 h2
      go_wp2_with fail
      go_at_call 61
      refine H2.out.mono ?_
      rintro e w2 ⟨h1, h2, rfl⟩
      obtain ⟨ad, n, c', rfl⟩ := h1 HQ.out
      clear h1 h2
      go_wp2_with fail
      go_ret
      exact ⟨fun _ => ⟨_, _, _, rfl⟩, fun h => absurd (Or.inr HQ.out) h, rfl⟩
    · have HP := Aside0.mk h1
      have HQ := Aside0.mk h2
      clear h1 h2 hC hc
      go_enter Try.func46, Try.ntmps46
      go_wp2_with fail
      go_at_call 60
      refine H1.out.mono ?_
      rintro e w1 ⟨h1, h2, rfl⟩
      obtain rfl := h2 HP.out
      clear h1 h2
      go_wp2_with fail
      go_at_call 61
      refine H2.out.mono ?_
      rintro e w2 ⟨h1, h2, rfl⟩
      obtain rfl := h2 HQ.out
      clear h1 h2
      go_wp2_with fail
      go_ret
      exact ⟨fun h => h.elim (fun h => absurd h HP.out) (fun h => absurd h HQ.out), fun _ => rfl, rfl⟩
set_option maxRecDepth 100000 in
set_option maxHeartbeats 4000000 in
theorem iskeyC (A : Option Addr) (s : List Int) (c : Nat) (w : World) (hC : Kd.C (Kd.int .u8) w A s.length s) (hc : s.length ≤ c) :
    Calls Try.prog 36 #[.slice A s.length c] w fun e w' => e = .returned (.bool (decide (KeyP s))) ∧ w' = w := by
  have H := xkey A s c w hC hc
  by_cases hp : KeyP s
  · rw [decide_eq_true hp]
    have H := Aside0.mk H
    have HP := Aside0.mk hp
    clear hp hC hc
    go_enter Try.func36, Try.ntmps36
    go_wp2_with fail
    go_at_call 46
    refine H.out.mono ?_
    rintro e w1 ⟨h1, h2, rfl⟩
    obtain ⟨ad, n, c', rfl⟩ := h1 HP.out
    clear h1 h2
    go_wp2_with fail
    go_ret
    exact ⟨rfl, rfl⟩
  · rw [decide_eq_false hp]
    have H := Aside0.mk H
    have HP := Aside0.mk hp
    clear hp hC hc
    go_enter Try.func36, Try.ntmps36
    go_wp2_with fail
    go_at_call 46
    refine H.out.mono ?_
    rintro e w1 ⟨h1, h2, rfl⟩
    obtain rfl := h2 HP.out
    clear h1 h2
    go_wp2_with fail
    go_ret
    exact ⟨rfl, rfl⟩
set_option maxRecDepth 100000 in
set_option maxHeartbeats 4000000 in
theorem payKeyC (A : Option Addr) (s : List Int) (c : Nat) (w : World) (hC : Kd.C (Kd.int .u8) w A s.length s) (hc : s.length ≤ c) :
    Calls Try.prog 23 #[.slice A s.length c] w fun e w' => e = .returned (.bool (decide (KeyP s))) ∧ w' = w := by
  have H := Aside0.mk (iskeyC A s c w hC hc)
  clear hC hc
  go_enter Try.func23, Try.ntmps23
  go_wp2_with fail
  go_at_call 36
  refine H.out.mono ?_
  rintro e w1 ⟨rfl, rfl⟩
  go_wp2_with fail
  go_ret
  exact ⟨rfl, rfl⟩
set_option maxRecDepth 100000 in
set_option maxHeartbeats 4000000 in
theorem implKeyC (A : Option Addr) (s : List Int) (c : Nat) (w : World) (hC : Kd.C (Kd.int .u8) w A s.length s) (hc : s.length ≤ c) :
    Calls Try.prog 8 #[.slice A s.length c] w fun e w' => e = .returned (.bool (decide (KeyP s))) ∧ w' = w := by
  have H := Aside0.mk (payKeyC A s c w hC hc)
  clear hC hc
  go_enter Try.func8, Try.ntmps8
  go_wp2_with fail
  go_at_call 23
  refine H.out.mono ?_
  rintro e w1 ⟨rfl, rfl⟩
  go_wp2_with fail
  go_ret
  exact ⟨rfl, rfl⟩
end Go.Proofs.Ytfbkjkihcajmdac.Tok
