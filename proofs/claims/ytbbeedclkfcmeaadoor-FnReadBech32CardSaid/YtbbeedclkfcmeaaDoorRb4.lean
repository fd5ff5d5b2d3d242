/- Printed functions over contracts that were proved by hand. -/
import Derived.Test.YtbbeedclkfcmeaaDoorRb3h
namespace Go.Proofs.YtbbeedclkfcmeaaDoor.KFnReadBech32
open Go.RowKit Go.Proofs.YtbbeedclkfcmeaaDoorW.PrintWords Go.Proofs.YtbbeedclkfcmeaaDoorW.PrintLast Go.Proofs.YtbbeedclkfcmeaaDoorW.PrintMore Go.Proofs.YtbbeedclkfcmeaaDoor.Snk
attribute [local go_sem] nn_mod256 nn_mod65536 nn_mod32 max2_int min2_int max_two min_two max_three min_three max_four min_four   -- for this text's walks alone
set_option linter.unusedVariables false
set_option linter.unusedSimpArgs false
/-! ### bech32_DecodeNoLimitWithVersion: function 14 -/
mutual
def bech32_DecodeNoLimitWithVersion.l0 : Nat → ByteArray → Bool → Bool → Int → Option (ByteArray × List Int × Int × Option (Nat × Value))
  | 0, _, _, _, _ => none
  | k + 1, x0, x6, x7, x8 => if x8 < (x0.size : Int) then (if 0 ≤ x8 then (if (bt x0 x8) < 33 then (bech32_DecodeNoLimitWithVersion.j1 k x0 x6 x7 x8 true) else (bech32_DecodeNoLimitWithVersion.j1 k x0 x6 x7 x8 (decide ((bt x0 x8) > 126)))) else (none)) else (if x7 = true then ((bech32_lower.f x0).bind fun t153 => (bech32_DecodeNoLimitWithVersion.j2 k t153)) else (bech32_DecodeNoLimitWithVersion.j2 k x0))
def bech32_DecodeNoLimitWithVersion.j1 : Nat → ByteArray → Bool → Bool → Int → Bool → Option (ByteArray × List Int × Int × Option (Nat × Value))
  | 0, _, _, _, _, _ => none
  | k + 1, x0, x6, x7, x8, x43 => if x43 = true then (if 0 ≤ x8 then (if x8 < (x0.size : Int) then (some ((⟨#[]⟩ : ByteArray), ([] : List Int), 2, some (43, .int .i32 (wrap32 (bt x0 x8))))) else (none)) else (none)) else (if x6 = true then (if x7 = true then (some ((⟨#[]⟩ : ByteArray), ([] : List Int), 2, some (45, .agg #[]))) else (if 0 ≤ x8 then (if x8 < (x0.size : Int) then (if (bt x0 x8) ≥ 65 then (if (bt x0 x8) ≤ 90 then (some ((⟨#[]⟩ : ByteArray), ([] : List Int), 2, some (45, .agg #[]))) else (bech32_DecodeNoLimitWithVersion.l0 k x0 true (decide ((bt x0 x8) ≤ 90)) (wrap64 (x8 + 1)))) else (bech32_DecodeNoLimitWithVersion.l0 k x0 true false (wrap64 (x8 + 1)))) else (none)) else (none))) else (if 0 ≤ x8 then (if x8 < (x0.size : Int) then (if (bt x0 x8) ≥ 97 then (if x7 = true then (if (bt x0 x8) ≤ 122 then (some ((⟨#[]⟩ : ByteArray), ([] : List Int), 2, some (45, .agg #[]))) else (bech32_DecodeNoLimitWithVersion.l0 k x0 (decide ((bt x0 x8) ≤ 122)) true (wrap64 (x8 + 1)))) else (if (bt x0 x8) ≥ 65 then (if (bt x0 x8) ≤ 122 then (if (bt x0 x8) ≤ 90 then (some ((⟨#[]⟩ : ByteArray), ([] : List Int), 2, some (45, .agg #[]))) else (bech32_DecodeNoLimitWithVersion.l0 k x0 (decide ((bt x0 x8) ≤ 122)) (decide ((bt x0 x8) ≤ 90)) (wrap64 (x8 + 1)))) else (bech32_DecodeNoLimitWithVersion.l0 k x0 (decide ((bt x0 x8) ≤ 122)) (decide ((bt x0 x8) ≤ 90)) (wrap64 (x8 + 1)))) else (if (bt x0 x8) ≤ 122 then (bech32_DecodeNoLimitWithVersion.l0 k x0 (decide ((bt x0 x8) ≤ 122)) false (wrap64 (x8 + 1))) else (bech32_DecodeNoLimitWithVersion.l0 k x0 (decide ((bt x0 x8) ≤ 122)) false (wrap64 (x8 + 1)))))) else (if x7 = true then (bech32_DecodeNoLimitWithVersion.l0 k x0 false true (wrap64 (x8 + 1))) else (if (bt x0 x8) ≥ 65 then (bech32_DecodeNoLimitWithVersion.l0 k x0 false (decide ((bt x0 x8) ≤ 90)) (wrap64 (x8 + 1))) else (bech32_DecodeNoLimitWithVersion.l0 k x0 false false (wrap64 (x8 + 1)))))) else (none)) else (none)))
def bech32_DecodeNoLimitWithVersion.j2 : Nat → ByteArray → Option (ByteArray × List Int × Int × Option (Nat × Value))
  | 0, _ => none
  | k + 1, x0 => (strings_LastIndexByte.f k x0 49).bind fun t154 => (if t154 < 1 then (bech32_DecodeNoLimitWithVersion.j3 k x0 t154 true) else (bech32_DecodeNoLimitWithVersion.j3 k x0 t154 (decide ((wrap64 (t154 + 7)) > (x0.size : Int)))))
def bech32_DecodeNoLimitWithVersion.j3 : Nat → ByteArray → Int → Bool → Option (ByteArray × List Int × Int × Option (Nat × Value))
  | 0, _, _, _ => none
  | k + 1, x0, x9, x94 => if x94 = true then (some ((⟨#[]⟩ : ByteArray), ([] : List Int), 2, some (46, .int .i64 x9))) else (if 0 ≤ x9 then (if x9 ≤ (x0.size : Int) then (if 0 ≤ (wrap64 (x9 + 1)) then (if (wrap64 (x9 + 1)) ≤ (x0.size : Int) then ((bech32_toBytes.f k (x0.extract ((wrap64 (x9 + 1)) : Int).toNat x0.size)).bind fun bt155 => (if bt155.2.isNone = true then ((bech32_bech32VerifyChecksum.f (x0.extract 0 (x9 : Int).toNat) bt155.1).bind fun bt160 => (if bt160.2 = true then (if 0 ≤ (wrap64 ((bt155.1.length : Int) - 6)) then (if (wrap64 ((bt155.1.length : Int) - 6)) ≤ (bt155.1.length : Int) then (some (x0.extract 0 (x9 : Int).toNat, (bt155.1.take ((wrap64 ((bt155.1.length : Int) - 6)) : Int).toNat), bt160.1, none)) else (none)) else (none)) else (some ((⟨#[]⟩ : ByteArray), ([] : List Int), 2, some (42, .int .i64 0))))) else (some ((⟨#[]⟩ : ByteArray), ([] : List Int), 2, some (bt155.2.getD (0, Value.bool false)))))) else (none)) else (none)) else (none)) else (none))
end
def bech32_DecodeNoLimitWithVersion.f (k : Nat) (a0 : ByteArray) : Option (ByteArray × List Int × Int × Option (Nat × Value)) := if (a0.size : Int) < 8 then (some ((⟨#[]⟩ : ByteArray), ([] : List Int), 2, some (42, .int .i64 (a0.size : Int)))) else (bech32_DecodeNoLimitWithVersion.l0 k a0 false false 0)
theorem bech32_DecodeNoLimitWithVersion.mono_l : ∀ k, (∀ y0 y1 y2 y3, LeO (bech32_DecodeNoLimitWithVersion.l0 k y0 y1 y2 y3) (bech32_DecodeNoLimitWithVersion.l0 (k + 1) y0 y1 y2 y3)) ∧ (∀ y0 y1 y2 y3 y4, LeO (bech32_DecodeNoLimitWithVersion.j1 k y0 y1 y2 y3 y4) (bech32_DecodeNoLimitWithVersion.j1 (k + 1) y0 y1 y2 y3 y4)) ∧ (∀ y0, LeO (bech32_DecodeNoLimitWithVersion.j2 k y0) (bech32_DecodeNoLimitWithVersion.j2 (k + 1) y0)) ∧ (∀ y0 y1 y2, LeO (bech32_DecodeNoLimitWithVersion.j3 k y0 y1 y2) (bech32_DecodeNoLimitWithVersion.j3 (k + 1) y0 y1 y2))
  | 0 => ⟨fun _ _ _ _ r h => by simp [bech32_DecodeNoLimitWithVersion.l0] at h, fun _ _ _ _ _ r h => by simp [bech32_DecodeNoLimitWithVersion.j1] at h, fun _ r h => by simp [bech32_DecodeNoLimitWithVersion.j2] at h, fun _ _ _ r h => by simp [bech32_DecodeNoLimitWithVersion.j3] at h⟩
  | k + 1 => by
    obtain ⟨ih0, ih1, ih2, ih3⟩ := bech32_DecodeNoLimitWithVersion.mono_l k
    refine ⟨?_, ?_, ?_, ?_⟩
    · intro y0 y1 y2 y3
      unfold bech32_DecodeNoLimitWithVersion.l0
      repeat' first
      | (with_reducible exact ih0 _ _ _ _)
      | (with_reducible exact ih1 _ _ _ _ _)
      | (with_reducible exact ih2 _)
      | (with_reducible exact ih3 _ _ _)
      | (with_reducible exact bech32_toBytes.mono _ _)
      | (with_reducible exact strings_LastIndexByte.mono _ _ _)
      | (with_reducible exact LeO.refl _)
      | (with_reducible exact LeO.none _)
      | (with_reducible refine LeO.ite ?_ ?_)
      | (with_reducible refine LeO.bind ?_ (fun _ => ?_))
      | exact ih0 _ _ _ _
      | exact ih1 _ _ _ _ _
      | exact ih2 _
      | exact ih3 _ _ _
      | exact bech32_toBytes.mono _ _
      | exact strings_LastIndexByte.mono _ _ _
      | exact LeO.none _
      | refine LeO.ite ?_ ?_
      | refine LeO.bind ?_ (fun _ => ?_)
    · intro y0 y1 y2 y3 y4
      unfold bech32_DecodeNoLimitWithVersion.j1
      repeat' first
      | (with_reducible exact ih0 _ _ _ _)
      | (with_reducible exact ih1 _ _ _ _ _)
      | (with_reducible exact ih2 _)
      | (with_reducible exact ih3 _ _ _)
      | (with_reducible exact bech32_toBytes.mono _ _)
      | (with_reducible exact strings_LastIndexByte.mono _ _ _)
      | (with_reducible exact LeO.refl _)
      | (with_reducible exact LeO.none _)
      | (with_reducible refine LeO.ite ?_ ?_)
      | (with_reducible refine LeO.bind ?_ (fun _ => ?_))
      | exact ih0 _ _ _ _
      | exact ih1 _ _ _ _ _
      | exact ih2 _
      | exact ih3 _ _ _
      | exact bech32_toBytes.mono _ _
      | exact strings_LastIndexByte.mono _ _ _
      | exact LeO.none _
      | refine LeO.ite ?_ ?_
      | refine LeO.bind ?_ (fun _ => ?_)
    · intro y0
      unfold bech32_DecodeNoLimitWithVersion.j2
      repeat' first
      | (with_reducible exact ih0 _ _ _ _)
      | (with_reducible exact ih1 _ _ _ _ _)
      | (with_reducible exact ih2 _)
      | (with_reducible exact ih3 _ _ _)
      | (with_reducible exact bech32_toBytes.mono _ _)
      | (with_reducible exact strings_LastIndexByte.mono _ _ _)
      | (with_reducible exact LeO.refl _)
      | (with_reducible exact LeO.none _)
      | (with_reducible refine LeO.ite ?_ ?_)
      | (with_reducible refine LeO.bind ?_ (fun _ => ?_))
      | exact ih0 _ _ _ _
      | exact ih1 _ _ _ _ _
      | exact ih2 _
      | exact ih3 _ _ _
      | exact bech32_toBytes.mono _ _
      | exact strings_LastIndexByte.mono _ _ _
      | exact LeO.none _
      | refine LeO.ite ?_ ?_
      | refine LeO.bind ?_ (fun _ => ?_)
    · intro y0 y1 y2
      unfold bech32_DecodeNoLimitWithVersion.j3
      repeat' first
      | (with_reducible exact ih0 _ _ _ _)
      | (with_reducible exact ih1 _ _ _ _ _)
      | (with_reducible exact ih2 _)
      | (with_reducible exact ih3 _ _ _)
      | (with_reducible exact bech32_toBytes.mono _ _)
      | (with_reducible exact strings_LastIndexByte.mono _ _ _)
      | (with_reducible exact LeO.refl _)
      | (with_reducible exact LeO.none _)
      | (with_reducible refine LeO.ite ?_ ?_)
      | (with_reducible refine LeO.bind ?_ (fun _ => ?_))
      | exact ih0 _ _ _ _
      | exact ih1 _ _ _ _ _
      | exact ih2 _
      | exact ih3 _ _ _
      | exact bech32_toBytes.mono _ _
      | exact strings_LastIndexByte.mono _ _ _
      | exact LeO.none _
      | refine LeO.ite ?_ ?_
      | refine LeO.bind ?_ (fun _ => ?_)
theorem bech32_DecodeNoLimitWithVersion.mono : ∀ a0 k, LeO (bech32_DecodeNoLimitWithVersion.f k a0) (bech32_DecodeNoLimitWithVersion.f (k + 1) a0) := by
  intro a0 k
  obtain ⟨ih0, ih1, ih2, ih3⟩ := bech32_DecodeNoLimitWithVersion.mono_l k
  unfold bech32_DecodeNoLimitWithVersion.f
  repeat' first
      | (with_reducible exact ih0 _ _ _ _)
      | (with_reducible exact ih1 _ _ _ _ _)
      | (with_reducible exact ih2 _)
      | (with_reducible exact ih3 _ _ _)
      | (with_reducible exact bech32_toBytes.mono _ _)
      | (with_reducible exact strings_LastIndexByte.mono _ _ _)
      | (with_reducible exact LeO.refl _)
      | (with_reducible exact LeO.none _)
      | (with_reducible refine LeO.ite ?_ ?_)
      | (with_reducible refine LeO.bind ?_ (fun _ => ?_))
      | exact ih0 _ _ _ _
      | exact ih1 _ _ _ _ _
      | exact ih2 _
      | exact ih3 _ _ _
      | exact bech32_toBytes.mono _ _
      | exact strings_LastIndexByte.mono _ _ _
      | exact LeO.none _
      | refine LeO.ite ?_ ?_
      | refine LeO.bind ?_ (fun _ => ?_)
set_option maxHeartbeats 8000000 in
set_option maxRecDepth 100000 in
theorem bech32_DecodeNoLimitWithVersion.calls (k : Nat) (a0 : ByteArray) (r1 : ByteArray) (r2 : List Int) (r3 : Int) (r4 : Option (Nat × Value)) (w : World) (h : bech32_DecodeNoLimitWithVersion.f k a0 = some (r1, r2, r3, r4)) (HG0 : GenS w) :
    Calls Tryd.prog 14 #[.string a0] w fun e w' => ∃ v1_ ev_ : Value, e = .returned (.tuple #[.string r1, v1_, .int .u8 r3, ev_]) ∧ ErrIs r4 ev_ ∧ Kd.R (Kd.int .u8) 5 w' w.heap.size (fun _ => True) v1_ r2 ∧ Below w.heap.size w w' := by
  have hu36 := Tryd.underlying36
  have hu42 := Tryd.underlying42
  have HB := Aside0.mk (Below.refl w.heap.size w)
  have H : (if (a0.size : Int) < 8 then (some ((⟨#[]⟩ : ByteArray), ([] : List Int), 2, some (42, .int .i64 (a0.size : Int)))) else (bech32_DecodeNoLimitWithVersion.l0 k a0 false false 0)) = some (r1, r2, r3, r4) := h
  clear h
  by_cases c2 : (a0.size : Int) < 8
  · rw [if_pos c2] at H
    have c2b0 : decide ((a0.size : Int) < 8) = true := decide_eq_true c2
    have c2b1 : decide (a0.size < 8) = true := decide_eq_true (by omega)
    clear c2
    simp only [Option.some.injEq, Prod.mk.injEq] at H
    obtain ⟨rfl, rfl, rfl, rfl⟩ := H
    go_enter Tryd.func14, Tryd.ntmps14
    go_wp2
    repeat (go_quiet (fail); try go_wp2)
    refine bodyPost_ret (results_list (rs := [.tmp 2, .tmp 3, .tmp 4, .tmp 5]) rfl (by simp) (.tmp (.tmp (.tmp (.tmp .nil))))) rfl ?_
    exact ⟨_, _, by first | rfl | (simp [errW_none, errW_some] <;> rfl) | (simp [*, errW_none, errW_some] <;> rfl), by first | exact HE_.out | exact (rfl : _ = Value.nilIface) | exact ⟨_, _, rfl⟩, by first | exact Kd.R_nil _ _ _ _ _ | exact Kd.N_nil _ _ _ _ _ | exact Kd.V_nil _ _ _ _ _ | exact Kd.Q_nil _ _ _ _ _ | exact Kd.S_nil _ _ _ _ _, by repeat (first | (with_reducible first | exact HB.out | apply below_alloc | apply pw_below_drewN | apply below_drew1) | exact HB.out)⟩
  · rw [if_neg c2] at H
    have c2b0 : decide ((a0.size : Int) < 8) = false := decide_eq_false c2
    have c2b1 : decide (a0.size < 8) = false := decide_eq_false (by omega)
    clear c2
    have H' := Aside0.mk H
    clear H
    go_enter Tryd.func14, Tryd.ntmps14
    go_wp2
    repeat (go_quiet (fail); try go_wp2)
    go_loopg [6, 7, 8] k (fun kq v6 v7 v8 w' => ∃ (x6_1 : Bool) (x7_1 : Bool) (x8_1 : Int), v6 = .bool x6_1 ∧ v7 = .bool x7_1 ∧ v8 = .int .i64 x8_1 ∧ Aside0 (bech32_DecodeNoLimitWithVersion.l0 kq a0 x6_1 x7_1 x8_1 = some (r1, r2, r3, r4)) ∧ Aside0 (kq ≤ k) ∧ Aside0 (Below w.heap.size w w'))
    case atStart => exact ⟨(false), (false), (0), (by first | rfl | (simp; done) | (simp [*]; done)), (by first | rfl | (simp; done) | (simp [*]; done)), (by first | rfl | (simp; done) | (simp [*]; done)), H', ⟨Nat.le_refl _⟩, ⟨by repeat (first | (with_reducible first | exact HB.out | apply below_alloc | apply pw_below_drewN | apply below_drew1) | exact HB.out)⟩⟩
    case round =>
      clear H'
      try clear c1
      try clear c2
      try clear c2b0
      try clear c2b1
      try clear p2
      obtain ⟨x6_1, x7_1, x8_1, rfl, rfl, rfl, HA, HK1, HB⟩ := hrel
      cases gk with
      | zero => exact absurd HA.out (by simp [bech32_DecodeNoLimitWithVersion.l0])
      | succ k1 =>
        have H := HA.out
        clear HA
        simp only [bech32_DecodeNoLimitWithVersion.l0] at H
        by_cases c3 : x8_1 < (a0.size : Int)
        · rw [if_pos c3] at H
          have c3b0 : decide (x8_1 < (a0.size : Int)) = true := decide_eq_true c3
          clear c3
          have HC4 := Aside0.mk H
          clear H
          go_upto_region 7 with (fail)
          repeat (go_quiet (fail); go_upto_region 7 with (fail))
          go_cut [43] (fun v43 wc => ∃ (kq : Nat) (x43_3 : Bool), v43 = .bool x43_3 ∧ Aside0 (bech32_DecodeNoLimitWithVersion.j1 kq a0 x6_1 x7_1 x8_1 x43_3 = some (r1, r2, r3, r4)) ∧ Aside0 (kq ≤ k1) ∧ Aside0 (Below w.heap.size w wc))
          case first =>
            have H := HC4.out
            clear HC4
            by_cases c5 : 0 ≤ x8_1
            · rw [if_pos c5] at H
              have c5b0 : decide (0 ≤ x8_1) = true := decide_eq_true c5
              clear c5
              (first | rw [c5b0] | (simp only [i64_w, i32_w]; rw [c5b0]) | skip)
              by_cases c7 : (bt a0 x8_1) < 33
              · rw [if_pos c7] at H
                have c7b0 : decide ((bt a0 x8_1) < 33) = true := decide_eq_true c7
                clear c7
                have H' := Aside0.mk H
                clear H
                have p6 : 0 ≤ (x8_1 : Int) := of_decide_eq_true (by first | (with_reducible assumption) | assumption)
                have q6 : x8_1 < (a0.size : Int) := of_decide_eq_true (by first | (with_reducible assumption) | assumption)
                have hx6 := bt_at a0 x8_1
                replace p6 := eq_true p6
                replace q6 := eq_true q6
                go_wp2
                repeat (go_quiet (fail); try go_wp2)
                go_meet
                case rel => exact ⟨_, (true), (by first | rfl | (simp; done) | (simp [*]; done)), (by first | exact H' | (subst_vars; exact H')), ⟨by have := HK1.out; first | omega | exact Nat.le_refl _⟩, ⟨by repeat (first | (with_reducible first | exact HB.out | apply below_alloc | apply pw_below_drewN | apply below_drew1) | exact HB.out)⟩⟩
              · rw [if_neg c7] at H
                have c7b0 : decide ((bt a0 x8_1) < 33) = false := decide_eq_false c7
                clear c7
                have H' := Aside0.mk H
                clear H
                have p6 : 0 ≤ (x8_1 : Int) := of_decide_eq_true (by first | (with_reducible assumption) | assumption)
                have q6 : x8_1 < (a0.size : Int) := of_decide_eq_true (by first | (with_reducible assumption) | assumption)
                have hx6 := bt_at a0 x8_1
                replace p6 := eq_true p6
                replace q6 := eq_true q6
                have p8 : 0 ≤ (x8_1 : Int) := of_decide_eq_true (by first | (with_reducible assumption) | assumption)
                have q8 : x8_1 < (a0.size : Int) := of_decide_eq_true (by first | (with_reducible assumption) | assumption)
                have hx8 := bt_at a0 x8_1
                replace p8 := eq_true p8
                replace q8 := eq_true q8
                go_wp2
                repeat (go_quiet (fail); try go_wp2)
                go_meet
                case rel => exact ⟨_, (decide ((bt a0 x8_1) > 126)), (by first | rfl | (simp; done) | (simp [*]; done)), (by first | exact H' | (subst_vars; exact H')), ⟨by have := HK1.out; first | omega | exact Nat.le_refl _⟩, ⟨by repeat (first | (with_reducible first | exact HB.out | apply below_alloc | apply pw_below_drewN | apply below_drew1) | exact HB.out)⟩⟩
            · rw [if_neg c5] at H
              exact absurd H (by simp)
          case rest =>
            clear HC4
            try clear c1
            try clear c2
            try clear c2b0
            try clear c2b1
            try clear p2
            try clear c3
            try clear c3b0
            try clear c5
            try clear c5b0
            try clear p6
            try clear q6
            try clear hx6
            try clear c7
            try clear c7b0
            try clear p8
            try clear q8
            try clear hx8
            try clear p2
            try clear p6
            try clear p8
            try clear q6
            try clear q8
            obtain ⟨kq, x43_3, rfl, HA, HJ3, HB⟩ := hcut
            cases kq with
            | zero => exact absurd HA.out (by simp [bech32_DecodeNoLimitWithVersion.j1])
            | succ kj3 =>
              have H := HA.out
              clear HA
              simp only [bech32_DecodeNoLimitWithVersion.j1] at H
              by_cases c9 : x43_3 = true
              · subst c9
                have H1 : (if 0 ≤ x8_1 then (if x8_1 < (a0.size : Int) then (some ((⟨#[]⟩ : ByteArray), ([] : List Int), 2, some (43, .int .i32 (wrap32 (bt a0 x8_1))))) else (none)) else (none)) = some (r1, r2, r3, r4) := by rw [if_pos rfl] at H; exact H
                clear H
                have H := H1
                clear H1
                by_cases c10 : 0 ≤ x8_1
                · rw [if_pos c10] at H
                  have c10b0 : decide (0 ≤ x8_1) = true := decide_eq_true c10
                  clear c10
                  by_cases c11 : x8_1 < (a0.size : Int)
                  · rw [if_pos c11] at H
                    have c11b0 : decide (x8_1 < (a0.size : Int)) = true := decide_eq_true c11
                    clear c11
                    simp only [Option.some.injEq, Prod.mk.injEq] at H
                    obtain ⟨rfl, rfl, rfl, rfl⟩ := H
                    have p12 : 0 ≤ (x8_1 : Int) := of_decide_eq_true (by first | (with_reducible assumption) | assumption)
                    have q12 : x8_1 < (a0.size : Int) := of_decide_eq_true (by first | (with_reducible assumption) | assumption)
                    have hx12 := bt_at a0 x8_1
                    replace p12 := eq_true p12
                    replace q12 := eq_true q12
                    go_wp2
                    repeat (go_quiet (fail); try go_wp2)
                    refine bodyPost_ret (results_list (rs := [.tmp 2, .tmp 3, .tmp 4, .tmp 5]) rfl (by simp) (.tmp (.tmp (.tmp (.tmp .nil))))) rfl ?_
                    exact ⟨_, _, by first | rfl | (simp [errW_none, errW_some] <;> rfl) | (simp [*, errW_none, errW_some] <;> rfl), by first | exact HE_.out | exact (rfl : _ = Value.nilIface) | exact ⟨_, _, rfl⟩, by first | exact Kd.R_nil _ _ _ _ _ | exact Kd.N_nil _ _ _ _ _ | exact Kd.V_nil _ _ _ _ _ | exact Kd.Q_nil _ _ _ _ _ | exact Kd.S_nil _ _ _ _ _, by repeat (first | (with_reducible first | exact HB.out | apply below_alloc | apply pw_below_drewN | apply below_drew1) | exact HB.out)⟩
                  · rw [if_neg c11] at H
                    exact absurd H (by simp)
                · rw [if_neg c10] at H
                  exact absurd H (by simp)
              · replace c9 := Bool.eq_false_iff.mpr c9
                subst c9
                have H1 : (if x6_1 = true then (if x7_1 = true then (some ((⟨#[]⟩ : ByteArray), ([] : List Int), 2, some (45, .agg #[]))) else (if 0 ≤ x8_1 then (if x8_1 < (a0.size : Int) then (if (bt a0 x8_1) ≥ 65 then (if (bt a0 x8_1) ≤ 90 then (some ((⟨#[]⟩ : ByteArray), ([] : List Int), 2, some (45, .agg #[]))) else (bech32_DecodeNoLimitWithVersion.l0 kj3 a0 true (decide ((bt a0 x8_1) ≤ 90)) (wrap64 (x8_1 + 1)))) else (bech32_DecodeNoLimitWithVersion.l0 kj3 a0 true false (wrap64 (x8_1 + 1)))) else (none)) else (none))) else (if 0 ≤ x8_1 then (if x8_1 < (a0.size : Int) then (if (bt a0 x8_1) ≥ 97 then (if x7_1 = true then (if (bt a0 x8_1) ≤ 122 then (some ((⟨#[]⟩ : ByteArray), ([] : List Int), 2, some (45, .agg #[]))) else (bech32_DecodeNoLimitWithVersion.l0 kj3 a0 (decide ((bt a0 x8_1) ≤ 122)) true (wrap64 (x8_1 + 1)))) else (if (bt a0 x8_1) ≥ 65 then (if (bt a0 x8_1) ≤ 122 then (if (bt a0 x8_1) ≤ 90 then (some ((⟨#[]⟩ : ByteArray), ([] : List Int), 2, some (45, .agg #[]))) else (bech32_DecodeNoLimitWithVersion.l0 kj3 a0 (decide ((bt a0 x8_1) ≤ 122)) (decide ((bt a0 x8_1) ≤ 90)) (wrap64 (x8_1 + 1)))) else (bech32_DecodeNoLimitWithVersion.l0 kj3 a0 (decide ((bt a0 x8_1) ≤ 122)) (decide ((bt a0 x8_1) ≤ 90)) (wrap64 (x8_1 + 1)))) else (if (bt a0 x8_1) ≤ 122 then (bech32_DecodeNoLimitWithVersion.l0 kj3 a0 (decide ((bt a0 x8_1) ≤ 122)) false (wrap64 (x8_1 + 1))) else (bech32_DecodeNoLimitWithVersion.l0 kj3 a0 (decide ((bt a0 x8_1) ≤ 122)) false (wrap64 (x8_1 + 1)))))) else (if x7_1 = true then (bech32_DecodeNoLimitWithVersion.l0 kj3 a0 false true (wrap64 (x8_1 + 1))) else (if (bt a0 x8_1) ≥ 65 then (bech32_DecodeNoLimitWithVersion.l0 kj3 a0 false (decide ((bt a0 x8_1) ≤ 90)) (wrap64 (x8_1 + 1))) else (bech32_DecodeNoLimitWithVersion.l0 kj3 a0 false false (wrap64 (x8_1 + 1)))))) else (none)) else (none))) = some (r1, r2, r3, r4) := by rw [if_neg (show ¬ (false = true) by decide)] at H; exact H
                clear H
                have H := H1
                clear H1
                by_cases c13 : x6_1 = true
                · subst c13
                  have H1 : (if x7_1 = true then (some ((⟨#[]⟩ : ByteArray), ([] : List Int), 2, some (45, .agg #[]))) else (if 0 ≤ x8_1 then (if x8_1 < (a0.size : Int) then (if (bt a0 x8_1) ≥ 65 then (if (bt a0 x8_1) ≤ 90 then (some ((⟨#[]⟩ : ByteArray), ([] : List Int), 2, some (45, .agg #[]))) else (bech32_DecodeNoLimitWithVersion.l0 kj3 a0 true (decide ((bt a0 x8_1) ≤ 90)) (wrap64 (x8_1 + 1)))) else (bech32_DecodeNoLimitWithVersion.l0 kj3 a0 true false (wrap64 (x8_1 + 1)))) else (none)) else (none))) = some (r1, r2, r3, r4) := by rw [if_pos rfl] at H; exact H
                  clear H
                  have H := H1
                  clear H1
                  by_cases c14 : x7_1 = true
                  · subst c14
                    have H1 : (some ((⟨#[]⟩ : ByteArray), ([] : List Int), 2, some (45, .agg #[]))) = some (r1, r2, r3, r4) := by rw [if_pos rfl] at H; exact H
                    clear H
                    have H := H1
                    clear H1
                    simp only [Option.some.injEq, Prod.mk.injEq] at H
                    obtain ⟨rfl, rfl, rfl, rfl⟩ := H
                    go_wp2
                    repeat (go_quiet (fail); try go_wp2)
                    refine bodyPost_ret (results_list (rs := [.tmp 2, .tmp 3, .tmp 4, .tmp 5]) rfl (by simp) (.tmp (.tmp (.tmp (.tmp .nil))))) rfl ?_
                    exact ⟨_, _, by first | rfl | (simp [errW_none, errW_some] <;> rfl) | (simp [*, errW_none, errW_some] <;> rfl), by first | exact HE_.out | exact (rfl : _ = Value.nilIface) | exact ⟨_, _, rfl⟩, by first | exact Kd.R_nil _ _ _ _ _ | exact Kd.N_nil _ _ _ _ _ | exact Kd.V_nil _ _ _ _ _ | exact Kd.Q_nil _ _ _ _ _ | exact Kd.S_nil _ _ _ _ _, by repeat (first | (with_reducible first | exact HB.out | apply below_alloc | apply pw_below_drewN | apply below_drew1) | exact HB.out)⟩
                  · replace c14 := Bool.eq_false_iff.mpr c14
                    subst c14
                    have H1 : (if 0 ≤ x8_1 then (if x8_1 < (a0.size : Int) then (if (bt a0 x8_1) ≥ 65 then (if (bt a0 x8_1) ≤ 90 then (some ((⟨#[]⟩ : ByteArray), ([] : List Int), 2, some (45, .agg #[]))) else (bech32_DecodeNoLimitWithVersion.l0 kj3 a0 true (decide ((bt a0 x8_1) ≤ 90)) (wrap64 (x8_1 + 1)))) else (bech32_DecodeNoLimitWithVersion.l0 kj3 a0 true false (wrap64 (x8_1 + 1)))) else (none)) else (none)) = some (r1, r2, r3, r4) := by rw [if_neg (show ¬ (false = true) by decide)] at H; exact H
                    clear H
                    have H := H1
                    clear H1
                    by_cases c15 : 0 ≤ x8_1
                    · rw [if_pos c15] at H
                      have c15b0 : decide (0 ≤ x8_1) = true := decide_eq_true c15
                      clear c15
                      by_cases c16 : x8_1 < (a0.size : Int)
                      · rw [if_pos c16] at H
                        have c16b0 : decide (x8_1 < (a0.size : Int)) = true := decide_eq_true c16
                        clear c16
                        by_cases c18 : (bt a0 x8_1) ≥ 65
                        · rw [if_pos c18] at H
                          have c18b0 : decide (65 ≤ (bt a0 x8_1)) = true := decide_eq_true c18
                          clear c18
                          by_cases c20 : (bt a0 x8_1) ≤ 90
                          · rw [if_pos c20] at H
                            have c20b0 : decide ((bt a0 x8_1) ≤ 90) = true := decide_eq_true c20
                            clear c20
                            simp only [Option.some.injEq, Prod.mk.injEq] at H
                            obtain ⟨rfl, rfl, rfl, rfl⟩ := H
                            have p17 : 0 ≤ (x8_1 : Int) := of_decide_eq_true (by first | (with_reducible assumption) | assumption)
                            have q17 : x8_1 < (a0.size : Int) := of_decide_eq_true (by first | (with_reducible assumption) | assumption)
                            have hx17 := bt_at a0 x8_1
                            replace p17 := eq_true p17
                            replace q17 := eq_true q17
                            have p19 : 0 ≤ (x8_1 : Int) := of_decide_eq_true (by first | (with_reducible assumption) | assumption)
                            have q19 : x8_1 < (a0.size : Int) := of_decide_eq_true (by first | (with_reducible assumption) | assumption)
                            have hx19 := bt_at a0 x8_1
                            replace p19 := eq_true p19
                            replace q19 := eq_true q19
                            go_wp2
                            repeat (go_quiet (fail); try go_wp2)
                            refine bodyPost_ret (results_list (rs := [.tmp 2, .tmp 3, .tmp 4, .tmp 5]) rfl (by simp) (.tmp (.tmp (.tmp (.tmp .nil))))) rfl ?_
                            exact ⟨_, _, by first | rfl | (simp [errW_none, errW_some] <;> rfl) | (simp [*, errW_none, errW_some] <;> rfl), by first | exact HE_.out | exact (rfl : _ = Value.nilIface) | exact ⟨_, _, rfl⟩, by first | exact Kd.R_nil _ _ _ _ _ | exact Kd.N_nil _ _ _ _ _ | exact Kd.V_nil _ _ _ _ _ | exact Kd.Q_nil _ _ _ _ _ | exact Kd.S_nil _ _ _ _ _, by repeat (first | (with_reducible first | exact HB.out | apply below_alloc | apply pw_below_drewN | apply below_drew1) | exact HB.out)⟩
                          · rw [if_neg c20] at H
                            have c20b0 : decide ((bt a0 x8_1) ≤ 90) = false := decide_eq_false c20
                            clear c20
                            have H' := Aside0.mk H
                            clear H
                            have p17 : 0 ≤ (x8_1 : Int) := of_decide_eq_true (by first | (with_reducible assumption) | assumption)
                            have q17 : x8_1 < (a0.size : Int) := of_decide_eq_true (by first | (with_reducible assumption) | assumption)
                            have hx17 := bt_at a0 x8_1
                            replace p17 := eq_true p17
                            replace q17 := eq_true q17
                            have p19 : 0 ≤ (x8_1 : Int) := of_decide_eq_true (by first | (with_reducible assumption) | assumption)
                            have q19 : x8_1 < (a0.size : Int) := of_decide_eq_true (by first | (with_reducible assumption) | assumption)
                            have hx19 := bt_at a0 x8_1
                            replace p19 := eq_true p19
                            replace q19 := eq_true q19
                            go_wp2
                            repeat (go_quiet (fail); try go_wp2)
                            go_roundg kj3
                            case measure => have := HK1.out; have := HJ3.out; omega
                            case rel => exact ⟨(true), (decide ((bt a0 x8_1) ≤ 90)), (wrap64 (x8_1 + 1)), (by first | rfl | (simp; done) | (simp [*]; done)), (by first | rfl | (simp; done) | (simp [*]; done)), (by first | rfl | (simp; done) | (simp [*]; done)), (by first | exact H' | (subst_vars; exact H')), ⟨by have := HK1.out; have := HJ3.out; omega⟩, ⟨by repeat (first | (with_reducible first | exact HB.out | apply below_alloc | apply pw_below_drewN | apply below_drew1) | exact HB.out)⟩⟩
                        · rw [if_neg c18] at H
                          have c18b0 : decide (65 ≤ (bt a0 x8_1)) = false := decide_eq_false c18
                          clear c18
                          have H' := Aside0.mk H
                          clear H
                          have p17 : 0 ≤ (x8_1 : Int) := of_decide_eq_true (by first | (with_reducible assumption) | assumption)
                          have q17 : x8_1 < (a0.size : Int) := of_decide_eq_true (by first | (with_reducible assumption) | assumption)
                          have hx17 := bt_at a0 x8_1
                          replace p17 := eq_true p17
                          replace q17 := eq_true q17
                          go_wp2
                          repeat (go_quiet (fail); try go_wp2)
                          go_roundg kj3
                          case measure => have := HK1.out; have := HJ3.out; omega
                          case rel => exact ⟨(true), (false), (wrap64 (x8_1 + 1)), (by first | rfl | (simp; done) | (simp [*]; done)), (by first | rfl | (simp; done) | (simp [*]; done)), (by first | rfl | (simp; done) | (simp [*]; done)), (by first | exact H' | (subst_vars; exact H')), ⟨by have := HK1.out; have := HJ3.out; omega⟩, ⟨by repeat (first | (with_reducible first | exact HB.out | apply below_alloc | apply pw_below_drewN | apply below_drew1) | exact HB.out)⟩⟩
                      · rw [if_neg c16] at H
                        exact absurd H (by simp)
                    · rw [if_neg c15] at H
                      exact absurd H (by simp)
                · replace c13 := Bool.eq_false_iff.mpr c13
                  subst c13
                  have H1 : (if 0 ≤ x8_1 then (if x8_1 < (a0.size : Int) then (if (bt a0 x8_1) ≥ 97 then (if x7_1 = true then (if (bt a0 x8_1) ≤ 122 then (some ((⟨#[]⟩ : ByteArray), ([] : List Int), 2, some (45, .agg #[]))) else (bech32_DecodeNoLimitWithVersion.l0 kj3 a0 (decide ((bt a0 x8_1) ≤ 122)) true (wrap64 (x8_1 + 1)))) else (if (bt a0 x8_1) ≥ 65 then (if (bt a0 x8_1) ≤ 122 then (if (bt a0 x8_1) ≤ 90 then (some ((⟨#[]⟩ : ByteArray), ([] : List Int), 2, some (45, .agg #[]))) else (bech32_DecodeNoLimitWithVersion.l0 kj3 a0 (decide ((bt a0 x8_1) ≤ 122)) (decide ((bt a0 x8_1) ≤ 90)) (wrap64 (x8_1 + 1)))) else (bech32_DecodeNoLimitWithVersion.l0 kj3 a0 (decide ((bt a0 x8_1) ≤ 122)) (decide ((bt a0 x8_1) ≤ 90)) (wrap64 (x8_1 + 1)))) else (if (bt a0 x8_1) ≤ 122 then (bech32_DecodeNoLimitWithVersion.l0 kj3 a0 (decide ((bt a0 x8_1) ≤ 122)) false (wrap64 (x8_1 + 1))) else (bech32_DecodeNoLimitWithVersion.l0 kj3 a0 (decide ((bt a0 x8_1) ≤ 122)) false (wrap64 (x8_1 + 1)))))) else (if x7_1 = true then (bech32_DecodeNoLimitWithVersion.l0 kj3 a0 false true (wrap64 (x8_1 + 1))) else (if (bt a0 x8_1) ≥ 65 then (bech32_DecodeNoLimitWithVersion.l0 kj3 a0 false (decide ((bt a0 x8_1) ≤ 90)) (wrap64 (x8_1 + 1))) else (bech32_DecodeNoLimitWithVersion.l0 kj3 a0 false false (wrap64 (x8_1 + 1)))))) else (none)) else (none)) = some (r1, r2, r3, r4) := by rw [if_neg (show ¬ (false = true) by decide)] at H; exact H
                  clear H
                  have H := H1
                  clear H1
                  by_cases c21 : 0 ≤ x8_1
                  · rw [if_pos c21] at H
                    have c21b0 : decide (0 ≤ x8_1) = true := decide_eq_true c21
                    clear c21
                    by_cases c22 : x8_1 < (a0.size : Int)
                    · rw [if_pos c22] at H
                      have c22b0 : decide (x8_1 < (a0.size : Int)) = true := decide_eq_true c22
                      clear c22
                      by_cases c24 : (bt a0 x8_1) ≥ 97
                      · rw [if_pos c24] at H
                        have c24b0 : decide (97 ≤ (bt a0 x8_1)) = true := decide_eq_true c24
                        clear c24
                        by_cases c26 : x7_1 = true
                        · subst c26
                          have H1 : (if (bt a0 x8_1) ≤ 122 then (some ((⟨#[]⟩ : ByteArray), ([] : List Int), 2, some (45, .agg #[]))) else (bech32_DecodeNoLimitWithVersion.l0 kj3 a0 (decide ((bt a0 x8_1) ≤ 122)) true (wrap64 (x8_1 + 1)))) = some (r1, r2, r3, r4) := by rw [if_pos rfl] at H; exact H
                          clear H
                          have H := H1
                          clear H1
                          by_cases c27 : (bt a0 x8_1) ≤ 122
                          · rw [if_pos c27] at H
                            have c27b0 : decide ((bt a0 x8_1) ≤ 122) = true := decide_eq_true c27
                            clear c27
                            simp only [Option.some.injEq, Prod.mk.injEq] at H
                            obtain ⟨rfl, rfl, rfl, rfl⟩ := H
                            have p23 : 0 ≤ (x8_1 : Int) := of_decide_eq_true (by first | (with_reducible assumption) | assumption)
                            have q23 : x8_1 < (a0.size : Int) := of_decide_eq_true (by first | (with_reducible assumption) | assumption)
                            have hx23 := bt_at a0 x8_1
                            replace p23 := eq_true p23
                            replace q23 := eq_true q23
                            have p25 : 0 ≤ (x8_1 : Int) := of_decide_eq_true (by first | (with_reducible assumption) | assumption)
                            have q25 : x8_1 < (a0.size : Int) := of_decide_eq_true (by first | (with_reducible assumption) | assumption)
                            have hx25 := bt_at a0 x8_1
                            replace p25 := eq_true p25
                            replace q25 := eq_true q25
                            go_wp2
                            repeat (go_quiet (fail); try go_wp2)
                            refine bodyPost_ret (results_list (rs := [.tmp 2, .tmp 3, .tmp 4, .tmp 5]) rfl (by simp) (.tmp (.tmp (.tmp (.tmp .nil))))) rfl ?_
                            exact ⟨_, _, by first | rfl | (simp [errW_none, errW_some] <;> rfl) | (simp [*, errW_none, errW_some] <;> rfl), by first | exact HE_.out | exact (rfl : _ = Value.nilIface) | exact ⟨_, _, rfl⟩, by first | exact Kd.R_nil _ _ _ _ _ | exact Kd.N_nil _ _ _ _ _ | exact Kd.V_nil _ _ _ _ _ | exact Kd.Q_nil _ _ _ _ _ | exact Kd.S_nil _ _ _ _ _, by repeat (first | (with_reducible first | exact HB.out | apply below_alloc | apply pw_below_drewN | apply below_drew1) | exact HB.out)⟩
                          · rw [if_neg c27] at H
                            have c27b0 : decide ((bt a0 x8_1) ≤ 122) = false := decide_eq_false c27
                            clear c27
                            have H' := Aside0.mk H
                            clear H
                            have p23 : 0 ≤ (x8_1 : Int) := of_decide_eq_true (by first | (with_reducible assumption) | assumption)
                            have q23 : x8_1 < (a0.size : Int) := of_decide_eq_true (by first | (with_reducible assumption) | assumption)
                            have hx23 := bt_at a0 x8_1
                            replace p23 := eq_true p23
                            replace q23 := eq_true q23
                            have p25 : 0 ≤ (x8_1 : Int) := of_decide_eq_true (by first | (with_reducible assumption) | assumption)
                            have q25 : x8_1 < (a0.size : Int) := of_decide_eq_true (by first | (with_reducible assumption) | assumption)
                            have hx25 := bt_at a0 x8_1
                            replace p25 := eq_true p25
                            replace q25 := eq_true q25
                            go_wp2
                            repeat (go_quiet (fail); try go_wp2)
                            go_roundg kj3
                            case measure => have := HK1.out; have := HJ3.out; omega
                            case rel => exact ⟨(decide ((bt a0 x8_1) ≤ 122)), (true), (wrap64 (x8_1 + 1)), (by first | rfl | (simp; done) | (simp [*]; done)), (by first | rfl | (simp; done) | (simp [*]; done)), (by first | rfl | (simp; done) | (simp [*]; done)), (by first | exact H' | (subst_vars; exact H')), ⟨by have := HK1.out; have := HJ3.out; omega⟩, ⟨by repeat (first | (with_reducible first | exact HB.out | apply below_alloc | apply pw_below_drewN | apply below_drew1) | exact HB.out)⟩⟩
                        · replace c26 := Bool.eq_false_iff.mpr c26
                          subst c26
                          have H1 : (if (bt a0 x8_1) ≥ 65 then (if (bt a0 x8_1) ≤ 122 then (if (bt a0 x8_1) ≤ 90 then (some ((⟨#[]⟩ : ByteArray), ([] : List Int), 2, some (45, .agg #[]))) else (bech32_DecodeNoLimitWithVersion.l0 kj3 a0 (decide ((bt a0 x8_1) ≤ 122)) (decide ((bt a0 x8_1) ≤ 90)) (wrap64 (x8_1 + 1)))) else (bech32_DecodeNoLimitWithVersion.l0 kj3 a0 (decide ((bt a0 x8_1) ≤ 122)) (decide ((bt a0 x8_1) ≤ 90)) (wrap64 (x8_1 + 1)))) else (if (bt a0 x8_1) ≤ 122 then (bech32_DecodeNoLimitWithVersion.l0 kj3 a0 (decide ((bt a0 x8_1) ≤ 122)) false (wrap64 (x8_1 + 1))) else (bech32_DecodeNoLimitWithVersion.l0 kj3 a0 (decide ((bt a0 x8_1) ≤ 122)) false (wrap64 (x8_1 + 1))))) = some (r1, r2, r3, r4) := by rw [if_neg (show ¬ (false = true) by decide)] at H; exact H
                          clear H
                          have H := H1
                          clear H1
                          by_cases c29 : (bt a0 x8_1) ≥ 65
                          · rw [if_pos c29] at H
                            have c29b0 : decide (65 ≤ (bt a0 x8_1)) = true := decide_eq_true c29
                            clear c29
                            by_cases c31 : (bt a0 x8_1) ≤ 122
                            · rw [if_pos c31] at H
                              have c31b0 : decide ((bt a0 x8_1) ≤ 122) = true := decide_eq_true c31
                              clear c31
                              by_cases c32 : (bt a0 x8_1) ≤ 90
                              · rw [if_pos c32] at H
                                have c32b0 : decide ((bt a0 x8_1) ≤ 90) = true := decide_eq_true c32
                                clear c32
                                simp only [Option.some.injEq, Prod.mk.injEq] at H
                                obtain ⟨rfl, rfl, rfl, rfl⟩ := H
                                have p23 : 0 ≤ (x8_1 : Int) := of_decide_eq_true (by first | (with_reducible assumption) | assumption)
                                have q23 : x8_1 < (a0.size : Int) := of_decide_eq_true (by first | (with_reducible assumption) | assumption)
                                have hx23 := bt_at a0 x8_1
                                replace p23 := eq_true p23
                                replace q23 := eq_true q23
                                have p25 : 0 ≤ (x8_1 : Int) := of_decide_eq_true (by first | (with_reducible assumption) | assumption)
                                have q25 : x8_1 < (a0.size : Int) := of_decide_eq_true (by first | (with_reducible assumption) | assumption)
                                have hx25 := bt_at a0 x8_1
                                replace p25 := eq_true p25
                                replace q25 := eq_true q25
                                have p28 : 0 ≤ (x8_1 : Int) := of_decide_eq_true (by first | (with_reducible assumption) | assumption)
                                have q28 : x8_1 < (a0.size : Int) := of_decide_eq_true (by first | (with_reducible assumption) | assumption)
                                have hx28 := bt_at a0 x8_1
                                replace p28 := eq_true p28
                                replace q28 := eq_true q28
                                have p30 : 0 ≤ (x8_1 : Int) := of_decide_eq_true (by first | (with_reducible assumption) | assumption)
                                have q30 : x8_1 < (a0.size : Int) := of_decide_eq_true (by first | (with_reducible assumption) | assumption)
                                have hx30 := bt_at a0 x8_1
                                replace p30 := eq_true p30
                                replace q30 := eq_true q30
                                go_wp2
                                repeat (go_quiet (fail); try go_wp2)
                                refine bodyPost_ret (results_list (rs := [.tmp 2, .tmp 3, .tmp 4, .tmp 5]) rfl (by simp) (.tmp (.tmp (.tmp (.tmp .nil))))) rfl ?_
                                exact ⟨_, _, by first | rfl | (simp [errW_none, errW_some] <;> rfl) | (simp [*, errW_none, errW_some] <;> rfl), by first | exact HE_.out | exact (rfl : _ = Value.nilIface) | exact ⟨_, _, rfl⟩, by first | exact Kd.R_nil _ _ _ _ _ | exact Kd.N_nil _ _ _ _ _ | exact Kd.V_nil _ _ _ _ _ | exact Kd.Q_nil _ _ _ _ _ | exact Kd.S_nil _ _ _ _ _, by repeat (first | (with_reducible first | exact HB.out | apply below_alloc | apply pw_below_drewN | apply below_drew1) | exact HB.out)⟩
                              · rw [if_neg c32] at H
                                have c32b0 : decide ((bt a0 x8_1) ≤ 90) = false := decide_eq_false c32
                                clear c32
                                have H' := Aside0.mk H
                                clear H
                                have p23 : 0 ≤ (x8_1 : Int) := of_decide_eq_true (by first | (with_reducible assumption) | assumption)
                                have q23 : x8_1 < (a0.size : Int) := of_decide_eq_true (by first | (with_reducible assumption) | assumption)
                                have hx23 := bt_at a0 x8_1
                                replace p23 := eq_true p23
                                replace q23 := eq_true q23
                                have p25 : 0 ≤ (x8_1 : Int) := of_decide_eq_true (by first | (with_reducible assumption) | assumption)
                                have q25 : x8_1 < (a0.size : Int) := of_decide_eq_true (by first | (with_reducible assumption) | assumption)
                                have hx25 := bt_at a0 x8_1
                                replace p25 := eq_true p25
                                replace q25 := eq_true q25
                                have p28 : 0 ≤ (x8_1 : Int) := of_decide_eq_true (by first | (with_reducible assumption) | assumption)
                                have q28 : x8_1 < (a0.size : Int) := of_decide_eq_true (by first | (with_reducible assumption) | assumption)
                                have hx28 := bt_at a0 x8_1
                                replace p28 := eq_true p28
                                replace q28 := eq_true q28
                                have p30 : 0 ≤ (x8_1 : Int) := of_decide_eq_true (by first | (with_reducible assumption) | assumption)
                                have q30 : x8_1 < (a0.size : Int) := of_decide_eq_true (by first | (with_reducible assumption) | assumption)
                                have hx30 := bt_at a0 x8_1
                                replace p30 := eq_true p30
                                replace q30 := eq_true q30
                                go_wp2
                                repeat (go_quiet (fail); try go_wp2)
                                go_roundg kj3
                                case measure => have := HK1.out; have := HJ3.out; omega
                                case rel => exact ⟨(decide ((bt a0 x8_1) ≤ 122)), (decide ((bt a0 x8_1) ≤ 90)), (wrap64 (x8_1 + 1)), (by first | rfl | (simp; done) | (simp [*]; done)), (by first | rfl | (simp; done) | (simp [*]; done)), (by first | rfl | (simp; done) | (simp [*]; done)), (by first | exact H' | (subst_vars; exact H')), ⟨by have := HK1.out; have := HJ3.out; omega⟩, ⟨by repeat (first | (with_reducible first | exact HB.out | apply below_alloc | apply pw_below_drewN | apply below_drew1) | exact HB.out)⟩⟩
                            · rw [if_neg c31] at H
                              have c31b0 : decide ((bt a0 x8_1) ≤ 122) = false := decide_eq_false c31
                              clear c31
                              have H' := Aside0.mk H
                              clear H
                              have p23 : 0 ≤ (x8_1 : Int) := of_decide_eq_true (by first | (with_reducible assumption) | assumption)
                              have q23 : x8_1 < (a0.size : Int) := of_decide_eq_true (by first | (with_reducible assumption) | assumption)
                              have hx23 := bt_at a0 x8_1
                              replace p23 := eq_true p23
                              replace q23 := eq_true q23
                              have p25 : 0 ≤ (x8_1 : Int) := of_decide_eq_true (by first | (with_reducible assumption) | assumption)
                              have q25 : x8_1 < (a0.size : Int) := of_decide_eq_true (by first | (with_reducible assumption) | assumption)
                              have hx25 := bt_at a0 x8_1
                              replace p25 := eq_true p25
                              replace q25 := eq_true q25
                              have p28 : 0 ≤ (x8_1 : Int) := of_decide_eq_true (by first | (with_reducible assumption) | assumption)
                              have q28 : x8_1 < (a0.size : Int) := of_decide_eq_true (by first | (with_reducible assumption) | assumption)
                              have hx28 := bt_at a0 x8_1
                              replace p28 := eq_true p28
                              replace q28 := eq_true q28
                              have p30 : 0 ≤ (x8_1 : Int) := of_decide_eq_true (by first | (with_reducible assumption) | assumption)
                              have q30 : x8_1 < (a0.size : Int) := of_decide_eq_true (by first | (with_reducible assumption) | assumption)
                              have hx30 := bt_at a0 x8_1
                              replace p30 := eq_true p30
                              replace q30 := eq_true q30
                              go_wp2
                              repeat (go_quiet (fail); try go_wp2)
                              go_roundg kj3
                              case measure => have := HK1.out; have := HJ3.out; omega
                              case rel => exact ⟨(decide ((bt a0 x8_1) ≤ 122)), (decide ((bt a0 x8_1) ≤ 90)), (wrap64 (x8_1 + 1)), (by first | rfl | (simp; done) | (simp [*]; done)), (by first | rfl | (simp; done) | (simp [*]; done)), (by first | rfl | (simp; done) | (simp [*]; done)), (by first | exact H' | (subst_vars; exact H')), ⟨by have := HK1.out; have := HJ3.out; omega⟩, ⟨by repeat (first | (with_reducible first | exact HB.out | apply below_alloc | apply pw_below_drewN | apply below_drew1) | exact HB.out)⟩⟩
                          · rw [if_neg c29] at H
                            have c29b0 : decide (65 ≤ (bt a0 x8_1)) = false := decide_eq_false c29
                            clear c29
                            by_cases c33 : (bt a0 x8_1) ≤ 122
                            · rw [if_pos c33] at H
                              have c33b0 : decide ((bt a0 x8_1) ≤ 122) = true := decide_eq_true c33
                              clear c33
                              have H' := Aside0.mk H
                              clear H
                              have p23 : 0 ≤ (x8_1 : Int) := of_decide_eq_true (by first | (with_reducible assumption) | assumption)
                              have q23 : x8_1 < (a0.size : Int) := of_decide_eq_true (by first | (with_reducible assumption) | assumption)
                              have hx23 := bt_at a0 x8_1
                              replace p23 := eq_true p23
                              replace q23 := eq_true q23
                              have p25 : 0 ≤ (x8_1 : Int) := of_decide_eq_true (by first | (with_reducible assumption) | assumption)
                              have q25 : x8_1 < (a0.size : Int) := of_decide_eq_true (by first | (with_reducible assumption) | assumption)
                              have hx25 := bt_at a0 x8_1
                              replace p25 := eq_true p25
                              replace q25 := eq_true q25
                              have p28 : 0 ≤ (x8_1 : Int) := of_decide_eq_true (by first | (with_reducible assumption) | assumption)
                              have q28 : x8_1 < (a0.size : Int) := of_decide_eq_true (by first | (with_reducible assumption) | assumption)
                              have hx28 := bt_at a0 x8_1
                              replace p28 := eq_true p28
                              replace q28 := eq_true q28
                              go_wp2
                              repeat (go_quiet (fail); try go_wp2)
                              go_roundg kj3
                              case measure => have := HK1.out; have := HJ3.out; omega
                              case rel => exact ⟨(decide ((bt a0 x8_1) ≤ 122)), (false), (wrap64 (x8_1 + 1)), (by first | rfl | (simp; done) | (simp [*]; done)), (by first | rfl | (simp; done) | (simp [*]; done)), (by first | rfl | (simp; done) | (simp [*]; done)), (by first | exact H' | (subst_vars; exact H')), ⟨by have := HK1.out; have := HJ3.out; omega⟩, ⟨by repeat (first | (with_reducible first | exact HB.out | apply below_alloc | apply pw_below_drewN | apply below_drew1) | exact HB.out)⟩⟩
                            · rw [if_neg c33] at H
                              have c33b0 : decide ((bt a0 x8_1) ≤ 122) = false := decide_eq_false c33
                              clear c33
                              have H' := Aside0.mk H
                              clear H
                              have p23 : 0 ≤ (x8_1 : Int) := of_decide_eq_true (by first | (with_reducible assumption) | assumption)
                              have q23 : x8_1 < (a0.size : Int) := of_decide_eq_true (by first | (with_reducible assumption) | assumption)
                              have hx23 := bt_at a0 x8_1
                              replace p23 := eq_true p23
                              replace q23 := eq_true q23
                              have p25 : 0 ≤ (x8_1 : Int) := of_decide_eq_true (by first | (with_reducible assumption) | assumption)
                              have q25 : x8_1 < (a0.size : Int) := of_decide_eq_true (by first | (with_reducible assumption) | assumption)
                              have hx25 := bt_at a0 x8_1
                              replace p25 := eq_true p25
                              replace q25 := eq_true q25
                              have p28 : 0 ≤ (x8_1 : Int) := of_decide_eq_true (by first | (with_reducible assumption) | assumption)
                              have q28 : x8_1 < (a0.size : Int) := of_decide_eq_true (by first | (with_reducible assumption) | assumption)
                              have hx28 := bt_at a0 x8_1
                              replace p28 := eq_true p28
                              replace q28 := eq_true q28
                              go_wp2
                              repeat (go_quiet (fail); try go_wp2)
                              go_roundg kj3
                              case measure => have := HK1.out; have := HJ3.out; omega
                              case rel => exact ⟨(decide ((bt a0 x8_1) ≤ 122)), (false), (wrap64 (x8_1 + 1)), (by first | rfl | (simp; done) | (simp [*]; done)), (by first | rfl | (simp; done) | (simp [*]; done)), (by first | rfl | (simp; done) | (simp [*]; done)), (by first | exact H' | (subst_vars; exact H')), ⟨by have := HK1.out; have := HJ3.out; omega⟩, ⟨by repeat (first | (with_reducible first | exact HB.out | apply below_alloc | apply pw_below_drewN | apply below_drew1) | exact HB.out)⟩⟩
                      · rw [if_neg c24] at H
                        have c24b0 : decide (97 ≤ (bt a0 x8_1)) = false := decide_eq_false c24
                        clear c24
                        by_cases c34 : x7_1 = true
                        · subst c34
                          have H1 : (bech32_DecodeNoLimitWithVersion.l0 kj3 a0 false true (wrap64 (x8_1 + 1))) = some (r1, r2, r3, r4) := by rw [if_pos rfl] at H; exact H
                          clear H
                          have H := H1
                          clear H1
                          have H' := Aside0.mk H
                          clear H
                          have p23 : 0 ≤ (x8_1 : Int) := of_decide_eq_true (by first | (with_reducible assumption) | assumption)
                          have q23 : x8_1 < (a0.size : Int) := of_decide_eq_true (by first | (with_reducible assumption) | assumption)
                          have hx23 := bt_at a0 x8_1
                          replace p23 := eq_true p23
                          replace q23 := eq_true q23
                          go_wp2
                          repeat (go_quiet (fail); try go_wp2)
                          go_roundg kj3
                          case measure => have := HK1.out; have := HJ3.out; omega
                          case rel => exact ⟨(false), (true), (wrap64 (x8_1 + 1)), (by first | rfl | (simp; done) | (simp [*]; done)), (by first | rfl | (simp; done) | (simp [*]; done)), (by first | rfl | (simp; done) | (simp [*]; done)), (by first | exact H' | (subst_vars; exact H')), ⟨by have := HK1.out; have := HJ3.out; omega⟩, ⟨by repeat (first | (with_reducible first | exact HB.out | apply below_alloc | apply pw_below_drewN | apply below_drew1) | exact HB.out)⟩⟩
                        · replace c34 := Bool.eq_false_iff.mpr c34
                          subst c34
                          have H1 : (if (bt a0 x8_1) ≥ 65 then (bech32_DecodeNoLimitWithVersion.l0 kj3 a0 false (decide ((bt a0 x8_1) ≤ 90)) (wrap64 (x8_1 + 1))) else (bech32_DecodeNoLimitWithVersion.l0 kj3 a0 false false (wrap64 (x8_1 + 1)))) = some (r1, r2, r3, r4) := by rw [if_neg (show ¬ (false = true) by decide)] at H; exact H
                          clear H
                          have H := H1
                          clear H1
                          by_cases c36 : (bt a0 x8_1) ≥ 65
                          · rw [if_pos c36] at H
                            have c36b0 : decide (65 ≤ (bt a0 x8_1)) = true := decide_eq_true c36
                            clear c36
                            have H' := Aside0.mk H
                            clear H
                            have p23 : 0 ≤ (x8_1 : Int) := of_decide_eq_true (by first | (with_reducible assumption) | assumption)
                            have q23 : x8_1 < (a0.size : Int) := of_decide_eq_true (by first | (with_reducible assumption) | assumption)
                            have hx23 := bt_at a0 x8_1
                            replace p23 := eq_true p23
                            replace q23 := eq_true q23
                            have p35 : 0 ≤ (x8_1 : Int) := of_decide_eq_true (by first | (with_reducible assumption) | assumption)
                            have q35 : x8_1 < (a0.size : Int) := of_decide_eq_true (by first | (with_reducible assumption) | assumption)
                            have hx35 := bt_at a0 x8_1
                            replace p35 := eq_true p35
                            replace q35 := eq_true q35
                            have p37 : 0 ≤ (x8_1 : Int) := of_decide_eq_true (by first | (with_reducible assumption) | assumption)
                            have q37 : x8_1 < (a0.size : Int) := of_decide_eq_true (by first | (with_reducible assumption) | assumption)
                            have hx37 := bt_at a0 x8_1
                            replace p37 := eq_true p37
                            replace q37 := eq_true q37
                            go_wp2
                            repeat (go_quiet (fail); try go_wp2)
                            go_roundg kj3
                            case measure => have := HK1.out; have := HJ3.out; omega
                            case rel => exact ⟨(false), (decide ((bt a0 x8_1) ≤ 90)), (wrap64 (x8_1 + 1)), (by first | rfl | (simp; done) | (simp [*]; done)), (by first | rfl | (simp; done) | (simp [*]; done)), (by first | rfl | (simp; done) | (simp [*]; done)), (by first | exact H' | (subst_vars; exact H')), ⟨by have := HK1.out; have := HJ3.out; omega⟩, ⟨by repeat (first | (with_reducible first | exact HB.out | apply below_alloc | apply pw_below_drewN | apply below_drew1) | exact HB.out)⟩⟩
                          · rw [if_neg c36] at H
                            have c36b0 : decide (65 ≤ (bt a0 x8_1)) = false := decide_eq_false c36
                            clear c36
                            have H' := Aside0.mk H
                            clear H
                            have p23 : 0 ≤ (x8_1 : Int) := of_decide_eq_true (by first | (with_reducible assumption) | assumption)
                            have q23 : x8_1 < (a0.size : Int) := of_decide_eq_true (by first | (with_reducible assumption) | assumption)
                            have hx23 := bt_at a0 x8_1
                            replace p23 := eq_true p23
                            replace q23 := eq_true q23
                            have p35 : 0 ≤ (x8_1 : Int) := of_decide_eq_true (by first | (with_reducible assumption) | assumption)
                            have q35 : x8_1 < (a0.size : Int) := of_decide_eq_true (by first | (with_reducible assumption) | assumption)
                            have hx35 := bt_at a0 x8_1
                            replace p35 := eq_true p35
                            replace q35 := eq_true q35
                            go_wp2
                            repeat (go_quiet (fail); try go_wp2)
                            go_roundg kj3
                            case measure => have := HK1.out; have := HJ3.out; omega
                            case rel => exact ⟨(false), (false), (wrap64 (x8_1 + 1)), (by first | rfl | (simp; done) | (simp [*]; done)), (by first | rfl | (simp; done) | (simp [*]; done)), (by first | rfl | (simp; done) | (simp [*]; done)), (by first | exact H' | (subst_vars; exact H')), ⟨by have := HK1.out; have := HJ3.out; omega⟩, ⟨by repeat (first | (with_reducible first | exact HB.out | apply below_alloc | apply pw_below_drewN | apply below_drew1) | exact HB.out)⟩⟩
                    · rw [if_neg c22] at H
                      exact absurd H (by simp)
                  · rw [if_neg c21] at H
                    exact absurd H (by simp)
        · rw [if_neg c3] at H
          have c3b0 : decide (x8_1 < (a0.size : Int)) = false := decide_eq_false c3
          clear c3
          have HC38 := Aside0.mk H
          clear H
          go_upto_if 81 with (fail)
          repeat (go_quiet (fail); go_upto_if 81 with (fail))
          go_cut [0] (fun v0 wc => ∃ (kq : Nat) (x0_37 : ByteArray), v0 = .string x0_37 ∧ Aside0 (bech32_DecodeNoLimitWithVersion.j2 kq x0_37 = some (r1, r2, r3, r4)) ∧ Aside0 (kq ≤ k1) ∧ Aside0 (Below w.heap.size w wc))
          case first =>
            have H := HC38.out
            clear HC38
            by_cases c39 : x7_1 = true
            · subst c39
              have H1 : ((bech32_lower.f a0).bind fun t153 => (bech32_DecodeNoLimitWithVersion.j2 k1 t153)) = some (r1, r2, r3, r4) := by rw [if_pos rfl] at H; exact H
              clear H
              have H := H1
              clear H1
              replace H := Option.bind_eq_some_iff.mp H
              obtain ⟨t153, A400, H⟩ := H
              replace H : (bech32_DecodeNoLimitWithVersion.j2 k1 t153) = some (r1, r2, r3, r4) := H
              have A40 := Aside0.mk A400
              clear A400
              have H' := Aside0.mk H
              clear H
              go_wp2_with (first | (go_at_call 15; (with_reducible refine (bech32_lower.calls a0 t153 _ A40.out).mono ?_); rintro e w41 ⟨rfl, hb⟩; have n0_ := Aside0.mk (below_step (by repeat (first | (with_reducible first | exact HB.out | apply below_alloc | apply pw_below_drewN | apply below_drew1) | exact HB.out)) hb); clear HB; have HB := n0_; clear n0_; (try clear hb); (try clear hb2); (try clear hk); (try clear hi)))
              repeat (go_quiet (first | (go_at_call 15; (with_reducible refine (bech32_lower.calls a0 t153 _ A40.out).mono ?_); rintro e w41 ⟨rfl, hb⟩; have n0_ := Aside0.mk (below_step (by repeat (first | (with_reducible first | exact HB.out | apply below_alloc | apply pw_below_drewN | apply below_drew1) | exact HB.out)) hb); clear HB; have HB := n0_; clear n0_; (try clear hb); (try clear hb2); (try clear hk); (try clear hi))); try go_wp2_with (first | (go_at_call 15; (with_reducible refine (bech32_lower.calls a0 t153 _ A40.out).mono ?_); rintro e w41 ⟨rfl, hb⟩; have n0_ := Aside0.mk (below_step (by repeat (first | (with_reducible first | exact HB.out | apply below_alloc | apply pw_below_drewN | apply below_drew1) | exact HB.out)) hb); clear HB; have HB := n0_; clear n0_; (try clear hb); (try clear hb2); (try clear hk); (try clear hi))))
              go_meet
              case rel => exact ⟨_, (t153), (by first | rfl | (simp; done) | (simp [*]; done)), (by first | exact H' | (subst_vars; exact H')), ⟨by have := HK1.out; first | omega | exact Nat.le_refl _⟩, ⟨by repeat (first | (with_reducible first | exact HB.out | apply below_alloc | apply pw_below_drewN | apply below_drew1) | exact HB.out)⟩⟩
            · replace c39 := Bool.eq_false_iff.mpr c39
              subst c39
              have H1 : (bech32_DecodeNoLimitWithVersion.j2 k1 a0) = some (r1, r2, r3, r4) := by rw [if_neg (show ¬ (false = true) by decide)] at H; exact H
              clear H
              have H := H1
              clear H1
              have H' := Aside0.mk H
              clear H
              go_wp2
              repeat (go_quiet (fail); try go_wp2)
              go_meet
              case rel => exact ⟨_, (a0), (by first | rfl | (simp; done) | (simp [*]; done)), (by first | exact H' | (subst_vars; exact H')), ⟨by have := HK1.out; first | omega | exact Nat.le_refl _⟩, ⟨by repeat (first | (with_reducible first | exact HB.out | apply below_alloc | apply pw_below_drewN | apply below_drew1) | exact HB.out)⟩⟩
          case rest =>
            clear HC38
            try clear c1
            try clear p1
            try clear q1
            try clear hx1
            try clear c2
            try clear c2b0
            try clear c2b1
            try clear p2
            try clear q2
            try clear hx2
            try clear c3
            try clear c3b0
            try clear p3
            try clear q3
            try clear hx3
            try clear c5
            try clear c5b0
            try clear p6
            try clear q6
            try clear hx6
            try clear c7
            try clear c7b0
            try clear p8
            try clear q8
            try clear hx8
            try clear c9
            try clear c10
            try clear c10b0
            try clear c11
            try clear c11b0
            try clear p12
            try clear q12
            try clear hx12
            try clear c13
            try clear c14
            try clear c15
            try clear c15b0
            try clear c16
            try clear c16b0
            try clear p17
            try clear q17
            try clear hx17
            try clear c18
            try clear c18b0
            try clear p19
            try clear q19
            try clear hx19
            try clear c20
            try clear c20b0
            try clear c21
            try clear c21b0
            try clear c22
            try clear c22b0
            try clear p23
            try clear q23
            try clear hx23
            try clear c24
            try clear c24b0
            try clear p25
            try clear q25
            try clear hx25
            try clear c26
            try clear c27
            try clear c27b0
            try clear p28
            try clear q28
            try clear hx28
            try clear c29
            try clear c29b0
            try clear p30
            try clear q30
            try clear hx30
            try clear c31
            try clear c31b0
            try clear c32
            try clear c32b0
            try clear p32
            try clear c33
            try clear c33b0
            try clear c34
            try clear p35
            try clear q35
            try clear hx35
            try clear c36
            try clear c36b0
            try clear p37
            try clear q37
            try clear hx37
            try clear c39
            try clear p12
            try clear p17
            try clear p19
            try clear p2
            try clear p23
            try clear p25
            try clear p28
            try clear p30
            try clear p35
            try clear p37
            try clear p6
            try clear p8
            try clear q12
            try clear q17
            try clear q19
            try clear q23
            try clear q25
            try clear q28
            try clear q30
            try clear q35
            try clear q37
            try clear q6
            try clear q8
            obtain ⟨kq, x0_37, rfl, HA, HJ37, HB⟩ := hcut
            cases kq with
            | zero => exact absurd HA.out (by simp [bech32_DecodeNoLimitWithVersion.j2])
            | succ kj37 =>
              have H := HA.out
              clear HA
              simp only [bech32_DecodeNoLimitWithVersion.j2] at H
              replace H := Option.bind_eq_some_iff.mp H
              obtain ⟨t154, A420, H⟩ := H
              replace H : (if t154 < 1 then (bech32_DecodeNoLimitWithVersion.j3 kj37 x0_37 t154 true) else (bech32_DecodeNoLimitWithVersion.j3 kj37 x0_37 t154 (decide ((wrap64 (t154 + 7)) > (x0_37.size : Int))))) = some (r1, r2, r3, r4) := H
              have A42 := Aside0.mk A420
              clear A420
              have HC43 := Aside0.mk H
              clear H
              go_upto_region 16 with (first | (go_at_call 16; (with_reducible refine (strings_LastIndexByte.calls kj37 x0_37 49 t154 _ A42.out).mono ?_); rintro e w' ⟨rfl, ⟨nd, rfl⟩⟩; (try first | exact ⟨rfl, _, World.drewN_drewN _ _ _⟩ | exact ⟨rfl, _, Eq.trans (World.drewN_drewN _ _ _) (congrArg (World.drewN _) (Nat.add_assoc _ _ _))⟩)))
              repeat (go_quiet (first | (go_at_call 16; (with_reducible refine (strings_LastIndexByte.calls kj37 x0_37 49 t154 _ A42.out).mono ?_); rintro e w' ⟨rfl, ⟨nd, rfl⟩⟩; (try first | exact ⟨rfl, _, World.drewN_drewN _ _ _⟩ | exact ⟨rfl, _, Eq.trans (World.drewN_drewN _ _ _) (congrArg (World.drewN _) (Nat.add_assoc _ _ _))⟩))); go_upto_region 16 with (first | (go_at_call 16; (with_reducible refine (strings_LastIndexByte.calls kj37 x0_37 49 t154 _ A42.out).mono ?_); rintro e w' ⟨rfl, ⟨nd, rfl⟩⟩; (try first | exact ⟨rfl, _, World.drewN_drewN _ _ _⟩ | exact ⟨rfl, _, Eq.trans (World.drewN_drewN _ _ _) (congrArg (World.drewN _) (Nat.add_assoc _ _ _))⟩))))
              (try simp only [Act.put, List.setIfInBounds_toArray, List.set_cons_zero, List.set_cons_succ])
              go_cut [94] (fun v94 wc => ∃ (kq : Nat) (x94_42 : Bool), v94 = .bool x94_42 ∧ Aside0 (bech32_DecodeNoLimitWithVersion.j3 kq x0_37 t154 x94_42 = some (r1, r2, r3, r4)) ∧ Aside0 (kq ≤ kj37) ∧ Aside0 (Below w.heap.size w wc))
              case first =>
                have H := HC43.out
                clear HC43
                by_cases c44 : t154 < 1
                · rw [if_pos c44] at H
                  have c44b0 : decide (t154 < 1) = true := decide_eq_true c44
                  clear c44
                  (first | rw [c44b0] | (simp only [i64_w, i32_w]; rw [c44b0]) | skip)
                  have H' := Aside0.mk H
                  clear H
                  go_wp2
                  repeat (go_quiet (fail); try go_wp2)
                  go_meet
                  case rel => exact ⟨_, (true), (by first | rfl | (simp; done) | (simp [*]; done)), (by first | exact H' | (subst_vars; exact H')), ⟨by have := HK1.out; have := HJ37.out; first | omega | exact Nat.le_refl _⟩, ⟨by repeat (first | (with_reducible first | exact HB.out | apply below_alloc | apply pw_below_drewN | apply below_drew1) | exact HB.out)⟩⟩
                · rw [if_neg c44] at H
                  have c44b0 : decide (t154 < 1) = false := decide_eq_false c44
                  clear c44
                  (first | rw [c44b0] | (simp only [i64_w, i32_w]; rw [c44b0]) | skip)
                  have H' := Aside0.mk H
                  clear H
                  go_wp2
                  repeat (go_quiet (fail); try go_wp2)
                  go_meet
                  case rel => exact ⟨_, (decide ((wrap64 (t154 + 7)) > (x0_37.size : Int))), (by first | rfl | (simp; done) | (simp [*]; done)), (by first | exact H' | (subst_vars; exact H')), ⟨by have := HK1.out; have := HJ37.out; first | omega | exact Nat.le_refl _⟩, ⟨by repeat (first | (with_reducible first | exact HB.out | apply below_alloc | apply pw_below_drewN | apply below_drew1) | exact HB.out)⟩⟩
              case rest =>
                clear HC43
                try clear c1
                try clear p1
                try clear q1
                try clear hx1
                try clear c2
                try clear c2b0
                try clear c2b1
                try clear p2
                try clear q2
                try clear hx2
                try clear c3
                try clear c3b0
                try clear p3
                try clear q3
                try clear hx3
                try clear c4
                try clear c5
                try clear c5b0
                try clear p6
                try clear q6
                try clear hx6
                try clear c7
                try clear c7b0
                try clear p8
                try clear q8
                try clear hx8
                try clear c9
                try clear c10
                try clear c10b0
                try clear c11
                try clear c11b0
                try clear p12
                try clear q12
                try clear hx12
                try clear c13
                try clear c14
                try clear c15
                try clear c15b0
                try clear c16
                try clear c16b0
                try clear p17
                try clear q17
                try clear hx17
                try clear c18
                try clear c18b0
                try clear p19
                try clear q19
                try clear hx19
                try clear c20
                try clear c20b0
                try clear c21
                try clear c21b0
                try clear c22
                try clear c22b0
                try clear p23
                try clear q23
                try clear hx23
                try clear c24
                try clear c24b0
                try clear p25
                try clear q25
                try clear hx25
                try clear c26
                try clear c27
                try clear c27b0
                try clear p28
                try clear q28
                try clear hx28
                try clear c29
                try clear c29b0
                try clear p30
                try clear q30
                try clear hx30
                try clear c31
                try clear c31b0
                try clear c32
                try clear c32b0
                try clear p32
                try clear c33
                try clear c33b0
                try clear c34
                try clear p35
                try clear q35
                try clear hx35
                try clear c36
                try clear c36b0
                try clear p37
                try clear q37
                try clear hx37
                try clear c39
                try clear c44
                try clear c44b0
                try clear p1
                try clear p12
                try clear p17
                try clear p19
                try clear p2
                try clear p23
                try clear p25
                try clear p28
                try clear p3
                try clear p30
                try clear p32
                try clear p35
                try clear p37
                try clear p6
                try clear p8
                try clear q1
                try clear q12
                try clear q17
                try clear q19
                try clear q2
                try clear q23
                try clear q25
                try clear q28
                try clear q3
                try clear q30
                try clear q35
                try clear q37
                try clear q6
                try clear q8
                obtain ⟨kq, x94_42, rfl, HA, HJ42, HB⟩ := hcut
                cases kq with
                | zero => exact absurd HA.out (by simp [bech32_DecodeNoLimitWithVersion.j3])
                | succ kj42 =>
                  have H := HA.out
                  clear HA
                  simp only [bech32_DecodeNoLimitWithVersion.j3] at H
                  by_cases c45 : x94_42 = true
                  · subst c45
                    have H1 : (some ((⟨#[]⟩ : ByteArray), ([] : List Int), 2, some (46, .int .i64 t154))) = some (r1, r2, r3, r4) := by rw [if_pos rfl] at H; exact H
                    clear H
                    have H := H1
                    clear H1
                    simp only [Option.some.injEq, Prod.mk.injEq] at H
                    obtain ⟨rfl, rfl, rfl, rfl⟩ := H
                    go_wp2
                    repeat (go_quiet (fail); try go_wp2)
                    refine bodyPost_ret (results_list (rs := [.tmp 2, .tmp 3, .tmp 4, .tmp 5]) rfl (by simp) (.tmp (.tmp (.tmp (.tmp .nil))))) rfl ?_
                    exact ⟨_, _, by first | rfl | (simp [errW_none, errW_some] <;> rfl) | (simp [*, errW_none, errW_some] <;> rfl), by first | exact HE_.out | exact (rfl : _ = Value.nilIface) | exact ⟨_, _, rfl⟩, by first | exact Kd.R_nil _ _ _ _ _ | exact Kd.N_nil _ _ _ _ _ | exact Kd.V_nil _ _ _ _ _ | exact Kd.Q_nil _ _ _ _ _ | exact Kd.S_nil _ _ _ _ _, by repeat (first | (with_reducible first | exact HB.out | apply below_alloc | apply pw_below_drewN | apply below_drew1) | exact HB.out)⟩
                  · replace c45 := Bool.eq_false_iff.mpr c45
                    subst c45
                    have H1 : (if 0 ≤ t154 then (if t154 ≤ (x0_37.size : Int) then (if 0 ≤ (wrap64 (t154 + 1)) then (if (wrap64 (t154 + 1)) ≤ (x0_37.size : Int) then ((bech32_toBytes.f kj42 (x0_37.extract ((wrap64 (t154 + 1)) : Int).toNat x0_37.size)).bind fun bt155 => (if bt155.2.isNone = true then ((bech32_bech32VerifyChecksum.f (x0_37.extract 0 (t154 : Int).toNat) bt155.1).bind fun bt160 => (if bt160.2 = true then (if 0 ≤ (wrap64 ((bt155.1.length : Int) - 6)) then (if (wrap64 ((bt155.1.length : Int) - 6)) ≤ (bt155.1.length : Int) then (some (x0_37.extract 0 (t154 : Int).toNat, (bt155.1.take ((wrap64 ((bt155.1.length : Int) - 6)) : Int).toNat), bt160.1, none)) else (none)) else (none)) else (some ((⟨#[]⟩ : ByteArray), ([] : List Int), 2, some (42, .int .i64 0))))) else (some ((⟨#[]⟩ : ByteArray), ([] : List Int), 2, some (bt155.2.getD (0, Value.bool false)))))) else (none)) else (none)) else (none)) else (none)) = some (r1, r2, r3, r4) := by rw [if_neg (show ¬ (false = true) by decide)] at H; exact H
                    clear H
                    have H := H1
                    clear H1
                    by_cases c46 : 0 ≤ t154
                    · rw [if_pos c46] at H
                      have c46b0 := eq_true c46
                      have c46b1 : decide (0 ≤ t154) = true := decide_eq_true c46
                      clear c46
                      by_cases c47 : t154 ≤ (x0_37.size : Int)
                      · rw [if_pos c47] at H
                        have c47b0 := eq_true c47
                        have c47b1 : decide (t154 ≤ (x0_37.size : Int)) = true := decide_eq_true c47
                        clear c47
                        obtain ⟨ji48, hji48⟩ : ∃ j_ : Int, (wrap64 (t154 + 1)) = j_ := ⟨_, rfl⟩
                        replace H : (if 0 ≤ (ji48) then (if (ji48) ≤ (x0_37.size : Int) then ((bech32_toBytes.f kj42 (x0_37.extract ((ji48) : Int).toNat x0_37.size)).bind fun bt155 => (if bt155.2.isNone = true then ((bech32_bech32VerifyChecksum.f (x0_37.extract 0 (t154 : Int).toNat) bt155.1).bind fun bt160 => (if bt160.2 = true then (if 0 ≤ (wrap64 ((bt155.1.length : Int) - 6)) then (if (wrap64 ((bt155.1.length : Int) - 6)) ≤ (bt155.1.length : Int) then (some (x0_37.extract 0 (t154 : Int).toNat, (bt155.1.take ((wrap64 ((bt155.1.length : Int) - 6)) : Int).toNat), bt160.1, none)) else (none)) else (none)) else (some ((⟨#[]⟩ : ByteArray), ([] : List Int), 2, some (42, .int .i64 0))))) else (some ((⟨#[]⟩ : ByteArray), ([] : List Int), 2, some (bt155.2.getD (0, Value.bool false)))))) else (none)) else (none)) = some (r1, r2, r3, r4) := by first | (rw [hji48] at H; exact H) | (simp only [hji48] at H ⊢; exact H)
                        have hji48w : (IntKind.i64.wrap (t154 + 1)) = ji48 := (i64_w _).trans hji48
                        by_cases c49 : 0 ≤ (ji48)
                        · rw [if_pos c49] at H
                          have c49b0 := eq_true c49
                          have c49b1 : decide (0 ≤ (ji48)) = true := decide_eq_true c49
                          clear c49
                          by_cases c50 : (ji48) ≤ (x0_37.size : Int)
                          · rw [if_pos c50] at H
                            have c50b0 := eq_true c50
                            have c50b1 : decide ((ji48) ≤ (x0_37.size : Int)) = true := decide_eq_true c50
                            clear c50
                            replace H := Option.bind_eq_some_iff.mp H
                            obtain ⟨⟨t155, t156⟩, A510, H⟩ := H
                            replace H : (if t156.isNone = true then ((bech32_bech32VerifyChecksum.f (x0_37.extract 0 (t154 : Int).toNat) t155).bind fun bt160 => (if bt160.2 = true then (if 0 ≤ (wrap64 ((t155.length : Int) - 6)) then (if (wrap64 ((t155.length : Int) - 6)) ≤ (t155.length : Int) then (some (x0_37.extract 0 (t154 : Int).toNat, (t155.take ((wrap64 ((t155.length : Int) - 6)) : Int).toNat), bt160.1, none)) else (none)) else (none)) else (some ((⟨#[]⟩ : ByteArray), ([] : List Int), 2, some (42, .int .i64 0))))) else (some ((⟨#[]⟩ : ByteArray), ([] : List Int), 2, some (t156.getD (0, Value.bool false))))) = some (r1, r2, r3, r4) := H
                            have A51 := Aside0.mk A510
                            clear A510
                            rcases t156 with _ | q159
                            · have H1 : ((bech32_bech32VerifyChecksum.f (x0_37.extract 0 (t154 : Int).toNat) t155).bind fun bt160 => (if bt160.2 = true then (if 0 ≤ (wrap64 ((t155.length : Int) - 6)) then (if (wrap64 ((t155.length : Int) - 6)) ≤ (t155.length : Int) then (some (x0_37.extract 0 (t154 : Int).toNat, (t155.take ((wrap64 ((t155.length : Int) - 6)) : Int).toNat), bt160.1, none)) else (none)) else (none)) else (some ((⟨#[]⟩ : ByteArray), ([] : List Int), 2, some (42, .int .i64 0))))) = some (r1, r2, r3, r4) := by rw [if_pos (show (none : Option (Nat × Value)).isNone = true by rfl)] at H; exact H
                              clear H
                              have H := H1
                              clear H1
                              try simp only [errW_none, errW_some]
                              replace H := Option.bind_eq_some_iff.mp H
                              obtain ⟨⟨t160, t161⟩, A520, H⟩ := H
                              replace H : (if t161 = true then (if 0 ≤ (wrap64 ((t155.length : Int) - 6)) then (if (wrap64 ((t155.length : Int) - 6)) ≤ (t155.length : Int) then (some (x0_37.extract 0 (t154 : Int).toNat, (t155.take ((wrap64 ((t155.length : Int) - 6)) : Int).toNat), t160, none)) else (none)) else (none)) else (some ((⟨#[]⟩ : ByteArray), ([] : List Int), 2, some (42, .int .i64 0)))) = some (r1, r2, r3, r4) := H
                              have A52 := Aside0.mk A520
                              clear A520
                              by_cases c53 : t161 = true
                              · subst c53
                                have H1 : (if 0 ≤ (wrap64 ((t155.length : Int) - 6)) then (if (wrap64 ((t155.length : Int) - 6)) ≤ (t155.length : Int) then (some (x0_37.extract 0 (t154 : Int).toNat, (t155.take ((wrap64 ((t155.length : Int) - 6)) : Int).toNat), t160, none)) else (none)) else (none)) = some (r1, r2, r3, r4) := by rw [if_pos rfl] at H; exact H
                                clear H
                                have H := H1
                                clear H1
                                obtain ⟨ji54, hji54⟩ : ∃ j_ : Int, (wrap64 ((t155.length : Int) - 6)) = j_ := ⟨_, rfl⟩
                                replace H : (if 0 ≤ (ji54) then (if (ji54) ≤ (t155.length : Int) then (some (x0_37.extract 0 (t154 : Int).toNat, (t155.take ((ji54) : Int).toNat), t160, none)) else (none)) else (none)) = some (r1, r2, r3, r4) := by first | (rw [hji54] at H; exact H) | (simp only [hji54] at H ⊢; exact H)
                                (try rw [hji54] at A51)
                                (try rw [hji54] at A52)
                                have hji54w : (IntKind.i64.wrap ((t155.length : Int) - 6)) = ji54 := (i64_w _).trans hji54
                                by_cases c55 : 0 ≤ (ji54)
                                · rw [if_pos c55] at H
                                  have c55b0 := eq_true c55
                                  have c55b1 : decide (0 ≤ (ji54)) = true := decide_eq_true c55
                                  clear c55
                                  by_cases c56 : (ji54) ≤ (t155.length : Int)
                                  · rw [if_pos c56] at H
                                    have c56b0 := eq_true c56
                                    have c56b1 : decide ((ji54) ≤ (t155.length : Int)) = true := decide_eq_true c56
                                    clear c56
                                    obtain ⟨y162, hy162⟩ : ∃ y_ : List Int, y_ = (t155.take ((ji54) : Int).toNat) := ⟨_, rfl⟩
                                    replace H : (some (x0_37.extract 0 (t154 : Int).toNat, y162, t160, none)) = some (r1, r2, r3, r4) := by first | (rw [hy162]; with_reducible exact H) | (have H2_ := (Option.bind_some _ _).symm.trans H; rw [hy162]; with_reducible exact H2_) | (have H2_ := (Option.bind_some _ _).symm.trans H; with_reducible exact H2_) | with_reducible exact H | (rw [hy162]; exact H) | exact H
                                    have Ny162 := Aside0.mk hy162
                                    clear hy162
                                    simp only [Option.some.injEq, Prod.mk.injEq] at H
                                    obtain ⟨rfl, rfl, rfl, rfl⟩ := H
                                    go_wp2_with (first | (go_at_call 17; (with_reducible refine (bech32_toBytes.calls kj42 (x0_37.extract ((ji48) : Int).toNat x0_37.size) t155 none _ A51.out).mono ?_); rintro e w57 ⟨v157, rfl, ho0, hb⟩; have n0_ := Aside0.mk (Kd.R_lower ho0 (below_size (by repeat (first | (with_reducible first | exact HB.out | apply below_alloc | apply pw_below_drewN | apply below_drew1) | exact HB.out)))); have n1_ := Aside0.mk (below_step (by repeat (first | (with_reducible first | exact HB.out | apply below_alloc | apply pw_below_drewN | apply below_drew1) | exact HB.out)) hb); clear HB; have HO158 := n0_; have HB := n1_; clear n0_ n1_; (try clear hb); (try clear hb2); (try clear hk); (try clear hi); (try clear ho0); (try simp only [errW_none, errW_some]); obtain ⟨Ao58, co58, eo58⟩ := Kd.R_slice HO158.out; subst eo58) | (go_at_call 18; (with_reducible refine (bech32_bech32VerifyChecksum.calls (x0_37.extract 0 (t154 : Int).toNat) _ _ t155 t160 true _ ?side1 ?side2 A52.out (by first | exact HG0 | exact HG0.drawn ⟨⟨_, rfl⟩⟩ | exact HG0.below (by repeat (first | (with_reducible first | exact HB.out | apply below_alloc | apply pw_below_drewN | apply below_drew1) | exact HB.out)))).mono ?_); (case side1 => repeat (first | exact (Kd.R_reads' HO158.out).2.2 | (with_reducible refine Kd.C_alloc ?_ _) | (with_reducible refine Kd.C_drewN ?_ _) | (with_reducible refine Kd.C_drew ?_))); (case side2 => exact (Kd.R_reads' HO158.out).2.1); rintro e w' ⟨rfl, ⟨nd, rfl⟩⟩; (try first | exact ⟨rfl, _, World.drewN_drewN _ _ _⟩ | exact ⟨rfl, _, Eq.trans (World.drewN_drewN _ _ _) (congrArg (World.drewN _) (Nat.add_assoc _ _ _))⟩); have q59 : ((ji54) : Int) ≤ ((t155.length : Int) : Int) := of_decide_eq_true (by first | (with_reducible assumption) | assumption); obtain ⟨i059, hi059, _, hsz59, _⟩ := info_parts info5; have hcut59 := cut_to (P := Tryd.prog) 22 5 .i64 Tryd.underlying22 hi059 Ao58 t155.length co58 (ji54) (of_decide_eq_true (by first | (with_reducible assumption) | assumption)) q59 (Kd.R_reads' HO158.out).2.1; have hr59 := Kd.R_take (m := ((ji54) : Int).toNat) HO158.out (by omega); have hy59 : y162.length = ((ji54) : Int).toNat := (by rw [Ny162.out, List.length_take]; omega); rw [← Ny162.out] at hr59; rw [← hy59] at hr59 hcut59; clear hy59 hi059 hsz59 HO158; have HO164 := Aside0.mk hr59; clear hr59; replace q59 := eq_true q59))
                                    repeat (go_quiet (first | (go_at_call 17; (with_reducible refine (bech32_toBytes.calls kj42 (x0_37.extract ((ji48) : Int).toNat x0_37.size) t155 none _ A51.out).mono ?_); rintro e w57 ⟨v157, rfl, ho0, hb⟩; have n0_ := Aside0.mk (Kd.R_lower ho0 (below_size (by repeat (first | (with_reducible first | exact HB.out | apply below_alloc | apply pw_below_drewN | apply below_drew1) | exact HB.out)))); have n1_ := Aside0.mk (below_step (by repeat (first | (with_reducible first | exact HB.out | apply below_alloc | apply pw_below_drewN | apply below_drew1) | exact HB.out)) hb); clear HB; have HO158 := n0_; have HB := n1_; clear n0_ n1_; (try clear hb); (try clear hb2); (try clear hk); (try clear hi); (try clear ho0); (try simp only [errW_none, errW_some]); obtain ⟨Ao58, co58, eo58⟩ := Kd.R_slice HO158.out; subst eo58) | (go_at_call 18; (with_reducible refine (bech32_bech32VerifyChecksum.calls (x0_37.extract 0 (t154 : Int).toNat) _ _ t155 t160 true _ ?side1 ?side2 A52.out (by first | exact HG0 | exact HG0.drawn ⟨⟨_, rfl⟩⟩ | exact HG0.below (by repeat (first | (with_reducible first | exact HB.out | apply below_alloc | apply pw_below_drewN | apply below_drew1) | exact HB.out)))).mono ?_); (case side1 => repeat (first | exact (Kd.R_reads' HO158.out).2.2 | (with_reducible refine Kd.C_alloc ?_ _) | (with_reducible refine Kd.C_drewN ?_ _) | (with_reducible refine Kd.C_drew ?_))); (case side2 => exact (Kd.R_reads' HO158.out).2.1); rintro e w' ⟨rfl, ⟨nd, rfl⟩⟩; (try first | exact ⟨rfl, _, World.drewN_drewN _ _ _⟩ | exact ⟨rfl, _, Eq.trans (World.drewN_drewN _ _ _) (congrArg (World.drewN _) (Nat.add_assoc _ _ _))⟩); have q59 : ((ji54) : Int) ≤ ((t155.length : Int) : Int) := of_decide_eq_true (by first | (with_reducible assumption) | assumption); obtain ⟨i059, hi059, _, hsz59, _⟩ := info_parts info5; have hcut59 := cut_to (P := Tryd.prog) 22 5 .i64 Tryd.underlying22 hi059 Ao58 t155.length co58 (ji54) (of_decide_eq_true (by first | (with_reducible assumption) | assumption)) q59 (Kd.R_reads' HO158.out).2.1; have hr59 := Kd.R_take (m := ((ji54) : Int).toNat) HO158.out (by omega); have hy59 : y162.length = ((ji54) : Int).toNat := (by rw [Ny162.out, List.length_take]; omega); rw [← Ny162.out] at hr59; rw [← hy59] at hr59 hcut59; clear hy59 hi059 hsz59 HO158; have HO164 := Aside0.mk hr59; clear hr59; replace q59 := eq_true q59)); try go_wp2_with (first | (go_at_call 17; (with_reducible refine (bech32_toBytes.calls kj42 (x0_37.extract ((ji48) : Int).toNat x0_37.size) t155 none _ A51.out).mono ?_); rintro e w57 ⟨v157, rfl, ho0, hb⟩; have n0_ := Aside0.mk (Kd.R_lower ho0 (below_size (by repeat (first | (with_reducible first | exact HB.out | apply below_alloc | apply pw_below_drewN | apply below_drew1) | exact HB.out)))); have n1_ := Aside0.mk (below_step (by repeat (first | (with_reducible first | exact HB.out | apply below_alloc | apply pw_below_drewN | apply below_drew1) | exact HB.out)) hb); clear HB; have HO158 := n0_; have HB := n1_; clear n0_ n1_; (try clear hb); (try clear hb2); (try clear hk); (try clear hi); (try clear ho0); (try simp only [errW_none, errW_some]); obtain ⟨Ao58, co58, eo58⟩ := Kd.R_slice HO158.out; subst eo58) | (go_at_call 18; (with_reducible refine (bech32_bech32VerifyChecksum.calls (x0_37.extract 0 (t154 : Int).toNat) _ _ t155 t160 true _ ?side1 ?side2 A52.out (by first | exact HG0 | exact HG0.drawn ⟨⟨_, rfl⟩⟩ | exact HG0.below (by repeat (first | (with_reducible first | exact HB.out | apply below_alloc | apply pw_below_drewN | apply below_drew1) | exact HB.out)))).mono ?_); (case side1 => repeat (first | exact (Kd.R_reads' HO158.out).2.2 | (with_reducible refine Kd.C_alloc ?_ _) | (with_reducible refine Kd.C_drewN ?_ _) | (with_reducible refine Kd.C_drew ?_))); (case side2 => exact (Kd.R_reads' HO158.out).2.1); rintro e w' ⟨rfl, ⟨nd, rfl⟩⟩; (try first | exact ⟨rfl, _, World.drewN_drewN _ _ _⟩ | exact ⟨rfl, _, Eq.trans (World.drewN_drewN _ _ _) (congrArg (World.drewN _) (Nat.add_assoc _ _ _))⟩); have q59 : ((ji54) : Int) ≤ ((t155.length : Int) : Int) := of_decide_eq_true (by first | (with_reducible assumption) | assumption); obtain ⟨i059, hi059, _, hsz59, _⟩ := info_parts info5; have hcut59 := cut_to (P := Tryd.prog) 22 5 .i64 Tryd.underlying22 hi059 Ao58 t155.length co58 (ji54) (of_decide_eq_true (by first | (with_reducible assumption) | assumption)) q59 (Kd.R_reads' HO158.out).2.1; have hr59 := Kd.R_take (m := ((ji54) : Int).toNat) HO158.out (by omega); have hy59 : y162.length = ((ji54) : Int).toNat := (by rw [Ny162.out, List.length_take]; omega); rw [← Ny162.out] at hr59; rw [← hy59] at hr59 hcut59; clear hy59 hi059 hsz59 HO158; have HO164 := Aside0.mk hr59; clear hr59; replace q59 := eq_true q59)))
                                    refine bodyPost_ret (results_list (rs := [.tmp 2, .tmp 3, .tmp 4, .tmp 5]) rfl (by simp) (.tmp (.tmp (.tmp (.tmp .nil))))) rfl ?_
                                    exact ⟨_, _, by first | rfl | (simp [errW_none, errW_some] <;> rfl) | (simp only [← hji48, ← hji54]; first | rfl | (simp [errW_none, errW_some] <;> rfl)) | (simp [*, errW_none, errW_some] <;> rfl), by first | exact HE_.out | exact (rfl : _ = Value.nilIface) | exact ⟨_, _, rfl⟩, by (with_reducible repeat (first | apply Kd.R_alloc | apply Kd.R_drewN | apply Kd.R_drew)); exact HO164.out, by repeat (first | (with_reducible first | exact HB.out | apply below_alloc | apply pw_below_drewN | apply below_drew1) | exact HB.out)⟩
                                  · rw [if_neg c56] at H
                                    exact absurd H (by simp)
                                · rw [if_neg c55] at H
                                  exact absurd H (by simp)
                              · replace c53 := Bool.eq_false_iff.mpr c53
                                subst c53
                                have H1 : (some ((⟨#[]⟩ : ByteArray), ([] : List Int), 2, some (42, .int .i64 0))) = some (r1, r2, r3, r4) := by rw [if_neg (show ¬ (false = true) by decide)] at H; exact H
                                clear H
                                have H := H1
                                clear H1
                                simp only [Option.some.injEq, Prod.mk.injEq] at H
                                obtain ⟨rfl, rfl, rfl, rfl⟩ := H
                                obtain ⟨⟨fa0, fa1⟩, ⟨fb0, fb1⟩, fc, fd, fe, ff⟩ := leafFacts (of_decide_eq_true (by first | (with_reducible assumption) | assumption) : 0 ≤ t154) (of_decide_eq_true (by first | (with_reducible assumption) | assumption)) hji48 (of_decide_eq_true (by first | (with_reducible assumption) | assumption) : 0 ≤ ji48) (of_decide_eq_true (by first | (with_reducible assumption) | assumption)) A51.out A52.out
                                obtain ⟨ja, hja⟩ : ∃ j_ : Int, wrap64 ((x0_37.size : Int) - 6) = j_ := ⟨_, rfl⟩
                                obtain ⟨jb, hjb⟩ : ∃ j_ : Int, wrap64 ((t155.length : Int) - 6) = j_ := ⟨_, rfl⟩
                                rw [hja] at fa0 fa1
                                rw [hjb] at fb0 fb1 fc
                                have hjaw : (IntKind.i64.wrap ((x0_37.size : Int) - 6)) = ja := (i64_w _).trans hja
                                have hjbw : (IntKind.i64.wrap ((t155.length : Int) - 6)) = jb := (i64_w _).trans hjb
                                have fa0b := eq_true fa0
                                have fa0c : decide (0 ≤ (ja)) = true := decide_eq_true fa0
                                have fa1b := eq_true fa1
                                have fa1c : decide ((ja) ≤ (x0_37.size : Int)) = true := decide_eq_true fa1
                                have fb0b := eq_true fb0
                                have fb0c : decide (0 ≤ (jb)) = true := decide_eq_true fb0
                                have fb1b := eq_true fb1
                                have fb1c : decide ((jb) ≤ (t155.length : Int)) = true := decide_eq_true fb1
                                have FC := Aside0.mk fc
                                have FD := Aside0.mk fd
                                have FE := Aside0.mk fe
                                have FF := Aside0.mk ff
                                clear fa0 fa1 fb0 fb1 fc fd fe ff
                                go_wp2_with (first | (go_at_call 17; (with_reducible refine (bech32_toBytes.calls kj42 (x0_37.extract ((ji48) : Int).toNat x0_37.size) t155 none _ A51.out).mono ?_); rintro e w60 ⟨v157, rfl, ho0, hb⟩; have n0_ := Aside0.mk (Kd.R_lower ho0 (below_size (by repeat (first | (with_reducible first | exact HB.out | apply below_alloc | apply pw_below_drewN | apply below_drew1) | exact HB.out)))); have n1_ := Aside0.mk (below_step (by repeat (first | (with_reducible first | exact HB.out | apply below_alloc | apply pw_below_drewN | apply below_drew1) | exact HB.out)) hb); clear HB; have HO158 := n0_; have HB := n1_; clear n0_ n1_; (try clear hb); (try clear hb2); (try clear hk); (try clear hi); (try clear ho0); (try simp only [errW_none, errW_some]); obtain ⟨Ao61, co61, eo61⟩ := Kd.R_slice HO158.out; subst eo61) | (go_at_call 18; (with_reducible refine (bech32_bech32VerifyChecksum.calls (x0_37.extract 0 (t154 : Int).toNat) _ _ t155 t160 false _ ?side1 ?side2 A52.out (by first | exact HG0 | exact HG0.drawn ⟨⟨_, rfl⟩⟩ | exact HG0.below (by repeat (first | (with_reducible first | exact HB.out | apply below_alloc | apply pw_below_drewN | apply below_drew1) | exact HB.out)))).mono ?_); (case side1 => repeat (first | exact (Kd.R_reads' HO158.out).2.2 | (with_reducible refine Kd.C_alloc ?_ _) | (with_reducible refine Kd.C_drewN ?_ _) | (with_reducible refine Kd.C_drew ?_))); (case side2 => exact (Kd.R_reads' HO158.out).2.1); rintro e w' ⟨rfl, ⟨nd, rfl⟩⟩; (try first | exact ⟨rfl, _, World.drewN_drewN _ _ _⟩ | exact ⟨rfl, _, Eq.trans (World.drewN_drewN _ _ _) (congrArg (World.drewN _) (Nat.add_assoc _ _ _))⟩); have q59 : ((jb) : Int) ≤ ((t155.length : Int) : Int) := of_decide_eq_true (by first | (with_reducible assumption) | assumption); obtain ⟨i059, hi059, _, hsz59, _⟩ := info_parts info5; have hcut59 := cut_to (P := Tryd.prog) 22 5 .i64 Tryd.underlying22 hi059 Ao61 t155.length co61 (jb) (of_decide_eq_true (by first | (with_reducible assumption) | assumption)) q59 (Kd.R_reads' HO158.out).2.1; clear hi059 hsz59; replace q59 := eq_true q59))
                                obtain ⟨V, hV⟩ : ∃ V, t155.take (t155.length - 6) = V := ⟨_, rfl⟩
                                have hVl : V.length = (jb).toNat := by rw [← hV, List.length_take, FC.out]; omega
                                have hVB : ByteL V := by rw [← hV]; exact FF.out
                                have hVR : ReadsInt w60 .u8 Ao61 V.length V := by
                                  have q := ReadsInt.take_ (Kd.reads_of_C (Kd.R_reads' HO158.out).2.2 : ReadsInt w60 .u8 Ao61 t155.length t155) (t155.length - 6) (by omega)
                                  rw [hV] at q
                                  rwa [show t155.length - 6 = V.length by rw [hVl, FC.out]] at q
                                have hVn : V.length ≤ 1000 := by rw [hVl, FC.out]; have := FD.out; omega
                                have hG60 : GenS w60 := HG0.below HB.out
                                have hs60 : Aside0 (w.heap.size ≤ w60.heap.size) := ⟨HB.out.size⟩
                                have HW : Aside0 (∀ (w1 : World) (v : Int) (l : List UInt8), (v = 0 ∨ v = 1) → Below w60.heap.size w60 w1 → l.length ≤ 100 → Bdr w60.heap.size w60.heap.size (Go.Lib.byteCells l) w1 → Calls Tryd.prog 20 #[.string (x0_37.extract 0 t154.toNat), .slice Ao61 (jb).toNat co61, .pointer (some ⟨w60.heap.size, 0, none⟩), .int .u8 v] w1 fun e w' => e = .returned (.tuple #[]) ∧ (∃ l2, l2.length ≤ l.length + 6 ∧ Bdr w60.heap.size w60.heap.size (Go.Lib.byteCells l2) w') ∧ Below w60.heap.size w60 w') := ⟨fun w1 v l hv hb hl hd => by
                                  rw [← hVl]
                                  refine (writeSumC _ FE.out V hVB hVn Ao61 co61 v hv w1 (hG60.below hb) (hVR.below hb) _ _ l (by omega) hb.size hd).mono ?_
                                  rintro e w' ⟨rfl, h1, h2⟩
                                  exact ⟨rfl, h1, hb.trans h2⟩⟩
                                clear hV hVl hVB hVR hVn hG60
                                go_at_call 19
                                refine (growC w60.heap.size (w60.drewN nd) rfl).mono ?_
                                rintro e w1 ⟨rfl, hd1, hb1⟩
                                have HD1 := Aside0.mk hd1
                                have HB1 : Aside0 (Below w60.heap.size w60 w1) := ⟨(pw_below_drewN (Below.refl _ _) _).trans hb1⟩
                                clear hd1 hb1
                                go_wp2_with fail
                                go_at_call 20
                                refine (HW.out w1 0 [] (.inl rfl) HB1.out (by decide) HD1.out).mono ?_
                                rintro e w2 ⟨rfl, ⟨l2, hl2, hd2⟩, hb2⟩
                                have HD2 := Aside0.mk hd2
                                have HL2 := Aside0.mk hl2
                                have HB2 := Aside0.mk hb2
                                clear hd2 hl2 hb2
                                go_wp2_with fail
                                go_at_call 21
                                refine (stringC _ _ l2 _ HD2.out HB2.out.size).mono ?_
                                rintro e w3 ⟨rfl, hd3, hb3⟩
                                have HD3 := Aside0.mk hd3
                                have HB3 := Aside0.mk (HB2.out.trans hb3)
                                clear hd3 hb3
                                go_wp2_with fail
                                go_at_call 19
                                refine (growC w3.heap.size w3 rfl).mono ?_
                                rintro e w4 ⟨rfl, _, hb4⟩
                                have HD4 := Aside0.mk (Bdr.below HD3.out hb4)
                                have HB4 : Aside0 (Below w60.heap.size w60 w4) := ⟨HB3.out.trans ⟨hb4.os, hb4.tape, hb4.output, hb4.size, fun k hk => hb4.block k (Nat.lt_of_lt_of_le hk HB3.out.size)⟩⟩
                                clear hb4
                                go_wp2_with fail
                                go_at_call 20
                                refine (HW.out w4 1 l2 (.inr rfl) HB4.out (by have := HL2.out; simp at this; omega) HD4.out).mono ?_
                                rintro e w5 ⟨rfl, ⟨l3, hl3, hd5⟩, hb5⟩
                                have HD5 := Aside0.mk hd5
                                have HB5 := Aside0.mk hb5
                                clear hd5 hl3 hb5
                                go_wp2_with fail
                                go_at_call 21
                                refine (stringC _ _ l3 _ HD5.out HB5.out.size).mono ?_
                                rintro e w6 ⟨rfl, _, hb6⟩
                                have HB6 : Aside0 (Below w.heap.size w w6) := ⟨HB.out.trans ⟨(HB5.out.trans hb6).os, (HB5.out.trans hb6).tape, (HB5.out.trans hb6).output, (HB5.out.trans hb6).size, fun k hk => (HB5.out.trans hb6).block k (Nat.lt_of_lt_of_le hk hs60.out)⟩⟩
                                clear hb6
                                go_wp2_with fail
                                refine bodyPost_ret (results_list (rs := [.tmp 2, .tmp 3, .tmp 4, .tmp 5]) rfl (by simp) (.tmp (.tmp (.tmp (.tmp .nil))))) rfl ?_
                                exact ⟨_, _, rfl, ⟨_, _, rfl⟩, Kd.R_nil _ _ _ _ _, HB6.out⟩
                            · have H1 : (some ((⟨#[]⟩ : ByteArray), ([] : List Int), 2, some q159)) = some (r1, r2, r3, r4) := by rw [if_neg (show ¬ (some q159).isNone = true by simp)] at H; exact H
                              clear H
                              have H := H1
                              clear H1
                              try simp only [errW_none, errW_some]
                              simp only [Option.some.injEq, Prod.mk.injEq] at H
                              obtain ⟨rfl, rfl, rfl, rfl⟩ := H
                              go_wp2_with (first | (go_at_call 17; (with_reducible refine (bech32_toBytes.calls kj42 (x0_37.extract ((ji48) : Int).toNat x0_37.size) t155 (some q159) _ A51.out).mono ?_); rintro e w62 ⟨v157, rfl, ho0, hb⟩; have n0_ := Aside0.mk (Kd.R_lower ho0 (below_size (by repeat (first | (with_reducible first | exact HB.out | apply below_alloc | apply pw_below_drewN | apply below_drew1) | exact HB.out)))); have n1_ := Aside0.mk (below_step (by repeat (first | (with_reducible first | exact HB.out | apply below_alloc | apply pw_below_drewN | apply below_drew1) | exact HB.out)) hb); clear HB; have HO158 := n0_; have HB := n1_; clear n0_ n1_; (try clear hb); (try clear hb2); (try clear hk); (try clear hi); (try clear ho0); (try simp only [errW_none, errW_some])))
                              repeat (go_quiet (first | (go_at_call 17; (with_reducible refine (bech32_toBytes.calls kj42 (x0_37.extract ((ji48) : Int).toNat x0_37.size) t155 (some q159) _ A51.out).mono ?_); rintro e w62 ⟨v157, rfl, ho0, hb⟩; have n0_ := Aside0.mk (Kd.R_lower ho0 (below_size (by repeat (first | (with_reducible first | exact HB.out | apply below_alloc | apply pw_below_drewN | apply below_drew1) | exact HB.out)))); have n1_ := Aside0.mk (below_step (by repeat (first | (with_reducible first | exact HB.out | apply below_alloc | apply pw_below_drewN | apply below_drew1) | exact HB.out)) hb); clear HB; have HO158 := n0_; have HB := n1_; clear n0_ n1_; (try clear hb); (try clear hb2); (try clear hk); (try clear hi); (try clear ho0); (try simp only [errW_none, errW_some]))); try go_wp2_with (first | (go_at_call 17; (with_reducible refine (bech32_toBytes.calls kj42 (x0_37.extract ((ji48) : Int).toNat x0_37.size) t155 (some q159) _ A51.out).mono ?_); rintro e w62 ⟨v157, rfl, ho0, hb⟩; have n0_ := Aside0.mk (Kd.R_lower ho0 (below_size (by repeat (first | (with_reducible first | exact HB.out | apply below_alloc | apply pw_below_drewN | apply below_drew1) | exact HB.out)))); have n1_ := Aside0.mk (below_step (by repeat (first | (with_reducible first | exact HB.out | apply below_alloc | apply pw_below_drewN | apply below_drew1) | exact HB.out)) hb); clear HB; have HO158 := n0_; have HB := n1_; clear n0_ n1_; (try clear hb); (try clear hb2); (try clear hk); (try clear hi); (try clear ho0); (try simp only [errW_none, errW_some]))))
                              refine bodyPost_ret (results_list (rs := [.tmp 2, .tmp 3, .tmp 4, .tmp 5]) rfl (by simp) (.tmp (.tmp (.tmp (.tmp .nil))))) rfl ?_
                              exact ⟨_, _, by first | rfl | (simp [errW_none, errW_some] <;> rfl) | (simp only [← hji48]; first | rfl | (simp [errW_none, errW_some] <;> rfl)) | (simp [*, errW_none, errW_some] <;> rfl), by first | exact HE_.out | exact (rfl : _ = Value.nilIface) | exact ⟨_, _, rfl⟩, by first | exact Kd.R_nil _ _ _ _ _ | exact Kd.N_nil _ _ _ _ _ | exact Kd.V_nil _ _ _ _ _ | exact Kd.Q_nil _ _ _ _ _ | exact Kd.S_nil _ _ _ _ _, by repeat (first | (with_reducible first | exact HB.out | apply below_alloc | apply pw_below_drewN | apply below_drew1) | exact HB.out)⟩
                          · rw [if_neg c50] at H
                            exact absurd H (by simp)
                        · rw [if_neg c49] at H
                          exact absurd H (by simp)
                      · rw [if_neg c47] at H
                        exact absurd H (by simp)
                    · rw [if_neg c46] at H
                      exact absurd H (by simp)

end Go.Proofs.YtbbeedclkfcmeaaDoor.KFnReadBech32
