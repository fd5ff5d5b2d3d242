/- Printed functions over contracts that were proved by hand. -/
import Derived.Test.YtbbeedclkfcmeaaDoorRb3
namespace Go.Proofs.YtbbeedclkfcmeaaDoor.KFnReadBech32
open Go.RowKit Go.Proofs.YtbbeedclkfcmeaaDoorW.PrintWords Go.Proofs.YtbbeedclkfcmeaaDoorW.PrintLast Go.Proofs.YtbbeedclkfcmeaaDoorW.PrintMore
attribute [local go_sem] nn_mod256 nn_mod65536 nn_mod32 max2_int min2_int max_two min_two max_three min_three max_four min_four   -- for this text's walks alone
set_option linter.unusedVariables false
set_option linter.unusedSimpArgs false
/-! ### bech32_bech32VerifyChecksum: function 18 -/
def bech32_bech32VerifyChecksum.f (a0 : ByteArray) (l1 : List Int) : Option (Int × Bool) := if 0 ≤ (wrap64 ((l1.length : Int) - 6)) then (if (wrap64 ((l1.length : Int) - 6)) ≤ (l1.length : Int) then ((bech32_bech32Polymod.f a0 (l1.take ((wrap64 ((l1.length : Int) - 6)) : Int).toNat) (l1.drop ((wrap64 ((l1.length : Int) - 6)) : Int).toNat)).bind fun t150 => ((bech32_ConstsToVersion.f t150).bind fun bt151 => (if bt151.2 = true then (some (bt151.1, true)) else (some (2, false))))) else (none)) else (none)
set_option maxHeartbeats 8000000 in
set_option maxRecDepth 100000 in
theorem bech32_bech32VerifyChecksum.calls (a0 : ByteArray) (A1 : Option Addr) (c1 : Nat) (l1 : List Int) (r1 : Int) (r2 : Bool) (w : World) (hr1 : Kd.C (Kd.int .u8) w A1 l1.length l1) (hc1 : l1.length ≤ c1) (h : bech32_bech32VerifyChecksum.f a0 l1 = some (r1, r2)) (HG0 : GenS w) :
    Calls Tryd.prog 18 #[.string a0, .slice A1 l1.length c1] w fun e w' => e = .returned (.tuple #[.int .u8 r1, .bool r2]) ∧ Drawn0 w w' := by
  have HR1 := Aside0.mk hr1
  have HC1 := Aside0.mk hc1
  clear hr1 hc1
  have H : (if 0 ≤ (wrap64 ((l1.length : Int) - 6)) then (if (wrap64 ((l1.length : Int) - 6)) ≤ (l1.length : Int) then ((bech32_bech32Polymod.f a0 (l1.take ((wrap64 ((l1.length : Int) - 6)) : Int).toNat) (l1.drop ((wrap64 ((l1.length : Int) - 6)) : Int).toNat)).bind fun t150 => ((bech32_ConstsToVersion.f t150).bind fun bt151 => (if bt151.2 = true then (some (bt151.1, true)) else (some (2, false))))) else (none)) else (none)) = some (r1, r2) := h
  clear h
  obtain ⟨ji3, hji3⟩ : ∃ j_ : Int, (wrap64 ((l1.length : Int) - 6)) = j_ := ⟨_, rfl⟩
  replace H : (if 0 ≤ (ji3) then (if (ji3) ≤ (l1.length : Int) then ((bech32_bech32Polymod.f a0 (l1.take ((ji3) : Int).toNat) (l1.drop ((ji3) : Int).toNat)).bind fun t150 => ((bech32_ConstsToVersion.f t150).bind fun bt151 => (if bt151.2 = true then (some (bt151.1, true)) else (some (2, false))))) else (none)) else (none)) = some (r1, r2) := by first | (rw [hji3] at H; exact H) | (simp only [hji3] at H ⊢; exact H)
  have hji3w : (IntKind.i64.wrap ((l1.length : Int) - 6)) = ji3 := (i64_w _).trans hji3
  by_cases c4 : 0 ≤ (ji3)
  · rw [if_pos c4] at H
    have c4b0 := eq_true c4
    have c4b1 : decide (0 ≤ (ji3)) = true := decide_eq_true c4
    clear c4
    by_cases c5 : (ji3) ≤ (l1.length : Int)
    · rw [if_pos c5] at H
      have c5b0 := eq_true c5
      have c5b1 : decide ((ji3) ≤ (l1.length : Int)) = true := decide_eq_true c5
      clear c5
      have c6b0 := eq_true (of_decide_eq_true (by first | (with_reducible assumption) | assumption) : 0 ≤ (ji3))
      have c7b0 := eq_true (of_decide_eq_true (by first | (with_reducible assumption) | assumption) : (ji3) ≤ (l1.length : Int))
      replace H := Option.bind_eq_some_iff.mp H
      obtain ⟨t150, A80, H⟩ := H
      replace H : ((bech32_ConstsToVersion.f t150).bind fun bt151 => (if bt151.2 = true then (some (bt151.1, true)) else (some (2, false)))) = some (r1, r2) := H
      have A8 := Aside0.mk A80
      clear A80
      replace H := Option.bind_eq_some_iff.mp H
      obtain ⟨⟨t151, t152⟩, A90, H⟩ := H
      replace H : (if t152 = true then (some (t151, true)) else (some (2, false))) = some (r1, r2) := H
      have A9 := Aside0.mk A90
      clear A90
      by_cases c10 : t152 = true
      · subst c10
        have H1 : (some (t151, true)) = some (r1, r2) := by rw [if_pos rfl] at H; exact H
        clear H
        have H := H1
        clear H1
        simp only [Option.some.injEq, Prod.mk.injEq] at H
        obtain ⟨rfl, rfl⟩ := H
        obtain ⟨i011, hi011, _, hsz11, _⟩ := info_parts info5
        obtain ⟨A11, hcut11, hA11, hC11⟩ := print_drop_of (P := Tryd.prog) (Value.int .u8) 0 22 5 .i64 Tryd.underlying22 hi011 hsz11 A1 c1 l1 (ji3) (of_decide_eq_true (by first | (with_reducible assumption) | assumption)) (of_decide_eq_true (by first | (with_reducible assumption) | assumption)) HC1.out
        have HR148 := Aside0.mk (Kd.C_of_reads (h1 := fun _ => rfl) (hA11 _ (Kd.reads_of_C HR1.out)))
        have HC148 := Aside0.mk hC11
        clear hA11 hC11 hi011 hsz11
        obtain ⟨i012, hi012, _, hsz12, _⟩ := info_parts info5
        obtain ⟨hcut12, hA12, hC12⟩ := print_take_of (P := Tryd.prog) (Value.int .u8) 0 22 5 .i64 Tryd.underlying22 hi012 hsz12 A1 c1 l1 (ji3) (of_decide_eq_true (by first | (with_reducible assumption) | assumption)) (of_decide_eq_true (by first | (with_reducible assumption) | assumption)) HC1.out
        have HR149 := Aside0.mk (Kd.C_of_reads (h1 := fun _ => rfl) (hA12 _ (Kd.reads_of_C HR1.out)))
        have HC149 := Aside0.mk hC12
        clear hA12 hC12 hi012 hsz12
        go_enter Tryd.func18, Tryd.ntmps18
        go_wp2_with (first | ((with_reducible refine gate_callee (f := 24) rfl ?_); refine goesL_ (some 24) rfl rfl Tryd.func24 (by kernel_rfl) rfl #[.string a0, .slice A1 (l1.take ((ji3) : Int).toNat).length c1, .slice A11 (l1.drop ((ji3) : Int).toNat).length (c1 - (ji3).toNat)] rfl (by (try simp only [List.map_toArray, List.map_cons, List.map_nil]); first | done | (rw [show (l1.take ((ji3) : Int).toNat).length = (ji3).toNat from (by rw [List.length_take]; have h_ : ((ji3) : Int) ≤ (l1.length : Int) := of_decide_eq_true (by first | (with_reducible assumption) | assumption); omega), show (l1.drop ((ji3) : Int).toNat).length = (l1.length - (ji3).toNat) from List.length_drop] <;> rfl) | (rw [show (l1.take ((ji3) : Int).toNat).length = (ji3).toNat from (by rw [List.length_take]; have h_ : ((ji3) : Int) ≤ (l1.length : Int) := of_decide_eq_true (by first | (with_reducible assumption) | assumption); omega)] <;> rfl) | (rw [show (l1.drop ((ji3) : Int).toNat).length = (l1.length - (ji3).toNat) from List.length_drop] <;> rfl) | (simp only [hji3]; rfl) | rfl | (simp only [List.length_drop, List.length_take]; rfl)) ?_; (with_reducible refine (bech32_bech32Polymod.calls a0 _ _ (l1.take ((ji3) : Int).toNat) _ _ (l1.drop ((ji3) : Int).toNat) t150 _ ?side1 ?side2 ?side3 ?side4 A8.out (by first | exact HG0 | exact HG0.drawn ⟨⟨_, rfl⟩⟩ | exact HG0.below (by repeat (first | (with_reducible first | exact HB.out | apply below_alloc | apply pw_below_drewN | apply below_drew1) | exact HB.out)))).mono ?_); (case side1 => repeat (first | exact HR149.out | (with_reducible refine Kd.C_alloc ?_ _) | (with_reducible refine Kd.C_drewN ?_ _) | (with_reducible refine Kd.C_drew ?_))); (case side2 => exact HC149.out); (case side3 => repeat (first | exact HR148.out | (with_reducible refine Kd.C_alloc ?_ _) | (with_reducible refine Kd.C_drewN ?_ _) | (with_reducible refine Kd.C_drew ?_))); (case side4 => exact HC148.out); rintro e w' ⟨rfl, ⟨nd, rfl⟩⟩; refine ⟨_, rfl, ?_⟩) | ((with_reducible refine gate_callee (f := 25) rfl ?_); refine goesL_ (some 27) rfl rfl Tryd.func25 (by kernel_rfl) rfl #[.int .i64 t150] rfl (by (try simp only [List.map_toArray, List.map_cons, List.map_nil]); first | done | rfl | (simp only [List.length_drop, List.length_take]; rfl)) ?_; (with_reducible refine (bech32_ConstsToVersion.calls t150 t151 true _ A9.out).mono ?_); rintro e w' ⟨rfl, ⟨nd, rfl⟩⟩; refine ⟨_, rfl, ?_⟩))
        go_ret2
        exact ⟨by first | rfl | (simp; done) | (simp only [← hji3] <;> (first | rfl | simp)) | (simp [*]; done), by repeat (first | exact Drawn0.refl _ | apply Drawn0.step)⟩
      · replace c10 := Bool.eq_false_iff.mpr c10
        subst c10
        have H1 : (some (2, false)) = some (r1, r2) := by rw [if_neg (show ¬ (false = true) by decide)] at H; exact H
        clear H
        have H := H1
        clear H1
        simp only [Option.some.injEq, Prod.mk.injEq] at H
        obtain ⟨rfl, rfl⟩ := H
        obtain ⟨i013, hi013, _, hsz13, _⟩ := info_parts info5
        obtain ⟨A13, hcut13, hA13, hC13⟩ := print_drop_of (P := Tryd.prog) (Value.int .u8) 0 22 5 .i64 Tryd.underlying22 hi013 hsz13 A1 c1 l1 (ji3) (of_decide_eq_true (by first | (with_reducible assumption) | assumption)) (of_decide_eq_true (by first | (with_reducible assumption) | assumption)) HC1.out
        have HR148 := Aside0.mk (Kd.C_of_reads (h1 := fun _ => rfl) (hA13 _ (Kd.reads_of_C HR1.out)))
        have HC148 := Aside0.mk hC13
        clear hA13 hC13 hi013 hsz13
        obtain ⟨i014, hi014, _, hsz14, _⟩ := info_parts info5
        obtain ⟨hcut14, hA14, hC14⟩ := print_take_of (P := Tryd.prog) (Value.int .u8) 0 22 5 .i64 Tryd.underlying22 hi014 hsz14 A1 c1 l1 (ji3) (of_decide_eq_true (by first | (with_reducible assumption) | assumption)) (of_decide_eq_true (by first | (with_reducible assumption) | assumption)) HC1.out
        have HR149 := Aside0.mk (Kd.C_of_reads (h1 := fun _ => rfl) (hA14 _ (Kd.reads_of_C HR1.out)))
        have HC149 := Aside0.mk hC14
        clear hA14 hC14 hi014 hsz14
        go_enter Tryd.func18, Tryd.ntmps18
        go_wp2_with (first | ((with_reducible refine gate_callee (f := 24) rfl ?_); refine goesL_ (some 24) rfl rfl Tryd.func24 (by kernel_rfl) rfl #[.string a0, .slice A1 (l1.take ((ji3) : Int).toNat).length c1, .slice A13 (l1.drop ((ji3) : Int).toNat).length (c1 - (ji3).toNat)] rfl (by (try simp only [List.map_toArray, List.map_cons, List.map_nil]); first | done | (rw [show (l1.take ((ji3) : Int).toNat).length = (ji3).toNat from (by rw [List.length_take]; have h_ : ((ji3) : Int) ≤ (l1.length : Int) := of_decide_eq_true (by first | (with_reducible assumption) | assumption); omega), show (l1.drop ((ji3) : Int).toNat).length = (l1.length - (ji3).toNat) from List.length_drop] <;> rfl) | (rw [show (l1.take ((ji3) : Int).toNat).length = (ji3).toNat from (by rw [List.length_take]; have h_ : ((ji3) : Int) ≤ (l1.length : Int) := of_decide_eq_true (by first | (with_reducible assumption) | assumption); omega)] <;> rfl) | (rw [show (l1.drop ((ji3) : Int).toNat).length = (l1.length - (ji3).toNat) from List.length_drop] <;> rfl) | (simp only [hji3]; rfl) | rfl | (simp only [List.length_drop, List.length_take]; rfl)) ?_; (with_reducible refine (bech32_bech32Polymod.calls a0 _ _ (l1.take ((ji3) : Int).toNat) _ _ (l1.drop ((ji3) : Int).toNat) t150 _ ?side1 ?side2 ?side3 ?side4 A8.out (by first | exact HG0 | exact HG0.drawn ⟨⟨_, rfl⟩⟩ | exact HG0.below (by repeat (first | (with_reducible first | exact HB.out | apply below_alloc | apply pw_below_drewN | apply below_drew1) | exact HB.out)))).mono ?_); (case side1 => repeat (first | exact HR149.out | (with_reducible refine Kd.C_alloc ?_ _) | (with_reducible refine Kd.C_drewN ?_ _) | (with_reducible refine Kd.C_drew ?_))); (case side2 => exact HC149.out); (case side3 => repeat (first | exact HR148.out | (with_reducible refine Kd.C_alloc ?_ _) | (with_reducible refine Kd.C_drewN ?_ _) | (with_reducible refine Kd.C_drew ?_))); (case side4 => exact HC148.out); rintro e w' ⟨rfl, ⟨nd, rfl⟩⟩; refine ⟨_, rfl, ?_⟩) | ((with_reducible refine gate_callee (f := 25) rfl ?_); refine goesL_ (some 27) rfl rfl Tryd.func25 (by kernel_rfl) rfl #[.int .i64 t150] rfl (by (try simp only [List.map_toArray, List.map_cons, List.map_nil]); first | done | rfl | (simp only [List.length_drop, List.length_take]; rfl)) ?_; (with_reducible refine (bech32_ConstsToVersion.calls t150 t151 false _ A9.out).mono ?_); rintro e w' ⟨rfl, ⟨nd, rfl⟩⟩; refine ⟨_, rfl, ?_⟩))
        go_ret2
        exact ⟨by first | rfl | (simp; done) | (simp only [← hji3] <;> (first | rfl | simp)) | (simp [*]; done), by repeat (first | exact Drawn0.refl _ | apply Drawn0.step)⟩
    · rw [if_neg c5] at H
      exact absurd H (by simp)
  · rw [if_neg c4] at H
    exact absurd H (by simp)






end Go.Proofs.YtbbeedclkfcmeaaDoor.KFnReadBech32
