/- The law FnClassOne: its walk. -/
import Derived.Test.YtfbkjkihcajmdacOne2
namespace Go.Proofs.Ytfbkjkihcajmdac.Tok
open Go.RowKit Go.Proofs.YtfbkjkihcajmdacW.PrintWords Go.Proofs.YtfbkjkihcajmdacW.PrintLast Go.Proofs.YtfbkjkihcajmdacW.PrintMore Go.Proofs.Ytfbkjkihcajmdac.QFnClasses
set_option linter.unusedVariables false
set_option linter.unusedSimpArgs false
theorem awake_cls : cls ([0, 20] ++ List.replicate 20 0) = 3 := (cls_iff _).2.2.1.2 ⟨rfl, rfl, rfl⟩
set_option maxRecDepth 100000 in
set_option maxHeartbeats 4000000 in
theorem awakeC (w : World) : Calls Try.prog 14 #[] w fun e w' => e = .returned (.bool true) ∧ Below w.heap.size w w' := by
  obtain ⟨ys, hys⟩ : ∃ ys : List Int, ys = [0, 20] := ⟨_, rfl⟩
  obtain ⟨zs, hzs⟩ : ∃ zs : List Int, zs = ys ++ List.replicate (Int.toNat 20) 0 := ⟨_, rfl⟩
  have hcl : cls zs = 3 := by rw [hzs, hys]; exact awake_cls
  have hzl : zs.length = 22 := by rw [hzs, hys]; rfl
  have HZB : Aside0 (ByteL zs ∧ zs.length ≤ 1000000) := ⟨by rw [hzs, hys]; exact ⟨by unfold ByteL; decide, by decide⟩⟩
  have HY := Aside0.mk hys
  have HZ := Aside0.mk hzs
  have HC := Aside0.mk hcl
  clear hys hzs hcl hzl
  go_enter Try.func14, Try.ntmps14
  go_wp2_with (first | ((with_reducible refine gate_dst (N := 1) rfl ?_); refine Kd.R_lit (Kd.int .u8) _ 5 ?hg (N := 1) ?hd (xs := ([0, 20] : List Int)) (inner := [.int .u8 0, .int .u8 20]) (ok := fun _ => True) (okp := fun _ => True) ?hr ?hp (fun _ hk => hk) trivial (Below.refl _ _) (Nat.le_refl _) (by simp) ?_; (case hd => rfl); (case hg => rfl); (case hr => first | (go_simp; done) | (go_simp; rfl)); (case hp => exact (Reps.one (show Kd.M (Kd.int .u8) _ _ _ 0 [.int .u8 0] from rfl) (Reps.one (show Kd.M (Kd.int .u8) _ _ _ 20 [.int .u8 20] from rfl) (Reps.none _ _)))); intro v3 w3 ho4 hb hg_ hnew_; clear hg_ hnew_; rw [← HY.out] at ho4; have HB3 := Aside0.mk hb; have HO3 := Aside0.mk ho4; clear hb ho4) | ((with_reducible refine gate_builtin (b := .append) (xs := #[.tmp 1, .const (.int .i64 20)]) rfl ?_); refine Kd.R_append_zeros (Kd.int .u8) (w0 := w) w.heap.size rfl (.tmp 1) (.const (.int .i64 20)) 22 3 5 (.int .u8 0) 1 rfl Try.underlying22 Try.underlying3 info5 rfl (by decide) (by decide) v3 ys 0 20 (fun _ => True) rfl rfl ?bz (fun _ _ => trivial) HO3.out (by decide) HB3.out HB3.out.size ?bl ?_; (case bz => rfl); (case bl => rw [HY.out]; decide); intro v4 w4 ho hb hg hat; rw [← HZ.out] at ho; obtain ⟨Az, cz, ez⟩ := Kd.R_slice ho; subst ez; have HB4 := Aside0.mk hb; have HO4 := Aside0.mk ho; clear ho hb hg hat HO3 HB3))
  go_at_call 15
  refine (implClassC Az zs cz _ w.heap.size _ (fun k hk => hk.2) (Kd.V_bound (Kd.R_V HO4.out)) HZB.out.2 HZB.out.1).mono ?_
  rintro e w5 ⟨rfl, hb⟩
  rw [HC.out]
  have HB5 := Aside0.mk (HB4.out.trans (hb.mono HB4.out.size))
  clear hb
  go_wp2_with fail
  go_ret
  exact ⟨rfl, HB5.out⟩
set_option maxRecDepth 100000 in
set_option maxHeartbeats 8000000 in
theorem walkOne (A : Option Addr) (c : Nat) (s : List Int) (w : World) (hR : ReadsInt w .u8 A s.length s) (hc : s.length ≤ c) (hB : ByteL s) :
    Calls Try.prog 4 #[.slice A s.length c] w fun e w' => e = .returned (.bool true) ∧ Below w.heap.size w w' := by
  by_cases hm : s.length ≤ 2147483647
  rotate_left
  · have b1 : decide ((2147483647 : Int) < s.length) = true := decide_eq_true (by omega)
    have b3 : decide (2147483647 < s.length) = true := decide_eq_true (by omega)
    clear hR hc hB
    go_enter Try.func4, Try.ntmps4
    go_wp2
    go_ret
    exact ⟨rfl, Below.refl _ _⟩
  have b1 : decide ((2147483647 : Int) < s.length) = false := decide_eq_false (by omega)
  have b3 : decide (2147483647 < s.length) = false := decide_eq_false (by omega)
  by_cases hn : s.length ≤ 100000
  · have b2 : decide ((100000 : Int) < s.length) = false := decide_eq_false (by omega)
    have b4 : decide (100000 < s.length) = false := decide_eq_false (by omega)
    have hn6 : s.length ≤ 1000000 := by omega
    obtain ⟨l, b, ht, _⟩ := toks_total s s.length 0 (by omega)
    obtain ⟨kh, hkh⟩ := (ev_hybrid s hn6 hB ht).rounds
    have HV := Aside0.mk (show Kd.V (Kd.int .u8) 5 w w.heap.size (fun k => k < w.heap.size) (.slice A s.length c) s from reads_V hR hc)
    have HC := Aside0.mk (Kd.C_of_reads (enc := Value.int .u8) (d := (0 : Int)) (h1 := fun _ => rfl) hR)
    have HB := Aside0.mk hB
    have HL := Aside0.mk hc
    by_cases hy : l.any (fun t => decide (Hyb t)) = true
    · rw [hy] at hkh
      have HK := Aside0.mk hkh
      clear hR hc hB ht hkh hy hm
      go_enter Try.func4, Try.ntmps4
      go_wp2_with fail
      go_at_call 14
      refine (awakeC _).mono ?_
      rintro e w1 ⟨rfl, hb⟩
      have HB1 := Aside0.mk hb
      clear hb
      go_wp2_with fail
      go_at_call 5
      refine (laws_hybrid.calls kh A c s true _ (Kd.C_below HC.out HB1.out) HL.out HK.out).mono ?_
      rintro e w2 ⟨rfl, hb⟩
      have HB2 := Aside0.mk (HB1.out.trans (hb.mono HB1.out.size))
      clear hb
      go_wp2_with fail
      go_ret
      exact ⟨rfl, HB2.out⟩
    · rw [Bool.eq_false_iff.2 hy] at hkh
      have HKH := Aside0.mk hkh
      obtain ⟨e1, e2, e3, e4, e5, e6, e7, e8, e9⟩ := cls_iff s
      obtain ⟨cv, hcv⟩ : ∃ cv, cls s = cv := ⟨_, rfl⟩
      rw [hcv] at e1 e2 e3 e4 e5 e6 e7 e8 e9
      obtain ⟨b1, q1⟩ : ∃ x, x = decide (cv = 1) := ⟨_, rfl⟩
      have HBB1 : Aside0 (∀ x : Bool, (x = true ↔ KeyP s) → x = b1) := ⟨fun x h => Bool.eq_iff_iff.2 (h.trans (e1.symm.trans (by rw [q1]; simp)))⟩
      obtain ⟨b2, q2⟩ : ∃ x, x = decide (cv = 2) := ⟨_, rfl⟩
      have HBB2 : Aside0 (∀ x : Bool, (x = true ↔ PkhP s) → x = b2) := ⟨fun x h => Bool.eq_iff_iff.2 (h.trans (e2.symm.trans (by rw [q2]; simp)))⟩
      obtain ⟨b3, q3⟩ : ∃ x, x = decide (cv = 3) := ⟨_, rfl⟩
      have HBB3 : Aside0 (∀ x : Bool, (x = true ↔ WpkhP s) → x = b3) := ⟨fun x h => Bool.eq_iff_iff.2 (h.trans (e3.symm.trans (by rw [q3]; simp)))⟩
      obtain ⟨b4, q4⟩ : ∃ x, x = decide (cv = 4) := ⟨_, rfl⟩
      have HBB4 : Aside0 (∀ x : Bool, (x = true ↔ ShP s) → x = b4) := ⟨fun x h => Bool.eq_iff_iff.2 (h.trans (e4.symm.trans (by rw [q4]; simp)))⟩
      obtain ⟨b5, q5⟩ : ∃ x, x = decide (cv = 5) := ⟨_, rfl⟩
      have HBB5 : Aside0 (∀ x : Bool, (x = true ↔ WshP s) → x = b5) := ⟨fun x h => Bool.eq_iff_iff.2 (h.trans (e5.symm.trans (by rw [q5]; simp)))⟩
      obtain ⟨b6, q6⟩ : ∃ x, x = decide (cv = 6) := ⟨_, rfl⟩
      have HBB6 : Aside0 (∀ x : Bool, (x = true ↔ MultiP s) → x = b6) := ⟨fun x h => Bool.eq_iff_iff.2 (h.trans (e6.symm.trans (by rw [q6]; simp)))⟩
      obtain ⟨b7, q7⟩ : ∃ x, x = decide (cv = 7) := ⟨_, rfl⟩
      have HBB7 : Aside0 (∀ x : Bool, (x = true ↔ NullP s) → x = b7) := ⟨fun x h => Bool.eq_iff_iff.2 (h.trans (e7.symm.trans (by rw [q7]; simp)))⟩
      obtain ⟨b8, q8⟩ : ∃ x, x = decide (cv = 8) := ⟨_, rfl⟩
      have HBB8 : Aside0 (∀ x : Bool, (x = true ↔ TapP s) → x = b8) := ⟨fun x h => Bool.eq_iff_iff.2 (h.trans (e8.symm.trans (by rw [q8]; simp)))⟩
      obtain ⟨b9, q9⟩ : ∃ x, x = decide (cv = 9) := ⟨_, rfl⟩
      have HBB9 : Aside0 (∀ x : Bool, (x = true ↔ AnchorP s) → x = b9) := ⟨fun x h => Bool.eq_iff_iff.2 (h.trans (e9.symm.trans (by rw [q9]; simp)))⟩
      have HCL := Aside0.mk hcv
      obtain ⟨bs, hbs⟩ : ∃ bs : List Bool, bs = [b1, b2, b3, b4, b5, b6, b7, b8, b9] := ⟨_, rfl⟩
      obtain ⟨is, his⟩ : ∃ is : List Int, is = [1, 2, 3, 4, 5, 6, 7, 8, 9] := ⟨_, rfl⟩
      have hlb : bs.length = 9 := by rw [hbs]; rfl
      have hli : is.length = 9 := by rw [his]; rfl
      have HALL : Aside0 (∀ i : Nat, i < 9 → rdOf false bs (i : Int) = decide (cv = rd is (i : Int))) := ⟨by
        intro i hi
        rw [hbs, his]
        match i, hi with
        | 0, _ => exact q1
        | 1, _ => exact q2
        | 2, _ => exact q3
        | 3, _ => exact q4
        | 4, _ => exact q5
        | 5, _ => exact q6
        | 6, _ => exact q7
        | 7, _ => exact q8
        | 8, _ => exact q9⟩
      have HYB := Aside0.mk hbs
      have HYI := Aside0.mk his
      clear hR hc hB ht hkh hy hm hcv e1 e2 e3 e4 e5 e6 e7 e8 e9 q1 q2 q3 q4 q5 q6 q7 q8 q9 hbs his
      go_enter Try.func4, Try.ntmps4
      go_wp2_with fail
      go_at_call 14
      refine (awakeC _).mono ?_
      rintro e w1 ⟨rfl, hb⟩
      have HB1 := Aside0.mk hb
      clear hb
      go_wp2_with fail
      go_at_call 5
      refine (laws_hybrid.calls kh A c s false _ (Kd.C_below HC.out HB1.out) HL.out HKH.out).mono ?_
      rintro e w2 ⟨rfl, hb⟩
      have HB2 := Aside0.mk (HB1.out.trans (hb.mono HB1.out.size))
      clear hb
      go_wp2_with fail
      go_at_call 15
      refine (implClassC A s c (fun k => k < w.heap.size) w.heap.size _ (fun k hk => Nat.lt_of_lt_of_le hk HB2.out.size) (Kd.V_below HV.out HB2.out) hn6 HB.out).mono ?_
      rintro e w3 ⟨rfl, hb⟩
      rw [HCL.out]
      have HB3 := Aside0.mk (HB2.out.trans (hb.mono HB2.out.size))
      clear hb
      go_wp2_with fail
      go_at_call 8
      refine (implKeyC A s c _ (Kd.C_below HC.out HB3.out) HL.out).mono ?_
      rintro e w4 ⟨rfl, hw⟩
      have HB4 : Aside0 (Below w.heap.size w w4) := ⟨by rw [hw]; exact HB3.out⟩
      clear hw
      rw [show decide (KeyP s) = b1 from HBB1.out _ (by simp)]
      go_wp2_with fail
      go_at_call 16
      refine (implPkhC A s c _ (Kd.C_below HC.out HB4.out) HL.out).mono ?_
      rintro e w5 ⟨rfl, hw⟩
      have HB5 : Aside0 (Below w.heap.size w w5) := ⟨by rw [hw]; exact HB4.out⟩
      clear hw
      rw [show decide (PkhP s) = b2 from HBB2.out _ (by simp)]
      go_wp2_with fail
      go_at_call 17
      refine (implWpkhC A s c _ (Kd.C_below HC.out HB5.out) HL.out).mono ?_
      rintro e w6 ⟨rfl, hw⟩
      have HB6 : Aside0 (Below w.heap.size w w6) := ⟨by rw [hw]; exact HB5.out⟩
      clear hw
      rw [show decide (WpkhP s) = b3 from HBB3.out _ (by simp)]
      go_wp2_with fail
      go_at_call 18
      refine (implShC A s c _ (Kd.C_below HC.out HB6.out) HL.out).mono ?_
      rintro e w7 ⟨rfl, hw⟩
      have HB7 : Aside0 (Below w.heap.size w w7) := ⟨by rw [hw]; exact HB6.out⟩
      clear hw
      rw [show decide (ShP s) = b4 from HBB4.out _ (by simp)]
      go_wp2_with fail
      go_at_call 19
      refine (implWshC A s c _ (Kd.C_below HC.out HB7.out) HL.out).mono ?_
      rintro e w8 ⟨rfl, hw⟩
      have HB8 : Aside0 (Below w.heap.size w w8) := ⟨by rw [hw]; exact HB7.out⟩
      clear hw
      rw [show decide (WshP s) = b5 from HBB5.out _ (by simp)]
      go_wp2_with fail
      go_at_call 10
      refine (implMultiC A s c (fun k => k < w.heap.size) w.heap.size _ (fun k hk => Nat.lt_of_lt_of_le hk HB8.out.size) (Kd.V_below HV.out HB8.out) hn6 HB.out).mono ?_
      rintro e w9 ⟨bb, rfl, hbb, hb⟩
      have HB9 := Aside0.mk (HB8.out.trans (hb.mono HB8.out.size))
      rw [show bb = b6 from HBB6.out _ hbb]
      clear hb hbb
      go_wp2_with fail
      go_at_call 11
      refine (implNullC A s c (fun k => k < w.heap.size) w.heap.size _ (fun k hk => Nat.lt_of_lt_of_le hk HB9.out.size) (Kd.V_below HV.out HB9.out) hn6 HB.out).mono ?_
      rintro e w10 ⟨bb, rfl, hbb, hb⟩
      have HB10 := Aside0.mk (HB9.out.trans (hb.mono HB9.out.size))
      rw [show bb = b7 from HBB7.out _ hbb]
      clear hb hbb
      go_wp2_with fail
      go_at_call 20
      refine (implTapC A s c _ (Kd.C_below HC.out HB10.out) HL.out).mono ?_
      rintro e w11 ⟨rfl, hw⟩
      have HB11 : Aside0 (Below w.heap.size w w11) := ⟨by rw [hw]; exact HB10.out⟩
      clear hw
      rw [show decide (TapP s) = b8 from HBB8.out _ (by simp)]
      go_wp2_with fail
      go_at_call 12
      refine (implAnchorC A s c _ (Kd.C_below HC.out HB11.out) HL.out HB.out).mono ?_
      rintro e w12 ⟨rfl, hb⟩
      have HB12 := Aside0.mk (HB11.out.trans (hb.mono HB11.out.size))
      clear hb
      rw [show decide (AnchorP s) = b9 from HBB9.out _ (by simp)]
      go_wp2_with (first | ((with_reducible refine gate_dst (N := 39) rfl ?_); refine Kd.R_lit Kd.bool _ 4 ?hg (N := 39) ?hd (xs := ([b1, b2, b3, b4, b5, b6, b7, b8, b9] : List Bool)) (inner := [.bool b1, .bool b2, .bool b3, .bool b4, .bool b5, .bool b6, .bool b7, .bool b8, .bool b9]) (ok := fun _ => True) (okp := fun _ => True) ?hr ?hp (fun _ hk => hk) trivial (Below.refl _ _) (Nat.le_refl _) (by simp) ?_; (case hd => rfl); (case hg => rfl); (case hr => first | (go_simp; done) | (go_simp; rfl)); (case hp => exact (Reps.one (show Kd.M Kd.bool _ _ _ b1 [.bool b1] from rfl) (Reps.one (show Kd.M Kd.bool _ _ _ b2 [.bool b2] from rfl) (Reps.one (show Kd.M Kd.bool _ _ _ b3 [.bool b3] from rfl) (Reps.one (show Kd.M Kd.bool _ _ _ b4 [.bool b4] from rfl) (Reps.one (show Kd.M Kd.bool _ _ _ b5 [.bool b5] from rfl) (Reps.one (show Kd.M Kd.bool _ _ _ b6 [.bool b6] from rfl) (Reps.one (show Kd.M Kd.bool _ _ _ b7 [.bool b7] from rfl) (Reps.one (show Kd.M Kd.bool _ _ _ b8 [.bool b8] from rfl) (Reps.one (show Kd.M Kd.bool _ _ _ b9 [.bool b9] from rfl) (Reps.none _ _))))))))))); intro v13 w13 ho4 hb hg_ hnew_; clear hg_ hnew_; rw [← HYB.out] at ho4; have HB13 := Aside0.mk (HB12.out.trans (hb.mono HB12.out.size)); have HO13 := Aside0.mk ho4; obtain ⟨Ab, cb, eb⟩ := Kd.R_slice ho4; subst eb; clear hb ho4) | ((with_reducible refine gate_dst (N := 40) rfl ?_); refine Kd.R_lit (Kd.int .i64) _ 3 ?hg (N := 40) ?hd (xs := ([1, 2, 3, 4, 5, 6, 7, 8, 9] : List Int)) (inner := [.int .i64 1, .int .i64 2, .int .i64 3, .int .i64 4, .int .i64 5, .int .i64 6, .int .i64 7, .int .i64 8, .int .i64 9]) (ok := fun _ => True) (okp := fun _ => True) ?hr ?hp (fun _ hk => hk) trivial (Below.refl _ _) (Nat.le_refl _) (by simp) ?_; (case hd => rfl); (case hg => rfl); (case hr => first | (go_simp; done) | (go_simp; rfl)); (case hp => exact (Reps.one (show Kd.M (Kd.int .i64) _ _ _ 1 [.int .i64 1] from rfl) (Reps.one (show Kd.M (Kd.int .i64) _ _ _ 2 [.int .i64 2] from rfl) (Reps.one (show Kd.M (Kd.int .i64) _ _ _ 3 [.int .i64 3] from rfl) (Reps.one (show Kd.M (Kd.int .i64) _ _ _ 4 [.int .i64 4] from rfl) (Reps.one (show Kd.M (Kd.int .i64) _ _ _ 5 [.int .i64 5] from rfl) (Reps.one (show Kd.M (Kd.int .i64) _ _ _ 6 [.int .i64 6] from rfl) (Reps.one (show Kd.M (Kd.int .i64) _ _ _ 7 [.int .i64 7] from rfl) (Reps.one (show Kd.M (Kd.int .i64) _ _ _ 8 [.int .i64 8] from rfl) (Reps.one (show Kd.M (Kd.int .i64) _ _ _ 9 [.int .i64 9] from rfl) (Reps.none _ _))))))))))); intro v14 w14 ho4 hb hg_ hnew_; clear hg_ hnew_; rw [← HYI.out] at ho4; have HB14 := Aside0.mk (HB13.out.trans (hb.mono HB13.out.size)); have HO14 := Aside0.mk ho4; have HOb := Aside0.mk (Kd.C_below (Kd.R_reads' HO13.out).2.2 hb); obtain ⟨Ai, ci, ei⟩ := Kd.R_slice ho4; subst ei; clear hb ho4))
      have HCi := Aside0.mk (Kd.R_reads' HO14.out).2.2
      clear HO13 HO14
      go_loopw [6] (fun v6 wr => ∃ i : Nat, i ≤ 9 ∧ v6 = .int .i64 i ∧ Aside0 (Kd.C Kd.bool wr Ab bs.length bs) ∧ Aside0 (Kd.C (Kd.int .i64) wr Ai is.length is) ∧ Aside0 (Below w.heap.size w wr)) (fun v6 _ => 9 - (intOf v6).toNat)
      case atStart => exact ⟨0, by omega, rfl, HOb, HCi, HB14⟩
      case round =>
        clear HOb HCi HB14
        obtain ⟨i, hi, rfl, HOb, HCi, HBr⟩ := hrel
        by_cases hlt : i < 9
        · have b0 : decide ((i : Int) < 9) = true := decide_eq_true (by omega)
          have b1_ : decide (i < 9) = true := decide_eq_true hlt
          have hltI : (i : Int) < 9 := by omega
          obtain ⟨adb, eb, hcb⟩ := Kd.at_bool HOb.out (i : Int) (by omega) (by rw [hlb]; omega)
          obtain ⟨ado, eo, hco⟩ := Kd.at_int HCi.out (i : Int) (by omega) (by rw [hli]; omega)
          subst eb; subst eo
          obtain ⟨n, hn⟩ : ∃ n, rd is (i : Int) = n := ⟨_, rfl⟩
          obtain ⟨bv, hbv⟩ : ∃ bv, rdOf false bs (i : Int) = bv := ⟨_, rfl⟩
          have HBN : bv = decide (cv = n) := by rw [← hn, ← hbv]; exact HALL.out i hlt
          rw [hn, Int.toNat_natCast] at hco
          rw [hbv, Int.toNat_natCast] at hcb
          clear hn hbv
          by_cases hcn : cv = n
          · subst hcn
            obtain rfl : bv = true := by rw [HBN]; simp
            have HS := Aside0.mk (show wr.drew.cell? (adb.add i) = some (.bool true) ∧ wr.drew.cell? (ado.add i) = some (.int .i64 cv) from ⟨hcb, hco⟩)
            clear hcb hco HBN
            go_wp2
            refine start_ (n := 11) (S := fun w' => w'.cell? (adb.add i) = some (.bool true) ∧ w'.cell? (ado.add i) = some (.int .i64 cv)) (ds := []) #[false, false, false, false, false, false, false, false, false, false, false] (by kernel_rfl) rfl rfl HS.out (fun hHeld => ?_)
            refine pure_ (i := 0) (N := some 47) (v := ?_) (a' := ?_) #[true, false, false, false, false, false, false, false, false, false, false] rfl rfl (by kernel_rfl) (fun _ _ _ h => h) (Or.inl ⟨by rfl, ?_⟩) ?_ ?_
            rotate_left
            · intro w'
              go_simp
              with_reducible rfl
            rotate_left
            · simp only [Act.put, List.setIfInBounds_toArray, List.set_cons_zero, List.set_cons_succ, i64_w, i32_w]
              rfl
            refine pure_ (i := 1) (N := some 48) (v := ?_) (a' := ?_) #[true, true, false, false, false, false, false, false, false, false, false] rfl rfl (by kernel_rfl) (fun _ _ _ h => h) (Or.inl ⟨by rfl, ?_⟩) ?_ ?_
            rotate_left
            · intro w'
              go_simp
              with_reducible rfl
            rotate_left
            · simp only [Act.put, List.setIfInBounds_toArray, List.set_cons_zero, List.set_cons_succ, i64_w, i32_w]
              rfl
            refine pure_ (i := 2) (N := some 49) (v := ?_) (a' := ?_) #[true, true, true, false, false, false, false, false, false, false, false] rfl rfl (by kernel_rfl) (fun _ _ _ h => h) (Or.inl ⟨by rfl, ?_⟩) ?_ ?_
            rotate_left
            · intro w'
              go_simp
              with_reducible rfl
            rotate_left
            · simp only [Act.put, List.setIfInBounds_toArray, List.set_cons_zero, List.set_cons_succ, i64_w, i32_w]
              rfl
            refine take_ (i := 3) (N := some 50) (v := ?_) (a' := ?_) #[true, true, true, true, false, false, false, false, false, false, false] rfl rfl (by kernel_rfl) (fun _ _ _ h => h) (Or.inl ⟨by rfl, ?_⟩) hHeld ?_ ?_
            rotate_left
            · rintro w' ⟨s0, s1⟩
              go_simp
              with_reducible rfl
            rotate_left
            · simp only [Act.put, List.setIfInBounds_toArray, List.set_cons_zero, List.set_cons_succ, i64_w, i32_w]
              rfl
            refine pure_ (i := 4) (N := some 51) (v := ?_) (a' := ?_) #[true, true, true, true, true, false, false, false, false, false, false] rfl rfl (by kernel_rfl) (fun _ _ _ h => h) (Or.inl ⟨by rfl, ?_⟩) ?_ ?_
            rotate_left
            · intro w'
              go_simp
              with_reducible rfl
            rotate_left
            · simp only [Act.put, List.setIfInBounds_toArray, List.set_cons_zero, List.set_cons_succ, i64_w, i32_w]
              rfl
            refine pure_ (i := 5) (N := some 52) (v := ?_) (a' := ?_) #[true, true, true, true, true, true, false, false, false, false, false] rfl rfl (by kernel_rfl) (fun _ _ _ h => h) (Or.inl ⟨by rfl, ?_⟩) ?_ ?_
            rotate_left
            · intro w'
              go_simp
              with_reducible rfl
            rotate_left
            · simp only [Act.put, List.setIfInBounds_toArray, List.set_cons_zero, List.set_cons_succ, i64_w, i32_w]
              rfl
            refine pure_ (i := 6) (N := some 53) (v := ?_) (a' := ?_) #[true, true, true, true, true, true, true, false, false, false, false] rfl rfl (by kernel_rfl) (fun _ _ _ h => h) (Or.inl ⟨by rfl, ?_⟩) ?_ ?_
            rotate_left
            · intro w'
              go_simp
              with_reducible rfl
            rotate_left
            · simp only [Act.put, List.setIfInBounds_toArray, List.set_cons_zero, List.set_cons_succ, i64_w, i32_w]
              rfl
            refine pure_ (i := 7) (N := some 54) (v := ?_) (a' := ?_) #[true, true, true, true, true, true, true, true, false, false, false] rfl rfl (by kernel_rfl) (fun _ _ _ h => h) (Or.inl ⟨by rfl, ?_⟩) ?_ ?_
            rotate_left
            · intro w'
              go_simp
              with_reducible rfl
            rotate_left
            · simp only [Act.put, List.setIfInBounds_toArray, List.set_cons_zero, List.set_cons_succ, i64_w, i32_w]
              rfl
            refine take_ (i := 8) (N := some 55) (v := ?_) (a' := ?_) #[true, true, true, true, true, true, true, true, true, false, false] rfl rfl (by kernel_rfl) (fun _ _ _ h => h) (Or.inl ⟨by rfl, ?_⟩) hHeld ?_ ?_
            rotate_left
            · rintro w' ⟨s0, s1⟩
              go_simp
              with_reducible rfl
            rotate_left
            · simp only [Act.put, List.setIfInBounds_toArray, List.set_cons_zero, List.set_cons_succ, i64_w, i32_w]
              rfl
            refine pure_ (i := 9) (N := some 56) (v := ?_) (a' := ?_) #[true, true, true, true, true, true, true, true, true, true, false] rfl rfl (by kernel_rfl) (fun _ _ _ h => h) (Or.inl ⟨by rfl, ?_⟩) ?_ ?_
            rotate_left
            · intro w'
              go_simp
              with_reducible rfl
            rotate_left
            · simp only [Act.put, List.setIfInBounds_toArray, List.set_cons_zero, List.set_cons_succ, i64_w, i32_w]
              rfl
            refine pure_ (i := 10) (N := some 57) (v := ?_) (a' := ?_) #[true, true, true, true, true, true, true, true, true, true, true] rfl rfl (by kernel_rfl) (fun _ _ _ h => h) (Or.inl ⟨by rfl, ?_⟩) ?_ ?_
            rotate_left
            · intro w'
              go_simp
              with_reducible rfl
            rotate_left
            · simp only [Act.put, List.setIfInBounds_toArray, List.set_cons_zero, List.set_cons_succ, i64_w, i32_w]
              rfl
            refine done_ (by kernel_rfl) ?_
            go_wp2
            go_roundw
            case rel => exact ⟨i + 1, by omega, by go_num, ⟨by (with_reducible repeat (first | apply Kd.C_drewN | apply Kd.C_drew)); exact HOb.out⟩, ⟨by (with_reducible repeat (first | apply Kd.C_drewN | apply Kd.C_drew)); exact HCi.out⟩, ⟨by repeat (first | (with_reducible first | exact HBr.out | apply pw_below_drewN | apply below_drew1) | exact HBr.out)⟩⟩
            case measure => simp [intOf]; omega
          · obtain rfl : bv = false := by rw [HBN]; simpa using hcn
            have d0 : decide (cv = n) = false := decide_eq_false hcn
            have d1 : (cv == n) = false := by simpa using hcn
            have HS := Aside0.mk (show wr.drew.cell? (adb.add i) = some (.bool false) ∧ wr.drew.cell? (ado.add i) = some (.int .i64 n) from ⟨hcb, hco⟩)
            clear hcb hco HBN
            go_wp2
            refine start_ (n := 11) (S := fun w' => w'.cell? (adb.add i) = some (.bool false) ∧ w'.cell? (ado.add i) = some (.int .i64 n)) (ds := []) #[false, false, false, false, false, false, false, false, false, false, false] (by kernel_rfl) rfl rfl HS.out (fun hHeld => ?_)
            refine pure_ (i := 0) (N := some 47) (v := ?_) (a' := ?_) #[true, false, false, false, false, false, false, false, false, false, false] rfl rfl (by kernel_rfl) (fun _ _ _ h => h) (Or.inl ⟨by rfl, ?_⟩) ?_ ?_
            rotate_left
            · intro w'
              go_simp
              with_reducible rfl
            rotate_left
            · simp only [Act.put, List.setIfInBounds_toArray, List.set_cons_zero, List.set_cons_succ, i64_w, i32_w]
              rfl
            refine pure_ (i := 1) (N := some 48) (v := ?_) (a' := ?_) #[true, true, false, false, false, false, false, false, false, false, false] rfl rfl (by kernel_rfl) (fun _ _ _ h => h) (Or.inl ⟨by rfl, ?_⟩) ?_ ?_
            rotate_left
            · intro w'
              go_simp
              with_reducible rfl
            rotate_left
            · simp only [Act.put, List.setIfInBounds_toArray, List.set_cons_zero, List.set_cons_succ, i64_w, i32_w]
              rfl
            refine pure_ (i := 2) (N := some 49) (v := ?_) (a' := ?_) #[true, true, true, false, false, false, false, false, false, false, false] rfl rfl (by kernel_rfl) (fun _ _ _ h => h) (Or.inl ⟨by rfl, ?_⟩) ?_ ?_
            rotate_left
            · intro w'
              go_simp
              with_reducible rfl
            rotate_left
            · simp only [Act.put, List.setIfInBounds_toArray, List.set_cons_zero, List.set_cons_succ, i64_w, i32_w]
              rfl
            refine take_ (i := 3) (N := some 50) (v := ?_) (a' := ?_) #[true, true, true, true, false, false, false, false, false, false, false] rfl rfl (by kernel_rfl) (fun _ _ _ h => h) (Or.inl ⟨by rfl, ?_⟩) hHeld ?_ ?_
            rotate_left
            · rintro w' ⟨s0, s1⟩
              go_simp
              with_reducible rfl
            rotate_left
            · simp only [Act.put, List.setIfInBounds_toArray, List.set_cons_zero, List.set_cons_succ, i64_w, i32_w]
              rfl
            refine pure_ (i := 4) (N := some 51) (v := ?_) (a' := ?_) #[true, true, true, true, true, false, false, false, false, false, false] rfl rfl (by kernel_rfl) (fun _ _ _ h => h) (Or.inl ⟨by rfl, ?_⟩) ?_ ?_
            rotate_left
            · intro w'
              go_simp
              with_reducible rfl
            rotate_left
            · simp only [Act.put, List.setIfInBounds_toArray, List.set_cons_zero, List.set_cons_succ, i64_w, i32_w]
              rfl
            refine pure_ (i := 5) (N := some 52) (v := ?_) (a' := ?_) #[true, true, true, true, true, true, false, false, false, false, false] rfl rfl (by kernel_rfl) (fun _ _ _ h => h) (Or.inl ⟨by rfl, ?_⟩) ?_ ?_
            rotate_left
            · intro w'
              go_simp
              with_reducible rfl
            rotate_left
            · simp only [Act.put, List.setIfInBounds_toArray, List.set_cons_zero, List.set_cons_succ, i64_w, i32_w]
              rfl
            refine pure_ (i := 6) (N := some 53) (v := ?_) (a' := ?_) #[true, true, true, true, true, true, true, false, false, false, false] rfl rfl (by kernel_rfl) (fun _ _ _ h => h) (Or.inl ⟨by rfl, ?_⟩) ?_ ?_
            rotate_left
            · intro w'
              go_simp
              with_reducible rfl
            rotate_left
            · simp only [Act.put, List.setIfInBounds_toArray, List.set_cons_zero, List.set_cons_succ, i64_w, i32_w]
              rfl
            refine pure_ (i := 7) (N := some 54) (v := ?_) (a' := ?_) #[true, true, true, true, true, true, true, true, false, false, false] rfl rfl (by kernel_rfl) (fun _ _ _ h => h) (Or.inl ⟨by rfl, ?_⟩) ?_ ?_
            rotate_left
            · intro w'
              go_simp
              with_reducible rfl
            rotate_left
            · simp only [Act.put, List.setIfInBounds_toArray, List.set_cons_zero, List.set_cons_succ, i64_w, i32_w]
              rfl
            refine take_ (i := 8) (N := some 55) (v := ?_) (a' := ?_) #[true, true, true, true, true, true, true, true, true, false, false] rfl rfl (by kernel_rfl) (fun _ _ _ h => h) (Or.inl ⟨by rfl, ?_⟩) hHeld ?_ ?_
            rotate_left
            · rintro w' ⟨s0, s1⟩
              go_simp
              with_reducible rfl
            rotate_left
            · simp only [Act.put, List.setIfInBounds_toArray, List.set_cons_zero, List.set_cons_succ, i64_w, i32_w]
              rfl
            refine pure_ (i := 9) (N := some 56) (v := ?_) (a' := ?_) #[true, true, true, true, true, true, true, true, true, true, false] rfl rfl (by kernel_rfl) (fun _ _ _ h => h) (Or.inl ⟨by rfl, ?_⟩) ?_ ?_
            rotate_left
            · intro w'
              go_simp
              with_reducible rfl
            rotate_left
            · simp only [Act.put, List.setIfInBounds_toArray, List.set_cons_zero, List.set_cons_succ, i64_w, i32_w]
              rfl
            refine pure_ (i := 10) (N := some 57) (v := ?_) (a' := ?_) #[true, true, true, true, true, true, true, true, true, true, true] rfl rfl (by kernel_rfl) (fun _ _ _ h => h) (Or.inl ⟨by rfl, ?_⟩) ?_ ?_
            rotate_left
            · intro w'
              go_simp
              with_reducible rfl
            rotate_left
            · simp only [Act.put, List.setIfInBounds_toArray, List.set_cons_zero, List.set_cons_succ, i64_w, i32_w]
              rfl
            refine done_ (by kernel_rfl) ?_
            go_wp2
            go_roundw
            case rel => exact ⟨i + 1, by omega, by go_num, ⟨by (with_reducible repeat (first | apply Kd.C_drewN | apply Kd.C_drew)); exact HOb.out⟩, ⟨by (with_reducible repeat (first | apply Kd.C_drewN | apply Kd.C_drew)); exact HCi.out⟩, ⟨by repeat (first | (with_reducible first | exact HBr.out | apply pw_below_drewN | apply below_drew1) | exact HBr.out)⟩⟩
            case measure => simp [intOf]; omega
        · have b0 : decide ((i : Int) < 9) = false := decide_eq_false (by omega)
          have b1_ : decide (i < 9) = false := decide_eq_false hlt
          go_wp2
          go_ret
          exact ⟨rfl, HBr.out⟩
  · have b2 : decide ((100000 : Int) < s.length) = true := decide_eq_true (by omega)
    have b4 : decide (100000 < s.length) = true := decide_eq_true (by omega)
    clear hR hc hB
    go_enter Try.func4, Try.ntmps4
    go_wp2_with fail
    go_at_call 14
    refine (awakeC _).mono ?_
    rintro e w1 ⟨rfl, hb⟩
    have HB1 := Aside0.mk hb
    clear hb
    go_wp2_with fail
    go_ret
    exact ⟨rfl, HB1.out⟩
end Go.Proofs.Ytfbkjkihcajmdac.Tok
