/- The class of a script. -/
import Derived.Test.YtfbkjkihcajmdacOne1
namespace Go.Proofs.Ytfbkjkihcajmdac.Tok
open Go.RowKit Go.Proofs.YtfbkjkihcajmdacW.PrintWords Go.Proofs.YtfbkjkihcajmdacW.PrintLast Go.Proofs.YtfbkjkihcajmdacW.PrintMore Go.Proofs.Ytfbkjkihcajmdac.QFnClasses
set_option linter.unusedVariables false
set_option linter.unusedSimpArgs false
/-- Whether a thing holds. -/
noncomputable def tb (p : Prop) : Bool := @decide p (Classical.propDecidable p)
theorem tb_iff (p : Prop) : tb p = true ↔ p := by unfold tb; simp
theorem tb_true {p : Prop} (h : p) : tb p = true := (tb_iff p).2 h
theorem tb_false {p : Prop} (h : ¬ p) : tb p = false := Bool.eq_false_iff.2 (fun h2 => h ((tb_iff p).1 h2))
theorem tb_of {b : Bool} {p : Prop} (h : b = true ↔ p) : b = tb p := Bool.eq_iff_iff.2 (h.trans (tb_iff p).symm)
theorem tb_dec {p : Prop} [Decidable p] : decide p = tb p := tb_of (by simp)
open Classical in
noncomputable def cls0 (s : List Int) : Int := if KeyP s then 1 else if PkhP s then 2 else if ShP s then 4 else if WpkhP s then 3 else if WshP s then 5 else if MultiP s then 6 else if NullP s then 7 else 0
open Classical in
noncomputable def cls1 (s : List Int) : Int := if AnchorP s then 9 else if TapP s then 8 else 0
open Classical in
noncomputable def cls (s : List Int) : Int := if cls0 s = 0 then cls1 s else cls0 s
set_option maxRecDepth 100000 in
set_option maxHeartbeats 8000000 in
theorem typeOf0 (A : Option Addr) (s : List Int) (c : Nat) (oks : Nat → Prop) (base : Nat) (w : World)
    (hok : ∀ k, oks k → k < w.heap.size) (hV : Kd.V (Kd.int .u8) 5 w base oks (.slice A s.length c) s) (hn : s.length ≤ 1000000) (hB : ByteL s) :
    Calls Try.prog 40 #[.int .u16 0, .slice A s.length c] w fun e w' => e = .returned (.int .u8 (cls0 s)) ∧ Below w.heap.size w w' := by
  have HV := Aside0.mk hV
  have HOK := Aside0.mk hok
  have HB := Aside0.mk hB
  have HL := Aside0.mk (Kd.V_at hV).2.1
  have HB0 := Aside0.mk (Below.refl w.heap.size w)
  clear hV hok hB
  go_enter Try.func40, Try.ntmps40
  go_wp2_with fail
  go_at_call 36
  refine (iskeyC A s c _ (Kd.F_now (Kd.V_at (Kd.V_below HV.out HB0.out)).2.2) HL.out).mono ?_
  rintro e w1 ⟨rfl, hw⟩
  have HB1 : Aside0 (Below w.heap.size w w1) := ⟨by rw [hw]; exact HB0.out⟩
  clear hw
  rw [tb_dec]
  by_cases p0 : KeyP s
  · rw [tb_true p0]
    have HQ : Aside0 (cls0 s = 1) := ⟨by unfold cls0; simp only [if_pos p0]⟩
    clear p0
    go_wp2_with fail
    go_ret
    exact ⟨by rw [HQ.out]; rfl, HB1.out⟩
  rw [tb_false p0]
  go_wp2_with fail
  go_at_call 41
  refine (isPkhC A s c _ (Kd.F_now (Kd.V_at (Kd.V_below HV.out HB1.out)).2.2) HL.out).mono ?_
  rintro e w2 ⟨rfl, hw⟩
  have HB2 : Aside0 (Below w.heap.size w w2) := ⟨by rw [hw]; exact HB1.out⟩
  clear hw
  rw [tb_dec]
  by_cases p1 : PkhP s
  · rw [tb_true p1]
    have HQ : Aside0 (cls0 s = 2) := ⟨by unfold cls0; simp only [if_neg p0, if_pos p1]⟩
    clear p0 p1
    go_wp2_with fail
    go_ret
    exact ⟨by rw [HQ.out]; rfl, HB2.out⟩
  rw [tb_false p1]
  go_wp2_with fail
  go_at_call 43
  refine (isShC A s c _ (Kd.F_now (Kd.V_at (Kd.V_below HV.out HB2.out)).2.2) HL.out).mono ?_
  rintro e w3 ⟨rfl, hw⟩
  have HB3 : Aside0 (Below w.heap.size w w3) := ⟨by rw [hw]; exact HB2.out⟩
  clear hw
  rw [tb_dec]
  by_cases p2 : ShP s
  · rw [tb_true p2]
    have HQ : Aside0 (cls0 s = 4) := ⟨by unfold cls0; simp only [if_neg p0, if_neg p1, if_pos p2]⟩
    clear p0 p1 p2
    go_wp2_with fail
    go_ret
    exact ⟨by rw [HQ.out]; rfl, HB3.out⟩
  rw [tb_false p2]
  go_wp2_with fail
  go_at_call 42
  refine (isWpkhC A s c _ (Kd.F_now (Kd.V_at (Kd.V_below HV.out HB3.out)).2.2) HL.out).mono ?_
  rintro e w4 ⟨rfl, hw⟩
  have HB4 : Aside0 (Below w.heap.size w w4) := ⟨by rw [hw]; exact HB3.out⟩
  clear hw
  rw [tb_dec]
  by_cases p3 : WpkhP s
  · rw [tb_true p3]
    have HQ : Aside0 (cls0 s = 3) := ⟨by unfold cls0; simp only [if_neg p0, if_neg p1, if_neg p2, if_pos p3]⟩
    clear p0 p1 p2 p3
    go_wp2_with fail
    go_ret
    exact ⟨by rw [HQ.out]; rfl, HB4.out⟩
  rw [tb_false p3]
  go_wp2_with fail
  go_at_call 44
  refine (isWshC A s c _ (Kd.F_now (Kd.V_at (Kd.V_below HV.out HB4.out)).2.2) HL.out).mono ?_
  rintro e w5 ⟨rfl, hw⟩
  have HB5 : Aside0 (Below w.heap.size w w5) := ⟨by rw [hw]; exact HB4.out⟩
  clear hw
  rw [tb_dec]
  by_cases p4 : WshP s
  · rw [tb_true p4]
    have HQ : Aside0 (cls0 s = 5) := ⟨by unfold cls0; simp only [if_neg p0, if_neg p1, if_neg p2, if_neg p3, if_pos p4]⟩
    clear p0 p1 p2 p3 p4
    go_wp2_with fail
    go_ret
    exact ⟨by rw [HQ.out]; rfl, HB5.out⟩
  rw [tb_false p4]
  go_wp2_with fail
  go_at_call 37
  refine (ismultiC A s c oks base _ (fun k hk => Nat.lt_of_lt_of_le (HOK.out k hk) HB5.out.size) (Kd.V_below HV.out HB5.out) hn HB.out).mono ?_
  rintro e w6 ⟨bb, rfl, hbb, hb⟩
  obtain rfl := tb_of hbb
  have HB6 := Aside0.mk (HB5.out.trans (hb.mono HB5.out.size))
  clear hb hbb
  by_cases p5 : MultiP s
  · rw [tb_true p5]
    have HQ : Aside0 (cls0 s = 6) := ⟨by unfold cls0; simp only [if_neg p0, if_neg p1, if_neg p2, if_neg p3, if_neg p4, if_pos p5]⟩
    clear p0 p1 p2 p3 p4 p5
    go_wp2_with fail
    go_ret
    exact ⟨by rw [HQ.out]; rfl, HB6.out⟩
  rw [tb_false p5]
  go_wp2_with fail
  go_at_call 38
  refine (nullC A s c oks base _ (fun k hk => Nat.lt_of_lt_of_le (HOK.out k hk) HB6.out.size) (Kd.V_below HV.out HB6.out) hn HB.out).mono ?_
  rintro e w7 ⟨bb, rfl, hbb, hb⟩
  obtain rfl := tb_of hbb
  have HB7 := Aside0.mk (HB6.out.trans (hb.mono HB6.out.size))
  clear hb hbb
  by_cases p6 : NullP s
  · rw [tb_true p6]
    have HQ : Aside0 (cls0 s = 7) := ⟨by unfold cls0; simp only [if_neg p0, if_neg p1, if_neg p2, if_neg p3, if_neg p4, if_neg p5, if_pos p6]⟩
    clear p0 p1 p2 p3 p4 p5 p6
    go_wp2_with fail
    go_ret
    exact ⟨by rw [HQ.out]; rfl, HB7.out⟩
  rw [tb_false p6]
  go_wp2_with fail
  have HQ : Aside0 (cls0 s = 0) := ⟨by unfold cls0; simp only [if_neg p0, if_neg p1, if_neg p2, if_neg p3, if_neg p4, if_neg p5, if_neg p6]⟩
  go_ret
  exact ⟨by rw [HQ.out]; rfl, HB7.out⟩
set_option maxRecDepth 100000 in
set_option maxHeartbeats 8000000 in
theorem typeOf1 (A : Option Addr) (s : List Int) (c : Nat) (oks : Nat → Prop) (base : Nat) (w : World)
    (hok : ∀ k, oks k → k < w.heap.size) (hV : Kd.V (Kd.int .u8) 5 w base oks (.slice A s.length c) s) (hn : s.length ≤ 1000000) (hB : ByteL s) :
    Calls Try.prog 40 #[.int .u16 1, .slice A s.length c] w fun e w' => e = .returned (.int .u8 (cls1 s)) ∧ Below w.heap.size w w' := by
  have HV := Aside0.mk hV
  have HOK := Aside0.mk hok
  have HB := Aside0.mk hB
  have HL := Aside0.mk (Kd.V_at hV).2.1
  have HB0 := Aside0.mk (Below.refl w.heap.size w)
  clear hV hok hB
  go_enter Try.func40, Try.ntmps40
  go_wp2_with fail
  go_at_call 27
  refine (payAnchorC A s c _ (Kd.F_now (Kd.V_at (Kd.V_below HV.out HB0.out)).2.2) HL.out HB.out).mono ?_
  rintro e w1 ⟨rfl, hb⟩
  have HB1 := Aside0.mk (HB0.out.trans (hb.mono HB0.out.size))
  clear hb
  rw [tb_dec]
  by_cases p0 : AnchorP s
  · rw [tb_true p0]
    have HQ : Aside0 (cls1 s = 9) := ⟨by unfold cls1; simp only [if_pos p0]⟩
    clear p0
    go_wp2_with fail
    go_ret
    exact ⟨by rw [HQ.out]; rfl, HB1.out⟩
  rw [tb_false p0]
  go_wp2_with fail
  go_at_call 45
  refine (isTapC A s c _ (Kd.F_now (Kd.V_at (Kd.V_below HV.out HB1.out)).2.2) HL.out).mono ?_
  rintro e w2 ⟨rfl, hw⟩
  have HB2 : Aside0 (Below w.heap.size w w2) := ⟨by rw [hw]; exact HB1.out⟩
  clear hw
  rw [tb_dec]
  by_cases p1 : TapP s
  · rw [tb_true p1]
    have HQ : Aside0 (cls1 s = 8) := ⟨by unfold cls1; simp only [if_neg p0, if_pos p1]⟩
    clear p0 p1
    go_wp2_with fail
    go_ret
    exact ⟨by rw [HQ.out]; rfl, HB2.out⟩
  rw [tb_false p1]
  go_wp2_with fail
  have HQ : Aside0 (cls1 s = 0) := ⟨by unfold cls1; simp only [if_neg p0, if_neg p1]⟩
  go_ret
  exact ⟨by rw [HQ.out]; rfl, HB2.out⟩
theorem cls0_range (s : List Int) : 0 ≤ cls0 s ∧ cls0 s ≤ 9 := by
  unfold cls0
  repeat' split
  all_goals omega
theorem cls1_range (s : List Int) : 0 ≤ cls1 s ∧ cls1 s ≤ 9 := by
  unfold cls1
  repeat' split
  all_goals omega
theorem cls_range (s : List Int) : 0 ≤ cls s ∧ cls s ≤ 9 := by
  have h0 := cls0_range s
  have h1 := cls1_range s
  unfold cls
  split <;> assumption
set_option maxRecDepth 100000 in
set_option maxHeartbeats 4000000 in
theorem getClassC (A : Option Addr) (s : List Int) (c : Nat) (oks : Nat → Prop) (base : Nat) (w : World)
    (hok : ∀ k, oks k → k < w.heap.size) (hV : Kd.V (Kd.int .u8) 5 w base oks (.slice A s.length c) s) (hn : s.length ≤ 1000000) (hB : ByteL s) :
    Calls Try.prog 29 #[.slice A s.length c] w fun e w' => e = .returned (.int .u8 (cls s)) ∧ Below w.heap.size w w' := by
  have H0 := Aside0.mk (typeOf0 A s c oks base w hok hV hn hB)
  have HV := Aside0.mk hV
  have HOK := Aside0.mk hok
  have HB := Aside0.mk hB
  clear hok hV hB
  by_cases h0 : cls0 s = 0
  · have HC : Aside0 (cls s = cls1 s) := ⟨by unfold cls; rw [if_pos h0]⟩
    rw [h0] at H0
    clear h0
    go_enter Try.func29, Try.ntmps29
    go_wp2_with fail
    go_at_call 40
    refine H0.out.mono ?_
    rintro e w1 ⟨rfl, hb⟩
    have HB1 := Aside0.mk hb
    have HV1 := Aside0.mk (Kd.V_below HV.out hb)
    clear hb
    go_wp2_with fail
    go_at_call 40
    refine (typeOf1 A s c oks base _ (fun k hk => Nat.lt_of_lt_of_le (HOK.out k hk) HB1.out.size) HV1.out hn HB.out).mono ?_
    rintro e w2 ⟨rfl, hb⟩
    have HB2 := Aside0.mk (HB1.out.trans (hb.mono HB1.out.size))
    clear hb
    go_wp2_with fail
    go_ret
    exact ⟨by rw [HC.out]; rfl, HB2.out⟩
  · have HC : Aside0 (cls s = cls0 s) := ⟨by unfold cls; rw [if_neg h0]⟩
    obtain ⟨n, hn0⟩ : ∃ n, cls0 s = n := ⟨_, rfl⟩
    rw [hn0] at H0 HC h0
    have d0 : decide (n = 0) = false := decide_eq_false h0
    have d1 : (n != 0) = true := by simpa using h0
    clear hn0
    go_enter Try.func29, Try.ntmps29
    go_wp2_with fail
    go_at_call 40
    refine H0.out.mono ?_
    rintro e w1 ⟨rfl, hb⟩
    have HB1 := Aside0.mk hb
    clear hb
    go_wp2_with fail
    go_ret
    exact ⟨by rw [HC.out]; rfl, HB1.out⟩
set_option maxRecDepth 100000 in
set_option maxHeartbeats 4000000 in
theorem implClassC (A : Option Addr) (s : List Int) (c : Nat) (oks : Nat → Prop) (base : Nat) (w : World)
    (hok : ∀ k, oks k → k < w.heap.size) (hV : Kd.V (Kd.int .u8) 5 w base oks (.slice A s.length c) s) (hn : s.length ≤ 1000000) (hB : ByteL s) :
    Calls Try.prog 15 #[.slice A s.length c] w fun e w' => e = .returned (.int .i64 (cls s)) ∧ Below w.heap.size w w' := by
  have H0 := getClassC A s c oks base w hok hV hn hB
  have hr := cls_range s
  clear hok hV hB
  generalize cls s = n at H0 hr ⊢
  have H0 := Aside0.mk H0
  have q : IntKind.i64.wrap n = n := i64w hr.1 (by omega)
  go_enter Try.func15, Try.ntmps15
  go_wp2_with fail
  go_at_call 29
  refine H0.out.mono ?_
  rintro e w1 ⟨rfl, hb⟩
  have HB1 := Aside0.mk hb
  clear hb
  go_wp2_with fail
  go_ret
  exact ⟨by first | rfl | (rw [q]; rfl) | simp [q], HB1.out⟩
theorem multi_push {s : List Int} {m : Nat} (h1 : s.getD 1 0 = (m : Int)) (hm : 1 ≤ m) (hm2 : m < 76) (hl : s.length = m + 2) : ¬ MultiP s := by
  rintro ⟨_, _, _, k, j, hk, _⟩
  have hd := dat_push (s := s) (i := 1) (by omega) (by omega)
  rw [if_pos (by omega)] at hd
  have hns : ¬ Small (s.getD 1 0) := by unfold Small; omega
  obtain ⟨k', _, h2⟩ := keys_step hk hd hns
  exact keys_end h2 (by omega)
theorem multi_no {s : List Int} (h : MultiP s) : ¬ WpkhP s ∧ ¬ WshP s ∧ ¬ TapP s ∧ ¬ AnchorP s :=
  ⟨fun h2 => multi_push (m := 20) h2.2.2 (by omega) (by omega) h2.1 h, fun h2 => multi_push (m := 32) h2.2.2 (by omega) (by omega) h2.1 h, fun h2 => multi_push (m := 32) h2.2.2 (by omega) (by omega) h2.1 h, fun h2 => by
    have h3 := h.2.1
    rw [show s = [81, 2, 78, 115] from h2] at h3
    simp at h3⟩
theorem f_KeyP {s : List Int} (h : KeyP s) : (s.length = 35 ∧ s.getD 0 0 = 33) ∨ (s.length = 67 ∧ s.getD 0 0 = 65) := h.elim (fun h => Or.inl ⟨h.1, h.2.2.1⟩) (fun h => Or.inr ⟨h.1, h.2.2.1⟩)
theorem f_PkhP {s : List Int} (h : PkhP s) : s.length = 25 ∧ s.getD 0 0 = 118 := ⟨h.1, h.2.1⟩
theorem f_WpkhP {s : List Int} (h : WpkhP s) : s.length = 22 ∧ s.getD 0 0 = 0 := ⟨h.1, h.2.1⟩
theorem f_ShP {s : List Int} (h : ShP s) : s.length = 23 ∧ s.getD 0 0 = 169 := ⟨h.1, h.2.1⟩
theorem f_WshP {s : List Int} (h : WshP s) : s.length = 34 ∧ s.getD 0 0 = 0 := ⟨h.1, h.2.1⟩
theorem f_MultiP {s : List Int} (h : MultiP s) : (s.getD 0 0 = 0 ∨ (81 ≤ s.getD 0 0 ∧ s.getD 0 0 ≤ 96)) := h.2.2.1
theorem f_NullP {s : List Int} (h : NullP s) : s.getD 0 0 = 106 := h.2.1
theorem f_TapP {s : List Int} (h : TapP s) : s.length = 34 ∧ s.getD 0 0 = 81 := ⟨h.1, h.2.1⟩
theorem f_AnchorP {s : List Int} (h : AnchorP s) : s.length = 4 ∧ s.getD 0 0 = 81 := (by rw [show s = [81, 2, 78, 115] from h]; exact ⟨rfl, rfl⟩)
theorem cls_iff (s : List Int) : (cls s = 1 ↔ KeyP s) ∧ (cls s = 2 ↔ PkhP s) ∧ (cls s = 3 ↔ WpkhP s) ∧ (cls s = 4 ↔ ShP s) ∧ (cls s = 5 ↔ WshP s) ∧ (cls s = 6 ↔ MultiP s) ∧ (cls s = 7 ↔ NullP s) ∧ (cls s = 8 ↔ TapP s) ∧ (cls s = 9 ↔ AnchorP s) := by
  by_cases h : KeyP s
  · have n2 : ¬ PkhP s := fun h2 => by have a := f_KeyP h; have b := f_PkhP h2; omega
    have n3 : ¬ WpkhP s := fun h2 => by have a := f_KeyP h; have b := f_WpkhP h2; omega
    have n4 : ¬ ShP s := fun h2 => by have a := f_KeyP h; have b := f_ShP h2; omega
    have n5 : ¬ WshP s := fun h2 => by have a := f_KeyP h; have b := f_WshP h2; omega
    have n6 : ¬ MultiP s := fun h2 => by have a := f_KeyP h; have b := f_MultiP h2; omega
    have n7 : ¬ NullP s := fun h2 => by have a := f_KeyP h; have b := f_NullP h2; omega
    have n8 : ¬ TapP s := fun h2 => by have a := f_KeyP h; have b := f_TapP h2; omega
    have n9 : ¬ AnchorP s := fun h2 => by have a := f_KeyP h; have b := f_AnchorP h2; omega
    simp [cls, cls0, cls1, n2, n3, n4, n5, n6, n7, n8, n9, h]
  have n1 := h
  clear h
  by_cases h : PkhP s
  · have n1 : ¬ KeyP s := fun h2 => by have a := f_PkhP h; have b := f_KeyP h2; omega
    have n3 : ¬ WpkhP s := fun h2 => by have a := f_PkhP h; have b := f_WpkhP h2; omega
    have n4 : ¬ ShP s := fun h2 => by have a := f_PkhP h; have b := f_ShP h2; omega
    have n5 : ¬ WshP s := fun h2 => by have a := f_PkhP h; have b := f_WshP h2; omega
    have n6 : ¬ MultiP s := fun h2 => by have a := f_PkhP h; have b := f_MultiP h2; omega
    have n7 : ¬ NullP s := fun h2 => by have a := f_PkhP h; have b := f_NullP h2; omega
    have n8 : ¬ TapP s := fun h2 => by have a := f_PkhP h; have b := f_TapP h2; omega
    have n9 : ¬ AnchorP s := fun h2 => by have a := f_PkhP h; have b := f_AnchorP h2; omega
    simp [cls, cls0, cls1, n1, n3, n4, n5, n6, n7, n8, n9, h]
  have n2 := h
  clear h
  by_cases h : WpkhP s
  · have n1 : ¬ KeyP s := fun h2 => by have a := f_WpkhP h; have b := f_KeyP h2; omega
    have n2 : ¬ PkhP s := fun h2 => by have a := f_WpkhP h; have b := f_PkhP h2; omega
    have n4 : ¬ ShP s := fun h2 => by have a := f_WpkhP h; have b := f_ShP h2; omega
    have n5 : ¬ WshP s := fun h2 => by have a := f_WpkhP h; have b := f_WshP h2; omega
    have n6 : ¬ MultiP s := fun h2 => (multi_no h2).1 h
    have n7 : ¬ NullP s := fun h2 => by have a := f_WpkhP h; have b := f_NullP h2; omega
    have n8 : ¬ TapP s := fun h2 => by have a := f_WpkhP h; have b := f_TapP h2; omega
    have n9 : ¬ AnchorP s := fun h2 => by have a := f_WpkhP h; have b := f_AnchorP h2; omega
    simp [cls, cls0, cls1, n1, n2, n4, n5, n6, n7, n8, n9, h]
  have n3 := h
  clear h
  by_cases h : ShP s
  · have n1 : ¬ KeyP s := fun h2 => by have a := f_ShP h; have b := f_KeyP h2; omega
    have n2 : ¬ PkhP s := fun h2 => by have a := f_ShP h; have b := f_PkhP h2; omega
    have n3 : ¬ WpkhP s := fun h2 => by have a := f_ShP h; have b := f_WpkhP h2; omega
    have n5 : ¬ WshP s := fun h2 => by have a := f_ShP h; have b := f_WshP h2; omega
    have n6 : ¬ MultiP s := fun h2 => by have a := f_ShP h; have b := f_MultiP h2; omega
    have n7 : ¬ NullP s := fun h2 => by have a := f_ShP h; have b := f_NullP h2; omega
    have n8 : ¬ TapP s := fun h2 => by have a := f_ShP h; have b := f_TapP h2; omega
    have n9 : ¬ AnchorP s := fun h2 => by have a := f_ShP h; have b := f_AnchorP h2; omega
    simp [cls, cls0, cls1, n1, n2, n3, n5, n6, n7, n8, n9, h]
  have n4 := h
  clear h
  by_cases h : WshP s
  · have n1 : ¬ KeyP s := fun h2 => by have a := f_WshP h; have b := f_KeyP h2; omega
    have n2 : ¬ PkhP s := fun h2 => by have a := f_WshP h; have b := f_PkhP h2; omega
    have n3 : ¬ WpkhP s := fun h2 => by have a := f_WshP h; have b := f_WpkhP h2; omega
    have n4 : ¬ ShP s := fun h2 => by have a := f_WshP h; have b := f_ShP h2; omega
    have n6 : ¬ MultiP s := fun h2 => (multi_no h2).2.1 h
    have n7 : ¬ NullP s := fun h2 => by have a := f_WshP h; have b := f_NullP h2; omega
    have n8 : ¬ TapP s := fun h2 => by have a := f_WshP h; have b := f_TapP h2; omega
    have n9 : ¬ AnchorP s := fun h2 => by have a := f_WshP h; have b := f_AnchorP h2; omega
    simp [cls, cls0, cls1, n1, n2, n3, n4, n6, n7, n8, n9, h]
  have n5 := h
  clear h
  by_cases h : MultiP s
  · have n1 : ¬ KeyP s := fun h2 => by have a := f_MultiP h; have b := f_KeyP h2; omega
    have n2 : ¬ PkhP s := fun h2 => by have a := f_MultiP h; have b := f_PkhP h2; omega
    have n3 : ¬ WpkhP s := (multi_no h).1
    have n4 : ¬ ShP s := fun h2 => by have a := f_MultiP h; have b := f_ShP h2; omega
    have n5 : ¬ WshP s := (multi_no h).2.1
    have n7 : ¬ NullP s := fun h2 => by have a := f_MultiP h; have b := f_NullP h2; omega
    have n8 : ¬ TapP s := (multi_no h).2.2.1
    have n9 : ¬ AnchorP s := (multi_no h).2.2.2
    simp [cls, cls0, cls1, n1, n2, n3, n4, n5, n7, n8, n9, h]
  have n6 := h
  clear h
  by_cases h : NullP s
  · have n1 : ¬ KeyP s := fun h2 => by have a := f_NullP h; have b := f_KeyP h2; omega
    have n2 : ¬ PkhP s := fun h2 => by have a := f_NullP h; have b := f_PkhP h2; omega
    have n3 : ¬ WpkhP s := fun h2 => by have a := f_NullP h; have b := f_WpkhP h2; omega
    have n4 : ¬ ShP s := fun h2 => by have a := f_NullP h; have b := f_ShP h2; omega
    have n5 : ¬ WshP s := fun h2 => by have a := f_NullP h; have b := f_WshP h2; omega
    have n6 : ¬ MultiP s := fun h2 => by have a := f_NullP h; have b := f_MultiP h2; omega
    have n8 : ¬ TapP s := fun h2 => by have a := f_NullP h; have b := f_TapP h2; omega
    have n9 : ¬ AnchorP s := fun h2 => by have a := f_NullP h; have b := f_AnchorP h2; omega
    simp [cls, cls0, cls1, n1, n2, n3, n4, n5, n6, n8, n9, h]
  have n7 := h
  clear h
  by_cases h : TapP s
  · have n1 : ¬ KeyP s := fun h2 => by have a := f_TapP h; have b := f_KeyP h2; omega
    have n2 : ¬ PkhP s := fun h2 => by have a := f_TapP h; have b := f_PkhP h2; omega
    have n3 : ¬ WpkhP s := fun h2 => by have a := f_TapP h; have b := f_WpkhP h2; omega
    have n4 : ¬ ShP s := fun h2 => by have a := f_TapP h; have b := f_ShP h2; omega
    have n5 : ¬ WshP s := fun h2 => by have a := f_TapP h; have b := f_WshP h2; omega
    have n6 : ¬ MultiP s := fun h2 => (multi_no h2).2.2.1 h
    have n7 : ¬ NullP s := fun h2 => by have a := f_TapP h; have b := f_NullP h2; omega
    have n9 : ¬ AnchorP s := fun h2 => by have a := f_TapP h; have b := f_AnchorP h2; omega
    simp [cls, cls0, cls1, n1, n2, n3, n4, n5, n6, n7, n9, h]
  have n8 := h
  clear h
  by_cases h : AnchorP s
  · have n1 : ¬ KeyP s := fun h2 => by have a := f_AnchorP h; have b := f_KeyP h2; omega
    have n2 : ¬ PkhP s := fun h2 => by have a := f_AnchorP h; have b := f_PkhP h2; omega
    have n3 : ¬ WpkhP s := fun h2 => by have a := f_AnchorP h; have b := f_WpkhP h2; omega
    have n4 : ¬ ShP s := fun h2 => by have a := f_AnchorP h; have b := f_ShP h2; omega
    have n5 : ¬ WshP s := fun h2 => by have a := f_AnchorP h; have b := f_WshP h2; omega
    have n6 : ¬ MultiP s := fun h2 => (multi_no h2).2.2.2 h
    have n7 : ¬ NullP s := fun h2 => by have a := f_AnchorP h; have b := f_NullP h2; omega
    have n8 : ¬ TapP s := fun h2 => by have a := f_AnchorP h; have b := f_TapP h2; omega
    simp [cls, cls0, cls1, n1, n2, n3, n4, n5, n6, n7, n8, h]
  have n9 := h
  clear h
  simp [cls, cls0, cls1, n1, n2, n3, n4, n5, n6, n7, n8, n9]
end Go.Proofs.Ytfbkjkihcajmdac.Tok
