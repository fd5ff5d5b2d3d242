/- Programs: what is asked of the package through impl, and the law's walk. -/
import Derived.Test.YtfbkjkihcajmdabProg2
namespace Go.Proofs.Ytfbkjkihcajmdab.Tok
open Go.RowKit Go.Proofs.YtfbkjkihcajmdabW.PrintWords Go.Proofs.YtfbkjkihcajmdabW.PrintLast Go.Proofs.YtfbkjkihcajmdabW.PrintMore Go.Proofs.Ytfbkjkihcajmdab.QFnProgram
set_option linter.unusedVariables false
set_option linter.unusedSimpArgs false
theorem extractC (A : Option Addr) (s : List Int) (c : Nat) (oks : Nat → Prop) (base : Nat) (w : World)
    (hok : ∀ k, oks k → k < w.heap.size) (hV : Kd.V (Kd.int .u8) 5 w base oks (.slice A s.length c) s) (hB : ByteL s) :
    Calls Try.prog 22 #[.slice A s.length c] w (Extr s oks base w) := by
  rcases Classical.em (s.length < 4 ∨ 42 < s.length) with h | h
  · exact extractShort A s c oks base w h
  · exact extractLong A s c oks base w hok hV (by omega) (by omega) hB
set_option maxRecDepth 100000 in
set_option maxHeartbeats 4000000 in
theorem isWitScriptC (A : Option Addr) (s : List Int) (c : Nat) (oks : Nat → Prop) (base : Nat) (w : World)
    (hok : ∀ k, oks k → k < w.heap.size) (hV : Kd.V (Kd.int .u8) 5 w base oks (.slice A s.length c) s) (hB : ByteL s) :
    Calls Try.prog 24 #[.slice A s.length c] w fun e w' => e = .returned (.bool (decide (IsProg s))) ∧ Below w.heap.size w w' := by
  have H := Aside0.mk (extractC A s c oks base w hok hV hB)
  clear hok hV hB
  go_enter Try.func24, Try.ntmps24
  go_wp2_with (go_at_call 22; refine H.out.mono ?_; rintro e w1 ⟨ver, dv, rfl, h1, hb⟩; have HB1 := Aside0.mk hb; clear h1 hb)
  go_ret
  exact ⟨rfl, HB1.out⟩
set_option maxRecDepth 100000 in
set_option maxHeartbeats 4000000 in
theorem isWitC (A : Option Addr) (s : List Int) (c : Nat) (oks : Nat → Prop) (base : Nat) (w : World)
    (hok : ∀ k, oks k → k < w.heap.size) (hV : Kd.V (Kd.int .u8) 5 w base oks (.slice A s.length c) s) (hB : ByteL s) :
    Calls Try.prog 16 #[.slice A s.length c] w fun e w' => e = .returned (.bool (decide (IsProg s))) ∧ Below w.heap.size w w' := by
  have H := Aside0.mk (isWitScriptC A s c oks base w hok hV hB)
  clear hok hV hB
  go_enter Try.func16, Try.ntmps16
  go_wp2_with (go_at_call 24; refine H.out.mono ?_; rintro e w1 ⟨rfl, hb⟩; have HB1 := Aside0.mk hb; clear hb)
  go_ret
  exact ⟨rfl, HB1.out⟩
set_option maxRecDepth 100000 in
set_option maxHeartbeats 4000000 in
theorem implIsProg (A : Option Addr) (s : List Int) (c : Nat) (oks : Nat → Prop) (base : Nat) (w : World)
    (hok : ∀ k, oks k → k < w.heap.size) (hV : Kd.V (Kd.int .u8) 5 w base oks (.slice A s.length c) s) (hB : ByteL s) :
    Calls Try.prog 7 #[.slice A s.length c] w fun e w' => e = .returned (.bool (decide (IsProg s))) ∧ Below w.heap.size w w' := by
  have H := Aside0.mk (isWitC A s c oks base w hok hV hB)
  clear hok hV hB
  go_enter Try.func7, Try.ntmps7
  go_wp2_with (go_at_call 16; refine H.out.mono ?_; rintro e w1 ⟨rfl, hb⟩; have HB1 := Aside0.mk hb; clear hb)
  go_ret
  exact ⟨rfl, HB1.out⟩
/-- A new error that is a text. -/
theorem errNewC (str : ByteArray) (w : World) :
    Calls Try.prog 23 #[.string str] w fun e w' => (∃ p, e = .returned (.iface 66 p)) ∧ Below w.heap.size w w' := by
  go_enter Try.func23, Try.ntmps23
  go_wp2
  go_ret
  exact ⟨⟨_, rfl⟩, (Below.refl _ _).alloc (Nat.le_refl _) _⟩
theorem kindNil (w : World) :
    Calls Try.prog 15 #[.nilIface] w fun e w' => e = .returned (.int .i64 0) ∧ w' = w := by
  go_enter Try.func15, Try.ntmps15
  go_wp2
  go_ret
  exact ⟨rfl, rfl⟩
theorem as_text (v : Value) (w : World) : (Instr.typeAssert (.iface 66 v) 38 51 true).run Try.prog w = .ok (.tuple #[.agg #[.int .i64 0, .string ByteArray.empty], .bool false]) w := by kernel_rfl
theorem kindText (p : Value) (w : World) :
    Calls Try.prog 15 #[.iface 66 p] w fun e w' => e = .returned (.int .i64 1) ∧ Below w.heap.size w w' := by
  have h9 := as_text
  go_enter Try.func15, Try.ntmps15
  go_wp2
  go_ret
  exact ⟨rfl, (Below.refl _ _).alloc (Nat.le_refl _) _⟩
set_option maxRecDepth 100000 in
set_option maxHeartbeats 4000000 in
theorem infoT (A : Option Addr) (s : List Int) (c : Nat) (oks : Nat → Prop) (base : Nat) (w : World)
    (hok : ∀ k, oks k → k < w.heap.size) (hV : Kd.V (Kd.int .u8) 5 w base oks (.slice A s.length c) s) (hB : ByteL s) (hp : IsProg s) :
    Calls Try.prog 13 #[.slice A s.length c] w fun e w' => ∃ dv, e = .returned (.tuple #[.int .i64 (smallNum (s.getD 0 0)), dv, .nilIface]) ∧ Kd.V (Kd.int .u8) 5 w' base oks dv (s.drop 2) ∧ Below w.heap.size w w' := by
  have H := extractC A s c oks base w hok hV hB
  unfold Extr at H
  rw [decide_eq_true hp] at H
  have H := Aside0.mk H
  have HP := Aside0.mk hp
  clear hok hV hB hp
  go_enter Try.func13, Try.ntmps13
  go_wp2_with (go_at_call 22; refine H.out.mono ?_; rintro e w1 ⟨ver, dv, rfl, h1, hb⟩; have HB1 := Aside0.mk hb; have HV1 := Aside0.mk (h1 HP.out).2; obtain rfl := (h1 HP.out).1; clear h1 hb)
  go_ret3
  exact ⟨_, rfl, HV1.out, HB1.out⟩
set_option maxRecDepth 100000 in
set_option maxHeartbeats 4000000 in
theorem infoF (A : Option Addr) (s : List Int) (c : Nat) (oks : Nat → Prop) (base : Nat) (w : World)
    (hok : ∀ k, oks k → k < w.heap.size) (hV : Kd.V (Kd.int .u8) 5 w base oks (.slice A s.length c) s) (hB : ByteL s) (hp : ¬ IsProg s) :
    Calls Try.prog 13 #[.slice A s.length c] w fun e w' => ∃ p, e = .returned (.tuple #[.int .i64 0, .slice none 0 0, .iface 66 p]) ∧ Below w.heap.size w w' := by
  have H := extractC A s c oks base w hok hV hB
  unfold Extr at H
  rw [decide_eq_false hp] at H
  have H := Aside0.mk H
  clear hok hV hB hp
  go_enter Try.func13, Try.ntmps13
  go_wp2_with (first
    | (go_at_call 22; refine H.out.mono ?_; rintro e w1 ⟨ver, dv, rfl, h1, hb⟩; have HB1 := Aside0.mk hb; clear h1 hb)
    | (go_at_call 23; refine (errNewC _ _).mono ?_; rintro e w2 ⟨⟨p, rfl⟩, hb⟩; have HB2 := Aside0.mk (HB1.out.trans (hb.mono HB1.out.size)); clear hb))
  go_ret3
  exact ⟨_, rfl, HB2.out⟩
theorem copied_any (l : List Int) (hl : l.length ≤ 1000000) : impl_copied.f l = some l := by
  unfold impl_copied.f
  simp; omega
set_option maxRecDepth 100000 in
set_option maxHeartbeats 4000000 in
theorem implProgT (A : Option Addr) (s : List Int) (c : Nat) (oks : Nat → Prop) (base : Nat) (w : World)
    (hok : ∀ k, oks k → k < w.heap.size) (hV : Kd.V (Kd.int .u8) 5 w base oks (.slice A s.length c) s) (hB : ByteL s) (hp : IsProg s) :
    Calls Try.prog 6 #[.slice A s.length c] w fun e w' => ∃ dv, e = .returned (.tuple #[.int .i64 (smallNum (s.getD 0 0)), dv, .int .i64 0]) ∧ Kd.V (Kd.int .u8) 5 w' 0 (fun _ => True) dv (s.drop 2) ∧ Below w.heap.size w w' := by
  have H := infoT A s c oks base w hok hV hB hp
  have HL : Aside0 (impl_copied.f (s.drop 2) = some (s.drop 2)) := ⟨copied_any _ (by have := isProg_len hp; rw [List.length_drop]; omega)⟩
  generalize s.drop 2 = xs at H HL ⊢
  have H := Aside0.mk H
  clear hok hV hB hp
  go_enter Try.func6, Try.ntmps6
  go_wp2_with (first
    | (go_at_call 13; refine H.out.mono ?_; rintro e w1 ⟨dv, rfl, h1, hb⟩; have HB1 := Aside0.mk hb; obtain ⟨Ad, cd, ed⟩ := Kd.V_slice h1; subst ed; have HV1 := Aside0.mk h1; clear h1 hb)
    | (go_at_call 14; refine (impl_copied.calls Ad cd xs xs _ (Kd.F_now (Kd.V_at HV1.out).2.2) (Kd.V_at HV1.out).2.1 HL.out).mono ?_; rintro e w2 ⟨dv2, rfl, h2, hb⟩; have HB2 := Aside0.mk (HB1.out.trans (hb.mono HB1.out.size)); have HR2 := Aside0.mk h2; clear h2 hb)
    | (go_at_call 15; refine (kindNil _).mono ?_; rintro e w3 ⟨rfl, rfl⟩))
  go_ret3
  exact ⟨_, rfl, Kd.R_V (Kd.R_mono HR2.out (fun _ _ => trivial)), HB2.out⟩
set_option maxRecDepth 100000 in
set_option maxHeartbeats 4000000 in
theorem implProgF (A : Option Addr) (s : List Int) (c : Nat) (oks : Nat → Prop) (base : Nat) (w : World)
    (hok : ∀ k, oks k → k < w.heap.size) (hV : Kd.V (Kd.int .u8) 5 w base oks (.slice A s.length c) s) (hB : ByteL s) (hp : ¬ IsProg s) :
    Calls Try.prog 6 #[.slice A s.length c] w fun e w' => ∃ dv, e = .returned (.tuple #[.int .i64 0, dv, .int .i64 1]) ∧ Below w.heap.size w w' := by
  have H := Aside0.mk (infoF A s c oks base w hok hV hB hp)
  have HN : Aside0 (Kd.C (Kd.int .u8) w none ([] : List Int).length []) := ⟨Kd.C_nil _ _⟩
  clear hok hV hB hp
  go_enter Try.func6, Try.ntmps6
  go_wp2_with (first
    | (go_at_call 13; refine H.out.mono ?_; rintro e w1 ⟨p, rfl, hb⟩; have HB1 := Aside0.mk hb; clear hb)
    | (go_at_call 14; refine (impl_copied.calls none 0 [] [] _ (Kd.C_below HN.out HB1.out) (Nat.le_refl _) (copied_any [] (by decide))).mono ?_; rintro e w2 ⟨dv2, rfl, h2, hb⟩; have HB2 := Aside0.mk (HB1.out.trans (hb.mono HB1.out.size)); clear h2 hb)
    | (go_at_call 15; refine (kindText _ _).mono ?_; rintro e w3 ⟨rfl, hb⟩; have HB3 := Aside0.mk (HB2.out.trans (hb.mono HB2.out.size)); clear hb))
  go_ret3
  exact ⟨_, rfl, HB3.out⟩

theorem reads_V {w : World} {e base : Nat} {A : Option Addr} {c : Nat} {xs : List Int} (h : ReadsInt w .u8 A xs.length xs) (hc : xs.length ≤ c) : Kd.V (Kd.int .u8) e w base (fun k => k < w.heap.size) (.slice A xs.length c) xs := by
  refine Kd.V_mk hc (fun W' hW => ?_)
  refine Kd.C_of_reads (enc := Value.int .u8) (d := 0) ⟨rfl, h.2.1, fun hn => ?_⟩
  obtain ⟨ad, e1, hcell⟩ := h.2.2 hn
  refine ⟨ad, e1, fun j hj => ?_⟩
  have h1 := hcell j hj
  have hlt := World.block_lt_of_cell? w _ h1
  exact (World.cell?_of_block (w := w) (hW _ hlt hlt)).trans h1
theorem ev_same (l : List Int) (hl : l.length ≤ 1000000) : Ev (fun k => laws_same.f k l l) true := by
  have key : ∀ d (i : Nat), i + d = l.length → Ev (fun k => laws_same.l0 k l l i) true := by
    intro d
    induction d with
    | zero =>
      intro i hi
      refine Ev.step (fun k => ?_) (Ev.now _)
      rw [laws_same.l0, if_neg (by omega)]
    | succ d ih =>
      intro i hi
      refine Ev.step (fun k => ?_) (ih (i + 1) (by omega))
      rw [laws_same.l0, if_pos (by omega), if_pos (by omega), if_pos (by omega), if_pos rfl, tokW64 (by omega) (by omega)]
      rfl
  refine Ev.congr (fun k => ?_) (key l.length 0 (by omega))
  unfold laws_same.f
  rw [if_pos rfl]; rfl
set_option maxRecDepth 100000 in
set_option maxHeartbeats 4000000 in
theorem walkProgram (A : Option Addr) (c : Nat) (s : List Int) (w : World) (hR : ReadsInt w .u8 A s.length s) (hc : s.length ≤ c) (hB : ByteL s) :
    Calls Try.prog 3 #[.slice A s.length c] w fun e w' => e = .returned (.bool true) ∧ Below w.heap.size w w' := by
  by_cases hn : s.length ≤ 100000
  · have b1 : decide ((2147483647 : Int) < s.length) = false := decide_eq_false (by omega)
    have b2 : decide ((100000 : Int) < s.length) = false := decide_eq_false (by omega)
    have b3 : decide (2147483647 < s.length) = false := decide_eq_false (by omega)
    have b4 : decide (100000 < s.length) = false := decide_eq_false (by omega)
    obtain ⟨r1, r2, hev, hpr, hr2⟩ := ev_Program s (by omega) hB
    obtain ⟨k, hk⟩ := hev.rounds
    have HV := Aside0.mk (show Kd.V (Kd.int .u8) 5 w w.heap.size (fun k => k < w.heap.size) (.slice A s.length c) s from reads_V hR hc)
    have HB := Aside0.mk hB
    by_cases hp : IsProg s
    · rw [decide_eq_true hp] at hk
      obtain ⟨rfl, hx⟩ := hpr hp
      have HX := Aside0.mk hx
      clear hx
      obtain ⟨k2, hk2⟩ := (ev_same r2 hr2).rounds
      have HK := Aside0.mk hk
      have HK2 := Aside0.mk hk2
      have HP := Aside0.mk hp
      have HD := Aside0.mk (decide_eq_true hp)
      clear hk hk2 hR hc hB hp hpr hev hr2
      go_enter Try.func3, Try.ntmps3
      go_wp2_with (first
        | (go_at_call 5; refine (spec_Program.calls k (fun k => k < w.heap.size) A c s _ r2 true w HV.out HK.out).mono ?_; rintro e w1 ⟨v1, rfl, hv1, hb⟩; have HB1 := Aside0.mk hb; obtain ⟨Av, cv, ed⟩ := Kd.V_slice hv1; subst ed; have HV1 := Aside0.mk hv1; have HS1 := Aside0.mk (Kd.V_below HV.out hb); clear hv1 hb)
        | (go_at_call 6; refine (implProgT A s c (fun k => k < w.heap.size) w.heap.size w1 (fun k hk => Nat.lt_of_lt_of_le hk HB1.out.size) HS1.out HB.out HP.out).mono ?_; rintro e w2 ⟨dv, rfl, hr, hb⟩; rw [← HX.out] at hr; have HB2 := Aside0.mk (HB1.out.trans (hb.mono HB1.out.size)); obtain ⟨Ad, cd, ed⟩ := Kd.V_slice hr; subst ed; have HV2 := Aside0.mk hr; have HW2 := Aside0.mk (Kd.V_below HV1.out hb); have HS2 := Aside0.mk (Kd.V_below HS1.out hb); clear hr hb)
        | (go_at_call 7; refine (implIsProg A s c (fun k => k < w.heap.size) w.heap.size w2 (fun k hk => Nat.lt_of_lt_of_le hk HB2.out.size) HS2.out HB.out).mono ?_; rintro e w3 ⟨he, hb⟩; rw [HD.out] at he; subst he; have HB3 := Aside0.mk (HB2.out.trans (hb.mono HB2.out.size)); have HV3 := Aside0.mk (Kd.V_below HV2.out hb); have HW3 := Aside0.mk (Kd.V_below HW2.out hb); clear hb)
        | (go_at_call 8; refine (laws_same.calls k2 Ad cd r2 Av cv r2 true _ (Kd.F_now (Kd.V_at HV3.out).2.2) (Kd.V_at HV3.out).2.1 (Kd.F_now (Kd.V_at HW3.out).2.2) (Kd.V_at HW3.out).2.1 HK2.out).mono ?_; rintro e w4 ⟨rfl, ⟨nd, rfl⟩⟩))
      go_ret
      exact ⟨rfl, pw_below_drewN HB3.out nd⟩
    · rw [decide_eq_false hp] at hk
      have HK := Aside0.mk hk
      have HP := Aside0.mk hp
      have HD := Aside0.mk (decide_eq_false hp)
      clear hk hR hc hB hp hpr hev hr2
      go_enter Try.func3, Try.ntmps3
      go_wp2_with (first
        | (go_at_call 5; refine (spec_Program.calls k (fun k => k < w.heap.size) A c s r1 r2 false w HV.out HK.out).mono ?_; rintro e w1 ⟨v1, rfl, hv1, hb⟩; have HB1 := Aside0.mk hb; have HS1 := Aside0.mk (Kd.V_below HV.out hb); clear hv1 hb)
        | (go_at_call 6; refine (implProgF A s c (fun k => k < w.heap.size) w.heap.size w1 (fun k hk => Nat.lt_of_lt_of_le hk HB1.out.size) HS1.out HB.out HP.out).mono ?_; rintro e w2 ⟨dv, rfl, hb⟩; have HB2 := Aside0.mk (HB1.out.trans (hb.mono HB1.out.size)); have HS2 := Aside0.mk (Kd.V_below HS1.out hb); clear hb)
        | (go_at_call 7; refine (implIsProg A s c (fun k => k < w.heap.size) w.heap.size w2 (fun k hk => Nat.lt_of_lt_of_le hk HB2.out.size) HS2.out HB.out).mono ?_; rintro e w3 ⟨he, hb⟩; rw [HD.out] at he; subst he; have HB3 := Aside0.mk (HB2.out.trans (hb.mono HB2.out.size)); clear hb))
      go_ret
      exact ⟨rfl, HB3.out⟩
  · clear hR hc hB
    go_enter Try.func3, Try.ntmps3
    by_cases hm : s.length ≤ 2147483647
    · have b1 : decide ((2147483647 : Int) < s.length) = false := decide_eq_false (by omega)
      have b2 : decide ((100000 : Int) < s.length) = true := decide_eq_true (by omega)
      have b3 : decide (2147483647 < s.length) = false := decide_eq_false (by omega)
      have b4 : decide (100000 < s.length) = true := decide_eq_true (by omega)
      go_wp2
      go_ret
      exact ⟨rfl, Below.refl _ _⟩
    · have b1 : decide ((2147483647 : Int) < s.length) = true := decide_eq_true (by omega)
      have b3 : decide (2147483647 < s.length) = true := decide_eq_true (by omega)
      go_wp2
      go_ret
      exact ⟨rfl, Below.refl _ _⟩
end Go.Proofs.Ytfbkjkihcajmdab.Tok
