/- The law FnClasses: its walk. -/
import Derived.Test.YtfbkjkihcajmdacCls6
namespace Go.Proofs.Ytfbkjkihcajmdac.Tok
open Go.RowKit Go.Proofs.YtfbkjkihcajmdacW.PrintWords Go.Proofs.YtfbkjkihcajmdacW.PrintLast Go.Proofs.YtfbkjkihcajmdacW.PrintMore Go.Proofs.Ytfbkjkihcajmdac.QFnClasses
set_option linter.unusedVariables false
set_option linter.unusedSimpArgs false
set_option maxRecDepth 100000 in
set_option maxHeartbeats 4000000 in
theorem ismultiC (A : Option Addr) (s : List Int) (c : Nat) (oks : Nat → Prop) (base : Nat) (w : World)
    (hok : ∀ k, oks k → k < w.heap.size) (hV : Kd.V (Kd.int .u8) 5 w base oks (.slice A s.length c) s) (hn : s.length ≤ 1000000) (hB : ByteL s) :
    Calls Try.prog 37 #[.int .u16 0, .slice A s.length c] w fun e w' => ∃ b, e = .returned (.bool b) ∧ (b = true ↔ MultiP s) ∧ Below w.heap.size w w' := by
  have H := Aside0.mk (multiC A s c oks base w hok hV hn hB)
  clear hok hV hn hB
  go_enter Try.func37, Try.ntmps37
  go_wp2_with fail
  go_at_call 47
  refine H.out.mono ?_
  rintro e w1 ⟨sigs, keys, b, rfl, hb, hw⟩
  have HP := Aside0.mk (And.intro hb hw)
  clear hb hw
  go_wp2_with fail
  go_ret
  exact ⟨_, rfl, HP.out.1, HP.out.2.alloc HP.out.2.size _⟩
set_option maxRecDepth 100000 in
set_option maxHeartbeats 4000000 in
theorem multiScriptC (A : Option Addr) (s : List Int) (c : Nat) (oks : Nat → Prop) (base : Nat) (w : World)
    (hok : ∀ k, oks k → k < w.heap.size) (hV : Kd.V (Kd.int .u8) 5 w base oks (.slice A s.length c) s) (hn : s.length ≤ 1000000) (hB : ByteL s) :
    Calls Try.prog 25 #[.slice A s.length c] w fun e w' => ∃ b, e = .returned (.tuple #[.bool b, .nilIface]) ∧ (b = true ↔ MultiP s) ∧ Below w.heap.size w w' := by
  have H := Aside0.mk (ismultiC A s c oks base w hok hV hn hB)
  clear hok hV hn hB
  go_enter Try.func25, Try.ntmps25
  go_wp2_with fail
  go_at_call 37
  refine H.out.mono ?_
  rintro e w1 ⟨b, rfl, hb, hw⟩
  have HP := Aside0.mk (And.intro hb hw)
  clear hb hw
  go_wp2_with fail
  go_ret2
  exact ⟨_, rfl, HP.out.1, HP.out.2⟩
set_option maxRecDepth 100000 in
set_option maxHeartbeats 4000000 in
theorem implMultiC (A : Option Addr) (s : List Int) (c : Nat) (oks : Nat → Prop) (base : Nat) (w : World)
    (hok : ∀ k, oks k → k < w.heap.size) (hV : Kd.V (Kd.int .u8) 5 w base oks (.slice A s.length c) s) (hn : s.length ≤ 1000000) (hB : ByteL s) :
    Calls Try.prog 10 #[.slice A s.length c] w fun e w' => ∃ b, e = .returned (.bool b) ∧ (b = true ↔ MultiP s) ∧ Below w.heap.size w w' := by
  have H := Aside0.mk (multiScriptC A s c oks base w hok hV hn hB)
  clear hok hV hn hB
  go_enter Try.func10, Try.ntmps10
  go_wp2_with fail
  go_at_call 25
  refine H.out.mono ?_
  rintro e w1 ⟨b, rfl, hb, hw⟩
  have HP := Aside0.mk (And.intro hb hw)
  clear hb hw
  go_wp2_with fail
  go_ret
  exact ⟨_, rfl, HP.out.1, HP.out.2⟩
set_option maxRecDepth 100000 in
set_option maxHeartbeats 4000000 in
theorem isNullC (A : Option Addr) (s : List Int) (c : Nat) (oks : Nat → Prop) (base : Nat) (w : World)
    (hok : ∀ k, oks k → k < w.heap.size) (hV : Kd.V (Kd.int .u8) 5 w base oks (.slice A s.length c) s) (hn : s.length ≤ 1000000) (hB : ByteL s) :
    Calls Try.prog 26 #[.slice A s.length c] w fun e w' => ∃ b, e = .returned (.bool b) ∧ (b = true ↔ NullP s) ∧ Below w.heap.size w w' := by
  have H := Aside0.mk (nullC A s c oks base w hok hV hn hB)
  clear hok hV hn hB
  go_enter Try.func26, Try.ntmps26
  go_wp2_with fail
  go_at_call 38
  refine H.out.mono ?_
  rintro e w1 ⟨b, rfl, hb, hw⟩
  have HP := Aside0.mk (And.intro hb hw)
  clear hb hw
  go_wp2_with fail
  go_ret
  exact ⟨_, rfl, HP.out.1, HP.out.2⟩
set_option maxRecDepth 100000 in
set_option maxHeartbeats 4000000 in
theorem implNullC (A : Option Addr) (s : List Int) (c : Nat) (oks : Nat → Prop) (base : Nat) (w : World)
    (hok : ∀ k, oks k → k < w.heap.size) (hV : Kd.V (Kd.int .u8) 5 w base oks (.slice A s.length c) s) (hn : s.length ≤ 1000000) (hB : ByteL s) :
    Calls Try.prog 11 #[.slice A s.length c] w fun e w' => ∃ b, e = .returned (.bool b) ∧ (b = true ↔ NullP s) ∧ Below w.heap.size w w' := by
  have H := Aside0.mk (isNullC A s c oks base w hok hV hn hB)
  clear hok hV hn hB
  go_enter Try.func11, Try.ntmps11
  go_wp2_with fail
  go_at_call 26
  refine H.out.mono ?_
  rintro e w1 ⟨b, rfl, hb, hw⟩
  have HP := Aside0.mk (And.intro hb hw)
  clear hb hw
  go_wp2_with fail
  go_ret
  exact ⟨_, rfl, HP.out.1, HP.out.2⟩
theorem reads_V {w : World} {e base : Nat} {A : Option Addr} {c : Nat} {xs : List Int} (h : ReadsInt w .u8 A xs.length xs) (hc : xs.length ≤ c) : Kd.V (Kd.int .u8) e w base (fun k => k < w.heap.size) (.slice A xs.length c) xs := by
  refine Kd.V_mk hc (fun W' hW => ?_)
  refine Kd.C_of_reads (enc := Value.int .u8) (d := 0) ⟨rfl, h.2.1, fun hn => ?_⟩
  obtain ⟨ad, e1, hcell⟩ := h.2.2 hn
  refine ⟨ad, e1, fun j hj => ?_⟩
  have h1 := hcell j hj
  have hlt := World.block_lt_of_cell? w _ h1
  exact (World.cell?_of_block (w := w) (hW _ hlt hlt)).trans h1
theorem beq_of_iff {a b : Bool} {p : Prop} (h1 : a = true ↔ p) (h2 : b = true ↔ p) : a = b := Bool.eq_iff_iff.2 (h1.trans h2.symm)
set_option maxRecDepth 100000 in
set_option maxHeartbeats 8000000 in
theorem walkClasses (A : Option Addr) (c : Nat) (s : List Int) (w : World) (hR : ReadsInt w .u8 A s.length s) (hc : s.length ≤ c) (hB : ByteL s) :
    Calls Try.prog 3 #[.slice A s.length c] w fun e w' => e = .returned (.bool true) ∧ Below w.heap.size w w' := by
  by_cases hn : s.length ≤ 100000
  · have b1 : decide ((2147483647 : Int) < s.length) = false := decide_eq_false (by omega)
    have b2 : decide ((100000 : Int) < s.length) = false := decide_eq_false (by omega)
    have b3 : decide (2147483647 < s.length) = false := decide_eq_false (by omega)
    have b4 : decide (100000 < s.length) = false := decide_eq_false (by omega)
    have hn6 : s.length ≤ 1000000 := by omega
    obtain ⟨l, b, ht, _⟩ := toks_total s s.length 0 (by omega)
    obtain ⟨kh, hkh⟩ := (ev_hybrid s hn6 hB ht).rounds
    have HV := Aside0.mk (show Kd.V (Kd.int .u8) 5 w w.heap.size (fun k => k < w.heap.size) (.slice A s.length c) s from reads_V hR hc)
    have HC := Aside0.mk (Kd.C_of_reads (enc := Value.int .u8) (d := (0 : Int)) (h1 := fun _ => rfl) hR)
    have HB := Aside0.mk hB
    have HL := Aside0.mk hc
    by_cases hy : l.any (fun t => decide (Hyb t)) = true
    · rw [hy] at hkh
      have HK := Aside0.mk hkh
      clear hR hc hB ht hkh hy
      go_enter Try.func3, Try.ntmps3
      go_wp2_with fail
      go_at_call 5
      refine (laws_hybrid.calls kh A c s true _ HC.out HL.out HK.out).mono ?_
      rintro e w1 ⟨rfl, hb⟩
      have HB1 := Aside0.mk hb
      clear hb
      go_wp2_with fail
      go_ret
      exact ⟨rfl, HB1.out⟩
    · have hyf : l.any (fun t => decide (Hyb t)) = false := Bool.eq_false_iff.2 hy
      rw [hyf] at hkh
      have hall : ∀ t ∈ l, ¬ Hyb t := fun t ht h => hy (List.any_eq_true.2 ⟨t, ht, decide_eq_true h⟩)
      obtain ⟨m1, m2, rm, hem, him⟩ := ev_Many s hn6 hB ht
      obtain ⟨km, hkm⟩ := hem.rounds
      obtain ⟨xd, rd', hed, hid⟩ := ev_Data s hn6 hB ht
      obtain ⟨kd, hkd⟩ := hed.rounds
      obtain ⟨rk, hek, hik⟩ := ev_IsKey s hn6 hB ht
      obtain ⟨kk, hkk⟩ := hek.rounds
      obtain ⟨ka, hka⟩ := (ev_anchor s hB).rounds
      have HM := Aside0.mk (him.trans (many_iff s ht))
      have HD := Aside0.mk (hid.trans (data_iff s hB ht))
      have HKP : Aside0 (decide (KeyP s) = rk) := ⟨beq_of_iff (by simp) (hik.trans (key_iff s hB ht hall))⟩
      have HKH := Aside0.mk hkh
      have HKM := Aside0.mk hkm
      have HKD := Aside0.mk hkd
      have HKK := Aside0.mk hkk
      have HKA := Aside0.mk hka
      clear hR hc hB ht hkh hkm hkd hkk hka hem hed hek hik him hid hall hy hyf
      obtain ⟨ra, hra⟩ : ∃ ra, decide (AnchorP s) = ra := ⟨_, rfl⟩
      rw [hra] at HKA
      have HA := Aside0.mk hra
      clear hra
      go_enter Try.func3, Try.ntmps3
      go_wp2_with fail
      go_at_call 5
      refine (laws_hybrid.calls kh A c s false _ HC.out HL.out HKH.out).mono ?_
      rintro e w1 ⟨rfl, hb⟩
      have HB1 := Aside0.mk hb
      clear hb
      go_wp2_with fail
      go_at_call 6
      refine (spec_Many.calls km A c s m1 m2 rm _ (Kd.C_below HC.out HB1.out) HL.out HKM.out).mono ?_
      rintro e w2 ⟨rfl, hb⟩
      have HB2 := Aside0.mk (HB1.out.trans (hb.mono HB1.out.size))
      clear hb
      go_wp2_with fail
      go_at_call 7
      refine (spec_Data.calls kd (fun k => k < w.heap.size) A c s xd rd' _ (Kd.V_any (Kd.V_below HV.out HB2.out)) HKD.out).mono ?_
      rintro e w3 ⟨v3, rfl, hv3, hb⟩
      clear hv3
      have HB3 := Aside0.mk (HB2.out.trans (hb.mono HB2.out.size))
      clear hb
      go_wp2_with fail
      go_at_call 8
      refine (implKeyC A s c _ (Kd.C_below HC.out HB3.out) HL.out).mono ?_
      rintro e w4 ⟨rfl, rfl⟩
      rw [HKP.out]
      have hb : Below w4.heap.size w4 w4 := Below.refl _ _
      have HB4 := Aside0.mk (HB3.out.trans (hb.mono HB3.out.size))
      clear hb
      go_wp2_with fail
      go_at_call 9
      refine (spec_IsKey.calls kk A c s rk _ (Kd.C_below HC.out HB4.out) HL.out HKK.out).mono ?_
      rintro e w5 ⟨rfl, hb⟩
      have HB5 := Aside0.mk (HB4.out.trans (hb.mono HB4.out.size))
      clear hb
      go_wp2_with fail
      go_at_call 10
      refine (implMultiC A s c (fun k => k < w.heap.size) w.heap.size _ (fun k hk => Nat.lt_of_lt_of_le hk HB5.out.size) (Kd.V_below HV.out HB5.out) hn6 HB.out).mono ?_
      rintro e w6 ⟨bm, rfl, hbm, hb⟩
      obtain rfl := beq_of_iff hbm HM.out
      clear hbm
      have HB6 := Aside0.mk (HB5.out.trans (hb.mono HB5.out.size))
      clear hb
      go_wp2_with fail
      go_at_call 11
      refine (implNullC A s c (fun k => k < w.heap.size) w.heap.size _ (fun k hk => Nat.lt_of_lt_of_le hk HB6.out.size) (Kd.V_below HV.out HB6.out) hn6 HB.out).mono ?_
      rintro e w7 ⟨bd, rfl, hbd, hb⟩
      obtain rfl := beq_of_iff hbd HD.out
      clear hbd
      have HB7 := Aside0.mk (HB6.out.trans (hb.mono HB6.out.size))
      clear hb
      go_wp2_with fail
      go_at_call 12
      refine (implAnchorC A s c _ (Kd.C_below HC.out HB7.out) HL.out HB.out).mono ?_
      rintro e w8 ⟨rfl, hb⟩
      rw [HA.out]
      have HB8 := Aside0.mk (HB7.out.trans (hb.mono HB7.out.size))
      clear hb
      go_wp2_with fail
      go_at_call 13
      refine (spec_IsAnchor.calls ka A c s ra _ (Kd.C_below HC.out HB8.out) HL.out HKA.out).mono ?_
      rintro e w9 ⟨rfl, hb⟩
      have HB9 := Aside0.mk (HB8.out.trans (hb.mono HB8.out.size))
      clear hb
      go_wp2_with fail
      go_ret
      exact ⟨by simp, HB9.out⟩
  · clear hR hc hB
    go_enter Try.func3, Try.ntmps3
    by_cases hm : s.length ≤ 2147483647
    · have b1 : decide ((2147483647 : Int) < s.length) = false := decide_eq_false (by omega)
      have b2 : decide ((100000 : Int) < s.length) = true := decide_eq_true (by omega)
      have b3 : decide (2147483647 < s.length) = false := decide_eq_false (by omega)
      have b4 : decide (100000 < s.length) = true := decide_eq_true (by omega)
      go_wp2
      go_ret
      exact ⟨rfl, Below.refl _ _⟩
    · have b1 : decide ((2147483647 : Int) < s.length) = true := decide_eq_true (by omega)
      have b3 : decide (2147483647 < s.length) = true := decide_eq_true (by omega)
      go_wp2
      go_ret
      exact ⟨rfl, Below.refl _ _⟩
end Go.Proofs.Ytfbkjkihcajmdac.Tok
