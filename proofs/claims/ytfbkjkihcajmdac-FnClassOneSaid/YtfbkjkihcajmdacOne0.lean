/- The questions after many signatures and after data. -/
import Derived.Test.YtfbkjkihcajmdacCls5
namespace Go.Proofs.Ytfbkjkihcajmdac.Tok
open Go.RowKit Go.Proofs.YtfbkjkihcajmdacW.PrintWords Go.Proofs.YtfbkjkihcajmdacW.PrintLast Go.Proofs.YtfbkjkihcajmdacW.PrintMore Go.Proofs.Ytfbkjkihcajmdac.QFnClasses
set_option linter.unusedVariables false
set_option linter.unusedSimpArgs false
set_option maxRecDepth 100000 in
set_option maxHeartbeats 4000000 in
theorem ismultiC (A : Option Addr) (s : List Int) (c : Nat) (oks : Nat → Prop) (base : Nat) (w : World)
    (hok : ∀ k, oks k → k < w.heap.size) (hV : Kd.V (Kd.int .u8) 5 w base oks (.slice A s.length c) s) (hn : s.length ≤ 1000000) (hB : ByteL s) :
    Calls Try.prog 37 #[.int .u16 0, .slice A s.length c] w fun e w' => ∃ b, e = .returned (.bool b) ∧ (b = true ↔ MultiP s) ∧ Below w.heap.size w w' := by
  have H := Aside0.mk (multiC A s c oks base w hok hV hn hB)
  clear hok hV hn hB
  go_enter Try.func37, Try.ntmps37
  go_wp2_with fail
  go_at_call 47
  refine H.out.mono ?_
  rintro e w1 ⟨sigs, keys, b, rfl, hb, hw⟩
  have HP := Aside0.mk (And.intro hb hw)
  clear hb hw
  go_wp2_with fail
  go_ret
  exact ⟨_, rfl, HP.out.1, HP.out.2.alloc HP.out.2.size _⟩
set_option maxRecDepth 100000 in
set_option maxHeartbeats 4000000 in
theorem multiScriptC (A : Option Addr) (s : List Int) (c : Nat) (oks : Nat → Prop) (base : Nat) (w : World)
    (hok : ∀ k, oks k → k < w.heap.size) (hV : Kd.V (Kd.int .u8) 5 w base oks (.slice A s.length c) s) (hn : s.length ≤ 1000000) (hB : ByteL s) :
    Calls Try.prog 25 #[.slice A s.length c] w fun e w' => ∃ b, e = .returned (.tuple #[.bool b, .nilIface]) ∧ (b = true ↔ MultiP s) ∧ Below w.heap.size w w' := by
  have H := Aside0.mk (ismultiC A s c oks base w hok hV hn hB)
  clear hok hV hn hB
  go_enter Try.func25, Try.ntmps25
  go_wp2_with fail
  go_at_call 37
  refine H.out.mono ?_
  rintro e w1 ⟨b, rfl, hb, hw⟩
  have HP := Aside0.mk (And.intro hb hw)
  clear hb hw
  go_wp2_with fail
  go_ret2
  exact ⟨_, rfl, HP.out.1, HP.out.2⟩
set_option maxRecDepth 100000 in
set_option maxHeartbeats 4000000 in
theorem implMultiC (A : Option Addr) (s : List Int) (c : Nat) (oks : Nat → Prop) (base : Nat) (w : World)
    (hok : ∀ k, oks k → k < w.heap.size) (hV : Kd.V (Kd.int .u8) 5 w base oks (.slice A s.length c) s) (hn : s.length ≤ 1000000) (hB : ByteL s) :
    Calls Try.prog 10 #[.slice A s.length c] w fun e w' => ∃ b, e = .returned (.bool b) ∧ (b = true ↔ MultiP s) ∧ Below w.heap.size w w' := by
  have H := Aside0.mk (multiScriptC A s c oks base w hok hV hn hB)
  clear hok hV hn hB
  go_enter Try.func10, Try.ntmps10
  go_wp2_with fail
  go_at_call 25
  refine H.out.mono ?_
  rintro e w1 ⟨b, rfl, hb, hw⟩
  have HP := Aside0.mk (And.intro hb hw)
  clear hb hw
  go_wp2_with fail
  go_ret
  exact ⟨_, rfl, HP.out.1, HP.out.2⟩
set_option maxRecDepth 100000 in
set_option maxHeartbeats 4000000 in
theorem isNullC (A : Option Addr) (s : List Int) (c : Nat) (oks : Nat → Prop) (base : Nat) (w : World)
    (hok : ∀ k, oks k → k < w.heap.size) (hV : Kd.V (Kd.int .u8) 5 w base oks (.slice A s.length c) s) (hn : s.length ≤ 1000000) (hB : ByteL s) :
    Calls Try.prog 26 #[.slice A s.length c] w fun e w' => ∃ b, e = .returned (.bool b) ∧ (b = true ↔ NullP s) ∧ Below w.heap.size w w' := by
  have H := Aside0.mk (nullC A s c oks base w hok hV hn hB)
  clear hok hV hn hB
  go_enter Try.func26, Try.ntmps26
  go_wp2_with fail
  go_at_call 38
  refine H.out.mono ?_
  rintro e w1 ⟨b, rfl, hb, hw⟩
  have HP := Aside0.mk (And.intro hb hw)
  clear hb hw
  go_wp2_with fail
  go_ret
  exact ⟨_, rfl, HP.out.1, HP.out.2⟩
set_option maxRecDepth 100000 in
set_option maxHeartbeats 4000000 in
theorem implNullC (A : Option Addr) (s : List Int) (c : Nat) (oks : Nat → Prop) (base : Nat) (w : World)
    (hok : ∀ k, oks k → k < w.heap.size) (hV : Kd.V (Kd.int .u8) 5 w base oks (.slice A s.length c) s) (hn : s.length ≤ 1000000) (hB : ByteL s) :
    Calls Try.prog 11 #[.slice A s.length c] w fun e w' => ∃ b, e = .returned (.bool b) ∧ (b = true ↔ NullP s) ∧ Below w.heap.size w w' := by
  have H := Aside0.mk (isNullC A s c oks base w hok hV hn hB)
  clear hok hV hn hB
  go_enter Try.func11, Try.ntmps11
  go_wp2_with fail
  go_at_call 26
  refine H.out.mono ?_
  rintro e w1 ⟨b, rfl, hb, hw⟩
  have HP := Aside0.mk (And.intro hb hw)
  clear hb hw
  go_wp2_with fail
  go_ret
  exact ⟨_, rfl, HP.out.1, HP.out.2⟩
theorem reads_V {w : World} {e base : Nat} {A : Option Addr} {c : Nat} {xs : List Int} (h : ReadsInt w .u8 A xs.length xs) (hc : xs.length ≤ c) : Kd.V (Kd.int .u8) e w base (fun k => k < w.heap.size) (.slice A xs.length c) xs := by
  refine Kd.V_mk hc (fun W' hW => ?_)
  refine Kd.C_of_reads (enc := Value.int .u8) (d := 0) ⟨rfl, h.2.1, fun hn => ?_⟩
  obtain ⟨ad, e1, hcell⟩ := h.2.2 hn
  refine ⟨ad, e1, fun j hj => ?_⟩
  have h1 := hcell j hj
  have hlt := World.block_lt_of_cell? w _ h1
  exact (World.cell?_of_block (w := w) (hW _ hlt hlt)).trans h1
end Go.Proofs.Ytfbkjkihcajmdac.Tok
