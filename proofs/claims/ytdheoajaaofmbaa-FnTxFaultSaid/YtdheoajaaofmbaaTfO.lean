/- A transaction that came in, with all that is told of its numbers; the law of FnTxFault. -/
import Derived.Test.YtdheoajaaofmbaaTfL
import Derived.Test.YtdheoajaaofmbaaOpen2
namespace Go.Proofs.Ytdheoajaaofmbaa.QFnScriptPlaces
open Go.RowKit Go.Proofs.YtdheoajaaofmbaaW.PrintWords Go.Proofs.YtdheoajaaofmbaaW.PrintLast Go.Proofs.YtdheoajaaofmbaaW.PrintMore Go.Proofs.Ytdheoajaaofmbaa.Open
set_option linter.unusedVariables false
theorem opens_bytes : Opens Try.prog 32 (Kd.slice 5 (Kd.int .u8)) (fun l => ∀ x ∈ l, (Lit.int .u8 x).wf = true) :=
  opens_slice Try.underlying32 (by kernel_rfl) (opens_int Try.underlying5)
theorem opens_op : Opens Try.prog 31 k31 (fun x => (x.f0.length = 32 ∧ ∀ y ∈ x.f0, (Lit.int .u8 y).wf = true) ∧ (Lit.int .u32 x.f1).wf = true) :=
  opens_iso (fun x : S31 => (x.f0, x.f1)) (fun p => ⟨p.1, p.2⟩) (fun _ => rfl)
    (opens_struct_2 Try.underlying31 (by kernel_rfl) (by kernel_rfl) (by kernel_rfl) (by kernel_rfl) (by kernel_rfl) (opens_arr Try.underlying29 (by kernel_rfl) (by kernel_rfl) (opens_int Try.underlying5)) (opens_int Try.underlying24))
theorem opens_in : Opens Try.prog 35 k35 (fun x => ((x.f0.f0.length = 32 ∧ ∀ y ∈ x.f0.f0, (Lit.int .u8 y).wf = true) ∧ (Lit.int .u32 x.f0.f1).wf = true) ∧ (∀ y ∈ x.f1, (Lit.int .u8 y).wf = true) ∧ (∀ z ∈ x.f2, ∀ y ∈ z, (Lit.int .u8 y).wf = true) ∧ (Lit.int .u32 x.f3).wf = true) :=
  opens_iso (fun x : S35 => (x.f0, x.f1, x.f2, x.f3)) (fun p => ⟨p.1, p.2.1, p.2.2.1, p.2.2.2⟩) (fun _ => rfl)
    (opens_struct_4 Try.underlying35 (by kernel_rfl) (by kernel_rfl) (by kernel_rfl) (by kernel_rfl) (by kernel_rfl) (by kernel_rfl) (by kernel_rfl) (by kernel_rfl) (by kernel_rfl) opens_op opens_bytes (opens_slice Try.underlying33 (by kernel_rfl) opens_bytes) (opens_int Try.underlying24))
theorem opens_out : Opens Try.prog 41 k41 (fun x => (Lit.int .i64 x.f0).wf = true ∧ ∀ y ∈ x.f1, (Lit.int .u8 y).wf = true) :=
  opens_iso (fun x : S41 => (x.f0, x.f1)) (fun p => ⟨p.1, p.2⟩) (fun _ => rfl)
    (opens_struct_2 Try.underlying41 (by kernel_rfl) (by kernel_rfl) (by kernel_rfl) (by kernel_rfl) (by kernel_rfl) (opens_int Try.underlying2) opens_bytes)
/-- A transaction: version, inputs, outputs, lock; all numbers within their kinds. -/
theorem opens_txA {H : Type} (enc : TypeId × Value → H) (w : World) (base : Nat) (sp : Nat → Bool) (held : Bool) (fuel : Nat) (cs : List Value) (y : DataW H × List MemPlace) (h : DataW.trod enc Try.prog w base sp held fuel 26 cs = some y) :
    ∃ (v lock : Int) (ins : List S35) (outs : List S41) (A1 : Option Addr) (c1 : Nat) (A2 : Option Addr) (c2 : Nat), cs = [.int .i32 v, .slice A1 ins.length c1, .slice A2 outs.length c2, .int .u32 lock] ∧
      (RawT ins lock ∧ (∀ x ∈ ins, OpOk x.f0.f0 x.f0.f1) ∧ (∀ y ∈ outs, -9223372036854775808 ≤ y.f0 ∧ y.f0 ≤ 9223372036854775807)) ∧ ins.length ≤ c1 ∧ Kd.C k35 w A1 ins.length ins ∧ outs.length ≤ c2 ∧ Kd.C k41 w A2 outs.length outs := by
  obtain ⟨⟨v, ins, outs, lock⟩, ⟨_, hi, ho, hl⟩, c0, c1, e0, k0, c2, c3, e1, k1, c4, c5, e2, k2, k3⟩ := opens_struct_4 (d0 := Kd.int .i32) (d1 := Kd.slice 35 k35) (d2 := Kd.slice 41 k41) (d3 := Kd.int .u32) Try.underlying26 (by kernel_rfl) (by kernel_rfl) (by kernel_rfl) (by kernel_rfl) (by kernel_rfl) (by kernel_rfl) (by kernel_rfl) (by kernel_rfl) (by kernel_rfl) (opens_int Try.underlying21) (opens_slice Try.underlying22 (by kernel_rfl) opens_in) (opens_slice Try.underlying23 (by kernel_rfl) opens_out) (opens_int Try.underlying24) enc w base sp held fuel cs y h
  obtain ⟨A1, n1, ei, l1, g1⟩ := k1
  obtain ⟨A2, n2, eo, l2, g2⟩ := k2
  have k0 : c0 = [Value.int .i32 v] := k0
  have k3 : c5 = [Value.int .u32 lock] := k3
  refine ⟨v, lock, ins, outs, A1, n1, A2, n2, ?_, ⟨⟨fun x hx => ?_, ?_⟩, fun x hx => ?_, fun y hy => ?_⟩, l1, g1, l2, g2⟩
  · rw [e0, e1, e2, k0, ei, eo, k3]; rfl
  · obtain ⟨⟨⟨h1, _⟩, h2⟩, _, _, h3⟩ := hi x hx
    have b2 := bounds_u32 h2
    have b3 := bounds_u32 h3
    exact ⟨h1, by omega, by omega⟩
  · have b : 0 ≤ lock ∧ lock ≤ 4294967295 := bounds_u32 hl
    omega
  · obtain ⟨⟨⟨h1, h4⟩, h2⟩, _, _, _⟩ := hi x hx
    exact ⟨h1, h4, h2⟩
  · have b := bounds_i64 (ho y hy).1
    omega
theorem walkTxFault (v lock : Int) (ins : List S35) (outs : List S41) (A1 : Option Addr) (c1 : Nat) (A2 : Option Addr) (c2 : Nat) (w : World) (hR : RawT ins lock ∧ (∀ x ∈ ins, OpOk x.f0.f0 x.f0.f1) ∧ (∀ y ∈ outs, -9223372036854775808 ≤ y.f0 ∧ y.f0 ≤ 9223372036854775807)) (l1 : ins.length ≤ c1) (g1 : Kd.C k35 w A1 ins.length ins) (l2 : outs.length ≤ c2) (g2 : Kd.C k41 w A2 outs.length outs) :
    Calls Try.prog 4 #[.agg #[.int .i32 v, .slice A1 ins.length c1, .slice A2 outs.length c2, .int .u32 lock]] w fun e w' => e = .returned (.bool true) ∧ Below w.heap.size w w' := by
  have he : Ev (fun k => laws_FnTxFault.f k v ins outs lock) true := by
    obtain ⟨b, hb, hs⟩ := ev_zzFits2 v lock ins outs
    refine Ev.congr (fun k => by unfold laws_FnTxFault.f; rfl) (Ev.bind hb ?_)
    cases b
    · exact Ev.congr (fun k => by rw [if_neg (by decide)]) (Ev.now _)
    obtain ⟨r, e1, h1⟩ := ev_txSize v lock ins outs (hs rfl)
    refine Ev.congr (fun k => by rw [if_pos rfl]) (Ev.bind e1 ?_)
    by_cases hz0 : r > 100000
    · exact Ev.congr (fun k => by rw [if_pos hz0]) (Ev.now _)
    have hz := h1 (by omega)
    have hg : TxGood ins outs lock := ⟨hR.1, hz, hR.2.1, hR.2.2⟩
    have h2 := ev_among (txFaultI ins outs) (faultsF v lock ins outs) (faults_len v lock ins outs)
    rw [fault_among v lock ins outs hz (txB_short v lock ins outs hR.1 hz)] at h2
    refine Ev.congr (f := fun k => (laws_among.f k (txFaultI ins outs) (faultsF v lock ins outs)).bind fun t252 => some t252) (fun k => ?_) (Ev.bind h2 (Ev.now _))
    rw [if_neg hz0, impl_TxFault.f, if_pos hg, spec_TxFaults.f, if_pos hg]; rfl
  obtain ⟨k, hk⟩ := he.rounds
  exact laws_FnTxFault.calls k v A1 c1 ins A2 c2 outs lock true w g1 l1 g2 l2 hk
end Go.Proofs.Ytdheoajaaofmbaa.QFnScriptPlaces
