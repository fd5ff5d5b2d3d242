/- impl.ScriptPlaces. -/
import Derived.Test.YtdheoajaaofmbaaTx6
namespace Go.Proofs.Ytdheoajaaofmbaa.QFnScriptPlaces
open Go.RowKit Go.Proofs.YtdheoajaaofmbaaW.PrintWords Go.Proofs.YtdheoajaaofmbaaW.PrintLast Go.Proofs.YtdheoajaaofmbaaW.PrintMore
set_option linter.unusedVariables false
set_option linter.unusedSimpArgs false
theorem txFit_iff (ins : List S35) (outs : List S41) : (ins.length ≤ 1000000 ∧ outs.length ≤ 1000000 ∧ (∀ x ∈ ins, x.f1.length ≤ 1000000 ∧ x.f2.length ≤ 1000000 ∧ ∀ s ∈ x.f2, s.length ≤ 1000000) ∧ ∀ y ∈ outs, y.f1.length ≤ 1000000) ↔ TxFit ins outs :=
  ⟨fun h => ⟨h.1, h.2.1, h.2.2.1, h.2.2.2⟩, fun h => ⟨h.n1, h.n2, h.i1, h.o1⟩⟩
instance (ins : List S35) (outs : List S41) : Decidable (TxFit ins outs) := decidable_of_iff _ (txFit_iff ins outs)
def impl_ScriptPlaces.f (a0_0 : Int) (l0_1 : List S35) (l0_2 : List S41) (a0_3 : Int) : Option (List Int) := if TxFit l0_1 l0_2 then some (placesI l0_1 l0_2) else none
set_option maxRecDepth 100000 in
set_option maxHeartbeats 8000000 in
theorem impl_ScriptPlaces.calls (a0_0 : Int) (A0_1 : Option Addr) (c0_1 : Nat) (l0_1 : List S35) (A0_2 : Option Addr) (c0_2 : Nat) (l0_2 : List S41) (a0_3 : Int) (r : List Int) (w : World) (hr0_1 : Kd.C k35 w A0_1 l0_1.length l0_1) (hc0_1 : l0_1.length ≤ c0_1) (hr0_2 : Kd.C k41 w A0_2 l0_2.length l0_2) (hc0_2 : l0_2.length ≤ c0_2) (h : impl_ScriptPlaces.f a0_0 l0_1 l0_2 a0_3 = some r) :
    Calls Try.prog 9 #[.agg #[.int .i32 a0_0, .slice A0_1 l0_1.length c0_1, .slice A0_2 l0_2.length c0_2, .int .u32 a0_3]] w fun e w' => ∃ v0_, e = .returned v0_ ∧ Kd.R (Kd.int .i64) 3 w' w.heap.size (fun _ => True) v0_ r ∧ Below w.heap.size w w' := by
  unfold impl_ScriptPlaces.f at h
  split at h
  · rename_i hf
    injection h with h
    subst h
    have HF := Aside0.mk hf
    have HR1 := Aside0.mk hr0_1
    have HR2 := Aside0.mk hr0_2
    clear hr0_1 hr0_2 hf
    go_enter Try.func9, Try.ntmps9
    go_wp2_with (first
      | (go_at_call 24; (with_reducible refine (txOfC a0_0 a0_3 A0_1 c0_1 l0_1 A0_2 c0_2 l0_2 _ (Kd.C_below HR1.out (below_alloc (Below.refl _ _) _)) hc0_1 (Kd.C_below HR2.out (below_alloc (Below.refl _ _) _)) hc0_2 HF.out).mono ?_); rintro e w2 ⟨g, A1, c1, A2, c2, rfl, hm, hg, hb⟩; have HM := Aside0.mk hm; have HB := Aside0.mk ((below_alloc (Below.refl w.heap.size w) _).trans (hb.mono (by simp))); clear hm hg hb)
      | (go_at_call 25; (with_reducible refine (placesC g a0_0 a0_3 l0_1 l0_2 A1 c1 A2 c2 _ HM.out HF.out).mono ?_); rintro e w3 ⟨v0, rfl, hr, hb⟩; have HR := Aside0.mk (Kd.R_lower hr HB.out.size); have HB2 := Aside0.mk (HB.out.trans (hb.mono HB.out.size)); clear hr hb))
    go_ret
    exact ⟨_, rfl, HR.out, HB2.out⟩
  · cases h
end Go.Proofs.Ytdheoajaaofmbaa.QFnScriptPlaces
