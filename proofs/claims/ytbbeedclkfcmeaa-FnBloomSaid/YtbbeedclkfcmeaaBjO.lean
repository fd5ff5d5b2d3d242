/- A bloom filter that came in. -/
import Derived.Test.YtbbeedclkfcmeaaBj7
import Derived.Test.YtbbeedclkfcmeaaOpen
namespace Go.Proofs.Ytbbeedclkfcmeaa.KFnBloom
open Go.RowKit Go.Proofs.YtbbeedclkfcmeaaW.PrintWords Go.Proofs.YtbbeedclkfcmeaaW.PrintLast Go.Proofs.YtbbeedclkfcmeaaW.PrintMore Go.Proofs.Ytbbeedclkfcmeaa.Open
set_option linter.unusedVariables false
set_option linter.unusedSimpArgs false
theorem opens_bloom {H : Type} (enc : TypeId × Value → H) (w : World) (base : Nat) (sp : Nat → Bool) (held : Bool) (fuel : Nat) (cs : List Value) (y : DataW H × List MemPlace) (h : DataW.trod enc Try.prog w base sp held fuel 25 cs = some y) :
    ∃ (L : List Int) (n tw : Int) (A : Option Addr) (c : Nat), cs = [.slice A L.length c, .int .u32 n, .int .u32 tw] ∧ Tok.ByteL L ∧ 0 ≤ tw ∧ tw < 4294967296 ∧ L.length ≤ c ∧ Kd.C (Kd.int .u8) w A L.length L := by
  obtain ⟨⟨L, n, tw⟩, ⟨v0, v1, v2⟩, c0, c1, e0, k0, c2, c3, e1, k1, k2⟩ := opens_struct3 (d0 := Kd.slice 5 (Kd.int .u8)) (d1 := Kd.int .u32) (d2 := Kd.int .u32) Try.underlying25 (by kernel_rfl) (by kernel_rfl) (by kernel_rfl) (by kernel_rfl) (by kernel_rfl) (by kernel_rfl) (by kernel_rfl) (opens_slice Try.underlying22 (by kernel_rfl) (opens_int Try.underlying5)) (opens_int Try.underlying23) (opens_int Try.underlying23) enc w base sp held fuel cs y h
  obtain ⟨A, c, ea, l1, g1⟩ := k0
  have k1 : c2 = [Value.int .u32 n] := k1
  have k2 : c3 = [Value.int .u32 tw] := k2
  have b2 : 0 ≤ tw ∧ tw ≤ 4294967295 := bounds_u32 v2
  refine ⟨L, n, tw, A, c, ?_, fun x hx => ?_, by omega, by omega, l1, g1⟩
  · rw [e0, e1, ea, k1, k2]; rfl
  · have := bounds_u8 (v0 x hx)
    omega
theorem walkBloom (L : List Int) (n tw : Int) (A : Option Addr) (c : Nat) (hL : Tok.ByteL L) (h0 : 0 ≤ tw) (h1 : tw < 4294967296) (hc : L.length ≤ c) (A1 : Option Addr) (c1 : Nat) (d : List Int) (A2 : Option Addr) (c2 : Nat) (e : List Int) (w : World) (gL : Kd.C (Kd.int .u8) w A L.length L)
    (r1 : ReadsInt w .u8 A1 d.length d) (hc1 : d.length ≤ c1) (hd : ∀ x ∈ d, 0 ≤ x ∧ x < 256) (r2 : ReadsInt w .u8 A2 e.length e) (hc2 : e.length ≤ c2) (he : ∀ x ∈ e, 0 ≤ x ∧ x < 256) :
    Calls Try.prog 3 #[.agg #[.slice A L.length c, .int .u32 n, .int .u32 tw], .slice A1 d.length c1, .slice A2 e.length c2] w fun e w' => e = .returned (.bool true) ∧ Below w.heap.size w w' := by
  obtain ⟨k, hk⟩ := pure L n tw d e hL hd he h0 h1
  exact laws_FnBloom.calls k A c L n tw A1 c1 d A2 c2 e true w gL hc (Kd.C_of_reads (h1 := fun _ => rfl) r1) hc1 (Kd.C_of_reads (h1 := fun _ => rfl) r2) hc2 hk
end Go.Proofs.Ytbbeedclkfcmeaa.KFnBloom
