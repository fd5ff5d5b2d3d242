/- What the print takes stand-ins for, as it is: four bytes as a word. -/
import Derived.Test.YtbbeedclkfcmeaaLe
import Derived.Test.YtbbeedclkfcmeaaBj1
namespace Go.Proofs.Ytbbeedclkfcmeaa.KFnBloom
open Go.RowKit Go.Proofs.YtbbeedclkfcmeaaW.PrintWords Go.Proofs.YtbbeedclkfcmeaaW.PrintLast Go.Proofs.YtbbeedclkfcmeaaW.PrintMore
set_option linter.unusedVariables false
set_option linter.unusedSimpArgs false
theorem u32_w_ (n : Int) : IntKind.u32.wrap n = n % 4294967296 := by rw [IntKind.wrap_u32]
def By (x : Int) : Prop := 0 ≤ x ∧ x < 256
instance (x : Int) : Decidable (By x) := by unfold By; infer_instance
def binary_littleEndian_Uint32.f (a0 : Int) (l : List Int) : Option Int :=
  if 4 ≤ l.length ∧ By (l.getD 0 0) ∧ By (l.getD 1 0) ∧ By (l.getD 2 0) ∧ By (l.getD 3 0) then some (l.getD 0 0 + l.getD 1 0 * 256 + l.getD 2 0 * 65536 + l.getD 3 0 * 16777216) else none
theorem binary_littleEndian_Uint32.calls (a0 : Int) (A1 : Option Addr) (c1 : Nat) (l1 : List Int) (r : Int) (w : World) (hr1 : Kd.C (Kd.int .u8) w A1 l1.length l1) (hc1 : l1.length ≤ c1) (h : binary_littleEndian_Uint32.f a0 l1 = some r) :
    Calls Try.prog 45 #[.agg #[], .slice A1 l1.length c1] w fun e w' => e = .returned (.int .u32 r) ∧ Below w.heap.size w w' := by
  unfold binary_littleEndian_Uint32.f at h
  split at h
  · rename_i hs
    obtain ⟨hl, h0, h1, h2, h3⟩ := hs
    obtain rfl := Option.some.inj h
    have r2 : ReadsInt w .u8 A1 l1.length l1 := Kd.reads_of_C hr1
    obtain ⟨ad, rfl, hc⟩ := r2.2.2 (by omega)
    have q0 := hc 0 (by omega)
    have q1 := hc 1 (by omega)
    have q2 := hc 2 (by omega)
    have q3 := hc 3 (by omega)
    exact Tok.leUint32 ad l1.length c1 hl _ _ _ _ h0.1 h0.2 h1.1 h1.2 h2.1 h2.2 h3.1 h3.2 w (by simpa [Addr.add] using q0) (by simpa [Addr.add] using q1) (by simpa [Addr.add] using q2) (by simpa [Addr.add] using q3)
  · cases h
end Go.Proofs.Ytbbeedclkfcmeaa.KFnBloom
