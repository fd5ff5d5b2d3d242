/- Steps of a builder that came in. -/
import Derived.Test.YtdmpjoglejnpbabBd9
import Derived.Test.YtdmpjoglejnpbabOpen
namespace Go.Proofs.Ytdmpjoglejnpbab.Bd
open Go.RowKit Go.Proofs.YtdmpjoglejnpbabW.PrintWords Go.Proofs.YtdmpjoglejnpbabW.PrintLast Go.Proofs.YtdmpjoglejnpbabW.PrintMore Go.Proofs.Ytdmpjoglejnpbab.QFnBuilt Go.Proofs.Ytdmpjoglejnpbab.Open
set_option linter.unusedVariables false
theorem opens_bytes : Opens Try.prog 23 (Kd.slice 5 (Kd.int .u8)) (fun l => ∀ x ∈ l, (Lit.int .u8 x).wf = true) :=
  opens_slice Try.underlying23 (by kernel_rfl) (opens_int Try.underlying5)
theorem opens_step : Opens Try.prog 27 k27 (fun x => (Lit.int .i64 x.f0).wf = true ∧ (Lit.int .i64 x.f1).wf = true ∧ ∀ y ∈ x.f2, (Lit.int .u8 y).wf = true) :=
  opens_iso (fun x : Sp => (x.f0, x.f1, x.f2)) (fun p => ⟨p.1, p.2.1, p.2.2⟩) (fun _ => rfl)
    (opens_struct3 Try.underlying27 (by kernel_rfl) (by kernel_rfl) (by kernel_rfl) (by kernel_rfl) (by kernel_rfl) (by kernel_rfl) (by kernel_rfl) (opens_int Try.underlying3) (opens_int Try.underlying2) opens_bytes)
theorem opens_steps : Opens Try.prog 22 (Kd.slice 27 k27) (fun l => ∀ x ∈ l, Raw x) := by
  intro H enc w base sp held fuel cs y h
  obtain ⟨l, hl, hk⟩ := opens_slice (e' := 27) Try.underlying22 (by kernel_rfl) opens_step enc w base sp held fuel cs y h
  refine ⟨l, fun x hx => ?_, hk⟩
  obtain ⟨_, h1, h2⟩ := hl x hx
  have h3 := bounds_i64 h1
  exact ⟨by omega, by omega, fun y hy => by have := bounds_u8 (h2 y hy); omega⟩
theorem walkBuilt (A : Option Addr) (c : Nat) (l : List Sp) (w : World) (hr : Kd.C k27 w A l.length l) (hc : l.length ≤ c) (hR : ∀ x ∈ l, Raw x) :
    Calls Try.prog 4 #[.slice A l.length c] w fun e w' => e = .returned (.bool true) ∧ Below w.heap.size w w' := by
  obtain ⟨k, hk⟩ := lawBuilt l hR
  exact laws_FnBuilt.calls k A c l true w hr hc hk
end Go.Proofs.Ytdmpjoglejnpbab.Bd
