/- FnBuildTooMuch: the walk answers true. -/
import Derived.Test.YtdmpjoglejnpbabTooB
import Derived.Test.YtdmpjoglejnpbabBdT
namespace Go.Proofs.Ytdmpjoglejnpbab.Bd
open Go.RowKit Go.Proofs.YtdmpjoglejnpbabW.PrintWords Go.Proofs.YtdmpjoglejnpbabW.PrintLast Go.Proofs.YtdmpjoglejnpbabW.PrintMore Go.Proofs.Ytdmpjoglejnpbab.QFnBuilt
theorem walkToo (A0 : Option Addr) (c0 : Nat) (l0 : List Sp) (A1 : Option Addr) (c1 : Nat) (l1 : List Int) (A2 : Option Addr) (c2 : Nat) (l2 : List Sp) (w : World) (hr0 : Kd.C k27 w A0 l0.length l0) (hc0 : l0.length ≤ c0) (hR0 : ∀ x ∈ l0, Raw x) (hr1 : ReadsInt w .u8 A1 l1.length l1) (hc1 : l1.length ≤ c1) (hr2 : Kd.C k27 w A2 l2.length l2) (hc2 : l2.length ≤ c2) (hR2 : ∀ x ∈ l2, Raw x) :
    Calls Try.prog 3 #[.slice A0 l0.length c0, .slice A1 l1.length c1, .slice A2 l2.length c2] w fun e w' => e = .returned (.bool true) ∧ Below w.heap.size w w' := by
  obtain ⟨k, hk⟩ := lawToo l0 l2 l1 hR0 hR2
  exact laws_FnBuildTooMuch.calls k A0 c0 l0 A1 c1 l1 A2 c2 l2 true w hr0 hc0 (Kd.C_of_reads (readsInt_of.1 hr1)) hc1 hr2 hc2 hk
end Go.Proofs.Ytdmpjoglejnpbab.Bd
