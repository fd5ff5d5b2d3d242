/- The builder, as a function. -/
import Derived.Test.YtdmpjoglejnpbabBd7
namespace Go.Proofs.Ytdmpjoglejnpbab.QFnBuilt
open Go.RowKit Go.Proofs.YtdmpjoglejnpbabW.PrintWords Go.Proofs.YtdmpjoglejnpbabW.PrintLast Go.Proofs.YtdmpjoglejnpbabW.PrintMore Go.Proofs.Ytdmpjoglejnpbab.Bd
set_option linter.unusedVariables false
set_option linter.unusedSimpArgs false
theorem info27 : (Try.prog.info? 27).map (fun i => (i.zero, i.size, i.bytes)) = some (some (.agg #[(.int .i64 0), (.int .i64 0), (.slice none 0 0)]), 3, 40) := by kernel_rfl
def okB (l : List S27) : Prop := l.length ≤ 1000000 ∧ ∀ x ∈ l, x.f2.length ≤ 2147483647 ∧ (x.f0 = 2 → -9223372036854775808 < x.f1 ∧ x.f1 ≤ 9223372036854775807)
instance (l : List S27) : Decidable (okB l) := inferInstanceAs (Decidable (_ ∧ _))
def impl_Build.f (l : List S27) : Option (List Int × Bool) := if okB l then some ((runB nb l).1, !(runB nb l).2) else none
theorem impl_Build.calls (A0 : Option Addr) (c0 : Nat) (l0 : List (S27)) (r1 : List Int) (r2 : Bool) (w : World) (hr0 : Kd.C k27 w A0 l0.length l0) (hc0 : l0.length ≤ c0) (h : impl_Build.f l0 = some (r1, r2)) :
    Calls Try.prog 7 #[.slice A0 l0.length c0] w fun e w' => ∃ v0_ : Value, e = .returned (.tuple #[v0_, .bool r2]) ∧ Kd.R (Kd.int .u8) 5 w' w.heap.size (fun _ => True) v0_ r1 ∧ Below w.heap.size w w' := by
  unfold impl_Build.f at h
  split at h
  · rename_i hok
    obtain ⟨hn, hx⟩ := hok
    injection h with h
    injection h with h1 h2
    subst h1 h2
    refine buildC nb 10 A0 l0 c0 w hr0 hc0 hn (fun i hi => ?_)
    have e : rd_T27 l0 (i : Int) = l0[i] := by
      show l0.getD (i : Int).toNat _ = _
      rw [Int.toNat_natCast, List.getD_eq_getElem?_getD, List.getElem?_eq_getElem hi]; rfl
    rw [e]
    obtain ⟨h3, h4⟩ := hx l0[i] (List.getElem_mem hi)
    refine ⟨h3, fun h5 => ?_⟩
    obtain ⟨h6, h7⟩ := h4 h5
    exact ⟨implBytes _ h6 h7 10 (by omega), nb_num _ h6 h7⟩
  · cases h
end Go.Proofs.Ytdmpjoglejnpbab.QFnBuilt
