/- number and BigToCompact. -/
import Derived.Test.YtdmpjoglejnpbaaBits
namespace Go.Proofs.Ytdmpjoglejnpbaa.Big
open Go.RowKit Go.Proofs.YtdmpjoglejnpbaaW.PrintWords Go.Proofs.YtdmpjoglejnpbaaW.PrintLast Go.Proofs.YtdmpjoglejnpbaaW.PrintMore Go.Proofs.Ytdmpjoglejnpbaa.QFnTargetBack
set_option linter.unusedVariables false
set_option linter.unusedSimpArgs false
set_option maxRecDepth 100000 in
set_option maxHeartbeats 4000000 in
theorem numberC (k : Nat) (oks : Nat → Prop) (v : Value) (xs r : List Int) (w : World) (base : Nat)
    (hok : ∀ k, oks k → k < w.heap.size) (hv : Kd.V (Kd.int .u8) 5 w base oks v xs) (hx : Bytes xs) (hn : xs.length ≤ 1000000)
    (hr : smallbig_nat_norm.f k (dg (vB xs) ((xs.length + 3) / 4)) = some r) :
    Calls Try.prog 29 #[v] w fun e w' => e = .returned (.pointer (some ⟨w.heap.size, 0, none⟩)) ∧ Is w' w.heap.size (· ≠ w.heap.size) false r ∧ Below w.heap.size w w' := by
  have HSB := Aside0.mk (setBytes w.heap.size (fun _ => True) false [] k oks v xs r (w.alloc (.cells #[.bool false, .slice none 0 0] 105)) base ⟨_, heap_alloc_new w _, Kd.V_nil _ _ _ _ _⟩ (fun k hk => by have := hok k hk; simp; omega) (Kd.V_alloc hv _) hx hn hr)
  obtain ⟨A9, c9, e9⟩ := Kd.V_slice hv
  subst e9
  clear hv hr hok hx
  go_enter Try.func29, Try.ntmps29
  go_wp2_with (go_at_call 49; refine HSB.out.mono ?_; rintro e w3 ⟨rfl, h2, h3⟩; have H2 := Aside0.mk h2; have H3 := Aside0.mk h3; clear h2 h3)
  go_ret
  exact ⟨rfl, H2.out, H3.out.below ((Below.refl _ _).alloc (Nat.le_refl _) _) (Nat.le_refl _) (by simp)⟩
end Go.Proofs.Ytdmpjoglejnpbaa.Big
