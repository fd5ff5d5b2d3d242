/- impl.Compact. -/
import Derived.Test.YtdmpjoglejnpbaaBackC3
namespace Go.Proofs.Ytdmpjoglejnpbaa.Big
open Go.RowKit Go.Proofs.YtdmpjoglejnpbaaW.PrintWords Go.Proofs.YtdmpjoglejnpbaaW.PrintLast Go.Proofs.YtdmpjoglejnpbaaW.PrintMore Go.Proofs.Ytdmpjoglejnpbaa.QFnTargetBack
set_option linter.unusedVariables false
set_option linter.unusedSimpArgs false
/-- What BigToCompact answers at a number above 0. -/
def Backs (l : List Int) (c : Int) : Prop := ∀ w g okx, Is w g okx false l → (∀ k, okx k → k < w.heap.size) →
  Calls Try.prog 48 #[.pointer (some ⟨g, 0, none⟩)] w fun e w' => e = .returned (.int .u32 c) ∧ Below w.heap.size w w'
set_option maxHeartbeats 1000000 in
theorem back2 (l : List Int) (c : Int) (h : Backs l c) (w : World) (g : Nat) (okx : Nat → Prop) (hI : Is w g okx false l) (hok : ∀ k, okx k → k < w.heap.size) :
    Calls Try.prog 28 #[.pointer (some ⟨g, 0, none⟩)] w fun e w' => e = .returned (.int .u32 c) ∧ Below w.heap.size w w' := by
  have H := Aside0.mk (h w g okx hI hok)
  clear h hI hok
  go_enter Try.func28, Try.ntmps28
  go_wp2_with (go_at_call 48; refine H.out.mono ?_; rintro e w1 ⟨rfl, hb⟩; have HB := Aside0.mk hb; clear hb)
  go_ret
  exact ⟨rfl, HB.out⟩
set_option maxHeartbeats 2000000 in
theorem implCompact (l : List Int) (c : Int) (h : Backs l c) (k : Nat) (oks : Nat → Prop) (v : Value) (xs : List Int) (w : World) (base : Nat)
    (hok : ∀ k, oks k → k < w.heap.size) (hv : Kd.V (Kd.int .u8) 5 w base oks v xs) (hx : Bytes xs) (hn : xs.length ≤ 1000000)
    (hr : smallbig_nat_norm.f k (dg (vB xs) ((xs.length + 3) / 4)) = some l) :
    Calls Try.prog 11 #[v] w fun e w' => e = .returned (.int .u32 c) ∧ Below w.heap.size w w' := by
  have HN := Aside0.mk (numberC k oks v xs l w base hok hv hx hn hr)
  have H := Aside0.mk h
  obtain ⟨A9, c9, e9⟩ := Kd.V_slice hv
  subst e9
  clear h hv hx hr hok
  go_enter Try.func11, Try.ntmps11
  go_wp2_with (first
    | (go_at_call 29; refine HN.out.mono ?_; rintro e w1 ⟨rfl, hi, hb⟩; have HI := Aside0.mk hi; have HB := Aside0.mk hb; clear hi hb)
    | (go_at_call 28; refine (back2 l c H.out _ _ _ (Is.bound HI.out) (fun k hk => hk.2)).mono ?_; rintro e w2 ⟨rfl, hb⟩; have HB2 := Aside0.mk (HB.out.trans (hb.mono HB.out.size)); clear hb))
  go_ret
  exact ⟨rfl, HB2.out⟩
end Go.Proofs.Ytdmpjoglejnpbaa.Big
