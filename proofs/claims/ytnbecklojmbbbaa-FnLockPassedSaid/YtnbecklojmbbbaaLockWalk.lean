/- The walk of the law FnLockPassed. -/
import Derived.Test.YtnbecklojmbbbaaLock
import Derived.ProofKit
import Derived.OpenShut
namespace Go.Proofs.Ytnbecklojmbbbaa.fnLockPassed
open Go.Proofs.YtnbecklojmbbbaaW.PrintWords Go.Proofs.Ytnbecklojmbbbaa.PFnLockPassed Go.RowKit
set_option linter.unusedVariables false
theorem below_drewN {B : Nat} {w w1 : World} (h : Below B w w1) (n : Nat) : Below B w (w1.drewN n) := ⟨h.os, h.tape, h.output, h.size, h.block⟩
set_option maxHeartbeats 1000000 in
theorem walk (a0 : Int) (a1 : Int) (a2 : Int) (a3 : Int) (w0 : (Lit.int .i64 a0).wf = true) (w1 : (Lit.int .i32 a1).wf = true) (w2 : (Lit.int .i32 a2).wf = true) (w3 : (Lit.int .i64 a3).wf = true) (w : World) :
    Calls Try.prog 4 #[.int .i64 a0, .int .i32 a1, .int .i32 a2, .int .i64 a3] w fun e w' => e = .returned (.bool true) ∧ Below w.heap.size w w' := by
  by_cases c : decide (a3 < 0) || decide (8589934592 ≤ a3) || decide (a0 < -1) || decide (8589934592 ≤ a0)
  · by_cases c0 : a3 < 0
    · have b0 : decide (a3 < 0) = true := decide_eq_true c0
      go_enter Try.func4, Try.ntmps4
      go_wp2
      go_ret
      exact ⟨rfl, Below.refl _ _⟩
    have b0 : decide (a3 < 0) = false := decide_eq_false c0
    by_cases c1 : 8589934592 ≤ a3
    · have b1 : decide (8589934592 ≤ a3) = true := decide_eq_true c1
      go_enter Try.func4, Try.ntmps4
      go_wp2
      go_ret
      exact ⟨rfl, Below.refl _ _⟩
    have b1 : decide (8589934592 ≤ a3) = false := decide_eq_false c1
    by_cases c2 : a0 < -1
    · have b2 : decide (a0 < -1) = true := decide_eq_true c2
      go_enter Try.func4, Try.ntmps4
      go_wp2
      go_ret
      exact ⟨rfl, Below.refl _ _⟩
    have b2 : decide (a0 < -1) = false := decide_eq_false c2
    have b3 : decide (8589934592 ≤ a0) = true := by simpa [b0, b1, b2] using c
    go_enter Try.func4, Try.ntmps4
    go_wp2
    go_ret
    exact ⟨rfl, Below.refl _ _⟩
  · simp only [Bool.or_eq_true, not_or, Bool.not_eq_true] at c
    obtain ⟨⟨⟨b0, b1⟩, b2⟩, b3⟩ := c
    have hs : spec_LockPassed.f a0 a1 a2 a3 = some (decide (a0 < a3) && decide (a1 < a2)) := by
      unfold spec_LockPassed.f
      by_cases h : a0 < a3
      · rw [if_pos h, decide_eq_true h, Bool.true_and]
      · rw [if_neg h, decide_eq_false h, Bool.false_and]
    have HS := Aside0.mk hs
    clear hs
    go_enter Try.func4, Try.ntmps4
    go_wp2_with (first
      | (go_at_call 11; refine (impl_any a0 a1 a2 a3 _).mono ?_; rintro o w2 ⟨rfl, hb2⟩)
      | (go_at_call 12; refine (spec_LockPassed.calls a0 a1 a2 a3 _ _ HS.out).mono ?_; rintro o w3 ⟨rfl, ⟨⟨n, rfl⟩⟩⟩))
    go_ret
    exact ⟨by simp, below_drewN hb2 _⟩

end Go.Proofs.Ytnbecklojmbbbaa.fnLockPassed
