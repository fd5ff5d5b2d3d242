/- The reference's halving loop answers 5000000000 shifted by the number of halvings. -/
import Derived.Test.YtnbecklojmbbbaaPFnSubsidyx1
namespace Go.Proofs.Ytnbecklojmbbbaa.fnSubsidy
open Go.RowKit Go.Proofs.Ytnbecklojmbbbaa.PFnSubsidy Go.Proofs.YtnbecklojmbbbaaW.PrintWords

theorem half (c : Nat) (n : Nat) : (c : Int) / 2 ^ (n + 1) = (c : Int) / 2 ^ n / 2 := by
  have : ((c / 2 ^ (n + 1) : Nat) : Int) = ((c / 2 ^ n / 2 : Nat) : Int) := by rw [Nat.pow_succ, Nat.div_div_eq_div_mul]
  simpa using this
theorem stays (c : Nat) (n m : Nat) (h : (c : Int) / 2 ^ n = 0) : (c : Int) / 2 ^ (n + m) = 0 := by
  induction m with
  | zero => exact h
  | succ m ih => rw [← Nat.add_assoc, half, ih]; rfl
theorem loop_any (h e q : Int) (hq : h / e = q) (h0 : 0 ≤ h) (e0 : 0 < e) (q0 : 0 ≤ q) (q1 : q ≤ 2147483647) (c : Nat) (hc : c ≤ 5000000000) (d : Nat) : ∀ n : Nat, d + n = 64 → (n : Int) ≤ q →
    spec_Subsidy.l0 (d + 1) h e ((c : Int) / 2 ^ n) n = some ((c : Int) / 2 ^ (min q.toNat 64)) := by
  have w0 : wrap32 (Int.tdiv h e) = q := by rw [Int.tdiv_eq_ediv_of_nonneg h0, hq]; unfold wrap32; omega
  have e1 : ¬ e = 0 := by omega
  clear hq h0 e0
  have big : (c : Int) / 2 ^ 64 = 0 := Int.ediv_eq_zero_of_lt (by omega) (by omega)
  induction d with
  | zero =>
    intro n hn hq
    obtain rfl : n = 64 := by omega
    have hm : min q.toNat 64 = 64 := by omega
    rw [spec_Subsidy.l0, if_neg e1, w0, hm, big]
    split <;> rfl
  | succ d ih =>
    intro n hn hq
    have p0 : (0:Int) ≤ (c : Int) / 2 ^ n := Int.ediv_nonneg (by omega) (Int.le_of_lt (Int.pow_pos (by omega)))
    have p1 : (c : Int) / 2 ^ n ≤ c := Int.ediv_le_self _ (by omega)
    have hh := half c n
    have hs := stays c n
    have ih' := ih (n + 1) (by omega)
    clear ih big
    rw [hh] at ih'
    generalize hy : (c : Int) / 2 ^ n = y at *
    have hy' := Aside0.mk hy
    have hs' := Aside0.mk hs
    have ih2 := Aside0.mk ih'
    clear hy hs ih' hh
    rw [spec_Subsidy.l0, if_neg e1, w0]
    by_cases z0 : (n : Int) < q
    · rw [if_pos z0]
      by_cases z : y > 0
      · rw [if_pos z]
        have a0 : wrap64 (Int.tdiv y 2) = y / 2 := by
          rw [Int.tdiv_eq_ediv_of_nonneg p0]; unfold wrap64; omega
        have a1 : wrap32 ((n : Int) + 1) = ((n + 1 : Nat) : Int) := by unfold wrap32; omega
        rw [a0, a1]
        exact ih2.out (by omega)
      · rw [if_neg z]
        have hz : y = 0 := by omega
        have hle : n ≤ min q.toNat 64 := by omega
        obtain ⟨m, hm⟩ := Nat.exists_eq_add_of_le hle
        rw [hm, hs'.out m hz, hz]
    · rw [if_neg z0]
      have : min q.toNat 64 = n := by omega
      rw [this, hy'.out]

theorem spec_any (h e : Int) (h0 : 0 ≤ h) (h1 : h ≤ 2147483647) (e0 : 0 < e) :
    spec_Subsidy.f 65 h e = some (5000000000 / 2 ^ (min (IntKind.u64.wrap (h / e)).toNat 64)) := by
  have q0 : 0 ≤ h / e := Int.ediv_nonneg h0 (by omega)
  have q1 : h / e ≤ h := Int.ediv_le_self _ h0
  have w1 : IntKind.u64.wrap (h / e) = h / e := by
    generalize h / e = q at *
    simp [IntKind.wrap, IntKind.signed, IntKind.bits] <;> omega
  unfold spec_Subsidy.f
  rw [if_neg (by omega), w1]
  have := loop_any h e _ rfl h0 e0 q0 (by omega) 5000000000 (by omega) 64 0 rfl (by simpa using q0)
  simpa using this
theorem spec_zero (h : Int) : spec_Subsidy.f 65 h 0 = some 5000000000 := by
  unfold spec_Subsidy.f
  rw [if_pos rfl]
end Go.Proofs.Ytnbecklojmbbbaa.fnSubsidy
