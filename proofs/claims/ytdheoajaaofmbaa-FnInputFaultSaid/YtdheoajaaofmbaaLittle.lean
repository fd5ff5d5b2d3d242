/- The bytes of numbers, the lowest first. -/
import Derived.Test.YtdheoajaaofmbaaBase
import Derived.Test.YtdheoajaaofmbaaQFnScriptPlacesx
namespace Go.Proofs.Ytdheoajaaofmbaa.QFnScriptPlaces
open Go.RowKit Go.Proofs.YtdheoajaaofmbaaW.PrintWords Go.Proofs.YtdheoajaaofmbaaW.PrintLast Go.Proofs.YtdheoajaaofmbaaW.PrintMore
set_option linter.unusedVariables false
set_option linter.unusedSimpArgs false
/-- The k lowest bytes of a number, the lowest first. -/
def leB : Nat → Int → List Int
  | 0, _ => []
  | k + 1, n => n % 256 :: leB k (n / 256)
theorem leB_succ (k : Nat) (n : Int) : leB (k + 1) n = n % 256 :: leB k (n / 256) := rfl
theorem leB_zero (n : Int) : leB 0 n = [] := rfl
theorem leB_len : ∀ k n, (leB k n).length = k
  | 0, _ => rfl
  | k + 1, n => by show (leB k (n / 256)).length + 1 = _; rw [leB_len k]
theorem u64wr {x : Int} (h0 : 0 ≤ x) (h1 : x < 18446744073709551616) : IntKind.u64.wrap x = x := by
  simp [IntKind.wrap, IntKind.signed, IntKind.bits]; omega
theorem leB_snoc : ∀ k n, leB k n ++ [n / 256 ^ k % 256] = leB (k + 1) n
  | 0, n => by simp [leB]
  | k + 1, n => by
    show n % 256 :: (leB k (n / 256) ++ [n / 256 ^ (k + 1) % 256]) = n % 256 :: leB (k + 1) (n / 256)
    rw [← leB_snoc k (n / 256), Int.pow_succ', Int.ediv_ediv_of_nonneg (by decide)]
theorem ev_little (n : Int) (m : Nat) (h0 : 0 ≤ n) (h1 : n < 18446744073709551616) (hm : m ≤ 100) : Ev (fun k => spec_little.f k n (m : Int)) (leB m n) := by
  have key : ∀ d (i : Nat) (x : Int) (acc : List Int), i + d = m → 0 ≤ x → x < 18446744073709551616 → acc.length ≤ i → Ev (fun k => spec_little.l0 k x acc (m : Int) (i : Int)) (acc ++ leB d x) := by
    intro d
    induction d with
    | zero =>
      intro i x acc hi x0 x1 ha
      rw [leB_zero, List.append_nil]
      refine Ev.step (f := fun _ => some acc) (fun k => ?_) (Ev.now _)
      rw [spec_little.l0, if_neg (by omega)]
    | succ d ih =>
      intro i x acc hi x0 x1 ha
      have c1 : (i : Int) < (m : Int) := by omega
      have c2 : acc.length < 140737488355328 := by omega
      have y0 : 0 ≤ x / 256 := by omega
      have y1 : x / 256 < 18446744073709551616 := by omega
      have ha2 : (acc ++ [x % 256]).length ≤ i + 1 := by rw [List.length_append]; simp; omega
      have hi2 : i + 1 + d = m := by omega
      have e1 : Int.tdiv x 256 = x / 256 := Int.tdiv_eq_ediv_of_nonneg x0
      have e2 : Int.tmod x 256 = x % 256 := Int.tmod_eq_emod_of_nonneg x0
      have e3 : x % 256 % 256 = x % 256 := Int.emod_emod_of_dvd _ (Int.dvd_refl _)
      have e4 : IntKind.u64.wrap (x / 256) = x / 256 := u64wr y0 y1
      have e5 : wrap64 ((i : Int) + 1) = ((i + 1 : Nat) : Int) := by unfold wrap64; omega
      have h := ih (i + 1) (x / 256) (acc ++ [x % 256]) hi2 y0 y1 ha2
      have e6 : acc ++ leB (d + 1) x = (acc ++ [x % 256]) ++ leB d (x / 256) := by rw [leB_succ, List.append_assoc, List.singleton_append]
      rw [e6]
      refine Ev.step (f := fun k => spec_little.l0 k (x / 256) (acc ++ [x % 256]) (m : Int) ((i + 1 : Nat) : Int)) (fun k => ?_) h
      rw [spec_little.l0, if_pos c1, if_pos c2, e1, e2, e3, e4, e5]
  have h := key m 0 n [] (by omega) h0 h1 (by simp)
  rw [List.nil_append] at h
  exact Ev.congr (fun k => by unfold spec_little.f; rfl) h
end Go.Proofs.Ytdheoajaaofmbaa.QFnScriptPlaces
