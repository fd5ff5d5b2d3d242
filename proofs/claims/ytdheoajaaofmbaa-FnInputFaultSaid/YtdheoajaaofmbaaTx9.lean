/- A transaction's bytes, and where its scripts stand in them, in plain Lean. -/
import Derived.Test.YtdheoajaaofmbaaTxP
import Derived.Test.YtdheoajaaofmbaaTx8
namespace Go.Proofs.Ytdheoajaaofmbaa.QFnScriptPlaces
open Go.RowKit Go.Proofs.YtdheoajaaofmbaaW.PrintWords Go.Proofs.YtdheoajaaofmbaaW.PrintLast Go.Proofs.YtdheoajaaofmbaaW.PrintMore
set_option linter.unusedVariables false
set_option linter.unusedSimpArgs false
set_option maxRecDepth 2000
theorem u64m (x : Int) : IntKind.u64.wrap x = x % 18446744073709551616 := rfl
theorem u64n (n : Nat) (h : n ≤ 1000000000) : IntKind.u64.wrap (n : Int) = (n : Int) := by rw [u64m]; omega
def outB (y : S41) : List Int := leB 8 (y.f0 % 18446744073709551616) ++ varB y.f1
def bIn : List S35 → List Int
  | [] => []
  | x :: xs => inB x ++ bIn xs
def bOut : List S41 → List Int
  | [] => []
  | y :: ys => outB y ++ bOut ys
def witE : List (List Int) → List Int
  | [] => []
  | s :: ss => varB s ++ witE ss
def witB (l : List (List Int)) : List Int := varI (l.length : Int) ++ witE l
def bWit : List S35 → List Int
  | [] => []
  | x :: xs => witB x.f2 ++ bWit xs
theorem varI_le (n : Int) : (varI n).length ≤ 9 := by have := varI_len n; have := varL_range n; omega
theorem witE_le (l : List (List Int)) : (witE l).length ≤ sW l := by
  induction l with
  | nil => exact Nat.le_refl _
  | cons a l2 ih => simp only [witE, sW, List.length_append]; have := varB_le a; omega
theorem bIn_le (l : List S35) (h : ∀ x ∈ l, InOk x) : (bIn l).length ≤ sI l := by
  induction l with
  | nil => exact Nat.le_refl _
  | cons a l2 ih =>
    have h1 := ih (fun x hx => h x (List.mem_cons_of_mem _ hx))
    have h2 := inB_len (h a List.mem_cons_self)
    have h3 := varL_range (a.f1.length : Int)
    simp only [bIn, sI, List.length_append]; omega
theorem bWit_le (l : List S35) : (bWit l).length ≤ sI l := by
  induction l with
  | nil => exact Nat.le_refl _
  | cons a l2 ih =>
    have h1 := witE_le a.f2
    have h2 := varI_le (a.f2.length : Int)
    simp only [bWit, witB, sI, List.length_append]; omega
theorem outB_len (y : S41) : ((outB y).length : Int) = 8 + varL (y.f1.length : Int) + y.f1.length := by
  unfold outB
  rw [List.length_append, leB_len, Int.natCast_add, varB_len]; omega
theorem bOut_le (l : List S41) : (bOut l).length ≤ sO l := by
  induction l with
  | nil => exact Nat.le_refl _
  | cons a l2 ih =>
    have h2 := outB_len a
    have h3 := varL_range (a.f1.length : Int)
    simp only [bOut, sO, List.length_append]; omega
theorem bIn_sum (l : List S35) (h : ∀ x ∈ l, InOk x) : ((bIn l).length : Int) = sumI l := by
  induction l with
  | nil => rfl
  | cons a l2 ih =>
    have h1 := ih (fun x hx => h x (List.mem_cons_of_mem _ hx))
    have h2 := inB_len (h a List.mem_cons_self)
    simp only [bIn, sumI, inS, List.length_append]; omega
theorem bOut_end (n : Int) (l : List S41) : endAt n l = n + (bOut l).length := by
  induction l generalizing n with
  | nil => simp [endAt, bOut]
  | cons a l2 ih =>
    have h2 := outB_len a
    simp only [endAt, bOut, List.length_append, ih]; omega
theorem bOut_append (a b : List S41) : bOut (a ++ b) = bOut a ++ bOut b := by
  induction a with
  | nil => rfl
  | cons x xs ih => simp only [List.cons_append, bOut, ih, List.append_assoc]
theorem placesFrom_append (n : Int) (a b : List S41) : placesFrom n (a ++ b) = placesFrom n a ++ placesFrom (endAt n a) b := by
  induction a generalizing n with
  | nil => rfl
  | cons x xs ih => simp only [List.cons_append, placesFrom, endAt, ih]
def hasW (ins : List S35) : Bool := ins.any (fun x => decide (0 < x.f2.length))
theorem ev_has (v lock : Int) (ins : List S35) (outs : List S41) (hl : ins.length ≤ 1000000) : Ev (fun k => spec_HasWitness.f k v ins outs lock) (hasW ins) := by
  have key : ∀ d (i : Nat), i + d = ins.length → Ev (fun k => spec_HasWitness.l0 k (i : Int) v ins outs lock) (hasW (ins.drop i)) := by
    intro d
    induction d with
    | zero =>
      intro i hi
      rw [List.drop_eq_nil_of_le (by omega)]
      refine Ev.step (f := fun _ => some false) (fun k => ?_) (Ev.now _)
      rw [spec_HasWitness.l0, if_neg (by omega)]
    | succ d ih =>
      intro i hi
      have hil : i < ins.length := by omega
      rw [List.drop_eq_getElem_cons hil]
      unfold hasW
      rw [List.any_cons]
      by_cases h1 : 0 < (ins[i]).f2.length
      · rw [decide_eq_true h1, Bool.true_or]
        refine Ev.step (f := fun _ => some true) (fun k => ?_) (Ev.now _)
        rw [spec_HasWitness.l0, if_pos (by omega), if_pos (by omega), rd_in35 ins i hil, if_pos (by omega)]
      · rw [decide_eq_false h1, Bool.false_or]
        refine Ev.step (fun k => ?_) (ih (i + 1) (by omega))
        rw [spec_HasWitness.l0, if_pos (by omega), if_pos (by omega), rd_in35 ins i hil, if_neg (by omega), ln64 _ (by omega) (by omega)]
        rfl
  have h := key ins.length 0 (by omega)
  rw [List.drop_zero] at h
  exact Ev.congr (fun k => by unfold spec_HasWitness.f; rfl) h
theorem ev_outB (a : Int) (s : List Int) (hs : s.length ≤ 1000000) : Ev (fun k => spec_outBytes.f k a s) (leB 8 (a % 18446744073709551616) ++ varB s) := by
  have h1 := ev_little (a % 18446744073709551616) 8 (by omega) (by omega) (by decide)
  refine Ev.congr (f := fun k => (spec_little.f k (a % 18446744073709551616) ((8 : Nat) : Int)).bind fun t => (spec_VarBytes.f k s).bind fun u => if t.length + u.length < 140737488355328 then some (t ++ u) else none) (fun k => by unfold spec_outBytes.f; rw [u64m]; rfl) (Ev.bind h1 (Ev.bind (ev_varB s (by omega)) ?_))
  rw [if_pos (by rw [leB_len]; have := varB_le s; omega)]
  exact Ev.now _
theorem ev_witB (l : List (List Int)) (hl : sW l ≤ 1000000) : Ev (fun k => spec_witnessBytes.f k l) (witB l) := by
  have hf := sW_fit hl
  have hv := varI_le (l.length : Int)
  have key : ∀ d (i : Nat) (acc : List Int), i + d = l.length → acc.length + (sW (l.drop i)) ≤ 2000000 → Ev (fun k => spec_witnessBytes.l0 k l acc (i : Int)) (acc ++ witE (l.drop i)) := by
    intro d
    induction d with
    | zero =>
      intro i acc hi _
      rw [List.drop_eq_nil_of_le (by omega)]
      refine Ev.step (f := fun _ => some acc) (fun k => ?_) ?_
      · rw [spec_witnessBytes.l0, if_neg (by omega)]
      · simp only [witE, List.append_nil]; exact Ev.now _
    | succ d ih =>
      intro i acc hi hb
      have hil : i < l.length := by omega
      rw [List.drop_eq_getElem_cons hil] at hb ⊢
      simp only [witE, sW] at hb ⊢
      have hvb := varB_le l[i]
      have h2 := ih (i + 1) (acc ++ varB l[i]) (by omega) (by rw [List.length_append]; omega)
      rw [List.append_assoc] at h2
      have hvv : Ev (fun k => spec_VarBytes.f k l[i]) (varB l[i]) := ev_varB l[i] (by have := hf.2 _ (List.getElem_mem hil); omega)
      refine Ev.step (f := fun k => (spec_VarBytes.f k l[i]).bind fun t => if acc.length + t.length < 140737488355328 then spec_witnessBytes.l0 k l (acc ++ t) ((i + 1 : Nat) : Int) else none) (fun k => ?_) (Ev.bind hvv ?_)
      · rw [spec_witnessBytes.l0, if_pos (by omega), if_pos (by omega), rd_L1n l i hil, ln64 _ (by omega) (by omega)]; rfl
      · exact Ev.congr (fun k => by rw [if_pos (by omega)]) h2
  have h := key l.length 0 (varI (l.length : Int)) (by omega) (by rw [List.drop_zero]; omega)
  rw [List.drop_zero] at h
  refine Ev.congr (f := fun k => (spec_VarInt.f k (l.length : Int)).bind fun t => spec_witnessBytes.l0 k l t 0) (fun k => by unfold spec_witnessBytes.f; rw [u64n _ (by omega)]) (Ev.bind (ev_varI _ (by omega) (by omega)) h)
theorem ev_varLen (n : Nat) (h : n ≤ 1000000) : Ev (fun k => spec_VarIntLen.f k (IntKind.u64.wrap (n : Int))) (varL (n : Int)) := by
  rw [u64n n (by omega)]
  refine Ev.congr (f := fun k => (spec_VarInt.f k (n : Int)).bind fun t => some (t.length : Int)) (fun k => by unfold spec_VarIntLen.f; rfl) (Ev.bind (ev_varI _ (by omega) (by omega)) ?_)
  rw [varI_len]; exact Ev.now _
/-- What came in. -/
structure RawT (ins : List S35) (lock : Int) : Prop where
  i : ∀ x ∈ ins, x.f0.f0.length = 32 ∧ (0 ≤ x.f0.f1 ∧ x.f0.f1 < 4294967296) ∧ (0 ≤ x.f3 ∧ x.f3 < 4294967296)
  l : 0 ≤ lock ∧ lock < 4294967296
theorem inOk_of {ins : List S35} {outs : List S41} {lock : Int} (hr : RawT ins lock) (hf : TxFit ins outs) : ∀ x ∈ ins, InOk x := fun x hx =>
  ⟨by have := (hf.i1 x hx).1; omega, (hr.i x hx).2.1, (hr.i x hx).2.2, (hr.i x hx).1⟩
theorem ev_in {ins : List S35} (i : Nat) (hi : i < ins.length) (h : InOk ins[i]) : spec_inBytes.f ins (i : Int) = some (inB ins[i]) := by
  unfold spec_inBytes.f
  rw [rd_in35 ins i hi, if_pos h]
def placesN (b : Bool) (ins : List S35) (outs : List S41) : Int := 4 + varL (ins.length : Int) + (if b = true then 2 else 0) + sumI ins + varL (outs.length : Int)
end Go.Proofs.Ytdheoajaaofmbaa.QFnScriptPlaces
