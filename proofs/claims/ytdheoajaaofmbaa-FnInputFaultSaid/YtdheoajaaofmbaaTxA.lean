/- FnScriptPlaces: the plain law. -/
import Derived.Test.YtdheoajaaofmbaaTx9
namespace Go.Proofs.Ytdheoajaaofmbaa.QFnScriptPlaces
open Go.RowKit Go.Proofs.YtdheoajaaofmbaaW.PrintWords Go.Proofs.YtdheoajaaofmbaaW.PrintLast Go.Proofs.YtdheoajaaofmbaaW.PrintMore
set_option linter.unusedVariables false
set_option linter.unusedSimpArgs false
def tailB (b : Bool) (ins : List S35) (lock : Int) : List Int := (if b = true then bWit ins else []) ++ leB 4 lock
def txB (b : Bool) (v lock : Int) (ins : List S35) (outs : List S41) : List Int :=
  (leB 4 (v % 4294967296) ++ (if b = true then [0, 1] else [])) ++ (varI (ins.length : Int) ++ (bIn ins ++ (varI (outs.length : Int) ++ (bOut outs ++ tailB b ins lock))))
theorem sW_le {l : List S35} {i : Nat} (h : i < l.length) : sW (l[i]).f2 ≤ sI l := by
  induction l generalizing i with
  | nil => cases h
  | cons x xs ih =>
    cases i with
    | zero => simp only [List.getElem_cons_zero, sI]; omega
    | succ i => have := ih (i := i) (by simpa using h); simp only [List.getElem_cons_succ, sI]; omega
theorem witB_le (l : List (List Int)) : (witB l).length ≤ 9 + sW l := by
  unfold witB
  rw [List.length_append]
  have h1 := varI_le (l.length : Int)
  have h2 := witE_le l
  omega
theorem ev_lock (lock : Int) (h : 0 ≤ lock ∧ lock < 4294967296) : Ev (fun k => spec_little.f k (IntKind.u64.wrap lock) 4) (leB 4 lock) := by
  have h1 := ev_little lock 4 (by omega) (by omega) (by decide)
  exact Ev.congr (fun k => by rw [show IntKind.u64.wrap lock = lock by rw [u64m]; omega]; rfl) h1
theorem ev_txB2 (b : Bool) (v lock : Int) (ins : List S35) (outs : List S41) (hr : RawT ins lock) (hz : sI ins + sO outs ≤ 100000) (acc : List Int) (ha : acc.length ≤ 1000000) :
    Ev (fun k => spec_TxBytes.l2 k b acc 0 v ins outs lock) (acc ++ tailB b ins lock) := by
  have hf := fit_of_size hz
  have hn1 := hf.n1
  have hlk := ev_lock lock hr.l
  cases b
  · refine Ev.step (f := fun k => (spec_little.f k (IntKind.u64.wrap lock) 4).bind fun t => if acc.length + t.length < 140737488355328 then some (acc ++ t) else none) (fun k => ?_) (Ev.bind hlk ?_)
    · rw [spec_TxBytes.l2, if_neg (by decide)]
    · refine Ev.congr (fun k => by rw [if_pos (by rw [leB_len]; omega)]) ?_
      unfold tailB
      rw [if_neg (by decide), List.nil_append]
      exact Ev.now _
  · have key : ∀ d (i : Nat) (acc : List Int), i + d = ins.length → acc.length + sI (ins.drop i) ≤ 2000000 → Ev (fun k => spec_TxBytes.l2 k true acc (i : Int) v ins outs lock) (acc ++ (bWit (ins.drop i) ++ leB 4 lock)) := by
      intro d
      induction d with
      | zero =>
        intro i acc hi hb
        rw [List.drop_eq_nil_of_le (by omega)] at hb ⊢
        simp only [bWit, List.nil_append, sI] at hb ⊢
        refine Ev.step (f := fun k => (spec_little.f k (IntKind.u64.wrap lock) 4).bind fun t => if acc.length + t.length < 140737488355328 then some (acc ++ t) else none) (fun k => ?_) (Ev.bind hlk ?_)
        · rw [spec_TxBytes.l2, if_pos rfl, if_neg (by omega)]
        · refine Ev.congr (fun k => by rw [if_pos (by rw [leB_len]; omega)]) (Ev.now _)
      | succ d ih =>
        intro i acc hi hb
        have hil : i < ins.length := by omega
        rw [List.drop_eq_getElem_cons hil] at hb ⊢
        simp only [bWit, sI] at hb ⊢
        have hsw : sW (ins[i]).f2 ≤ sI ins := sW_le hil
        have hrd : (rd_T35 ins (i : Int)).f2 = (ins[i]).f2 := by rw [rd_in35 ins i hil]
        obtain ⟨fw, hfw⟩ : ∃ l, (ins[i]).f2 = l := ⟨_, rfl⟩
        rw [hfw] at hsw hrd hb ⊢
        have hw : Ev (fun k => spec_witnessBytes.f k fw) (witB fw) := ev_witB fw (by omega)
        have hl := witB_le fw
        have h2 := ih (i + 1) (acc ++ witB fw) (by omega) (by rw [List.length_append]; omega)
        rw [List.append_assoc] at h2
        rw [List.append_assoc (witB fw)]
        refine Ev.step (f := fun k => (spec_witnessBytes.f k fw).bind fun t => if acc.length + t.length < 140737488355328 then spec_TxBytes.l2 k true (acc ++ t) ((i + 1 : Nat) : Int) v ins outs lock else none) (fun k => ?_) (Ev.bind hw ?_)
        · rw [spec_TxBytes.l2, if_pos rfl, if_pos (by omega), if_pos (by omega), hrd, ln64 _ (by omega) (by omega)]; rfl
        · exact Ev.congr (fun k => by rw [if_pos (by omega)]) h2
    have h := key ins.length 0 acc (by omega) (by rw [List.drop_zero]; omega)
    rw [List.drop_zero] at h
    unfold tailB
    rw [if_pos rfl]
    exact h
theorem ev_txB1 (b : Bool) (v lock : Int) (ins : List S35) (outs : List S41) (hr : RawT ins lock) (hz : sI ins + sO outs ≤ 100000) :
    ∀ d (i : Nat) (acc : List Int), i + d = outs.length → acc.length + sO (outs.drop i) ≤ 900000 → Ev (fun k => spec_TxBytes.l1 k b acc (i : Int) v ins outs lock) (acc ++ (bOut (outs.drop i) ++ tailB b ins lock)) := by
  have hf := fit_of_size hz
  have hn2 := hf.n2
  intro d
  induction d with
  | zero =>
    intro i acc hi hb
    rw [List.drop_eq_nil_of_le (by omega)] at hb ⊢
    simp only [bOut, List.nil_append, sO] at hb ⊢
    refine Ev.step (fun k => ?_) (ev_txB2 b v lock ins outs hr hz acc (by omega))
    rw [spec_TxBytes.l1, if_neg (by omega)]
  | succ d ih =>
    intro i acc hi hb
    have hil : i < outs.length := by omega
    rw [List.drop_eq_getElem_cons hil] at hb ⊢
    simp only [bOut, sO] at hb ⊢
    have hw : Ev (fun k => spec_outBytes.f k (outs[i]).f0 (outs[i]).f1) (outB outs[i]) := ev_outB (outs[i]).f0 (outs[i]).f1 (hf.o1 _ (List.getElem_mem hil))
    have hl := outB_len outs[i]
    have hv := varL_range ((outs[i]).f1.length : Int)
    have h2 := ih (i + 1) (acc ++ outB outs[i]) (by omega) (by rw [List.length_append]; omega)
    rw [List.append_assoc] at h2
    rw [List.append_assoc (outB outs[i])]
    refine Ev.step (f := fun k => (spec_outBytes.f k (outs[i]).f0 (outs[i]).f1).bind fun t => if acc.length + t.length < 140737488355328 then spec_TxBytes.l1 k b (acc ++ t) ((i + 1 : Nat) : Int) v ins outs lock else none) (fun k => ?_) (Ev.bind hw ?_)
    · rw [spec_TxBytes.l1, if_pos (by omega), if_pos (by omega), rd_out i hil, ln64 _ (by omega) (by omega)]; rfl
    · exact Ev.congr (fun k => by rw [if_pos (by omega)]) h2
theorem ev_txB0 (b : Bool) (v lock : Int) (ins : List S35) (outs : List S41) (hr : RawT ins lock) (hz : sI ins + sO outs ≤ 100000) :
    ∀ d (i : Nat) (acc : List Int), i + d = ins.length → acc.length + sI (ins.drop i) ≤ 700000 → Ev (fun k => spec_TxBytes.l0 k b acc (i : Int) v ins outs lock) (acc ++ (bIn (ins.drop i) ++ (varI (outs.length : Int) ++ (bOut outs ++ tailB b ins lock)))) := by
  have hf := fit_of_size hz
  have hn1 := hf.n1
  have hn2 := hf.n2
  have hok := inOk_of hr hf
  intro d
  induction d with
  | zero =>
    intro i acc hi hb
    rw [List.drop_eq_nil_of_le (by omega)] at hb ⊢
    simp only [bIn, List.nil_append, sI] at hb ⊢
    have hv := varI_le (outs.length : Int)
    have h2 := ev_txB1 b v lock ins outs hr hz outs.length 0 (acc ++ varI (outs.length : Int)) (by omega) (by rw [List.drop_zero, List.length_append]; omega)
    rw [List.drop_zero, List.append_assoc] at h2
    have hvi := ev_varI (outs.length : Int) (by omega) (by omega)
    refine Ev.step (f := fun k => (spec_VarInt.f k (outs.length : Int)).bind fun t => if acc.length + t.length < 140737488355328 then spec_TxBytes.l1 k b (acc ++ t) 0 v ins outs lock else none) (fun k => ?_) (Ev.bind hvi ?_)
    · rw [spec_TxBytes.l0, if_neg (by omega), u64n _ (by omega)]
    · exact Ev.congr (fun k => by rw [if_pos (by omega)]; rfl) h2
  | succ d ih =>
    intro i acc hi hb
    have hil : i < ins.length := by omega
    have hoi := hok _ (List.getElem_mem hil)
    rw [List.drop_eq_getElem_cons hil] at hb ⊢
    simp only [bIn, sI] at hb ⊢
    have hl := inB_len hoi
    have hv := varL_range ((ins[i]).f1.length : Int)
    have h2 := ih (i + 1) (acc ++ inB ins[i]) (by omega) (by rw [List.length_append]; omega)
    rw [List.append_assoc] at h2
    rw [List.append_assoc (inB ins[i])]
    refine Ev.step (fun k => ?_) h2
    rw [spec_TxBytes.l0, if_pos (by omega), if_pos (by omega), ev_in i hil hoi, Option.bind_some, if_pos (by omega), ln64 _ (by omega) (by omega)]; rfl
theorem ev_txBj (b0 : Bool) (v lock : Int) (ins : List S35) (outs : List S41) (hr : RawT ins lock) (hz : sI ins + sO outs ≤ 100000) : Ev (fun k => spec_TxBytes.j0 k b0 v ins outs lock) (txB b0 v lock ins outs) := by
  have hf := fit_of_size hz
  have hn1 := hf.n1
  have hvi := ev_varI (ins.length : Int) (by omega) (by omega)
  have hvl := varI_le (ins.length : Int)
  have j1 : ∀ (b : Bool) (acc : List Int), acc.length ≤ 100 → Ev (fun k => spec_TxBytes.j1 k b acc v ins outs lock) (acc ++ (varI (ins.length : Int) ++ (bIn ins ++ (varI (outs.length : Int) ++ (bOut outs ++ tailB b ins lock))))) := by
    intro b acc ha
    have h2 := ev_txB0 b v lock ins outs hr hz ins.length 0 (acc ++ varI (ins.length : Int)) (by omega) (by rw [List.drop_zero, List.length_append]; omega)
    rw [List.drop_zero, List.append_assoc] at h2
    refine Ev.step (f := fun k => (spec_VarInt.f k (ins.length : Int)).bind fun t => if acc.length + t.length < 140737488355328 then spec_TxBytes.l0 k b (acc ++ t) 0 v ins outs lock else none) (fun k => ?_) (Ev.bind hvi ?_)
    · rw [spec_TxBytes.j1, u64n _ (by omega)]
    · exact Ev.congr (fun k => by rw [if_pos (by omega)]; rfl) h2
  have hl4 : Ev (fun k => spec_little.f k (v % 4294967296) 4) (leB 4 (v % 4294967296)) := ev_little (v % 4294967296) 4 (by omega) (by omega) (by decide)
  have hll := leB_len 4 (v % 4294967296)
  unfold txB
  cases b0
  · rw [if_neg (by decide), List.append_nil]
    refine Ev.step (f := fun k => (spec_little.f k (v % 4294967296) 4).bind fun t => spec_TxBytes.j1 k false t v ins outs lock) (fun k => ?_) (Ev.bind hl4 (j1 false _ (by omega)))
    rw [spec_TxBytes.j0]
    simp only [if_neg (show ¬ (false = true) by decide)]
  · rw [if_pos rfl]
    refine Ev.step (f := fun k => (spec_little.f k (v % 4294967296) 4).bind fun t => if t.length + 2 < 140737488355328 then spec_TxBytes.j1 k true (t ++ [0, 1]) v ins outs lock else none) (fun k => ?_) (Ev.bind hl4 ?_)
    · rw [spec_TxBytes.j0]
      simp only [if_pos, Option.bind_some, List.length_cons, List.length_nil]
    · exact Ev.congr (fun k => by rw [if_pos (by omega)]) (j1 true _ (by rw [List.length_append]; simp; omega))
theorem ev_txB (v lock : Int) (ins : List S35) (outs : List S41) (hr : RawT ins lock) (hz : sI ins + sO outs ≤ 100000) : Ev (fun k => spec_TxBytes.f k v ins outs lock true) (txB (hasW ins) v lock ins outs) :=
  Ev.congr (f := fun k => (spec_HasWitness.f k v ins outs lock).bind fun t => spec_TxBytes.j0 k t v ins outs lock) (fun k => by unfold spec_TxBytes.f; rw [if_pos rfl]) (Ev.bind (ev_has v lock ins outs (fit_of_size hz).n1) (ev_txBj (hasW ins) v lock ins outs hr hz))
theorem ev_txBf (v lock : Int) (ins : List S35) (outs : List S41) (hr : RawT ins lock) (hz : sI ins + sO outs ≤ 100000) : Ev (fun k => spec_TxBytes.f k v ins outs lock false) (txB false v lock ins outs) :=
  Ev.congr (fun k => by unfold spec_TxBytes.f; rw [if_neg (by decide)]) (ev_txBj false v lock ins outs hr hz)
theorem ev_same (l : List Int) (hl : l.length ≤ 1000000) : Ev (fun k => laws_same.f k l l) true := by
  have key : ∀ d (i : Nat), i + d = l.length → Ev (fun k => laws_same.l0 k l l i) true := by
    intro d
    induction d with
    | zero =>
      intro i hi
      refine Ev.step (f := fun _ => some true) (fun k => ?_) (Ev.now _)
      rw [laws_same.l0, if_neg (by omega)]
    | succ d ih =>
      intro i hi
      refine Ev.step (fun k => ?_) (ih (i + 1) (by omega))
      rw [laws_same.l0, if_pos (by omega), if_pos (by omega), if_pos (by omega), if_pos rfl, ln64 _ (by omega) (by omega)]
      rfl
  refine Ev.congr (fun k => ?_) (key l.length 0 (by omega))
  unfold laws_same.f
  rw [if_pos rfl]; rfl
theorem ev_sameInts (l : List Int) (hl : l.length ≤ 1000000) : Ev (fun k => laws_sameInts.f k l l) true := by
  have key : ∀ d (i : Nat), i + d = l.length → Ev (fun k => laws_sameInts.l0 k l l i) true := by
    intro d
    induction d with
    | zero =>
      intro i hi
      refine Ev.step (f := fun _ => some true) (fun k => ?_) (Ev.now _)
      rw [laws_sameInts.l0, if_neg (by omega)]
    | succ d ih =>
      intro i hi
      refine Ev.step (fun k => ?_) (ih (i + 1) (by omega))
      rw [laws_sameInts.l0, if_pos (by omega), if_pos (by omega), if_pos (by omega), if_pos rfl, ln64 _ (by omega) (by omega)]
      rfl
  refine Ev.congr (fun k => ?_) (key l.length 0 (by omega))
  unfold laws_sameInts.f
  rw [if_pos rfl]; rfl
end Go.Proofs.Ytdheoajaaofmbaa.QFnScriptPlaces
