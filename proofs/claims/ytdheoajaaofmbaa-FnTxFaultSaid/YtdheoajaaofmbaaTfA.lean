/- impl.TxFault, spec.TxFaults in the print's form; the plain law of FnTxFault. -/
import Derived.Test.YtdheoajaaofmbaaTf9
namespace Go.Proofs.Ytdheoajaaofmbaa.QFnScriptPlaces
open Go.RowKit Go.Proofs.YtdheoajaaofmbaaW.PrintWords Go.Proofs.YtdheoajaaofmbaaW.PrintLast Go.Proofs.YtdheoajaaofmbaaW.PrintMore
set_option linter.unusedVariables false
set_option linter.unusedSimpArgs false
theorem opOk_iff (h : List Int) (n : Int) : (h.length = 32 ∧ (∀ x ∈ h, (Lit.int .u8 x).wf = true) ∧ (Lit.int .u32 n).wf = true) ↔ OpOk h n := ⟨fun k => ⟨k.1, k.2.1, k.2.2⟩, fun k => ⟨k.l, k.b, k.n⟩⟩
instance (h : List Int) (n : Int) : Decidable (OpOk h n) := decidable_of_iff _ (opOk_iff h n)
theorem rawT_iff (ins : List S35) (lock : Int) : ((∀ x ∈ ins, x.f0.f0.length = 32 ∧ (0 ≤ x.f0.f1 ∧ x.f0.f1 < 4294967296) ∧ (0 ≤ x.f3 ∧ x.f3 < 4294967296)) ∧ (0 ≤ lock ∧ lock < 4294967296)) ↔ RawT ins lock := ⟨fun h => ⟨h.1, h.2⟩, fun h => ⟨h.i, h.l⟩⟩
instance (ins : List S35) (lock : Int) : Decidable (RawT ins lock) := decidable_of_iff _ (rawT_iff ins lock)
/-- A transaction as it comes in, of bounded size. -/
def TxGood (ins : List S35) (outs : List S41) (lock : Int) : Prop := RawT ins lock ∧ sI ins + sO outs ≤ 100000 ∧ (∀ x ∈ ins, OpOk x.f0.f0 x.f0.f1) ∧ ∀ y ∈ outs, -9223372036854775808 ≤ y.f0 ∧ y.f0 ≤ 9223372036854775807
instance (ins : List S35) (outs : List S41) (lock : Int) : Decidable (TxGood ins outs lock) := inferInstanceAs (Decidable (_ ∧ _ ∧ _ ∧ _))
def impl_TxFault.f (a0_0 : Int) (l0_1 : List (S35)) (l0_2 : List (S41)) (a0_3 : Int) : Option Int := if TxGood l0_1 l0_2 a0_3 then some (txFaultI l0_1 l0_2) else none
set_option maxRecDepth 100000 in
set_option maxHeartbeats 8000000 in
theorem impl_TxFault.calls (a0_0 : Int) (A0_1 : Option Addr) (c0_1 : Nat) (l0_1 : List (S35)) (A0_2 : Option Addr) (c0_2 : Nat) (l0_2 : List (S41)) (a0_3 : Int) (r : Int) (w : World) (hr0_1 : Kd.C k35 w A0_1 l0_1.length l0_1) (hc0_1 : l0_1.length ≤ c0_1) (hr0_2 : Kd.C k41 w A0_2 l0_2.length l0_2) (hc0_2 : l0_2.length ≤ c0_2) (h : impl_TxFault.f a0_0 l0_1 l0_2 a0_3 = some r) :
    Calls Try.prog 15 #[.agg #[.int .i32 a0_0, .slice A0_1 l0_1.length c0_1, .slice A0_2 l0_2.length c0_2, .int .u32 a0_3]] w fun e w' => e = .returned (.int .i64 r) ∧ Below w.heap.size w w' := by
  unfold impl_TxFault.f at h
  split at h
  case isFalse => cases h
  rename_i hg
  injection h with h
  have HG := Aside0.mk hg
  have HR1 := Aside0.mk hr0_1
  have HR2 := Aside0.mk hr0_2
  have HF := Aside0.mk (fit_of_size hg.2.1)
  have HO1 := Aside0.mk hg.2.2.1
  have HO2 := Aside0.mk hg.2.2.2
  rw [← h]
  clear hr0_1 hr0_2 hg h
  obtain ⟨z, hz⟩ : ∃ z, txFaultI l0_1 l0_2 = z := ⟨_, rfl⟩
  have HZ := Aside0.mk hz
  rw [hz]
  clear hz
  go_enter Try.func15, Try.ntmps15
  go_wp2_with (first
    | (go_at_call 34; (with_reducible refine (utilTxC a0_0 a0_3 A0_1 c0_1 l0_1 A0_2 c0_2 l0_2 _ (Kd.C_below HR1.out (below_alloc (Below.refl _ _) _)) hc0_1 (Kd.C_below HR2.out (below_alloc (Below.refl _ _) _)) hc0_2 HF.out).mono ?_); rintro e w2 ⟨b, g, A1, c1, A2, c2, rfl, hu, hm, hb⟩; have HU := Aside0.mk hu; have HM := Aside0.mk hm; have HB := Aside0.mk ((below_alloc (Below.refl w.heap.size w) _).trans (hb.mono (by simp))); clear hu hm hb)
    | (go_at_call 33; (with_reducible refine (checkC b g a0_0 a0_3 l0_1 l0_2 A1 c1 A2 c2 _ HU.out HM.out HF.out HO1.out HO2.out).mono ?_); rw [HZ.out]; rintro e w3 ⟨v0, rfl, he, hb⟩; have HE := Aside0.mk he; have HB2 := Aside0.mk (HB.out.trans (hb.mono HB.out.size)); clear he hb)
    | (go_at_call 32; (with_reducible refine (faultC z v0 HE.out _).mono ?_); rintro e w4 ⟨rfl, hb⟩; have HB3 := Aside0.mk (HB2.out.trans (hb.mono HB2.out.size)); clear hb))
  go_ret
  exact ⟨rfl, HB3.out⟩
def spec_TxFaults.f (a0_0 : Int) (l0_1 : List (S35)) (l0_2 : List (S41)) (a0_3 : Int) : Option (List Int) := if TxGood l0_1 l0_2 a0_3 then some (faultsF a0_0 a0_3 l0_1 l0_2) else none
theorem spec_TxFaults.calls (a0_0 : Int) (A0_1 : Option Addr) (c0_1 : Nat) (l0_1 : List (S35)) (A0_2 : Option Addr) (c0_2 : Nat) (l0_2 : List (S41)) (a0_3 : Int) (r : List Int) (w : World) (hr0_1 : Kd.C k35 w A0_1 l0_1.length l0_1) (hc0_1 : l0_1.length ≤ c0_1) (hr0_2 : Kd.C k41 w A0_2 l0_2.length l0_2) (hc0_2 : l0_2.length ≤ c0_2) (h : spec_TxFaults.f a0_0 l0_1 l0_2 a0_3 = some r) :
    Calls Try.prog 16 #[.agg #[.int .i32 a0_0, .slice A0_1 l0_1.length c0_1, .slice A0_2 l0_2.length c0_2, .int .u32 a0_3]] w fun e w' => ∃ v0_ : Value, e = .returned (v0_) ∧ Kd.R (Kd.int .i64) 3 w' w.heap.size (fun _ => True) v0_ r ∧ Below w.heap.size w w' := by
  unfold spec_TxFaults.f at h
  split at h
  case isFalse => cases h
  rename_i hg
  injection h with h
  rw [← h]
  exact faultsC a0_0 a0_3 A0_1 c0_1 l0_1 A0_2 c0_2 l0_2 w hr0_1 hc0_1 hr0_2 hc0_2 hg.1 hg.2.1 hg.2.2.1
def amongL (f : Int) (l : List Int) : Bool := if l = [] then f == 0 else decide (f ∈ l)
theorem ev_among (f : Int) (l : List Int) (hl : l.length ≤ 1000) : Ev (fun k => laws_among.f k f l) (amongL f l) := by
  unfold amongL
  by_cases h0 : l = []
  · subst h0
    rw [if_pos rfl]
    exact Ev.congr (fun k => by unfold laws_among.f; exact if_pos rfl) (Ev.now _)
  rw [if_neg h0]
  have key : ∀ d (i : Nat), i + d = l.length → Ev (fun k => laws_among.l0 k f l (i : Int)) (decide (f ∈ l.drop i)) := by
    intro d
    induction d with
    | zero =>
      intro i hi
      rw [List.drop_eq_nil_of_le (by omega)]
      refine Ev.step (f := fun _ => some false) (fun k => ?_) (Ev.now _)
      rw [laws_among.l0, if_neg (by omega)]
    | succ d ih =>
      intro i hi
      have hil : i < l.length := by omega
      rw [List.drop_eq_getElem_cons hil]
      have hrd : rd l (i : Int) = l[i] := by
        show l.getD (i : Int).toNat _ = _
        rw [Int.toNat_natCast, List.getD_eq_getElem?_getD, List.getElem?_eq_getElem hil]; rfl
      by_cases c : f = l[i]
      · rw [decide_eq_true (by rw [c]; exact List.mem_cons_self)]
        refine Ev.step (f := fun _ => some true) (fun k => ?_) (Ev.now _)
        rw [laws_among.l0, if_pos (by omega), if_pos (by omega), hrd, if_pos c]
      · have e : decide (f ∈ l[i] :: l.drop (i + 1)) = decide (f ∈ l.drop (i + 1)) := by simp only [List.mem_cons, c, false_or]
        rw [e]
        refine Ev.step (fun k => ?_) (ih (i + 1) (by omega))
        rw [laws_among.l0, if_pos (by omega), if_pos (by omega), hrd, if_neg c, ln64 _ (by omega) (by omega)]
        rfl
  have h := key l.length 0 (by omega)
  rw [List.drop_zero] at h
  have h0' : ¬ (l.length : Int) = 0 := by have := List.length_pos_iff.2 h0; omega
  exact Ev.congr (fun k => by unfold laws_among.f; rw [if_neg h0']; rfl) h
theorem sumI_le (l : List S35) : sumI l ≤ (sI l : Nat) := by
  induction l with
  | nil => exact Int.le_refl 0
  | cons x xs ih => have := (varL_range (x.f1.length : Int)).2; simp only [sumI, inS, sI]; omega
theorem sumO_le (l : List S41) : sumO l ≤ (sO l : Nat) := by
  induction l with
  | nil => exact Int.le_refl 0
  | cons x xs ih => have := (varL_range (x.f1.length : Int)).2; simp only [sumO, outS, sO]; omega
theorem mem_addL {x n : Int} {b : Bool} {l : List Int} : x ∈ addL b n l ↔ (b = true ∧ x = n) ∨ x ∈ l := by
  unfold addL
  cases b <;> simp [or_comm]
theorem nil_addL {n : Int} {b : Bool} {l : List Int} : addL b n l = [] ↔ b = false ∧ l = [] := by
  unfold addL
  cases b <;> simp
theorem faults_len (v lock : Int) (ins : List S35) (outs : List S41) : (faultsF v lock ins outs).length ≤ 1000 := by
  have h5 : (base5 v lock ins outs).length ≤ 5 := by
    unfold base5
    have a1 := addL_len ((ins.length : Int) == 0) 15 []
    have a2 := addL_len ((outs.length : Int) == 0) 16 (addL ((ins.length : Int) == 0) 15 [])
    have a3 := addL_len (decide (1000000 < ((txB false v lock ins outs).length : Int))) 17 (addL ((outs.length : Int) == 0) 16 (addL ((ins.length : Int) == 0) 15 []))
    have a4 := addL_len (badV 0 outs) 18 (addL (decide (1000000 < ((txB false v lock ins outs).length : Int))) 17 (addL ((outs.length : Int) == 0) 16 (addL ((ins.length : Int) == 0) 15 [])))
    have a5 := addL_len (sameP ins) 19 (addL (badV 0 outs) 18 (addL (decide (1000000 < ((txB false v lock ins outs).length : Int))) 17 (addL ((outs.length : Int) == 0) 16 (addL ((ins.length : Int) == 0) 15 []))))
    simp only [List.length_nil] at a1
    omega
  unfold faultsF
  split
  · have := addL_len (decide (((scr0 ins).length : Int) < 2) || decide (100 < ((scr0 ins).length : Int))) 31 (base5 v lock ins outs); omega
  · have := addL_len (anyNo ins) 20 (base5 v lock ins outs); omega
theorem fault_among (v lock : Int) (ins : List S35) (outs : List S41) (hz : sI ins + sO outs ≤ 100000) (ht : ((txB false v lock ins outs).length : Int) ≤ 1000000) : amongL (txFaultI ins outs) (faultsF v lock ins outs) = true := by
  have hb : baseI ins outs ≤ 1000000 := by
    have := (varL_range (ins.length : Int)).2
    have := (varL_range (outs.length : Int)).2
    have := sumI_le ins
    have := sumO_le outs
    unfold baseI
    omega
  have m5 : ∀ x : Int, x ∈ base5 v lock ins outs ↔ (sameP ins = true ∧ x = 19) ∨ (badV 0 outs = true ∧ x = 18) ∨ (outs.length = 0 ∧ x = 16) ∨ (ins.length = 0 ∧ x = 15) := fun x => by
    unfold base5
    rw [mem_addL, mem_addL, mem_addL, mem_addL, mem_addL, decide_eq_false (show ¬ 1000000 < ((txB false v lock ins outs).length : Int) by omega)]
    simp
  have n5 : base5 v lock ins outs = [] ↔ sameP ins = false ∧ badV 0 outs = false ∧ outs.length ≠ 0 ∧ ins.length ≠ 0 := by
    unfold base5
    rw [nil_addL, nil_addL, nil_addL, nil_addL, nil_addL, decide_eq_false (show ¬ 1000000 < ((txB false v lock ins outs).length : Int) by omega)]
    simp
  unfold amongL faultsF txFaultI
  obtain ⟨bs, hbs⟩ : ∃ b, (decide (((scr0 ins).length : Int) < 2) || decide (100 < ((scr0 ins).length : Int))) = b := ⟨_, rfl⟩
  rw [hbs]
  have hmem : ∀ x, x ∈ base5 v lock ins outs → ∀ (b c : Bool) (n m : Int), (if (if isCoin ins = true then addL b n (base5 v lock ins outs) else addL c m (base5 v lock ins outs)) = [] then (x == 0) else decide (x ∈ (if isCoin ins = true then addL b n (base5 v lock ins outs) else addL c m (base5 v lock ins outs)))) = true := fun x hx b c n m => by
    have h2 : x ∈ (if isCoin ins = true then addL b n (base5 v lock ins outs) else addL c m (base5 v lock ins outs)) := by
      split <;> exact mem_addL.2 (Or.inr hx)
    rw [if_neg (fun e => by rw [e] at h2; exact List.not_mem_nil h2), decide_eq_true h2]
  by_cases h1 : ins.length = 0
  · rw [if_pos h1]; exact hmem 15 ((m5 15).2 (Or.inr (Or.inr (Or.inr ⟨h1, rfl⟩)))) _ _ _ _
  rw [if_neg h1]
  by_cases h2 : outs.length = 0
  · rw [if_pos h2]; exact hmem 16 ((m5 16).2 (Or.inr (Or.inr (Or.inl ⟨h2, rfl⟩)))) _ _ _ _
  rw [if_neg h2, if_neg (show ¬ 1000000 < baseI ins outs by omega)]
  by_cases h3 : badV 0 outs = true
  · rw [if_pos h3]; exact hmem 18 ((m5 18).2 (Or.inr (Or.inl ⟨h3, rfl⟩))) _ _ _ _
  rw [if_neg h3]
  by_cases h4 : sameP ins = true
  · rw [if_pos h4]; exact hmem 19 ((m5 19).2 (Or.inl ⟨h4, rfl⟩)) _ _ _ _
  rw [if_neg h4]
  have hn : base5 v lock ins outs = [] := n5.2 ⟨by simpa using h4, by simpa using h3, h2, h1⟩
  rw [hn]
  cases isCoin ins <;> cases bs <;> cases anyNo ins <;> rfl
theorem txB_short (v lock : Int) (ins : List S35) (outs : List S41) (hr : RawT ins lock) (hz : sI ins + sO outs ≤ 100000) : ((txB false v lock ins outs).length : Int) ≤ 1000000 := by
  have h1 := bOut_le outs
  have h2 := bIn_le ins (inOk_of hr (fit_of_size hz))
  have h3 := varL_range (ins.length : Int)
  have h4 := varL_range (outs.length : Int)
  have h5 := varI_len (ins.length : Int)
  have h6 := varI_len (outs.length : Int)
  have h7 : (tailB false ins lock).length = 4 := by unfold tailB; simp [leB_len]
  unfold txB
  simp only [List.length_append, leB_len]
  simp only [Bool.false_eq_true, if_false, List.length_nil]
  omega
end Go.Proofs.Ytdheoajaaofmbaa.QFnScriptPlaces
