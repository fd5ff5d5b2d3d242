/- Transactions' sizes, in plain Lean. -/
import Derived.Test.YtdheoajaaofmbaaTxP
import Derived.Test.YtdheoajaaofmbaaTx7
namespace Go.Proofs.Ytdheoajaaofmbaa.QFnScriptPlaces
open Go.RowKit Go.Proofs.YtdheoajaaofmbaaW.PrintWords Go.Proofs.YtdheoajaaofmbaaW.PrintLast Go.Proofs.YtdheoajaaofmbaaW.PrintMore
set_option linter.unusedVariables false
set_option linter.unusedSimpArgs false
def sW : List (List Int) → Nat
  | [] => 0
  | s :: ss => 9 + s.length + sW ss
def sI : List S35 → Nat
  | [] => 0
  | x :: xs => 50 + x.f1.length + sW x.f2 + sI xs
def sO : List S41 → Nat
  | [] => 0
  | y :: ys => 17 + y.f1.length + sO ys
theorem sW_fit {l : List (List Int)} {n : Nat} (h : sW l ≤ n) : l.length ≤ n ∧ ∀ s ∈ l, s.length ≤ n := by
  induction l generalizing n with
  | nil => exact ⟨Nat.zero_le _, fun s hs => absurd hs List.not_mem_nil⟩
  | cons a l2 ih =>
    simp only [sW] at h
    have h1 := ih (n := n - 9) (by omega)
    refine ⟨by simp only [List.length_cons]; omega, fun s hs => ?_⟩
    rcases List.mem_cons.1 hs with rfl | hs
    · omega
    · have := h1.2 s hs; omega
theorem sI_fit {l : List S35} {n : Nat} (h : sI l ≤ n) : l.length ≤ n ∧ ∀ x ∈ l, x.f1.length ≤ n ∧ x.f2.length ≤ n ∧ ∀ s ∈ x.f2, s.length ≤ n := by
  induction l generalizing n with
  | nil => exact ⟨Nat.zero_le _, fun s hs => absurd hs List.not_mem_nil⟩
  | cons a l2 ih =>
    simp only [sI] at h
    have h1 := ih (n := n - 50) (by omega)
    refine ⟨by simp only [List.length_cons]; omega, fun s hs => ?_⟩
    rcases List.mem_cons.1 hs with rfl | hs
    · exact ⟨by omega, sW_fit (by omega)⟩
    · have h2 := h1.2 s hs
      exact ⟨by omega, by omega, fun t ht => by have := h2.2.2 t ht; omega⟩
theorem sO_fit {l : List S41} {n : Nat} (h : sO l ≤ n) : l.length ≤ n ∧ ∀ y ∈ l, y.f1.length ≤ n := by
  induction l generalizing n with
  | nil => exact ⟨Nat.zero_le _, fun s hs => absurd hs List.not_mem_nil⟩
  | cons a l2 ih =>
    simp only [sO] at h
    have h1 := ih (n := n - 17) (by omega)
    refine ⟨by simp only [List.length_cons]; omega, fun s hs => ?_⟩
    rcases List.mem_cons.1 hs with rfl | hs
    · omega
    · have := h1.2 s hs; omega
theorem fit_of_size {ins : List S35} {outs : List S41} (h : sI ins + sO outs ≤ 100000) : TxFit ins outs := by
  have h1 := sI_fit (l := ins) (n := 1000000) (by omega)
  have h2 := sO_fit (l := outs) (n := 1000000) (by omega)
  exact ⟨h1.1, h2.1, h1.2, h2.2⟩
theorem more_val (a b : Int) (h0 : 0 ≤ a) (h1 : a ≤ 100001) (h2 : 0 ≤ b) (h3 : b ≤ 2147483647) : ∃ r, laws_more.f a b = some r ∧ 0 ≤ r ∧ r ≤ 100001 ∧ (r ≤ 100000 → r = a + b ∧ a ≤ 100000) := by
  unfold laws_more.f
  by_cases c1 : a > 100000
  · exact ⟨100001, by rw [if_pos c1], by omega, by omega, fun h => by omega⟩
  rw [if_neg c1]
  by_cases c2 : b > 100000
  · exact ⟨100001, by rw [if_pos c2], by omega, by omega, fun h => by omega⟩
  rw [if_neg c2, ln64 _ (by omega) (by omega)]
  by_cases c3 : a + b > 100000
  · exact ⟨100001, by rw [if_pos c3], by omega, by omega, fun h => by omega⟩
  · exact ⟨a + b, by rw [if_neg c3], by omega, by omega, fun h => ⟨rfl, by omega⟩⟩
/-- What zzFits2 tells. -/
structure Held (ins : List S35) (outs : List S41) : Prop where
  a : ins.length ≤ 2147483647
  b : ∀ x ∈ ins, x.f1.length ≤ 2147483647 ∧ x.f2.length ≤ 2147483647 ∧ ∀ s ∈ x.f2, s.length ≤ 2147483647
  c : outs.length ≤ 2147483647
  d : ∀ y ∈ outs, y.f1.length ≤ 2147483647
theorem rd_L1n (l : List (List Int)) (i : Nat) (h : i < l.length) : rd_L1 l (i : Int) = l[i] := by
  show l.getD (i : Int).toNat _ = _
  rw [Int.toNat_natCast, List.getD_eq_getElem?_getD, List.getElem?_eq_getElem h]; rfl
theorem size_outs (v lock : Int) (ins : List S35) (outs : List S41) (hH : Held ins outs) :
    ∀ d (i : Nat) (x : Int), i + d = outs.length → 0 ≤ x → x ≤ 100001 → ∃ r, Ev (fun k => laws_txSize.l2 k x (i : Int) v ins outs lock) r ∧ (r ≤ 100000 → x + (sO (outs.drop i) : Nat) ≤ 100000) := by
  have hl := hH.c
  intro d
  induction d with
  | zero =>
    intro i x hi h0 h1
    refine ⟨x, Ev.step (f := fun k => laws_txSize.j5 k x (i : Int) false v ins outs lock) (fun k => ?_) (Ev.step (fun k => ?_) (Ev.now _)), fun h => ?_⟩
    · rw [laws_txSize.l2, if_neg (by omega)]
    · rw [laws_txSize.j5, if_neg (by decide)]
    · rw [List.drop_eq_nil_of_le (by omega)]; simp only [sO]; omega
  | succ d ih =>
    intro i x hi h0 h1
    have hil : i < outs.length := by omega
    by_cases hx : x ≤ 100000
    · obtain ⟨r1, e1, a1, b1, c1⟩ := more_val x 17 h0 h1 (by decide) (by decide)
      obtain ⟨r2, e2, a2, b2, c2⟩ := more_val r1 ((outs[i]).f1.length : Int) a1 b1 (by omega) (by have := hH.d _ (List.getElem_mem hil); omega)
      obtain ⟨r, hr, hs⟩ := ih (i + 1) r2 (by omega) a2 b2
      refine ⟨r, Ev.step (f := fun k => laws_txSize.j5 k x (i : Int) true v ins outs lock) (fun k => ?_) (Ev.step (fun k => ?_) hr), fun h => ?_⟩
      · rw [laws_txSize.l2, if_pos (by omega), decide_eq_true hx]
      · rw [laws_txSize.j5, if_pos rfl, e1, Option.bind_some, if_pos (by omega), if_pos (by omega), rd_out i hil, e2, Option.bind_some, ln64 _ (by omega) (by omega)]
        rfl
      · have h3 := hs h
        rw [List.drop_eq_getElem_cons hil]
        simp only [sO]
        have h4 := c2 (by omega)
        have h5 := c1 (by omega)
        omega
    · refine ⟨x, Ev.step (f := fun k => laws_txSize.j5 k x (i : Int) false v ins outs lock) (fun k => ?_) (Ev.step (fun k => ?_) (Ev.now _)), fun h => absurd h hx⟩
      · rw [laws_txSize.l2, if_pos (by omega), decide_eq_false hx]
      · rw [laws_txSize.j5, if_neg (by decide)]
theorem size_wit (v lock : Int) (ins : List S35) (outs : List S41) (hH : Held ins outs) (i : Nat) (hil : i < ins.length)
    (next : ∀ x : Int, 0 ≤ x → x ≤ 100001 → ∃ r, Ev (fun k => laws_txSize.l0 k x ((i + 1 : Nat) : Int) v ins outs lock) r ∧ (r ≤ 100000 → x + (sI (ins.drop (i + 1)) : Nat) + (sO outs : Nat) ≤ 100000)) :
    ∀ d (j : Nat) (x : Int), j + d = (ins[i]).f2.length → 0 ≤ x → x ≤ 100001 → ∃ r, Ev (fun k => laws_txSize.l1 k x (i : Int) (j : Int) v ins outs lock) r ∧ (r ≤ 100000 → x + (sW ((ins[i]).f2.drop j) : Nat) + (sI (ins.drop (i + 1)) : Nat) + (sO outs : Nat) ≤ 100000) := by
  have hl := hH.a
  have hb := hH.b _ (List.getElem_mem hil)
  have hwi : wrap64 ((i : Int) + 1) = ((i + 1 : Nat) : Int) := by rw [ln64 _ (by omega) (by omega)]; rfl
  intro d
  induction d with
  | zero =>
    intro j x hj h0 h1
    obtain ⟨r, hr, hs⟩ := next x h0 h1
    refine ⟨r, Ev.step (f := fun k => laws_txSize.j3 k x (i : Int) (j : Int) false v ins outs lock) (fun k => ?_) (Ev.step (fun k => ?_) hr), fun h => ?_⟩
    · rw [laws_txSize.l1, if_pos (by omega), if_pos (by omega), rd_in35 ins i hil, if_neg (by omega)]
    · rw [laws_txSize.j3, if_neg (by decide), hwi]
    · rw [List.drop_eq_nil_of_le (by omega)]; have := hs h; simp only [sW]; omega
  | succ d ih =>
    intro j x hj h0 h1
    have hjl : j < (ins[i]).f2.length := by omega
    by_cases hx : x ≤ 100000
    · obtain ⟨r1, e1, a1, b1, c1⟩ := more_val x 9 h0 h1 (by decide) (by decide)
      obtain ⟨r2, e2, a2, b2, c2⟩ := more_val r1 (((ins[i]).f2[j]).length : Int) a1 b1 (by omega) (by have := hb.2.2 _ (List.getElem_mem hjl); omega)
      obtain ⟨r, hr, hs⟩ := ih (j + 1) r2 (by omega) a2 b2
      refine ⟨r, Ev.step (f := fun k => laws_txSize.j3 k x (i : Int) (j : Int) true v ins outs lock) (fun k => ?_) (Ev.step (fun k => ?_) hr), fun h => ?_⟩
      · rw [laws_txSize.l1, if_pos (by omega), if_pos (by omega), rd_in35 ins i hil, if_pos (by omega), decide_eq_true hx]
      · rw [laws_txSize.j3, if_pos rfl, e1, Option.bind_some, if_pos (by omega), if_pos (by omega), if_pos (by omega), rd_in35 ins i hil, if_pos (by omega), rd_L1n _ j hjl, e2, Option.bind_some, ln64 _ (by omega) (by omega)]
        rfl
      · have h3 := hs h
        rw [List.drop_eq_getElem_cons hjl]
        simp only [sW]
        have h4 := c2 (by omega)
        have h5 := c1 (by omega)
        omega
    · obtain ⟨r, hr, hs⟩ := next x h0 h1
      refine ⟨r, Ev.step (f := fun k => laws_txSize.j3 k x (i : Int) (j : Int) false v ins outs lock) (fun k => ?_) (Ev.step (fun k => ?_) hr), fun h => ?_⟩
      · rw [laws_txSize.l1, if_pos (by omega), if_pos (by omega), rd_in35 ins i hil, if_pos (by omega), decide_eq_false hx]
      · rw [laws_txSize.j3, if_neg (by decide), hwi]
      · have := hs h; omega
theorem size_ins (v lock : Int) (ins : List S35) (outs : List S41) (hH : Held ins outs) :
    ∀ d (i : Nat) (x : Int), i + d = ins.length → 0 ≤ x → x ≤ 100001 → ∃ r, Ev (fun k => laws_txSize.l0 k x (i : Int) v ins outs lock) r ∧ (r ≤ 100000 → x + (sI (ins.drop i) : Nat) + (sO outs : Nat) ≤ 100000) := by
  have hl := hH.a
  intro d
  induction d with
  | zero =>
    intro i x hi h0 h1
    obtain ⟨r, hr, hs⟩ := size_outs v lock ins outs hH outs.length 0 x (by omega) h0 h1
    refine ⟨r, Ev.step (f := fun k => laws_txSize.j1 k x (i : Int) false v ins outs lock) (fun k => ?_) (Ev.step (fun k => ?_) hr), fun h => ?_⟩
    · rw [laws_txSize.l0, if_neg (by omega)]
    · rw [laws_txSize.j1, if_neg (by decide)]; rfl
    · rw [List.drop_eq_nil_of_le (by omega)]; have := hs h; rw [List.drop_zero] at this; simp only [sI]; omega
  | succ d ih =>
    intro i x hi h0 h1
    have hil : i < ins.length := by omega
    by_cases hx : x ≤ 100000
    · obtain ⟨r1, e1, a1, b1, c1⟩ := more_val x 50 h0 h1 (by decide) (by decide)
      obtain ⟨r2, e2, a2, b2, c2⟩ := more_val r1 ((ins[i]).f1.length : Int) a1 b1 (by omega) (by have := (hH.b _ (List.getElem_mem hil)).1; omega)
      obtain ⟨r, hr, hs⟩ := size_wit v lock ins outs hH i hil (fun y y0 y1 => ih (i + 1) y (by omega) y0 y1) (ins[i]).f2.length 0 r2 (by omega) a2 b2
      refine ⟨r, Ev.step (f := fun k => laws_txSize.j1 k x (i : Int) true v ins outs lock) (fun k => ?_) (Ev.step (fun k => ?_) hr), fun h => ?_⟩
      · rw [laws_txSize.l0, if_pos (by omega), decide_eq_true hx]
      · rw [laws_txSize.j1, if_pos rfl, e1, Option.bind_some, if_pos (by omega), if_pos (by omega), rd_in35 ins i hil, e2, Option.bind_some]
        rfl
      · have h3 := hs h
        rw [List.drop_zero] at h3
        rw [List.drop_eq_getElem_cons hil]
        simp only [sI]
        have h4 := c2 (by omega)
        have h5 := c1 (by omega)
        omega
    · obtain ⟨r, hr, hs⟩ := size_outs v lock ins outs hH outs.length 0 x (by omega) h0 h1
      refine ⟨r, Ev.step (f := fun k => laws_txSize.j1 k x (i : Int) false v ins outs lock) (fun k => ?_) (Ev.step (fun k => ?_) hr), fun h => ?_⟩
      · rw [laws_txSize.l0, if_pos (by omega), decide_eq_false hx]
      · rw [laws_txSize.j1, if_neg (by decide)]; rfl
      · have := hs h; omega
theorem ev_txSize (v lock : Int) (ins : List S35) (outs : List S41) (hH : Held ins outs) : ∃ r, Ev (fun k => laws_txSize.f k v ins outs lock) r ∧ (r ≤ 100000 → sI ins + sO outs ≤ 100000) := by
  obtain ⟨r, hr, hs⟩ := size_ins v lock ins outs hH ins.length 0 10 (by omega) (by decide) (by decide)
  refine ⟨r, Ev.congr (fun k => by unfold laws_txSize.f; rfl) hr, fun h => ?_⟩
  have := hs h
  rw [List.drop_zero] at this
  omega
theorem ev_fits6 (l : List S41) : ∃ b, Ev (fun k => laws_zzFits6.f k l) b ∧ (b = true → l.length ≤ 2147483647 ∧ ∀ y ∈ l, y.f1.length ≤ 2147483647) := by
  by_cases h0 : (l.length : Int) > 2147483647
  · exact ⟨false, Ev.congr (fun k => by unfold laws_zzFits6.f; rw [if_pos h0]) (Ev.now _), fun h => by cases h⟩
  have key : ∀ d (i : Nat), i + d = l.length → ∃ b, Ev (fun k => laws_zzFits6.l0 k l (l.length : Int) (i : Int)) b ∧ (b = true → ∀ y ∈ l.drop i, y.f1.length ≤ 2147483647) := by
    intro d
    induction d with
    | zero =>
      intro i hi
      refine ⟨true, Ev.step (f := fun _ => some true) (fun k => ?_) (Ev.now _), fun _ y hy => ?_⟩
      · rw [laws_zzFits6.l0, if_neg (by omega)]
      · rw [List.drop_eq_nil_of_le (by omega)] at hy; cases hy
    | succ d ih =>
      intro i hi
      have hil : i < l.length := by omega
      by_cases h1 : ((l[i]).f1.length : Int) > 2147483647
      · refine ⟨false, Ev.step (f := fun _ => some false) (fun k => ?_) (Ev.now _), fun h => by cases h⟩
        rw [laws_zzFits6.l0, if_pos (by omega), if_pos (by omega), if_pos (by omega), rd_out i hil]
        unfold laws_zzFits7.f
        rw [if_pos h1]; rfl
      · obtain ⟨b, hb, hs⟩ := ih (i + 1) (by omega)
        refine ⟨b, Ev.step (fun k => ?_) hb, fun h y hy => ?_⟩
        · rw [laws_zzFits6.l0, if_pos (by omega), if_pos (by omega), if_pos (by omega), rd_out i hil]
          unfold laws_zzFits7.f
          rw [if_neg h1, ln64 _ (by omega) (by omega)]; rfl
        · rw [List.drop_eq_getElem_cons hil] at hy
          rcases List.mem_cons.1 hy with rfl | hy
          · omega
          · exact hs h y hy
  obtain ⟨b, hb, hs⟩ := key l.length 0 (by omega)
  exact ⟨b, Ev.congr (fun k => by unfold laws_zzFits6.f; rw [if_neg h0]; rfl) hb, fun h => ⟨by omega, hs h⟩⟩
theorem ev_zzFits2 (v lock : Int) (ins : List S35) (outs : List S41) : ∃ b, Ev (fun k => laws_zzFits2.f k v ins outs lock) b ∧ (b = true → Held ins outs) := by
  by_cases h : Fits3 ins
  · obtain ⟨b, hb, hs⟩ := ev_fits6 outs
    refine ⟨b, Ev.congr (f := fun k => (laws_zzFits6.f k outs).bind fun t => if t = true then some true else some false) (fun k => ?_) (Ev.bind hb ?_), fun h1 => ?_⟩
    · unfold laws_zzFits2.f laws_zzFits3.f
      rw [decide_eq_true h]; rfl
    · cases b <;> exact Ev.now _
    · have h2 := hs h1
      refine ⟨h.1, fun x hx => ?_, h2.1, h2.2⟩
      have h3 := h.2 x hx
      have h4 := h3.2
      unfold fit5 at h4
      rw [Bool.and_eq_true, decide_eq_true_eq, List.all_eq_true] at h4
      exact ⟨h3.1, h4.1, fun s hs => of_decide_eq_true (h4.2 s hs)⟩
  · refine ⟨false, Ev.congr (fun k => ?_) (Ev.now _), fun h1 => by cases h1⟩
    unfold laws_zzFits2.f laws_zzFits3.f
    rw [decide_eq_false h]; rfl
end Go.Proofs.Ytdheoajaaofmbaa.QFnScriptPlaces
