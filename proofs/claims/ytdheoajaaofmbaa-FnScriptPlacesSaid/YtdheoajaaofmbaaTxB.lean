/- FnScriptPlaces: it holds. -/
import Derived.Test.YtdheoajaaofmbaaTxA
namespace Go.Proofs.Ytdheoajaaofmbaa.QFnScriptPlaces
open Go.RowKit Go.Proofs.YtdheoajaaofmbaaW.PrintWords Go.Proofs.YtdheoajaaofmbaaW.PrintLast Go.Proofs.YtdheoajaaofmbaaW.PrintMore
set_option linter.unusedVariables false
set_option linter.unusedSimpArgs false
def preB (b : Bool) (v : Int) (ins : List S35) (outs : List S41) : List Int :=
  leB 4 (v % 4294967296) ++ (if b = true then [0, 1] else []) ++ varI (ins.length : Int) ++ bIn ins ++ varI (outs.length : Int)
theorem txB_eq (b : Bool) (v lock : Int) (ins : List S35) (outs : List S41) : txB b v lock ins outs = preB b v ins outs ++ (bOut outs ++ tailB b ins lock) := by
  unfold txB preB
  simp only [List.append_assoc]
theorem preB_len (b : Bool) (v : Int) (ins : List S35) (outs : List S41) (hok : ∀ x ∈ ins, InOk x) : ((preB b v ins outs).length : Int) = placesN b ins outs := by
  have h1 := varI_len (ins.length : Int)
  have h2 := varI_len (outs.length : Int)
  have h3 := bIn_sum ins hok
  unfold preB placesN
  cases b
  · simp only [if_neg (show ¬ (false = true) by decide), List.length_append, leB_len, List.length_nil]; omega
  · simp only [if_pos, List.length_append, leB_len, List.length_cons, List.length_nil]; omega
theorem cut_mid (a s b : List Int) (p : Nat) (h : a.length = p) : ((a ++ (s ++ b)).take (p + s.length)).drop p = s := by
  rw [← List.append_assoc, List.take_left' (by rw [List.length_append, h]), List.drop_left' h]
theorem place_at (n : Nat) (pre tl : List Int) (outs : List S41) (hn : pre.length = n) (i : Nat) (hi : i < outs.length) :
    ∃ p : Nat, rd (placesFrom (n : Int) outs) (i : Int) = (p : Int) ∧ p + (outs[i]).f1.length ≤ (pre ++ (bOut outs ++ tl)).length ∧ ((pre ++ (bOut outs ++ tl)).take (p + (outs[i]).f1.length)).drop p = (outs[i]).f1 := by
  obtain ⟨y, hy⟩ : ∃ y, outs[i] = y := ⟨_, rfl⟩
  have hsp : outs = outs.take i ++ y :: outs.drop (i + 1) := by rw [← hy, ← List.drop_eq_getElem_cons hi, List.take_append_drop]
  obtain ⟨a, ha⟩ : ∃ a, outs.take i = a := ⟨_, rfl⟩
  obtain ⟨c, hc⟩ : ∃ c, outs.drop (i + 1) = c := ⟨_, rfl⟩
  have hal : a.length = i := by rw [← ha, List.length_take]; omega
  rw [hy]
  rw [ha, hc] at hsp
  rw [hsp]
  clear hy ha hc hsp hi
  have hv := varI_len (y.f1.length : Int)
  refine ⟨(pre ++ (bOut a ++ (leB 8 (y.f0 % 18446744073709551616) ++ varI (y.f1.length : Int)))).length, ?_, ?_, ?_⟩
  · rw [placesFrom_append]
    unfold rd
    rw [Int.toNat_natCast, List.getD_eq_getElem?_getD, List.getElem?_append_right (by rw [placesFrom_len]; omega), placesFrom_len, hal, Nat.sub_self]
    show endAt (n : Int) a + (8 + varL (y.f1.length : Int)) = _
    rw [bOut_end]
    simp only [List.length_append, leB_len]
    omega
  · simp only [bOut_append, bOut, outB, varB, List.length_append, leB_len]
    omega
  · have e : pre ++ (bOut (a ++ y :: c) ++ tl) = (pre ++ (bOut a ++ (leB 8 (y.f0 % 18446744073709551616) ++ varI (y.f1.length : Int)))) ++ (y.f1 ++ (bOut c ++ tl)) := by
      simp only [bOut_append, bOut, outB, varB, List.append_assoc]
    rw [e]
    exact cut_mid _ _ _ _ rfl
theorem hasW_wit {ins : List S35} (h : hasW ins = true → ∃ x xs, ins = x :: xs ∧ x.f2 ≠ []) : wit0 ins = hasW ins := by
  cases hw : hasW ins with
  | true =>
    obtain ⟨x, xs, rfl, hx⟩ := h hw
    exact decide_eq_true hx
  | false =>
    cases ins with
    | nil => rfl
    | cons x xs =>
      unfold hasW at hw
      rw [List.any_cons, Bool.or_eq_false_iff] at hw
      have h1 := of_decide_eq_false hw.1
      have h2 : x.f2 = [] := List.eq_nil_of_length_eq_zero (by omega)
      show decide (x.f2 ≠ []) = false
      rw [h2]; rfl
theorem step_ok (v lock : Int) (ins : List S35) (outs : List S41) (L B s : List Int) (i p : Nat) (hL : i < L.length) (ho : i < outs.length) (hi : i ≤ 1000000) (hp1 : rd L (i : Int) = (p : Int)) (hrd : (rd_T41 outs (i : Int)).f1 = s) (hs : s.length ≤ 1000000) (hp2 : p + s.length ≤ B.length) (hB : B.length ≤ 400000) (hp3 : (B.take (p + s.length)).drop p = s)
    (h : Ev (fun k => laws_FnScriptPlaces.l0 k L B ((i + 1 : Nat) : Int) v ins outs lock) true) : Ev (fun k => laws_FnScriptPlaces.l0 k L B (i : Int) v ins outs lock) true := by
  have hw : wrap64 ((p : Int) + (s.length : Int)) = ((p + s.length : Nat) : Int) := by rw [ln64 _ (by omega) (by omega)]; rfl
  have hw1 : wrap64 ((i : Int) + 1) = ((i + 1 : Nat) : Int) := by rw [ln64 _ (by omega) (by omega)]; rfl
  have c1 : (i : Int) < (L.length : Int) := by omega
  have c2 : (0 : Int) ≤ (i : Int) := by omega
  have c3 : (i : Int) < (outs.length : Int) := by omega
  have c4 : ¬ ((p : Int) < 0) := by omega
  have c5 : ¬ (((p + s.length : Nat) : Int) > (B.length : Int)) := by omega
  have c6 : (0 : Int) ≤ (p : Int) := by omega
  have c7 : (p : Int) ≤ ((p + s.length : Nat) : Int) := by omega
  have c8 : ((p + s.length : Nat) : Int) ≤ (B.length : Int) := by omega
  refine Ev.step (f := fun k => (laws_same.f k s s).bind fun t => if t = true then laws_FnScriptPlaces.l0 k L B ((i + 1 : Nat) : Int) v ins outs lock else some false) (fun k => ?_) (Ev.bind (ev_same s hs) ?_)
  · rw [laws_FnScriptPlaces.l0, if_pos c1, if_pos c2, if_pos c3, hp1, hrd, hw, if_neg c4, if_neg c5, if_pos c6, if_pos c7, if_pos c8, Int.toNat_natCast, Int.toNat_natCast, hp3, hw1]
  · exact Ev.congr (fun k => by rw [if_pos rfl]) h
theorem ev_key (v lock : Int) (ins : List S35) (outs : List S41) (L B : List Int) (hLl : L.length = outs.length) (hbig : B.length ≤ 400000) (hn2 : outs.length ≤ 1000000) (ho : ∀ y ∈ outs, y.f1.length ≤ 1000000)
    (hat : ∀ (i : Nat) (hi : i < outs.length), ∃ p : Nat, rd L (i : Int) = (p : Int) ∧ p + (outs[i]).f1.length ≤ B.length ∧ (B.take (p + (outs[i]).f1.length)).drop p = (outs[i]).f1) :
    ∀ d (i : Nat), i + d = outs.length → Ev (fun k => laws_FnScriptPlaces.l0 k L B (i : Int) v ins outs lock) true := by
  intro d
  induction d with
  | zero =>
    intro i hi
    refine Ev.step (f := fun _ => some true) (fun k => ?_) (Ev.now _)
    rw [laws_FnScriptPlaces.l0, if_neg (by omega)]
  | succ d ih =>
    intro i hi
    have hil : i < outs.length := by omega
    obtain ⟨y, hy⟩ : ∃ y, outs[i] = y := ⟨_, rfl⟩
    have hrd : rd_T41 outs (i : Int) = y := (rd_out i hil).trans hy
    have hs := ho _ (List.getElem_mem hil)
    have h1 := hat i hil
    rw [hy] at h1 hs
    obtain ⟨p, hp1, hp2, hp3⟩ := h1
    exact step_ok v lock ins outs L B y.f1 i p (by omega) hil (by omega) hp1 (congrArg (·.f1) hrd) hs hp2 hbig hp3 (ih (i + 1) (by omega))
set_option maxHeartbeats 1000000 in
theorem ev_main (v lock : Int) (ins : List S35) (outs : List S41) (hr : RawT ins lock) (hz : sI ins + sO outs ≤ 100000) (h : hasW ins = true → ∃ x xs, ins = x :: xs ∧ x.f2 ≠ []) :
    Ev (fun k => laws_FnScriptPlaces.j0 k false v ins outs lock) true := by
  have hf := fit_of_size hz
  have hok := inOk_of hr hf
  have hn2 := hf.n2
  obtain ⟨b, hb⟩ : ∃ b, hasW ins = b := ⟨_, rfl⟩
  have hpl : placesI ins outs = placesFrom (placesN b ins outs) outs := by
    unfold placesI headI placesN
    rw [hasW_wit h, hb]
    exact congrArg (fun z => placesFrom z outs) (by omega)
  have hpn := preB_len b v ins outs hok
  have e1 := ev_txB v lock ins outs hr hz
  have e2 := ev_places v lock ins outs hr hz
  rw [hb] at e1 e2
  have hbig : (txB b v lock ins outs).length ≤ 400000 := by
    have h1 := bIn_le ins hok
    have h2 := bOut_le outs
    have h3 := bWit_le ins
    have h4 := varI_le (ins.length : Int)
    have h5 := varI_le (outs.length : Int)
    unfold txB tailB
    cases b
    · simp only [if_neg (show ¬ (false = true) by decide), List.length_append, leB_len, List.length_nil]; omega
    · simp only [if_pos, List.length_append, leB_len, List.length_cons, List.length_nil]; omega
  obtain ⟨n, hn⟩ : ∃ n, (preB b v ins outs).length = n := ⟨_, rfl⟩
  rw [← hpn, hn] at hpl e2
  have hat := place_at n (preB b v ins outs) (tailB b ins lock) outs hn
  rw [← txB_eq b v lock ins outs] at hat
  obtain ⟨B, hB⟩ : ∃ B, txB b v lock ins outs = B := ⟨_, rfl⟩
  rw [hB] at e1 hbig hat
  have hLl := placesFrom_len (n : Int) outs
  obtain ⟨L, hL⟩ : ∃ L, placesFrom (n : Int) outs = L := ⟨_, rfl⟩
  rw [hL] at e2 hpl hat hLl
  have key := ev_key v lock ins outs L B hLl hbig hn2 (fun y hy => hf.o1 y hy) hat
  refine Ev.step (f := fun k => (some L).bind fun t291 => (spec_TxBytes.f k v ins outs lock true).bind fun t294 => (spec_ScriptPlaces.f k v ins outs lock).bind fun t297 => (laws_sameInts.f k t291 t297).bind fun t300 => if t300 = true then laws_FnScriptPlaces.l0 k t291 t294 0 v ins outs lock else some false) (fun k => ?_) (Ev.bind (Ev.now L) (Ev.bind e1 (Ev.bind e2 (Ev.bind (ev_sameInts L (by omega)) ?_))))
  · rw [laws_FnScriptPlaces.j0, if_neg (by decide)]
    unfold impl_ScriptPlaces.f
    rw [if_pos hf, hpl]
  · exact Ev.congr (fun k => by rw [if_pos rfl]; rfl) (key outs.length 0 (by omega))
theorem ev_law (v lock : Int) (ins : List S35) (outs : List S41) (hr : RawT ins lock) : Ev (fun k => laws_FnScriptPlaces.f k v ins outs lock) true := by
  have jT : Ev (fun k => laws_FnScriptPlaces.j0 k true v ins outs lock) true := by
    refine Ev.step (f := fun _ => some true) (fun k => ?_) (Ev.now _)
    rw [laws_FnScriptPlaces.j0, if_pos rfl]
  obtain ⟨b, hb, hs⟩ := ev_zzFits2 v lock ins outs
  refine Ev.congr (fun k => by unfold laws_FnScriptPlaces.f; rfl) (Ev.bind hb ?_)
  cases b
  · exact Ev.congr (fun k => by rw [if_neg (by decide)]) (Ev.now _)
  have hH := hs rfl
  obtain ⟨r, e1, h1⟩ := ev_txSize v lock ins outs hH
  refine Ev.congr (fun k => by rw [if_pos rfl]) (Ev.bind e1 ?_)
  by_cases hz0 : r > 100000
  · exact Ev.congr (fun k => by rw [if_pos hz0]) jT
  have hz := h1 (by omega)
  have hf := fit_of_size hz
  refine Ev.congr (fun k => by rw [if_neg hz0]) (Ev.bind (ev_has v lock ins outs hf.n1) ?_)
  cases hw : hasW ins with
  | false => exact Ev.congr (fun k => by rw [if_neg (by decide)]) (ev_main v lock ins outs hr hz (fun h => by rw [hw] at h; cases h))
  | true =>
    cases ins with
    | nil => cases hw
    | cons x xs =>
      have hrd : rd_T35 (x :: xs) 0 = x := rfl
      have hp : (0 : Int) < (((x :: xs).length : Nat) : Int) := by rw [List.length_cons]; omega
      by_cases h0 : x.f2 = []
      · refine Ev.congr (fun k => ?_) jT
        rw [if_pos rfl, if_pos hp, hrd, h0]; rfl
      · refine Ev.congr (fun k => ?_) (ev_main v lock (x :: xs) outs hr hz (fun _ => ⟨x, xs, rfl, h0⟩))
        have hl : ((x.f2.length : Int) == 0) = false := by
          have := List.length_pos_iff.2 h0
          exact beq_false_of_ne (by omega)
        rw [if_pos rfl, if_pos hp, hrd, hl]
end Go.Proofs.Ytdheoajaaofmbaa.QFnScriptPlaces
