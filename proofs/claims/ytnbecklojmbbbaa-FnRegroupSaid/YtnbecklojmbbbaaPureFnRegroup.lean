/- The law FnRegroup over lists and integers: what ConvertBits answers is what the reference answers, wherever the law's guards let in. -/
import Derived.Test.YtnbecklojmbbbaaRegImpl
import Derived.OpenShut
namespace Go.Proofs.Ytnbecklojmbbbaa.Pure
open Go.RowKit Go.Proofs.Ytnbecklojmbbbaa.QFnRegroup Go.Proofs.Ytnbecklojmbbbaa.RG Go.Proofs.YtnbecklojmbbbaaW.PrintWords Go.Proofs.YtnbecklojmbbbaaW.PrintLast Go.Proofs.YtnbecklojmbbbaaW.PrintMore

theorem ev_same (l : List Int) (hl : l.length < 1000000) : Ev (fun k => laws_same.f k l l) true := by
  have key : ∀ d (i : Nat), i + d = l.length → Ev (fun k => laws_same.l0 k l l i) true := by
    intro d
    induction d with
    | zero =>
      intro i hi
      refine Ev.step (fun k => ?_) (Ev.now _)
      rw [laws_same.l0, if_neg (by omega)]
    | succ d ih =>
      intro i hi
      refine Ev.step (fun k => ?_) (ih (i + 1) (by omega))
      rw [laws_same.l0, if_pos (by omega), if_pos (by omega), if_pos (by omega), if_pos rfl, w64 (by omega) (by omega)]
      rfl
  refine Ev.congr (fun k => ?_) (key l.length 0 (by omega))
  unfold laws_same.f
  rw [if_pos rfl]; rfl
theorem copied_any (l : List Int) (hl : l.length < 1000000) : impl_copied.f l = some l := by
  unfold impl_copied.f
  simp; omega

theorem ev_j2 (l : List Int) (f t : Nat) (hf0 : 0 < f) (hf : f ≤ 8) (ht0 : 0 < t) (ht : t ≤ 8) (pad : Bool) (hl : l.length ≤ 400) (hw : ∀ x ∈ l, 0 ≤ x ∧ x < 2 ^ f)
    (hp : pad = true ∨ (f = 5 ∧ t = 8) ∨ (f = 8 ∧ t = 5)) : Ev (fun k => laws_FnRegroup.j2 k l f t pad false) true := by
  have hp8 : (2 : Int) ^ f ≤ 2 ^ 8 := pow_le hf
  have hs := ev_spec l f hf0 hf t ht0 ht pad hl (fun x hx => ⟨(hw x hx).1, by have := (hw x hx).2; omega⟩)
  have hi := ev_impl l f hf0 hf t ht0 ht pad hl hw
  have hlen := all_length f l
  have hmul : l.length * f ≤ 400 * 8 := Nat.mul_le_mul hl hf
  have hq : (all f l).length / t ≤ (all f l).length := Nat.div_le_self _ _
  have hol : (out t (all f l)).length = (all f l).length / t := chunks_length _ _ _
  have hrl := rest_len t (all f l)
  have hrm := Nat.mod_lt (all f l).length ht0
  change Ev (fun k => spec_Regroup.f k l f t pad) (fin f pad t (out t (all f l)) (rest t (all f l))) at hs
  generalize out t (all f l) = O at *
  generalize rest t (all f l) = R at *
  have hcp : impl_copied.f l = some l := copied_any l (by omega)
  have hcO : impl_copied.f O = some O := copied_any O (by omega)
  -- the package's wrapper
  have hI : ∀ (r : List Int × Option Int) (q : List Int × Int), finI pad t O R = r → ((if r.2.isNone = true then ((impl_copied.f r.1).bind fun t150 => (some (t150, (0 : Int)))) else (some (([] : List Int), 1))) = some q) → Ev (fun k => impl_Regroup.f k l f t pad) q := by
    intro r q hr hq
    rw [hr] at hi
    refine Ev.congr (f := fun k => (bech32_ConvertBits.f k l f t pad).bind fun bt145 => (if bt145.2.isNone = true then ((impl_copied.f bt145.1).bind fun t150 => (some (t150, (0 : Int)))) else (some (([] : List Int), 1)))) (fun k => ?_) (Ev.bind (f := fun _ bt145 => (if bt145.2.isNone = true then ((impl_copied.f bt145.1).bind fun t150 => (some (t150, (0 : Int)))) else (some (([] : List Int), 1)))) hi (by simp only [hq]; exact Ev.now _))
    unfold impl_Regroup.f
    rw [hcp]; rfl
  -- the whole: from what both answer
  have hall : ∀ (a : List Int × Bool) (b : List Int × Int), fin f pad t O R = a → Ev (fun k => impl_Regroup.f k l f t pad) b → (b.2 == 0) = a.2 → (a.2 = true → b.1 = a.1 ∧ a.1.length < 1000000) → Ev (fun k => laws_FnRegroup.j2 k l f t pad false) true := by
    intro a b ha hb h1 h2
    rw [ha] at hs
    refine Ev.step (fun k => ?_) (Ev.bind (f := fun k bt154 => (impl_Regroup.f k l f t pad).bind fun bt158 => (if ((bt158.2 == 0) != bt154.2) = true then (some false) else (if bt154.2 = true then ((laws_same.f k bt158.1 bt154.1).bind fun t162 => (some t162)) else (some true)))) hs
      (Ev.bind (f := fun k bt158 => (if ((bt158.2 == 0) != a.2) = true then (some false) else (if a.2 = true then ((laws_same.f k bt158.1 a.1).bind fun t162 => (some t162)) else (some true)))) hb ?_))
    · rw [laws_FnRegroup.j2, if_neg (by simp), w64 (x := (f : Int)) (by omega) (by omega), w64 (x := (t : Int)) (by omega) (by omega)]
    · have e0 : ((b.2 == 0) != a.2) = false := by rw [h1]; simp
      simp only [e0, Bool.false_eq_true, if_false]
      by_cases c : a.2 = true
      · obtain ⟨h3, h4⟩ := h2 c
        rw [h3]
        refine Ev.congr (f := fun k => (laws_same.f k a.1 a.1).bind fun t162 => (some t162)) (fun k => by rw [if_pos c]) (Ev.bind (f := fun _ t162 => some t162) (ev_same a.1 h4) (Ev.now _))
      · exact Ev.congr (f := fun _ => some true) (fun k => by rw [if_neg c]) (Ev.now _)
  unfold fin finI at *
  by_cases h0 : R = []
  · rw [if_pos h0] at hI hall
    exact hall _ (O, 0) rfl (hI _ _ rfl (by simp [hcO])) rfl (fun _ => ⟨rfl, by show O.length < _; omega⟩)
  · have hne : R.length ≠ 0 := by simpa using h0
    rw [if_neg h0] at hI hall
    by_cases hpad : pad = true
    · rw [if_pos hpad] at hI hall
      have hc2 : impl_copied.f (O ++ [val R * 2 ^ (t - R.length)]) = some (O ++ [val R * 2 ^ (t - R.length)]) := copied_any _ (by simp; omega)
      exact hall _ (O ++ [val R * 2 ^ (t - R.length)], 0) rfl (hI _ _ rfl (by simp [hc2])) rfl (fun _ => ⟨rfl, by simp; omega⟩)
    · rw [if_neg hpad] at hI hall
      have hft : (f = 5 ∧ t = 8) ∨ (f = 8 ∧ t = 5) := by rcases hp with h | h; exact absurd h hpad; exact h
      by_cases c1 : (R.length : Int) > 4
      · rw [if_pos c1] at hI
        refine hall _ ([], 1) rfl (hI _ _ rfl (by simp)) ?_ ?_
        · have : ¬ ((R.length : Int) < f) := by omega
          simp [this]
        · have : ¬ ((R.length : Int) < f) := by omega
          simp [this]
      · rw [if_neg c1] at hI
        have c3 : (R.length : Int) < f := by omega
        by_cases c2 : val R = 0
        · rw [if_pos c2] at hI
          refine hall _ (O, 0) rfl (hI _ _ rfl (by simp [hcO])) ?_ ?_
          · simp [c3, c2]
          · intro _; exact ⟨rfl, by show O.length < _; omega⟩
        · rw [if_neg c2] at hI
          refine hall _ ([], 1) rfl (hI _ _ rfl (by simp)) ?_ ?_
          · simp [c2]
          · simp [c2]

theorem FnRegroup : laws_FnRegroup.Pure := by
  intro l a1 a2 a3 _ _ hw h1 h2
  have b1 := bounds_u8 h1
  have b2 := bounds_u8 h2
  refine Ev.rounds ?_
  have hj0 : Ev (fun k => laws_FnRegroup.j0 k l a1 a2 a3 true) true := by
    refine Ev.step (fun k => ?_) (Ev.now _)
    rw [laws_FnRegroup.j0, if_pos rfl]
  by_cases g0 : (l.length : Int) > 2147483647
  · exact Ev.congr (f := fun _ => some true) (fun k => by unfold laws_FnRegroup.f; rw [if_pos g0]) (Ev.now _)
  by_cases g1 : a1 < 1
  · exact Ev.congr (fun k => by unfold laws_FnRegroup.f; rw [if_neg g0, if_pos g1]) hj0
  by_cases g2 : a1 > 8
  · exact Ev.congr (fun k => by unfold laws_FnRegroup.f; rw [if_neg g0, if_neg g1, if_pos g2]) hj0
  by_cases g3 : a2 < 1
  · exact Ev.congr (fun k => by unfold laws_FnRegroup.f; rw [if_neg g0, if_neg g1, if_neg g2, if_pos g3]) hj0
  by_cases g4 : a2 > 8
  · exact Ev.congr (fun k => by unfold laws_FnRegroup.f; rw [if_neg g0, if_neg g1, if_neg g2, if_neg g3, if_pos g4]) hj0
  by_cases g5 : (l.length : Int) > 400
  · exact Ev.congr (fun k => by unfold laws_FnRegroup.f; rw [if_neg g0, if_neg g1, if_neg g2, if_neg g3, if_neg g4, decide_eq_true g5]) hj0
  obtain ⟨f, rfl⟩ := Int.eq_ofNat_of_zero_le b1.1
  obtain ⟨t, rfl⟩ := Int.eq_ofNat_of_zero_le b2.1
  have hpw : shl .i64 1 f = 2 ^ f := by
    unfold shl
    rw [show min (f : Int).toNat IntKind.i64.bits = f by simp [IntKind.bits]; omega]
    have : (2 : Int) ^ f ≤ 2 ^ 8 := pow_le (by omega)
    have := two_pow_pos f
    rw [i64_w, Int.one_mul, w64 (by omega) (by omega)]
  refine Ev.congr (f := fun k => laws_FnRegroup.j0 k l f t a3 false) (fun k => by unfold laws_FnRegroup.f; rw [if_neg g0, if_neg g1, if_neg g2, if_neg g3, if_neg g4, decide_eq_false g5]) ?_
  refine Ev.step (f := fun k => laws_FnRegroup.l0 k l f t a3 0) (fun k => by rw [laws_FnRegroup.j0, if_neg (by simp)]) ?_
  have key : ∀ d (i : Nat), i + d = l.length → (∀ x ∈ l.take i, 0 ≤ x ∧ x < 2 ^ f) → Ev (fun k => laws_FnRegroup.l0 k l f t a3 i) true := by
    intro d
    induction d with
    | zero =>
      intro i hi hall
      rw [List.take_of_length_le (by omega)] at hall
      have hJ := ev_j2 l f t (by omega) (by omega) (by omega) (by omega) a3 (by omega) hall
      have hT : Ev (fun k => laws_FnRegroup.j2 k l f t a3 true) true := Ev.step (fun k => by rw [laws_FnRegroup.j2, if_pos rfl]) (Ev.now _)
      cases ha : a3 with
      | true =>
        subst ha
        refine Ev.step (fun k => ?_) (hJ (.inl rfl))
        rw [laws_FnRegroup.l0, if_neg (by omega), if_pos rfl]
      | false =>
        subst ha
        by_cases c1 : f = 5
        · by_cases c2 : t = 8
          · refine Ev.step (fun k => ?_) (hJ (.inr (.inl ⟨c1, c2⟩)))
            rw [laws_FnRegroup.l0, if_neg (by omega), if_neg (by simp), if_pos (by omega), if_pos (by omega)]; rfl
          · refine Ev.step (fun k => ?_) hT
            rw [laws_FnRegroup.l0, if_neg (by omega), if_neg (by simp), if_pos (by omega), if_neg (by omega), if_neg (by omega)]; rfl
        · by_cases c2 : f = 8
          · by_cases c3 : t = 5
            · refine Ev.step (fun k => ?_) (hJ (.inr (.inr ⟨c2, c3⟩)))
              have e : (!((t : Int) == 5)) = false := by subst c3; rfl
              rw [laws_FnRegroup.l0, if_neg (by omega), if_neg (by simp), if_neg (by omega), if_pos (by omega), e]
            · refine Ev.step (fun k => ?_) hT
              have e : (!((t : Int) == 5)) = true := by simp; omega
              rw [laws_FnRegroup.l0, if_neg (by omega), if_neg (by simp), if_neg (by omega), if_pos (by omega), e]
          · refine Ev.step (fun k => ?_) hT
            rw [laws_FnRegroup.l0, if_neg (by omega), if_neg (by simp), if_neg (by omega), if_neg (by omega)]; rfl
    | succ d ih =>
      intro i hi hall
      have hx : i < l.length := by omega
      have hr := bounds_u8 (hw l[i] (List.getElem_mem hx))
      have e2 : rd l i = l[i] := by simp [rd, hx]
      by_cases c : wrap64 (rd l i) ≥ shl .i64 1 f
      · refine Ev.step (fun k => ?_) (Ev.now _)
        rw [laws_FnRegroup.l0, if_pos (by omega), if_pos (by omega), if_pos (by omega), if_pos c]
      · refine Ev.step (fun k => ?_) (ih (i + 1) (by omega) ?_)
        · rw [laws_FnRegroup.l0, if_pos (by omega), if_pos (by omega), if_pos (by omega), if_neg c, w64 (by omega) (by omega)]; rfl
        · rw [e2, w64 (by omega) (by omega), hpw] at c
          intro x hxm
          rw [List.take_succ_eq_append_getElem hx] at hxm
          rcases List.mem_append.1 hxm with h | h
          · exact hall x h
          · rw [List.mem_singleton] at h; subst h; omega
  exact key l.length 0 (by omega) (by simp)
end Go.Proofs.Ytnbecklojmbbbaa.Pure
