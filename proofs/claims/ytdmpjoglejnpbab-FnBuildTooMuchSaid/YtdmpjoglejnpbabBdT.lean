/- FnBuildTooMuch: the plain law, and the data that came in. -/
import Derived.Test.YtdmpjoglejnpbabTooD
import Derived.Test.YtdmpjoglejnpbabBdOpen
namespace Go.Proofs.Ytdmpjoglejnpbab.Bd
open Go.RowKit Go.Proofs.YtdmpjoglejnpbabW.PrintWords Go.Proofs.YtdmpjoglejnpbabW.PrintLast Go.Proofs.YtdmpjoglejnpbabW.PrintMore Go.Proofs.Ytdmpjoglejnpbab.QFnBuilt Go.Proofs.Ytdmpjoglejnpbab.Open
set_option linter.unusedVariables false
set_option linter.unusedSimpArgs false
theorem pad_len (l : List Int) : 520 < (pad l).length ∧ (pad l).length ≤ max l.length 620 := by
  induction l using pad.induct with
  | case1 l h ih =>
    rw [pad_short h]
    rw [List.length_append, List.length_replicate] at ih
    omega
  | case2 l h => rw [pad_long h]; omega
theorem stay_bad : ∀ (xs : List Sp) (s : List Int), (∀ x ∈ xs, 0 ≤ x.f0 ∧ x.f0 ≤ 2) → (xs.foldl (stepB nb) (s, true)).2 = true := by
  intro xs
  induction xs with
  | nil => intro s _; rfl
  | cons x xs ih =>
    intro s h
    have hx := h x (by simp)
    have e : stepB nb (s, true) x = (s, true) := by
      unfold stepB
      by_cases b0 : x.f0 = 0
      · rw [if_pos b0]; rfl
      rw [if_neg b0]
      by_cases b1 : x.f0 = 1
      · rw [if_pos b1]; unfold dataB; split <;> rfl
      rw [if_neg b1, if_pos (by omega)]; rfl
    rw [List.foldl_cons, e]
    exact ih s (fun y hy => h y (by simp [hy]))
theorem too_bad (l0 l2 : List Sp) (d : List Int) (hd : 520 < d.length) (h : ∀ x ∈ l2, 0 ≤ x.f0 ∧ x.f0 ≤ 2) : (runB nb ((l0 ++ [(⟨1, 0, d⟩ : Sp)]) ++ l2)).2 = true := by
  unfold runB
  rw [List.foldl_append, List.foldl_append]
  obtain ⟨s, b⟩ := List.foldl (stepB nb) ([], false) l0
  have e : List.foldl (stepB nb) (s, b) [(⟨1, 0, d⟩ : Sp)] = (s, true) := by
    show stepB nb (s, b) ⟨1, 0, d⟩ = _
    unfold stepB
    rw [if_neg (show ¬ (1 : Int) = 0 by decide), if_pos rfl]
    unfold dataB
    rw [if_neg (by show ¬ d.length ≤ 520; omega)]
  rw [e]
  exact stay_bad l2 s h
/-- A step that this law lets by. -/
structure Tame (x : Sp) : Prop where
  k0 : 0 ≤ x.f0
  k2 : x.f0 ≤ 2
  n : x.f1 ≠ -9223372036854775808
  d : x.f2.length ≤ 520
theorem awakeB : laws_awakeBuild.f = some true := by
  unfold laws_awakeBuild.f
  have hok : okB ([(⟨0, 97, ([] : List Int)⟩ : Sp)] : List Sp) := ⟨by decide, fun x hx => by simp at hx; subst hx; exact ⟨by decide, fun h => by cases h⟩⟩
  have e : impl_Build.f ([(⟨0, 97, ([] : List Int)⟩ : Sp)] : List Sp) = some ([97], true) := by
    unfold impl_Build.f
    rw [if_pos hok]
    rfl
  rw [e]
  rfl
theorem tooEnd (l0 l2 : List Sp) (l1 : List Int) (i : Int) (hi : ¬ i < wrap64 ((l0.length : Int) + (l2.length : Int))) (h0 : l0.length ≤ 100) (h2 : l2.length ≤ 100) (h1 : l1.length ≤ 100000) (hr0 : ∀ x ∈ l0, Raw x) (hr2 : ∀ x ∈ l2, Raw x) (ht0 : ∀ x ∈ l0, Tame x) (ht2 : ∀ x ∈ l2, Tame x) :
    Ev (fun k => laws_FnBuildTooMuch.l0 k l0 l1 l2 i) true := by
  have hp := pad_len l1
  have hok : okB ((l0 ++ [(⟨1, 0, pad l1⟩ : Sp)]) ++ l2) := by
    refine ⟨by simp; omega, fun x hx => ?_⟩
    rw [List.mem_append, List.mem_append] at hx
    rcases hx with (hx | hx) | hx
    · exact ⟨by have := (ht0 x hx).d; omega, fun _ => ⟨by have := (ht0 x hx).n; have := (hr0 x hx).lo; omega, (hr0 x hx).hi⟩⟩
    · simp at hx; subst hx; exact ⟨by show (pad l1).length ≤ _; omega, fun h => by cases h⟩
    · exact ⟨by have := (ht2 x hx).d; omega, fun _ => ⟨by have := (ht2 x hx).n; have := (hr2 x hx).lo; omega, (hr2 x hx).hi⟩⟩
  have hb := too_bad l0 l2 (pad l1) hp.1 (fun x hx => ⟨(ht2 x hx).k0, (ht2 x hx).k2⟩)
  have ht : tooTail.f l0 l1 l2 = some ((runB nb ((l0 ++ [(⟨1, 0, pad l1⟩ : Sp)]) ++ l2)).1, false) := by
    unfold tooTail.f impl_Build.f
    rw [if_pos hok, hb]; rfl
  have hc : impl_copied.f l1 = some l1 := copied_any l1 (by omega)
  refine Ev.step (f := fun _ => some true) (fun k => ?_) (Ev.now _)
  rw [laws_FnBuildTooMuch.l0, if_neg hi, hc, Option.bind_some, ht, Option.bind_some]
  rfl
theorem tooLoop : ∀ d (l0 l2 : List Sp) (l1 : List Int) (i : Nat), i + d = l0.length + l2.length → l0.length ≤ 100 → l2.length ≤ 100 → l1.length ≤ 100000 → (∀ x ∈ l0, Raw x) → (∀ x ∈ l2, Raw x) → (∀ x ∈ l0.take i, Tame x) → (∀ x ∈ l2.take (i - l0.length), Tame x) →
    Ev (fun k => laws_FnBuildTooMuch.l0 k l0 l1 l2 (i : Int)) true := by
  intro d
  induction d with
  | zero =>
    intro l0 l2 l1 i hi h0 h2 h1 hr0 hr2 ht0 ht2
    rw [List.take_of_length_le (by omega)] at ht0
    rw [List.take_of_length_le (by omega)] at ht2
    exact tooEnd l0 l2 l1 i (by unfold wrap64; omega) h0 h2 h1 hr0 hr2 ht0 ht2
  | succ d ih =>
    intro l0 l2 l1 i hi h0 h2 h1 hr0 hr2 ht0 ht2
    have w1 : wrap64 ((i : Int) + 1) = ((i + 1 : Nat) : Int) := by unfold wrap64; omega
    have hlt : (i : Int) < wrap64 ((l0.length : Int) + (l2.length : Int)) := by unfold wrap64; omega
    by_cases c : i < l0.length
    · have nxt : Tame l0[i] → Ev (fun k => laws_FnBuildTooMuch.l0 k l0 l1 l2 ((i + 1 : Nat) : Int)) true := fun ht => by
        refine ih l0 l2 l1 (i + 1) (by omega) h0 h2 h1 hr0 hr2 (fun x hx => ?_) (fun x hx => ?_)
        · rw [List.take_succ_eq_append_getElem c, List.mem_append] at hx
          rcases hx with hx | hx
          · exact ht0 x hx
          · simp at hx; subst hx; exact ht
        · rw [show i + 1 - l0.length = 0 by omega] at hx; simp at hx
      have e := rd_in l0 i c
      by_cases k0 : (l0[i]).f0 < 0
      · refine Ev.step (f := fun _ => some true) (fun k => ?_) (Ev.now _)
        rw [laws_FnBuildTooMuch.l0, if_pos hlt, if_pos (by omega), if_pos (by omega), e, if_pos k0]
      by_cases k2 : (l0[i]).f0 > 2
      · refine Ev.step (f := fun _ => some true) (fun k => ?_) (Ev.now _)
        rw [laws_FnBuildTooMuch.l0, if_pos hlt, if_pos (by omega), if_pos (by omega), e, if_neg k0, if_pos k2]
      by_cases k3 : (l0[i]).f1 = -9223372036854775808
      · refine Ev.step (f := fun _ => some true) (fun k => ?_) (Ev.now _)
        rw [laws_FnBuildTooMuch.l0, if_pos hlt, if_pos (by omega), if_pos (by omega), e, if_neg k0, if_neg k2, if_pos k3]
      by_cases k4 : ((l0[i]).f2.length : Int) > 520
      · refine Ev.step (f := fun _ => some true) (fun k => ?_) (Ev.now _)
        rw [laws_FnBuildTooMuch.l0, if_pos hlt, if_pos (by omega), if_pos (by omega), e, if_neg k0, if_neg k2, if_neg k3]
        repeat' split
        all_goals first | rfl | omega
      · have ht : Tame l0[i] := ⟨by omega, by omega, k3, by omega⟩
        by_cases k5 : (l0[i]).f0 = 0 ∧ ((l0[i]).f1 < 0 ∨ (l0[i]).f1 > 255)
        · refine Ev.step (f := fun _ => some true) (fun k => ?_) (Ev.now _)
          rw [laws_FnBuildTooMuch.l0, if_pos hlt, if_pos (by omega), if_pos (by omega), e, if_neg k0, if_neg k2, if_neg k3, if_pos k5.1]
          rcases k5.2 with h | h
          · rw [if_pos h]
          · rw [if_neg (by omega), if_pos h]
        · refine Ev.step (fun k => ?_) (nxt ht)
          rw [laws_FnBuildTooMuch.l0, if_pos hlt, if_pos (by omega), if_pos (by omega), e, if_neg k0, if_neg k2, if_neg k3, w1]
          by_cases k6 : (l0[i]).f0 = 0
          · rw [if_pos k6, if_neg (by omega), if_neg (by omega), if_neg k4]
          · rw [if_neg k6, if_neg k4]
    · have c2 : i - l0.length < l2.length := by omega
      obtain ⟨j, hj⟩ : ∃ j, j = i - l0.length := ⟨_, rfl⟩
      rw [← hj] at c2 ht2
      have w2 : wrap64 ((i : Int) - (l0.length : Int)) = (j : Int) := by unfold wrap64; omega
      have nxt : Tame l2[j] → Ev (fun k => laws_FnBuildTooMuch.l0 k l0 l1 l2 ((i + 1 : Nat) : Int)) true := fun ht => by
        refine ih l0 l2 l1 (i + 1) (by omega) h0 h2 h1 hr0 hr2 (fun x hx => ?_) (fun x hx => ?_)
        · rw [List.take_of_length_le (by omega)] at hx ht0
          exact ht0 x hx
        · rw [show i + 1 - l0.length = j + 1 by omega, List.take_succ_eq_append_getElem c2, List.mem_append] at hx
          rcases hx with hx | hx
          · exact ht2 x hx
          · simp at hx; subst hx; exact ht
      have e := rd_in l2 j c2
      by_cases k0 : (l2[j]).f0 < 0
      · refine Ev.step (f := fun _ => some true) (fun k => ?_) (Ev.now _)
        rw [laws_FnBuildTooMuch.l0, if_pos hlt, if_neg (by omega), w2, if_pos (by omega), if_pos (by omega), e, if_pos k0]
      by_cases k2 : (l2[j]).f0 > 2
      · refine Ev.step (f := fun _ => some true) (fun k => ?_) (Ev.now _)
        rw [laws_FnBuildTooMuch.l0, if_pos hlt, if_neg (by omega), w2, if_pos (by omega), if_pos (by omega), e, if_neg k0, if_pos k2]
      by_cases k3 : (l2[j]).f1 = -9223372036854775808
      · refine Ev.step (f := fun _ => some true) (fun k => ?_) (Ev.now _)
        rw [laws_FnBuildTooMuch.l0, if_pos hlt, if_neg (by omega), w2, if_pos (by omega), if_pos (by omega), e, if_neg k0, if_neg k2, if_pos k3]
      by_cases k4 : ((l2[j]).f2.length : Int) > 520
      · refine Ev.step (f := fun _ => some true) (fun k => ?_) (Ev.now _)
        rw [laws_FnBuildTooMuch.l0, if_pos hlt, if_neg (by omega), w2, if_pos (by omega), if_pos (by omega), e, if_neg k0, if_neg k2, if_neg k3]
        repeat' split
        all_goals first | rfl | omega
      · have ht : Tame l2[j] := ⟨by omega, by omega, k3, by omega⟩
        by_cases k5 : (l2[j]).f0 = 0 ∧ ((l2[j]).f1 < 0 ∨ (l2[j]).f1 > 255)
        · refine Ev.step (f := fun _ => some true) (fun k => ?_) (Ev.now _)
          rw [laws_FnBuildTooMuch.l0, if_pos hlt, if_neg (by omega), w2, if_pos (by omega), if_pos (by omega), e, if_neg k0, if_neg k2, if_neg k3, if_pos k5.1]
          rcases k5.2 with h | h
          · rw [if_pos h]
          · rw [if_neg (by omega), if_pos h]
        · refine Ev.step (fun k => ?_) (nxt ht)
          rw [laws_FnBuildTooMuch.l0, if_pos hlt, if_neg (by omega), w2, if_pos (by omega), if_pos (by omega), e, if_neg k0, if_neg k2, if_neg k3, w1]
          by_cases k6 : (l2[j]).f0 = 0
          · rw [if_pos k6, if_neg (by omega), if_neg (by omega), if_neg k4]
          · rw [if_neg k6, if_neg k4]
theorem lawToo (l0 l2 : List Sp) (l1 : List Int) (hr0 : ∀ x ∈ l0, Raw x) (hr2 : ∀ x ∈ l2, Raw x) : ∃ k, laws_FnBuildTooMuch.f k l0 l1 l2 = some true := by
  have j0t : Ev (fun k => laws_FnBuildTooMuch.j0 k l0 l1 l2 true) true := Ev.step (f := fun _ => some true) (fun k => by rw [laws_FnBuildTooMuch.j0, if_pos rfl]) (Ev.now _)
  have j1t : Ev (fun k => laws_FnBuildTooMuch.j1 k l0 l1 l2 true) true := Ev.step (f := fun _ => some true) (fun k => by rw [laws_FnBuildTooMuch.j1, if_pos rfl]) (Ev.now _)
  obtain ⟨b, hb, _⟩ := fits l0
  obtain ⟨b2, hb2, _⟩ := fits l2
  refine Ev.rounds (g := fun k => laws_FnBuildTooMuch.f k l0 l1 l2) ?_
  refine Ev.congr (f := fun k => (laws_zzFits18.f k l0).bind fun t140 => (if t140 = true then (if (l1.length : Int) > 2147483647 then (laws_FnBuildTooMuch.j0 k l0 l1 l2 true) else ((laws_zzFits18.f k l2).bind fun t141 => (laws_FnBuildTooMuch.j0 k l0 l1 l2 (!t141)))) else (laws_FnBuildTooMuch.j0 k l0 l1 l2 true))) (fun k => rfl) (Ev.bind hb ?_)
  cases b with
  | false => exact Ev.congr (fun k => if_neg (by decide)) j0t
  | true =>
    by_cases c : (l1.length : Int) > 2147483647
    · exact Ev.congr (fun k => by rw [if_pos rfl, if_pos c]) j0t
    refine Ev.congr (f := fun k => (laws_zzFits18.f k l2).bind fun t141 => (laws_FnBuildTooMuch.j0 k l0 l1 l2 (!t141))) (fun k => by rw [if_pos rfl, if_neg c]) (Ev.bind hb2 ?_)
    cases b2 with
    | false => exact j0t
    | true =>
      by_cases c0 : (l0.length : Int) > 100
      · refine Ev.step (fun k => ?_) j1t
        show laws_FnBuildTooMuch.j0 (k + 1) l0 l1 l2 false = _
        rw [laws_FnBuildTooMuch.j0, if_neg (by decide), awakeB, Option.bind_some, if_pos rfl, if_pos c0]
      by_cases c2 : (l2.length : Int) > 100
      · refine Ev.step (fun k => ?_) j1t
        show laws_FnBuildTooMuch.j0 (k + 1) l0 l1 l2 false = _
        rw [laws_FnBuildTooMuch.j0, if_neg (by decide), awakeB, Option.bind_some, if_pos rfl, if_neg c0, if_pos c2]
      by_cases c1 : (l1.length : Int) > 100000
      · refine Ev.step (fun k => ?_) j1t
        show laws_FnBuildTooMuch.j0 (k + 1) l0 l1 l2 false = _
        rw [laws_FnBuildTooMuch.j0, if_neg (by decide), awakeB, Option.bind_some, if_pos rfl, if_neg c0, if_neg c2, decide_eq_true c1]
      · refine Ev.step (f := fun k => laws_FnBuildTooMuch.j1 k l0 l1 l2 false) (fun k => ?_) (Ev.step (fun k => ?_) (tooLoop (l0.length + l2.length) l0 l2 l1 0 (by omega) (by omega) (by omega) (by omega) hr0 hr2 (fun x hx => by simp at hx) (fun x hx => by simp at hx)))
        · show laws_FnBuildTooMuch.j0 (k + 1) l0 l1 l2 false = _
          rw [laws_FnBuildTooMuch.j0, if_neg (by decide), awakeB, Option.bind_some, if_pos rfl, if_neg c0, if_neg c2, decide_eq_false c1]
        · rw [laws_FnBuildTooMuch.j1, if_neg (by decide)]; rfl
end Go.Proofs.Ytdmpjoglejnpbab.Bd
