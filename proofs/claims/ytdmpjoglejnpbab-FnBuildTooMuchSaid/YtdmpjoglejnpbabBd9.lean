/- FnBuilt: the plain law. -/
import Derived.Test.YtdmpjoglejnpbabLawB
namespace Go.Proofs.Ytdmpjoglejnpbab.Bd
open Go.RowKit Go.Proofs.YtdmpjoglejnpbabW.PrintWords Go.Proofs.YtdmpjoglejnpbabW.PrintLast Go.Proofs.YtdmpjoglejnpbabW.PrintMore Go.Proofs.Ytdmpjoglejnpbab.QFnBuilt
set_option linter.unusedVariables false
set_option linter.unusedSimpArgs false
theorem ev_same (l : List Int) (hl : l.length ≤ 1000000) : Ev (fun k => laws_same.f k l l) true := by
  have w64 : ∀ x : Int, 0 ≤ x → x ≤ 9223372036854775807 → wrap64 x = x := fun x h0 h1 => by unfold wrap64; omega
  have key : ∀ d (i : Nat), i + d = l.length → Ev (fun k => laws_same.l0 k l l i) true := by
    intro d
    induction d with
    | zero =>
      intro i hi
      refine Ev.step (fun k => ?_) (Ev.now _)
      rw [laws_same.l0, if_neg (by omega)]
    | succ d ih =>
      intro i hi
      refine Ev.step (fun k => ?_) (ih (i + 1) (by omega))
      rw [laws_same.l0, if_pos (by omega), if_pos (by omega), if_pos (by omega), if_pos rfl, w64 _ (by omega) (by omega)]
      rfl
  refine Ev.congr (fun k => ?_) (key l.length 0 (by omega))
  unfold laws_same.f
  rw [if_pos rfl]; rfl
/-- What came in. -/
structure Raw (x : Sp) : Prop where
  lo : -9223372036854775808 ≤ x.f1
  hi : x.f1 ≤ 9223372036854775807
  b : By x.f2
theorem rd_in (l : List Sp) (i : Nat) (hi : i < l.length) : rd_T27 l (i : Int) = l[i] := by
  show l.getD (i : Int).toNat _ = _
  rw [Int.toNat_natCast, List.getD_eq_getElem?_getD, List.getElem?_eq_getElem hi]; rfl
theorem w64 (x : Int) (h0 : 0 ≤ x) (h1 : x ≤ 9223372036854775807) : wrap64 x = x := by unfold wrap64; omega
/-- The sizes fit, or they do not. -/
theorem fits (l : List Sp) : ∃ b, Ev (fun k => laws_zzFits18.f k l) b ∧ (b = true → l.length ≤ 2147483647 ∧ ∀ x ∈ l, x.f2.length ≤ 2147483647) := by
  by_cases h0 : (l.length : Int) > 2147483647
  · exact ⟨false, Ev.congr (fun k => by unfold laws_zzFits18.f; rw [if_pos h0]) (Ev.now _), fun h => by cases h⟩
  have key : ∀ d (i : Nat), i + d = l.length → ∃ b, Ev (fun k => laws_zzFits18.l0 k l (l.length : Int) i) b ∧ (b = true → ∀ j (hj : j < l.length), i ≤ j → (l[j]).f2.length ≤ 2147483647) := by
    intro d
    induction d with
    | zero =>
      intro i hi
      refine ⟨true, Ev.step (fun k => ?_) (Ev.now _), fun _ j hj hij => by omega⟩
      rw [laws_zzFits18.l0, if_neg (by omega)]
    | succ d ih =>
      intro i hi
      have hil : i < l.length := by omega
      by_cases h1 : ((l[i]).f2.length : Int) > 2147483647
      · refine ⟨false, Ev.step (fun k => ?_) (Ev.now _), fun h => by cases h⟩
        rw [laws_zzFits18.l0, if_pos (by omega), if_pos (by omega), if_pos (by omega), rd_in l i hil]
        unfold laws_zzFits19.f
        rw [if_pos h1]; rfl
      · obtain ⟨b, hb, hb2⟩ := ih (i + 1) (by omega)
        refine ⟨b, Ev.step (fun k => ?_) hb, fun h j hj hij => ?_⟩
        · rw [laws_zzFits18.l0, if_pos (by omega), if_pos (by omega), if_pos (by omega), rd_in l i hil]
          unfold laws_zzFits19.f
          rw [if_neg h1, Option.bind_some, if_pos rfl, w64 _ (by omega) (by omega)]
          rfl
        · by_cases e : j = i
          · subst e; omega
          · exact hb2 h j hj (by omega)
  obtain ⟨b, hb, hb2⟩ := key l.length 0 (by omega)
  refine ⟨b, Ev.congr (fun k => ?_) hb, fun h => ⟨by omega, fun x hx => ?_⟩⟩
  · unfold laws_zzFits18.f
    rw [if_neg h0]; rfl
  · obtain ⟨j, hj, rfl⟩ := List.getElem_of_mem hx
    exact hb2 h j hj (by omega)
theorem ev_spec (l : List Sp) (hl : l.length ≤ 300) (hg : ∀ x ∈ l, Good x) : Ev (fun k => spec_Built.f k l) (sb [] l) :=
  ⟨400, fun k hk => by
    obtain ⟨k, rfl⟩ : ∃ q, k = q + 1 := ⟨k - 1, by omega⟩
    exact specBuilt l k l [] 0 (by simp) (by omega) (by omega) (by simp) hg⟩
theorem evEnd (l : List Sp) (n : Int) (hl : l.length ≤ 300) (hg : ∀ x ∈ l, Good x) (hst : ∀ i (h : i < l.length), (sb [] (l.take i)).2 = false → isStep l[i]) : Ev (fun k => laws_FnBuilt.l0 k l n (l.length : Nat)) true := by
  have hok : okB l := ⟨by omega, fun x hx => ⟨by have := (hg x hx).l; omega, fun _ => ⟨(hg x hx).lo, (hg x hx).hi⟩⟩⟩
  obtain ⟨r1, r2⟩ := run_sb l [] (by simp) hst
  have e1 : (runB nb l).2 = !(sb [] l).2 := r1
  have e2 : (sb [] l).2 = true → (runB nb l).1 = (sb [] l).1 := r2
  have step : ∀ k, laws_FnBuilt.l0 (k + 1) l n (l.length : Nat) = (spec_Built.f k l).bind fun bt190 => ((impl_Build.f l).bind fun bt194 => (if (bt194.2 == bt190.2) = true then (if bt190.2 = true then ((laws_same.f k bt194.1 bt190.1).bind fun t198 => (some t198)) else (some true)) else (some false))) := fun k => by
    rw [laws_FnBuilt.l0, if_neg (by omega)]
  refine Ev.step step (Ev.bind (ev_spec l hl hg) ?_)
  have hi : impl_Build.f l = some ((runB nb l).1, !(runB nb l).2) := by unfold impl_Build.f; rw [if_pos hok]
  simp only [hi, Option.bind_some, e1, Bool.not_not, beq_self_eq_true, if_true]
  by_cases c : (sb [] l).2 = true
  · simp only [c, if_true, e2 c]
    refine Ev.bind (ev_same _ ?_) (Ev.now _)
    have := runB_le nb l
    rw [e2 c] at this
    omega
  · simp only [c]
    exact Ev.now _
theorem evLoop : ∀ d (l : List Sp) (n : Int) (i : Nat), i + d = l.length → l.length ≤ 300 → (∀ x ∈ l, Raw x) → (∀ x ∈ l.take i, Good x) → (∀ j (h : j < l.length), j < i → (sb [] (l.take j)).2 = false → isStep l[j]) → 0 ≤ n → n ≤ 100000 →
    Ev (fun k => laws_FnBuilt.l0 k l n (i : Int)) true := by
  intro d
  induction d with
  | zero =>
    intro l n i hi hl hr hg hs h0 h1
    obtain rfl : i = l.length := by omega
    rw [List.take_length] at hg
    exact evEnd l n hl hg (fun j hj h => hs j hj hj h)
  | succ d ih =>
    intro l n i hi hl hr hg hs h0 h1
    have hil : i < l.length := by omega
    have hx := hr l[i] (List.getElem_mem hil)
    -- the sum
    by_cases c0 : ((l[i]).f2.length : Int) ≤ 100000 ∧ n + ((l[i]).f2.length : Int) ≤ 100000
    · have em : laws_more.f n ((l[i]).f2.length : Int) = some (n + (l[i]).f2.length) := by
        unfold laws_more.f
        rw [if_neg (by omega), if_neg (by omega), w64 _ (by omega) (by omega), if_neg (by omega)]
      by_cases c1 : (l[i]).f1 = -9223372036854775808
      · refine Ev.step (f := fun k => laws_FnBuilt.j1 k l (n + (l[i]).f2.length) i true) (fun k => ?_) (Ev.step (f := fun _ => some true) (fun k => ?_) (Ev.now _))
        · rw [laws_FnBuilt.l0, if_pos (by omega), if_pos (by omega), rd_in l i hil, em, Option.bind_some, if_pos c1]
        · rw [laws_FnBuilt.j1, if_pos rfl]
      have rest : ((l[i]).f0 = 1 → (l[i]).f2 ≠ [0]) → Ev (fun k => laws_FnBuilt.j1 k l (n + (l[i]).f2.length) i false) true := by
        intro hz
        have gx : Good l[i] := ⟨by have := hx.lo; omega, hx.hi, hx.b, by omega, hz⟩
        have hg2 : ∀ x ∈ l.take (i + 1), Good x := by
          intro x hx2
          rw [List.take_succ_eq_append_getElem hil, List.mem_append] at hx2
          rcases hx2 with h | h
          · exact hg x h
          · simp at h; rw [h]; exact gx
        have nxt : isStep l[i] ∨ (sb [] (l.take i)).2 = true → Ev (fun k => laws_FnBuilt.l0 k l (n + (l[i]).f2.length) ((i + 1 : Nat) : Int)) true := by
          intro hor
          refine ih l _ (i + 1) (by omega) hl hr hg2 (fun j hj hji h => ?_) (by omega) c0.2
          by_cases e : j = i
          · subst e
            rcases hor with h2 | h2
            · exact h2
            · rw [h] at h2; cases h2
          · exact hs j hj (by omega) h
        have ec : ((i : Int)).toNat = i := Int.toNat_natCast i
        have w1 : wrap64 ((i : Int) + 1) = ((i + 1 : Nat) : Int) := by unfold wrap64; omega
        have step : ∀ k, laws_FnBuilt.j1 (k + 1) l (n + (l[i]).f2.length) i false = (spec_Built.f k (l.take i)).bind fun bt209 => (if bt209.2 = true then (laws_FnBuilt.l0 k l (n + (l[i]).f2.length) (i + 1 : Nat)) else (if (l[i]).f0 < 0 then (some true) else (if (l[i]).f0 > 3 then (some true) else (laws_FnBuilt.l0 k l (n + (l[i]).f2.length) (i + 1 : Nat))))) := by
          intro k
          rw [laws_FnBuilt.j1, if_neg (by decide), if_pos (by omega), if_pos (by omega), ec, rd_in l i hil, w1]
          congr 1
          funext bt
          rw [if_pos (show (i : Int) < (l.length : Int) by omega)]
        refine Ev.step step (Ev.bind (ev_spec (l.take i) (by rw [List.length_take]; omega) hg) ?_)
        by_cases c3 : (sb [] (l.take i)).2 = true
        · simp only [c3, if_true]
          exact nxt (.inr c3)
        · simp only [c3]
          by_cases c4 : (l[i]).f0 < 0
          · refine Ev.congr (fun k => ?_) (Ev.now _)
            rw [if_neg (by decide), if_pos c4]
          by_cases c5 : (l[i]).f0 > 3
          · refine Ev.congr (fun k => ?_) (Ev.now _)
            rw [if_neg (by decide), if_neg c4, if_pos c5]
          · refine Ev.congr (fun k => ?_) (nxt (.inl ⟨by omega, by omega⟩))
            rw [if_neg (by decide), if_neg c4, if_neg c5]
      by_cases c2 : (l[i]).f0 = 1
      · by_cases c3 : (l[i]).f2 = [0]
        · refine Ev.step (f := fun k => laws_FnBuilt.j1 k l (n + (l[i]).f2.length) i true) (fun k => ?_) (Ev.step (f := fun _ => some true) (fun k => ?_) (Ev.now _))
          · rw [laws_FnBuilt.l0, if_pos (by omega), if_pos (by omega), rd_in l i hil, em, Option.bind_some, if_neg c1, if_neg (by omega), if_pos c2, c3]; rfl
          · rw [laws_FnBuilt.j1, if_pos rfl]
        · refine Ev.step (f := fun k => laws_FnBuilt.j1 k l (n + (l[i]).f2.length) i false) (fun k => ?_) (rest (fun _ => c3))
          have ez : laws_zero.f (l[i]).f2 = some false := by
            unfold laws_zero.f
            by_cases c4 : ((l[i]).f2.length : Int) = 1
            · rw [if_pos c4, if_pos (by omega)]
              congr 1
              rw [beq_eq_false_iff_ne]
              intro h
              apply c3
              match hm : (l[i]).f2, c4, h with
              | [y], _, h => rw [show y = 0 from h]
              | [], c4, _ => simp at c4
              | y :: z :: r, c4, _ => simp at c4; omega
            · rw [if_neg c4]
          rw [laws_FnBuilt.l0, if_pos (by omega), if_pos (by omega), rd_in l i hil, em, Option.bind_some, if_neg c1, if_neg (by omega), if_pos c2, ez, Option.bind_some]
      · refine Ev.step (f := fun k => laws_FnBuilt.j1 k l (n + (l[i]).f2.length) i false) (fun k => ?_) (rest (fun h => absurd h c2))
        rw [laws_FnBuilt.l0, if_pos (by omega), if_pos (by omega), rd_in l i hil, em, Option.bind_some, if_neg c1, if_neg (by omega), if_neg c2]
    · have em : ∀ hlen : (l[i]).f2.length ≤ 9223372036854675807, laws_more.f n ((l[i]).f2.length : Int) = some 100001 := by
        intro hlen
        unfold laws_more.f
        rw [if_neg (by omega)]
        by_cases c1 : ((l[i]).f2.length : Int) > 100000
        · rw [if_pos c1]
        · rw [if_neg c1, w64 _ (by omega) (by omega), if_pos (by omega)]
      have em : laws_more.f n ((l[i]).f2.length : Int) = some 100001 := by
        by_cases c1 : ((l[i]).f2.length : Int) > 100000
        · unfold laws_more.f
          rw [if_neg (by omega), if_pos c1]
        · exact em (by omega)
      refine Ev.step (f := fun k => laws_FnBuilt.j1 k l 100001 i true) (fun k => ?_) (Ev.step (f := fun _ => some true) (fun k => ?_) (Ev.now _))
      · rw [laws_FnBuilt.l0, if_pos (by omega), if_pos (by omega), rd_in l i hil, em, Option.bind_some]
        split
        · rfl
        · rw [if_pos (by decide)]
      · rw [laws_FnBuilt.j1, if_pos rfl]
theorem lawBuilt (l : List Sp) (hr : ∀ x ∈ l, Raw x) : ∃ k, laws_FnBuilt.f k l = some true := by
  obtain ⟨b, hb, hb2⟩ := fits l
  refine Ev.rounds (g := fun k => laws_FnBuilt.f k l) ?_
  refine Ev.congr (f := fun k => (laws_zzFits18.f k l).bind fun t189 => (if t189 = true then (if (l.length : Int) > 300 then (some true) else (laws_FnBuilt.l0 k l 0 0)) else (some true))) (fun k => rfl) (Ev.bind hb ?_)
  cases b with
  | false => exact Ev.congr (fun k => if_neg (by decide)) (Ev.now _)
  | true =>
    by_cases c : (l.length : Int) > 300
    · exact Ev.congr (fun k => by rw [if_pos rfl, if_pos c]) (Ev.now _)
    · refine Ev.congr (fun k => by rw [if_pos rfl, if_neg c]) ?_
      exact evLoop l.length l 0 0 (by omega) (by omega) hr (fun x hx => by simp at hx) (fun j _ hj => by omega) (by omega) (by omega)
end Go.Proofs.Ytdmpjoglejnpbab.Bd
