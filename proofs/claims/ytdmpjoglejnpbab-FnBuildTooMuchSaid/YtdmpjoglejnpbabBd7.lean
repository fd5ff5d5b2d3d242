/- The reference's pushes and builder, and the package's beside it. -/
import Derived.Test.YtdmpjoglejnpbabBd6
namespace Go.Proofs.Ytdmpjoglejnpbab.Bd
open Go.RowKit Go.Proofs.YtdmpjoglejnpbabW.PrintWords Go.Proofs.YtdmpjoglejnpbabW.PrintLast Go.Proofs.YtdmpjoglejnpbabW.PrintMore Go.Proofs.Ytdmpjoglejnpbab.QFnBuilt
set_option linter.unusedVariables false
set_option linter.unusedSimpArgs false
theorem lb_by : ∀ k m, m ≤ k → By (lb m)
  | 0, m, h => by
    have : m = 0 := by omega
    subst this; rw [lb_zero]; intro x hx; simp at hx
  | k + 1, m, h => by
    by_cases hm : m = 0
    · subst hm; rw [lb_zero]; intro x hx; simp at hx
    · rw [lb_pos hm]
      intro x hx
      rcases List.mem_cons.1 hx with hx | hx
      · subst hx; omega
      · exact lb_by k (m / 256) (by omega) x hx
theorem fin_by (neg : Bool) {l : List Int} (h : By l) : By (fin neg l) := by
  obtain ⟨h0, h1⟩ := getD_by h (l.length - 1)
  unfold fin
  repeat' split
  · intro x hx
    rcases List.mem_or_eq_of_mem_set hx with hx | hx
    · exact h x hx
    · subst hx; omega
  · exact h
  · exact by_snoc h (by decide) (by decide)
  · exact by_snoc h (by decide) (by decide)
theorem nb_by (n : Int) : By (nb n) := by
  unfold nb
  split
  · intro x hx; simp at hx
  · exact fin_by _ (lb_by _ _ (Nat.le_refl _))
theorem fin_nz (neg : Bool) (m : Nat) (hm : m ≠ 0) : fin neg (lb m) ≠ [0] := by
  intro e
  by_cases h2 : m < 256
  · rw [lb_small _ hm h2] at e
    unfold fin at e
    by_cases c : (m : Int) < 128
    · cases neg
      · simp [c] at e; omega
      · simp [c] at e; omega
    · cases neg
      · simp [c] at e
      · simp [c] at e
  · have hl : (fin neg (lb m)).length = 1 := by rw [e]; rfl
    have hl2 : (lb m).length ≤ (fin neg (lb m)).length := by
      unfold fin
      repeat' split
      all_goals simp
    rw [hl, lb_pos hm, lb_pos (show m / 256 ≠ 0 by omega)] at hl2
    simp at hl2
theorem nb_nz (n : Int) : nb n ≠ [0] := by
  unfold nb
  split
  · simp
  · exact fin_nz _ _ (by omega)
theorem leastAny (d : List Int) (hl : d.length ≤ 520) (k : Nat) (hk : 3 ≤ k) : spec_Least.f k d = some (if d.length = 0 then 0 else if d.length = 1 ∧ 1 ≤ d.getD 0 0 ∧ d.getD 0 0 ≤ 16 then 80 + d.getD 0 0 else if d.length = 1 ∧ d.getD 0 0 = 129 then 79 else if d.length < 76 then (d.length : Int) else if d.length ≤ 255 then 76 else 77) := by
  obtain ⟨k, rfl⟩ : ∃ q, k = q + 3 := ⟨k - 3, by omega⟩
  unfold spec_Least.f
  have e : rd d 0 = d.getD 0 0 := rfl
  by_cases c0 : d.length = 0
  · rw [if_pos (by omega), if_pos c0]
  rw [if_neg (by omega), if_neg c0]
  have tail : ∀ b : Bool, b = false → spec_Least.j1 (k + 1) (d.length : Int) b = some (if d.length < 76 then (d.length : Int) else if d.length ≤ 255 then 76 else 77) := by
    intro b hb
    subst hb
    rw [spec_Least.j1, if_neg (by decide)]
    by_cases c2 : d.length < 76
    · rw [if_pos (by omega), if_pos c2]
    rw [if_neg (by omega), if_neg c2]
    by_cases c3 : d.length ≤ 255
    · rw [if_pos (by omega), if_pos c3]
    · rw [if_neg (by omega), if_neg c3, if_pos (by omega)]
  by_cases c1 : d.length = 1
  · rw [if_pos (by omega), if_pos (by omega), e]
    have mid : spec_Least.j0 (k + 3) d (d.length : Int) false = some (if d.length = 1 ∧ d.getD 0 0 = 129 then 79 else if d.length < 76 then (d.length : Int) else if d.length ≤ 255 then 76 else 77) := by
      rw [spec_Least.j0, if_neg (by decide), if_pos (by omega), if_pos (by omega), e]
      by_cases c3 : d.getD 0 0 = 129
      · rw [if_pos ⟨c1, c3⟩, spec_Least.j1, if_pos (beq_iff_eq.2 c3)]
      · rw [if_neg (fun h => c3 h.2)]
        rw [spec_Least.j1, if_neg (fun h => c3 (beq_iff_eq.1 h))]
        by_cases c2 : d.length < 76
        · rw [if_pos (by omega), if_pos c2]
        · omega
    by_cases c2 : 1 ≤ d.getD 0 0
    · rw [if_pos c2]
      by_cases c3 : d.getD 0 0 ≤ 16
      · rw [if_pos ⟨c1, c2, c3⟩, spec_Least.j0, if_pos (decide_eq_true c3), if_pos (by omega), e]
        congr 1; unfold wrap64; omega
      · rw [if_neg (fun h => c3 h.2.2), decide_eq_false c3]
        exact mid
    · rw [if_neg c2, if_neg (fun h => c2 h.2.1)]
      exact mid
  · rw [if_neg (by omega), if_neg (fun h => c1 h.1), if_neg (fun h => c1 h.1), spec_Least.j0, if_neg (by decide), if_neg (by omega)]
    rw [spec_Least.j1, if_neg (by decide)]
    by_cases c2 : d.length < 76
    · rw [if_pos (by omega), if_pos c2]
    rw [if_neg (by omega), if_neg c2]
    by_cases c3 : d.length ≤ 255
    · rw [if_pos (by omega), if_pos c3]
    · rw [if_neg (by omega), if_neg c3, if_pos (by omega)]
theorem specPush (d : List Int) (hb : By d) (hz : d ≠ [0]) (hl : d.length ≤ 520) (k : Nat) (hk : 6 ≤ k) : spec_Push.f k d = some (pushD d) := by
  unfold spec_Push.f
  have hL := leastAny d hl k (by omega)
  obtain ⟨k, rfl⟩ : ∃ q, k = q + 5 := ⟨k - 5, by omega⟩
  by_cases c0 : d.length = 0
  · rw [if_pos c0] at hL
    rw [hL, Option.bind_some, Option.bind_some, if_pos rfl, spec_Push.j0, if_pos rfl]
    unfold pushD; rw [if_pos c0]; rfl
  rw [if_neg c0] at hL
  by_cases c1 : d.length = 1
  · have hd : d = [d.getD 0 0] := by
      match d, c1 with
      | [x], _ => rfl
    obtain ⟨g0, g1⟩ := getD_by hb 0
    have hx0 : ¬ d.getD 0 0 = 0 := fun h => hz (by rw [hd, h])
    have hp : pushD d = if d.getD 0 0 ≤ 16 then [(80 + d.getD 0 0) % 256] else if d.getD 0 0 = 129 then [79] else [1, d.getD 0 0] := by
      unfold pushD; rw [if_neg c0, if_pos c1, if_neg hx0]
    rw [hp]
    by_cases c2 : d.getD 0 0 ≤ 16
    · rw [if_pos (show d.length = 1 ∧ 1 ≤ d.getD 0 0 ∧ d.getD 0 0 ≤ 16 from ⟨c1, by omega, c2⟩)] at hL
      rw [hL, Option.bind_some, Option.bind_some, if_neg (by omega), decide_eq_true (by omega), spec_Push.j0, if_pos rfl, if_pos c2]
    rw [if_neg (show ¬ (d.length = 1 ∧ 1 ≤ d.getD 0 0 ∧ d.getD 0 0 ≤ 16) from fun h => c2 h.2.2)] at hL
    rw [if_neg c2]
    by_cases c3 : d.getD 0 0 = 129
    · rw [if_pos (show d.length = 1 ∧ d.getD 0 0 = 129 from ⟨c1, c3⟩)] at hL
      rw [hL, Option.bind_some, Option.bind_some, if_neg (by decide), spec_Push.j0, if_pos (by decide), if_pos c3]; rfl
    · rw [if_neg (show ¬ (d.length = 1 ∧ d.getD 0 0 = 129) from fun h => c3 h.2), if_pos (show d.length < 76 by omega)] at hL
      rw [hL, Option.bind_some, Option.bind_some, if_neg c3, if_neg (by omega), decide_eq_false (by omega), spec_Push.j0, if_neg (by decide), spec_Push.l0, if_neg (by omega), if_pos (by simp; omega), c1]
      congr 1
      rw [hd]; rfl
  rw [if_neg (show ¬ (d.length = 1 ∧ 1 ≤ d.getD 0 0 ∧ d.getD 0 0 ≤ 16) from fun h => c1 h.1), if_neg (show ¬ (d.length = 1 ∧ d.getD 0 0 = 129) from fun h => c1 h.1)] at hL
  by_cases c2 : d.length < 76
  · have hp : pushD d = (d.length : Int) :: d := by unfold pushD; rw [if_neg c0, if_neg c1, if_pos c2]
    rw [if_pos c2] at hL
    rw [hL, Option.bind_some, Option.bind_some, if_neg (by omega), decide_eq_false (by omega), spec_Push.j0, if_neg (by decide), spec_Push.l0, if_neg (by omega), if_pos (by simp; omega), hp, Int.emod_eq_of_lt (by omega) (by omega)]; rfl
  rw [if_neg c2] at hL
  have w0 : wrap64 (76 - 76) = 0 := by unfold wrap64; decide
  have w1 : wrap64 (77 - 76) = 1 := by unfold wrap64; decide
  have s0 : shl .i64 1 0 = 1 := by decide
  have s1 : shl .i64 1 1 = 2 := by decide
  have a0 : wrap64 (0 + 1) = 1 := by unfold wrap64; decide
  have a1 : wrap64 (1 + 1) = 2 := by unfold wrap64; decide
  by_cases c3 : d.length ≤ 255
  · have hp : pushD d = 76 :: (d.length : Int) :: d := by unfold pushD; rw [if_neg c0, if_neg c1, if_neg c2, if_pos c3]
    rw [if_pos c3] at hL
    rw [hL, Option.bind_some, Option.bind_some, if_neg (by decide), decide_eq_false (by decide), spec_Push.j0, if_neg (by decide), spec_Push.l0, if_pos (by decide), w0, if_pos (by decide), s0, if_pos (by decide), if_pos (by simp), a0,
      spec_Push.l0, if_pos (by decide), w0, if_pos (by decide), s0, if_neg (by decide), if_pos (by simp; omega), hp, Int.emod_eq_of_lt (show (0 : Int) ≤ d.length by omega) (by omega)]; rfl
  · have hp : pushD d = 77 :: (d.length : Int) % 256 :: (d.length : Int) / 256 % 256 :: d := by unfold pushD; rw [if_neg c0, if_neg c1, if_neg c2, if_neg c3]
    rw [if_neg c3] at hL
    rw [hL, Option.bind_some, Option.bind_some, if_neg (by decide), decide_eq_false (by decide), spec_Push.j0, if_neg (by decide), spec_Push.l0, if_pos (by decide), w1, if_pos (by decide), s1, if_pos (by decide), if_pos (by simp), a0,
      spec_Push.l0, if_pos (by decide), w1, if_pos (by decide), s1, if_pos (by decide), if_pos (by simp), a1,
      spec_Push.l0, if_pos (by decide), w1, if_pos (by decide), s1, if_neg (by decide), if_pos (by simp; omega), hp]; rfl
abbrev Sp := S27
/-- A step that the statement lets in. -/
structure Good (x : Sp) : Prop where
  lo : -9223372036854775808 < x.f1
  hi : x.f1 ≤ 9223372036854775807
  b : By x.f2
  l : x.f2.length ≤ 100000
  z : x.f0 = 1 → x.f2 ≠ [0]
def moreS (x : Sp) : Option (List Int) := if x.f0 = 0 then some [x.f1 % 256] else if x.f0 = 1 then (if x.f2.length ≤ 520 then some (pushD x.f2) else none) else if x.f0 = 2 then some (pushD (nb x.f1)) else some x.f2
def isStep (x : Sp) : Prop := 0 ≤ x.f0 ∧ x.f0 ≤ 3
instance (x : Sp) : Decidable (isStep x) := inferInstanceAs (Decidable (_ ∧ _))
/-- What the reference's builder makes of steps. -/
def sb : List Int → List Sp → List Int × Bool
  | out, [] => (out, true)
  | out, x :: xs => if isStep x then (match moreS x with | none => (out, false) | some m => if out.length + m.length ≤ 10000 then sb (out ++ m) xs else (out, false)) else sb [] xs
theorem rd_at (l : List Sp) (i : Nat) (x : Sp) (xs : List Sp) (h : l.drop i = x :: xs) : rd_T27 l (i : Int) = x ∧ l.drop (i + 1) = xs ∧ i < l.length := by
  have hi : i < l.length := by
    rcases Nat.lt_or_ge i l.length with h1 | h1
    · exact h1
    · rw [List.drop_eq_nil_of_le h1] at h; cases h
  rw [List.drop_eq_getElem_cons hi] at h
  injection h with h1 h2
  refine ⟨?_, h2, hi⟩
  show l.getD (i : Int).toNat _ = _
  rw [Int.toNat_natCast, List.getD_eq_getElem?_getD, List.getElem?_eq_getElem hi]; exact h1
theorem specBuilt : ∀ (xs : List Sp) (k : Nat) (l : List Sp) (out : List Int) (i : Nat), l.drop i = xs → xs.length + 12 ≤ k → i + xs.length ≤ 1000000 → out.length ≤ 10000 → (∀ x ∈ xs, Good x) → spec_Built.l0 (k + 1) l out (i : Int) = some (sb out xs) := by
  intro xs
  induction xs with
  | nil =>
    intro k l out i hd hk hi ho hg
    have : l.length ≤ i := by
      rcases Nat.lt_or_ge i l.length with h1 | h1
      · rw [List.drop_eq_getElem_cons h1] at hd; cases hd
      · exact h1
    rw [spec_Built.l0, if_neg (by omega)]; rfl
  | cons x xs ih =>
    intro k l out i hd hk hi ho hg
    obtain ⟨e1, e2, e3⟩ := rd_at l i x xs hd
    simp only [List.length_cons] at hk hi
    obtain ⟨k, rfl⟩ : ∃ q, k = q + 1 := ⟨k - 1, by omega⟩
    have gx := hg x (by simp)
    have hn := nb_num x.f1 gx.lo gx.hi
    have ih' := fun out' h => ih k l out' (i + 1) e2 (by omega) (by omega) h (fun y hy => hg y (by simp [hy]))
    have w1 : wrap64 ((i : Int) + 1) = ((i + 1 : Nat) : Int) := by unfold wrap64; omega
    rw [spec_Built.l0, if_pos (by omega), if_pos (by omega), e1, w1, sb]
    have go : ∀ m : List Int, m.length ≤ 200000 → (if wrap64 ((out.length : Int) + (m.length : Int)) > 10000 then some (out, false) else if out.length + m.length < 140737488355328 then spec_Built.l0 (k + 1) l (out ++ m) ((i + 1 : Nat) : Int) else none) = some (if out.length + m.length ≤ 10000 then sb (out ++ m) xs else (out, false)) := by
      intro m hm
      have w2 : wrap64 ((out.length : Int) + (m.length : Int)) = (out.length : Int) + (m.length : Int) := by unfold wrap64; omega
      rw [w2]
      by_cases c : out.length + m.length ≤ 10000
      · rw [if_neg (by omega), if_pos (by omega), if_pos c]
        exact ih' _ (by simp; omega)
      · rw [if_pos (by omega), if_neg c]
    have hpl : ∀ d : List Int, (pushD d).length ≤ d.length + 4 := by
      intro d
      unfold pushD
      repeat' split
      all_goals (simp; try omega)
    by_cases b0 : x.f0 = 0
    · rw [if_pos b0, if_pos (show isStep x from ⟨by omega, by omega⟩), Option.bind_some]
      have e : moreS x = some [x.f1 % 256] := by unfold moreS; rw [if_pos b0]
      rw [e]
      exact go _ (by simp)
    rw [if_neg b0]
    by_cases b1 : x.f0 = 1
    · rw [if_pos b1, if_pos (show isStep x from ⟨by omega, by omega⟩)]
      by_cases c : x.f2.length ≤ 520
      · have e : moreS x = some (pushD x.f2) := by unfold moreS; rw [if_neg b0, if_pos b1, if_pos c]
        rw [e, if_neg (by omega), specPush x.f2 gx.b (gx.z b1) c _ (by omega), Option.bind_some]
        exact go _ (by have := hpl x.f2; omega)
      · have e : moreS x = none := by unfold moreS; rw [if_neg b0, if_pos b1, if_neg c]
        rw [e, if_pos (by omega)]
    rw [if_neg b1]
    by_cases b2 : x.f0 = 2
    · rw [if_pos b2, if_pos (show isStep x from ⟨by omega, by omega⟩)]
      have e : moreS x = some (pushD (nb x.f1)) := by unfold moreS; rw [if_neg b0, if_neg b1, if_pos b2]
      rw [e, specBytes x.f1 gx.lo gx.hi _ (by omega), Option.bind_some, specPush _ (nb_by _) (nb_nz _) (Nat.le_trans hn.len (by decide)) _ (by omega), Option.bind_some]
      exact go _ (by have := hpl (nb x.f1); have := hn.len; omega)
    rw [if_neg b2]
    by_cases b3 : x.f0 = 3
    · rw [if_pos b3, if_pos (show isStep x from ⟨by omega, by omega⟩)]
      have e : moreS x = some x.f2 := by unfold moreS; rw [if_neg b0, if_neg b1, if_neg b2]
      rw [e]
      exact go _ (by have := gx.l; omega)
    · rw [if_neg b3, if_neg (show ¬ isStep x from fun h => by have := h.1; have := h.2; omega)]
      exact ih' [] (by simp)
/-- The package's builder beside the reference's, where no failed one is begun anew. -/
theorem run_sb : ∀ (xs : List Sp) (out : List Int), out.length ≤ 10000 → (∀ i (h : i < xs.length), (sb out (xs.take i)).2 = false → isStep xs[i]) →
    (xs.foldl (stepB nb) (out, false)).2 = !(sb out xs).2 ∧ ((sb out xs).2 = true → (xs.foldl (stepB nb) (out, false)).1 = (sb out xs).1) := by
  have bad : ∀ (xs : List Sp) (s : List Int), (∀ x ∈ xs, isStep x) → (xs.foldl (stepB nb) (s, true)).2 = true := by
    intro xs
    induction xs with
    | nil => intro s _; rfl
    | cons x xs ih =>
      intro s h
      have hx := h x (by simp)
      have e : stepB nb (s, true) x = (s, true) := by
        unfold stepB
        by_cases b0 : x.f0 = 0
        · rw [if_pos b0]; rfl
        rw [if_neg b0]
        by_cases b1 : x.f0 = 1
        · rw [if_pos b1]; unfold dataB; split <;> rfl
        rw [if_neg b1]
        by_cases b2 : x.f0 = 2
        · rw [if_pos b2]; rfl
        rw [if_neg b2, if_pos (by have := hx.1; have := hx.2; omega)]; rfl
      rw [List.foldl_cons, e]
      exact ih s (fun y hy => h y (by simp [hy]))
  intro xs
  induction xs with
  | nil => intro out ho h; exact ⟨rfl, fun _ => rfl⟩
  | cons x xs ih =>
    intro out ho h
    rw [List.foldl_cons]
    by_cases hx : isStep x
    · have stp : stepB nb (out, false) x = match moreS x with | none => (out, true) | some m => if out.length + m.length ≤ 10000 then (out ++ m, false) else (out, true) := by
        have ad : ∀ m, addB (out, false) m = if out.length + m.length ≤ 10000 then (out ++ m, false) else (out, true) := by
          intro m
          by_cases c : out.length + m.length ≤ 10000
          · rw [addB_ok c, if_pos c]
          · rw [addB_no c, if_neg c]
        unfold stepB moreS
        by_cases b0 : x.f0 = 0
        · rw [if_pos b0, if_pos b0]; exact ad _
        rw [if_neg b0, if_neg b0]
        by_cases b1 : x.f0 = 1
        · rw [if_pos b1, if_pos b1]
          unfold dataB
          by_cases c : x.f2.length ≤ 520
          · rw [if_pos c, if_pos c]; exact ad _
          · rw [if_neg c, if_neg c]
        rw [if_neg b1, if_neg b1]
        by_cases b2 : x.f0 = 2
        · rw [if_pos b2, if_pos b2]; exact ad _
        rw [if_neg b2, if_neg b2, if_pos (by have := hx.1; have := hx.2; omega)]
        exact ad _
      have failed : ∀ s, sb out (x :: xs) = (out, false) → (∀ zs, sb out (x :: zs) = (out, false)) → (xs.foldl (stepB nb) (s, true)).2 = !(sb out (x :: xs)).2 ∧ ((sb out (x :: xs)).2 = true → (xs.foldl (stepB nb) (s, true)).1 = (sb out (x :: xs)).1) := by
        intro s e hz
        rw [e]
        refine ⟨bad xs s (fun y hy => ?_), fun h => by cases h⟩
        obtain ⟨j, hj, rfl⟩ := List.getElem_of_mem hy
        have h1 := h (j + 1) (by simp; omega) (by rw [List.take_succ_cons, hz])
        simpa using h1
      rw [stp]
      cases hm : moreS x with
      | none => exact failed out (by rw [sb, if_pos hx, hm]) (fun zs => by rw [sb, if_pos hx, hm])
      | some m =>
        by_cases c : out.length + m.length ≤ 10000
        · have e : ∀ zs, sb out (x :: zs) = sb (out ++ m) zs := fun zs => by rw [sb, if_pos hx, hm]; exact if_pos c
          rw [e]
          dsimp only
          rw [if_pos c]
          refine ih (out ++ m) (by simp; omega) (fun i hi h2 => ?_)
          have h1 := h (i + 1) (by simp; omega) (by rw [List.take_succ_cons, e]; exact h2)
          simpa using h1
        · have e : ∀ zs, sb out (x :: zs) = (out, false) := fun zs => by rw [sb, if_pos hx, hm]; exact if_neg c
          dsimp only
          rw [if_neg c]
          exact failed out (e xs) e
    · have stp : stepB nb (out, false) x = ([], false) := by
        unfold stepB
        have : ¬ (0 ≤ x.f0 ∧ x.f0 ≤ 3) := hx
        rw [if_neg (by omega), if_neg (by omega), if_neg (by omega), if_neg (by omega)]
      have e : ∀ zs, sb out (x :: zs) = sb [] zs := fun zs => by rw [sb, if_neg hx]
      rw [stp, e]
      refine ih [] (by simp) (fun i hi h2 => ?_)
      have h1 := h (i + 1) (by simp; omega) (by rw [List.take_succ_cons, e]; exact h2)
      simpa using h1
end Go.Proofs.Ytdmpjoglejnpbab.Bd
