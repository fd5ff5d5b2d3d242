/- Scripts of many signatures: what the reference says; the law FnClasses: its walk. -/
import Derived.Test.YtfbkjkihcajmdacCls5
namespace Go.Proofs.Ytfbkjkihcajmdac.Tok
open Go.RowKit Go.Proofs.YtfbkjkihcajmdacW.PrintWords Go.Proofs.YtfbkjkihcajmdacW.PrintLast Go.Proofs.YtfbkjkihcajmdacW.PrintMore Go.Proofs.Ytfbkjkihcajmdac.QFnClasses
set_option linter.unusedVariables false
set_option linter.unusedSimpArgs false
/-- By the tokens: a script of many signatures. -/
def ManyT (l : List S36) (b : Int) : Prop := ∃ t0 keys tn tm, l = t0 :: (keys ++ [tn, tm]) ∧ b < 0 ∧ tm.f0 = 174 ∧ Small t0.f0 ∧ Small tn.f0 ∧ smallNum tn.f0 = (keys.length : Int) ∧ ∀ t ∈ keys, ¬ Small t.f0
theorem ev_manyL (full : List S36) (hn : full.length ≤ 1000000) (x2 x3 : Int) (tn tm : S36) : ∀ (ks : List S36) (j : Nat), full.drop j = ks ++ [tn, tm] → j + ks.length + 2 = full.length →
    Ev (fun k => spec_Many.l0 k x2 x3 full (full.length : Int) (j : Nat)) (if ∀ t ∈ ks, ¬ Small t.f0 then (x2, x3, true) else (0, 0, false))
  | [], j, hd, hj => by
    rw [if_pos (by simp)]
    refine Ev.step (f := fun _ => some (x2, x3, true)) (fun k => ?_) (Ev.now _)
    rw [List.length_nil] at hj
    rw [spec_Many.l0, tokW64 (x := (full.length : Int) - 2) (by omega) (by omega), if_neg (by omega)]
  | t :: ks, j, hd, hj => by
    rw [List.length_cons] at hj
    have hjl : j < full.length := by omega
    have he := List.drop_eq_getElem_cons hjl
    rw [hd, List.cons_append] at he
    injection he with e1 e2
    have ht : rd_T36 full (j : Int) = t := by unfold rd_T36; rw [e1]; simp [hjl]
    have hj1 : wrap64 ((j : Int) + 1) = ((j + 1 : Nat) : Int) := by rw [tokW64 (by omega) (by omega)]; rfl
    by_cases hs : Small t.f0
    · rw [if_neg (fun h => h t (by simp) hs)]
      refine Ev.step (f := fun _ => some (0, 0, false)) (fun k => ?_) (Ev.now _)
      rw [spec_Many.l0, tokW64 (x := (full.length : Int) - 2) (by omega) (by omega), if_pos (by omega), if_pos (by omega), if_pos (by omega), ht, small_f hs, Option.bind_some, if_pos rfl]
    · have IH := ev_manyL full hn x2 x3 tn tm ks (j + 1) e2.symm (by omega)
      rw [show (if ∀ u ∈ t :: ks, ¬ Small u.f0 then (x2, x3, true) else (0, 0, false)) = (if ∀ u ∈ ks, ¬ Small u.f0 then (x2, x3, true) else (0, 0, false)) by simp [hs]]
      refine Ev.step (f := fun k => spec_Many.l0 k x2 x3 full (full.length : Int) ((j + 1 : Nat) : Int)) (fun k => ?_) IH
      rw [spec_Many.l0, tokW64 (x := (full.length : Int) - 2) (by omega) (by omega), if_pos (by omega), if_pos (by omega), if_pos (by omega), ht, small_n hs, Option.bind_some, if_neg (by decide), hj1]
theorem split3 {α : Type} (l : List α) (h : 3 ≤ l.length) : ∃ t0 keys tn tm, l = t0 :: (keys ++ [tn, tm]) := by
  match l, h with
  | t0 :: r, h =>
    rw [List.length_cons] at h
    rcases List.eq_nil_or_concat r with e | ⟨r1, tm, e⟩
    · rw [e] at h; simp at h
    · rw [e, List.length_concat] at h
      rcases List.eq_nil_or_concat r1 with e1 | ⟨r2, tn, e1⟩
      · rw [e1] at h; simp at h
      · exact ⟨t0, r2, tn, tm, by rw [e, e1]; simp⟩
theorem ev_manyN (l : List S36) (n : Int) : Ev (fun k => spec_Many.j0 k l n true) (0, 0, false) :=
  Ev.step (f := fun _ => some (0, 0, false)) (fun k => by rw [spec_Many.j0, if_pos rfl]) (Ev.now _)
theorem ev_Many (s : List Int) (hn : s.length ≤ 1000000) (hB : ByteL s) {l : List S36} {b : Int} (h : Toks s 0 l b) : ∃ r1 r2 r, Ev (fun k => spec_Many.f k s) (r1, r2, r) ∧ (r = true ↔ ManyT l b) := by
  have hl := toks_le h
  have hev := ev_Tokens s hn hB h (by omega)
  have NO : (false = true ↔ ManyT l b) ↔ ¬ ManyT l b := ⟨fun h h2 => (by cases h.2 h2), fun h => ⟨fun h2 => (by cases h2), fun h2 => absurd h2 h⟩⟩
  by_cases c1 : b < 0
  rotate_left
  · refine ⟨0, 0, false, Ev.bind hev (Ev.congr (fun k => ?_) (ev_manyN l l.length)), NO.2 ?_⟩
    · simp only []; rw [if_pos (by omega)]
    · rintro ⟨_, _, _, _, _, h, _⟩; exact c1 h
  by_cases c2 : 3 ≤ l.length
  rotate_left
  · refine ⟨0, 0, false, Ev.bind hev (Ev.congr (fun k => ?_) (ev_manyN l l.length)), NO.2 ?_⟩
    · simp only []; rw [if_neg (by omega), if_pos (by omega)]
    · rintro ⟨_, _, _, _, h, _⟩; rw [h] at c2; simp at c2
  obtain ⟨t0, keys, tn, tm, rfl⟩ := split3 l c2
  obtain ⟨full, hfull⟩ : ∃ full, t0 :: (keys ++ [tn, tm]) = full := ⟨_, rfl⟩
  have hlen : full.length = keys.length + 3 := by rw [← hfull]; simp
  have e0 : rd_T36 full 0 = t0 := by rw [← hfull]; rfl
  have en : rd_T36 full ((keys.length + 1 : Nat) : Int) = tn := by unfold rd_T36; rw [← hfull]; simp
  have em : rd_T36 full ((keys.length + 2 : Nat) : Int) = tm := by unfold rd_T36; rw [← hfull, Int.toNat_natCast, show keys.length + 2 = (keys.length + 1) + 1 from rfl, List.getD_cons_succ, List.getD_eq_getElem?_getD, List.getElem?_append_right (by omega)]; simp
  have hdr : full.drop 1 = keys ++ [tn, tm] := by rw [← hfull]; rfl
  have hUN : ManyT (t0 :: (keys ++ [tn, tm])) b ↔ (tm.f0 = 174 ∧ Small t0.f0 ∧ Small tn.f0 ∧ smallNum tn.f0 = (keys.length : Int) ∧ ∀ t ∈ keys, ¬ Small t.f0) := by
    constructor
    · rintro ⟨u0, ks, un, um, e, h2, h3⟩
      injection e with q1 q2
      have q3 := congrArg List.reverse q2
      simp only [List.reverse_append, List.reverse_cons, List.reverse_nil, List.nil_append, List.cons_append, List.cons.injEq] at q3
      obtain ⟨q4, q5, q6⟩ := q3
      have q7 : keys = ks := List.reverse_inj.mp q6
      subst q1; subst q4; subst q5; subst q7
      exact h3
    · intro h3
      exact ⟨t0, keys, tn, tm, rfl, c1, h3⟩
  rw [hUN] at NO ⊢
  rw [hfull] at hev hl
  have f1 : wrap64 ((full.length : Int) - 1) = ((keys.length + 2 : Nat) : Int) := by rw [tokW64 (by omega) (by omega)]; omega
  have f2 : wrap64 ((full.length : Int) - 2) = ((keys.length + 1 : Nat) : Int) := by rw [tokW64 (by omega) (by omega)]; omega
  have f3 : wrap64 ((full.length : Int) - 3) = (keys.length : Int) := by rw [tokW64 (by omega) (by omega)]; omega
  have head : ∀ k, (fun bt141 : List S36 × Int => (if bt141.2 ≥ 0 then (spec_Many.j0 k bt141.1 (bt141.1.length : Int) true) else (if (bt141.1.length : Int) < 3 then (spec_Many.j0 k bt141.1 (bt141.1.length : Int) true) else (if 0 ≤ (wrap64 ((bt141.1.length : Int) - 1)) then (if (wrap64 ((bt141.1.length : Int) - 1)) < (bt141.1.length : Int) then (spec_Many.j0 k bt141.1 (bt141.1.length : Int) (((rd_T36 bt141.1 (wrap64 ((bt141.1.length : Int) - 1))).f0) != 174)) else (none)) else (none))))) (full, b) = spec_Many.j0 k full (full.length : Int) (tm.f0 != 174) := by
    intro k
    simp only []
    rw [if_neg (by omega), if_neg (by omega), f1, if_pos (by omega), if_pos (by omega), em]
  by_cases d1 : tm.f0 = 174
  rotate_left
  · refine ⟨0, 0, false, Ev.bind hev (Ev.congr (fun k => ?_) (ev_manyN full full.length)), NO.2 (fun h => d1 h.1)⟩
    exact (head k).trans (by rw [show (tm.f0 != 174) = true by simpa using d1])
  have hb : (tm.f0 != 174) = false := by rw [d1]; rfl
  have j1N : Ev (fun k => spec_Many.j1 k (smallNum tn.f0) (smallNum t0.f0) full (full.length : Int) true) (0, 0, false) := Ev.step (f := fun _ => some (0, 0, false)) (fun k => by rw [spec_Many.j1, if_pos rfl]) (Ev.now _)
  by_cases d2 : Small t0.f0
  rotate_left
  · refine ⟨0, 0, false, Ev.bind hev (Ev.congr (fun k => head k) ?_), NO.2 (fun h => d2 h.2.1)⟩
    rw [hb]
    by_cases d3 : Small tn.f0
    · refine Ev.step (f := fun k => spec_Many.j1 k (smallNum tn.f0) 0 full (full.length : Int) true) (fun k => ?_) (Ev.step (f := fun _ => some (0, 0, false)) (fun k => by rw [spec_Many.j1, if_pos rfl]) (Ev.now _))
      rw [spec_Many.j0, if_neg (by decide), if_pos (by omega), e0, small_n d2, Option.bind_some, f2, if_pos (by omega), if_pos (by omega), en, small_f d3, Option.bind_some, if_neg (by decide)]
    · refine Ev.step (f := fun k => spec_Many.j1 k 0 0 full (full.length : Int) true) (fun k => ?_) (Ev.step (f := fun _ => some (0, 0, false)) (fun k => by rw [spec_Many.j1, if_pos rfl]) (Ev.now _))
      rw [spec_Many.j0, if_neg (by decide), if_pos (by omega), e0, small_n d2, Option.bind_some, f2, if_pos (by omega), if_pos (by omega), en, small_n d3, Option.bind_some, if_neg (by decide)]
  by_cases d3 : Small tn.f0
  rotate_left
  · refine ⟨0, 0, false, Ev.bind hev (Ev.congr (fun k => head k) ?_), NO.2 (fun h => d3 h.2.2.1)⟩
    rw [hb]
    refine Ev.step (f := fun k => spec_Many.j1 k 0 (smallNum t0.f0) full (full.length : Int) true) (fun k => ?_) (Ev.step (f := fun _ => some (0, 0, false)) (fun k => by rw [spec_Many.j1, if_pos rfl]) (Ev.now _))
    rw [spec_Many.j0, if_neg (by decide), if_pos (by omega), e0, small_f d2, Option.bind_some, f2, if_pos (by omega), if_pos (by omega), en, small_n d3, Option.bind_some, if_pos rfl, if_neg (by decide)]
  have hj0 : ∀ k, spec_Many.j0 (k + 1) full (full.length : Int) false = spec_Many.j1 k (smallNum tn.f0) (smallNum t0.f0) full (full.length : Int) (smallNum tn.f0 != (keys.length : Int)) := by
    intro k
    rw [spec_Many.j0, if_neg (by decide), if_pos (by omega), e0, small_f d2, Option.bind_some, f2, if_pos (by omega), if_pos (by omega), en, small_f d3, Option.bind_some, if_pos rfl, if_pos rfl, f3]
  by_cases d4 : smallNum tn.f0 = (keys.length : Int)
  rotate_left
  · refine ⟨0, 0, false, Ev.bind hev (Ev.congr (fun k => head k) ?_), NO.2 (fun h => d4 h.2.2.2.1)⟩
    rw [hb]
    refine Ev.step hj0 ?_
    rw [show (smallNum tn.f0 != (keys.length : Int)) = true by simpa using d4]
    exact j1N
  have L := ev_manyL full (by omega) (smallNum tn.f0) (smallNum t0.f0) tn tm keys 1 hdr (by omega)
  have go : Ev (fun k => spec_Many.j0 k full (full.length : Int) (tm.f0 != 174)) (if ∀ t ∈ keys, ¬ Small t.f0 then (smallNum tn.f0, smallNum t0.f0, true) else (0, 0, false)) := by
    rw [hb]
    refine Ev.step hj0 ?_
    rw [show (smallNum tn.f0 != (keys.length : Int)) = false by rw [d4]; simp]
    refine Ev.step (f := fun k => spec_Many.l0 k (smallNum tn.f0) (smallNum t0.f0) full (full.length : Int) ((1 : Nat) : Int)) (fun k => ?_) L
    rw [spec_Many.j1, if_neg (by decide)]; rfl
  by_cases d5 : ∀ t ∈ keys, ¬ Small t.f0
  · rw [if_pos d5] at go
    exact ⟨_, _, true, Ev.bind hev (Ev.congr (fun k => head k) go), ⟨fun _ => ⟨d1, d2, d3, d4, d5⟩, fun _ => rfl⟩⟩
  · rw [if_neg d5] at go
    exact ⟨_, _, false, Ev.bind hev (Ev.congr (fun k => head k) go), NO.2 (fun h => d5 h.2.2.2.2)⟩
/-- Keys ahead of a small number and the last byte, as tokens and by the bytes. -/
theorem keys_of_toks {s : List Int} {tn tm : S36} {b : Int} (hb : b < 0) (hm : tm.f0 = 174) (hn : Small tn.f0) : ∀ (keys : List S36) (i : Nat), (∀ t ∈ keys, ¬ Small t.f0) → Toks s i (keys ++ [tn, tm]) b → ∃ j, Keys s i keys.length j ∧ j + 2 = s.length ∧ s.getD j 0 = tn.f0 ∧ s.getD (s.length - 1) 0 = 174
  | [], i, _, h => by
    obtain ⟨a, d, hi, hd, rfl, h2⟩ := toks_cons h
    obtain ⟨a2, d2, hi2, hd2, rfl, h3⟩ := toks_cons h2
    have hend := toks_nil h3 hb
    obtain ⟨rfl, rfl⟩ := dat_small hn hd
    have hm' : s.getD (i + 1 + 0) 0 = 174 := hm
    have e2 := dat_high (s := s) (i := i + 1 + 0) (by omega)
    rw [hd2] at e2
    injection e2 with e2; injection e2 with q1 q2
    refine ⟨i, .stop hi hn, by omega, rfl, ?_⟩
    rw [show s.length - 1 = i + 1 + 0 by omega]; exact hm'
  | t :: keys, i, hk, h => by
    obtain ⟨a, d, hi, hd, rfl, h2⟩ := toks_cons h
    obtain ⟨j, k1, k2, k3, k4⟩ := keys_of_toks hb hm hn keys (a + d) (fun t ht => hk t (by simp [ht])) h2
    exact ⟨j, .step hi hd (hk ⟨s.getD i 0, (s.drop a).take d, i⟩ (List.mem_cons_self ..)) k1, k2, k3, k4⟩
theorem toks_of_keys {s : List Int} (hlast : s.getD (s.length - 1) 0 = 174) : ∀ {i k j : Nat}, Keys s i k j → j + 2 = s.length → ∀ {l : List S36} {b : Int}, Toks s i l b → b < 0 ∧ ∃ keys tn tm, l = keys ++ [tn, tm] ∧ keys.length = k ∧ (∀ t ∈ keys, ¬ Small t.f0) ∧ tn.f0 = s.getD j 0 ∧ Small tn.f0 ∧ tm.f0 = 174 := by
  intro i k j h
  induction h with
  | stop h1 h2 =>
    rename_i i
    intro hj l b ht
    obtain ⟨l1, rfl, t2⟩ := toks_inv h1 (dat_small_some h2) ht
    have hm' : s.getD (i + 1 + 0) 0 = 174 := by rw [show i + 1 + 0 = s.length - 1 by omega]; exact hlast
    obtain ⟨l2, rfl, t3⟩ := toks_inv (by omega) (dat_high (s := s) (i := i + 1 + 0) (by omega)) t2
    obtain ⟨rfl, rfl⟩ := toks_end (by omega) t3
    exact ⟨by decide, [], _, _, rfl, rfl, by simp, rfl, h2, hm'⟩
  | step h1 h2 h3 h4 ih =>
    intro hj l b ht
    obtain ⟨l1, rfl, t2⟩ := toks_inv h1 h2 ht
    obtain ⟨hb, keys, tn, tm, rfl, q1, q2, q3, q4, q5⟩ := ih hj t2
    refine ⟨hb, _ :: keys, tn, tm, rfl, by simp [q1], ?_, q3, q4, q5⟩
    intro t ht
    rcases List.mem_cons.1 ht with rfl | ht
    · exact h3
    · exact q2 t ht
theorem many_iff (s : List Int) {l : List S36} {b : Int} (h : Toks s 0 l b) : ManyT l b ↔ MultiP s := by
  constructor
  · rintro ⟨t0, keys, tn, tm, rfl, hb, h1, h2, h3, h4, h5⟩
    obtain ⟨a, d, hi, hd, rfl, t2⟩ := toks_cons h
    obtain ⟨rfl, rfl⟩ := dat_small h2 hd
    obtain ⟨j, k1, k2, k3, k4⟩ := keys_of_toks hb h1 h3 keys _ h5 t2
    have hj : 1 ≤ j := by
      have : ∀ {i k j : Nat}, Keys s i k j → i ≤ j := by
        intro i k j h
        induction h with
        | stop _ _ => exact Nat.le_refl _
        | step h1 h2 _ _ ih => have := dat_le h1 h2; omega
      exact this k1
    exact ⟨by omega, k4, h2, _, j, k1, k2, by rw [k3]; exact h4⟩
  · rintro ⟨h1, h2, h3, k, j, hk, hj, hs⟩
    obtain ⟨l1, rfl, t2⟩ := toks_inv (by omega) (dat_small_some h3) h
    obtain ⟨hb, keys, tn, tm, rfl, q1, q2, q3, q4, q5⟩ := toks_of_keys h2 hk hj t2
    exact ⟨_, keys, tn, tm, rfl, hb, q5, h3, q4, by rw [q3, q1]; exact hs, q2⟩
end Go.Proofs.Ytfbkjkihcajmdac.Tok
