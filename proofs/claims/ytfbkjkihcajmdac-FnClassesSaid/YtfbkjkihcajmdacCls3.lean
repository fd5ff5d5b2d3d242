/- Classes of scripts: what the reference says, by the tokens, and that it is what the bytes say. -/
import Derived.Test.YtfbkjkihcajmdacCls2
namespace Go.Proofs.Ytfbkjkihcajmdac.Tok
open Go.RowKit Go.Proofs.YtfbkjkihcajmdacW.PrintWords Go.Proofs.YtfbkjkihcajmdacW.PrintLast Go.Proofs.YtfbkjkihcajmdacW.PrintMore Go.Proofs.Ytfbkjkihcajmdac.QFnClasses
set_option linter.unusedVariables false
set_option linter.unusedSimpArgs false
theorem dat_high {s : List Int} {i : Nat} (h : 78 < s.getD i 0) : dat s i = some (i + 1, 0) := by
  unfold dat
  rw [if_neg (by omega), if_neg (by omega), if_neg (by omega), if_neg (by omega)]
theorem dat_push {s : List Int} {i : Nat} (h1 : 1 ≤ s.getD i 0) (h2 : s.getD i 0 < 76) : dat s i = if i + 1 + (s.getD i 0).toNat ≤ s.length then some (i + 1, (s.getD i 0).toNat) else none := by
  unfold dat
  rw [if_neg (by omega), if_neg (by omega), if_neg (by omega), if_pos ⟨h1, h2⟩]
theorem toks_lenN {s : List Int} : ∀ {i : Nat} {l : List S36} {b : Int}, Toks s i l b → i + l.length ≤ s.length ∨ l = [] := by
  intro i l b h
  induction h with
  | done _ => exact Or.inr rfl
  | bad _ _ => exact Or.inr rfl
  | step h1 h2 h3 ih =>
    obtain ⟨g1, g2⟩ := dat_le h1 h2
    rw [List.length_cons]
    rcases ih with ih | ih
    · exact Or.inl (by omega)
    · rw [ih]; exact Or.inl (by simp only [List.length_nil]; omega)
theorem toks_le {s : List Int} {l : List S36} {b : Int} (h : Toks s 0 l b) : l.length ≤ s.length := by
  rcases toks_lenN h with h | h
  · omega
  · rw [h]; simp
theorem cut_len {s : List Int} {i a d : Nat} (hi : i < s.length) (hd : dat s i = some (a, d)) : ((s.drop a).take d).length = d := by
  obtain ⟨h1, h2⟩ := dat_le hi hd
  rw [List.length_take, List.length_drop]; omega
theorem cut_get {s : List Int} {a d : Nat} (h : 0 < d) : ((s.drop a).take d).getD 0 0 = s.getD a 0 := by
  rw [List.getD_eq_getElem?_getD, List.getD_eq_getElem?_getD, List.getElem?_take, if_pos h, List.getElem?_drop]; rfl
/-- A key of 65 bytes whose first is 6 or 7. -/
def Hyb (t : S36) : Prop := t.f1.length = 65 ∧ (t.f1.getD 0 0 = 6 ∨ t.f1.getD 0 0 = 7)
instance (t : S36) : Decidable (Hyb t) := by unfold Hyb; infer_instance
theorem ev_hyb0 (l : List S36) (hl : l.length ≤ 1000000) : ∀ n j, l.length ≤ j + n → Ev (fun k => laws_hybrid.l0 k l (j : Nat)) ((l.drop j).any (fun t => decide (Hyb t)))
  | 0, j, h => by
    refine Ev.step (f := fun _ => some false) (fun k => ?_) (by rw [List.drop_eq_nil_of_le (by omega)]; exact Ev.now _)
    rw [laws_hybrid.l0, if_neg (by omega)]
  | n + 1, j, h => by
    rcases Nat.lt_or_ge j l.length with hj | hj
    · have hr : rd_T36 l (j : Int) = l[j] := by unfold rd_T36; simp [hj]
      refine Ev.step (f := fun k => if Hyb l[j] then some true else laws_hybrid.l0 k l ((j + 1 : Nat) : Int)) (fun k => ?_) ?_
      · rw [laws_hybrid.l0, if_pos (by omega), if_pos (by omega), hr, show wrap64 ((j : Int) + 1) = ((j + 1 : Nat) : Int) by rw [tokW64 (by omega) (by omega)]; rfl]
        rw [show rd (l[j]).f1 0 = (l[j]).f1.getD 0 0 from rd_nat _ 0]
        by_cases h1 : (l[j]).f1.length = 65
        · rw [if_pos (by omega), if_pos (by omega)]
          by_cases h2 : (l[j]).f1.getD 0 0 = 6
          · rw [if_pos h2, if_pos (show Hyb l[j] from ⟨h1, Or.inl h2⟩)]
          · rw [if_neg h2]
            by_cases h3 : (l[j]).f1.getD 0 0 = 7
            · rw [if_pos h3, if_pos (show Hyb l[j] from ⟨h1, Or.inr h3⟩)]
            · rw [if_neg h3, if_neg (show ¬ Hyb l[j] from fun h => h.2.elim h2 h3)]
        · rw [if_neg (by omega), if_neg (show ¬ Hyb l[j] from fun h => h1 h.1)]
      · rw [List.drop_eq_getElem_cons hj, List.any_cons]
        by_cases hv : Hyb l[j]
        · simp only [decide_eq_true hv, if_pos hv, Bool.true_or]
          exact Ev.now _
        · simp only [decide_eq_false hv, if_neg hv, Bool.false_or]
          exact ev_hyb0 l hl n (j + 1) (by omega)
    · refine Ev.step (f := fun _ => some false) (fun k => ?_) (by rw [List.drop_eq_nil_of_le (by omega)]; exact Ev.now _)
      rw [laws_hybrid.l0, if_neg (by omega)]
theorem ev_hybrid (s : List Int) (hn : s.length ≤ 1000000) (hB : ByteL s) {l : List S36} {b : Int} (h : Toks s 0 l b) : Ev (fun k => laws_hybrid.f k s) (l.any (fun t => decide (Hyb t))) := by
  have hl := toks_le h
  exact Ev.bind (ev_Tokens s hn hB h (by omega)) (ev_hyb0 l (by omega) l.length 0 (by omega))
/-- How many bytes a key has by its first one. -/
def keyForm (x : List Int) : Int := if x.length = 33 ∧ (x.getD 0 0 = 2 ∨ x.getD 0 0 = 3) then 33 else if x.length = 65 ∧ x.getD 0 0 = 4 then 65 else 0
theorem ev_form (x : List Int) : Ev (fun k => spec_KeyForm.f k x) (keyForm x) := by
  have key : ∀ b, Ev (fun k => spec_KeyForm.j0 k x b) (if b = true then 33 else if x.length = 65 ∧ x.getD 0 0 = 4 then 65 else 0) := by
    intro b
    refine Ev.step (f := fun _ => some (if b = true then 33 else if x.length = 65 ∧ x.getD 0 0 = 4 then 65 else 0)) (fun k => ?_) (Ev.now _)
    rw [spec_KeyForm.j0, show rd x 0 = x.getD 0 0 from rd_nat _ 0]
    by_cases h0 : b = true
    · rw [if_pos h0, if_pos h0]
    · rw [if_neg h0, if_neg h0]
      by_cases h1 : x.length = 65
      · rw [if_pos (by omega), if_pos (by omega)]
        by_cases h2 : x.getD 0 0 = 4
        · rw [if_pos h2, if_pos ⟨h1, h2⟩]
        · rw [if_neg h2, if_neg (fun h => h2 h.2)]
      · rw [if_neg (by omega), if_neg (fun h => h1 h.1)]
  refine Ev.congr (f := fun k => spec_KeyForm.j0 k x (decide (x.length = 33 ∧ (x.getD 0 0 = 2 ∨ x.getD 0 0 = 3)))) (fun k => ?_) ?_
  · unfold spec_KeyForm.f
    rw [show rd x 0 = x.getD 0 0 from rd_nat _ 0]
    by_cases h1 : x.length = 33
    · rw [if_pos (by omega), if_pos (by omega)]
      by_cases h2 : x.getD 0 0 = 2
      · rw [if_pos h2, decide_eq_true ⟨h1, Or.inl h2⟩]
      · rw [if_neg h2]
        congr 1
        by_cases h3 : x.getD 0 0 = 3
        · rw [decide_eq_true ⟨h1, Or.inr h3⟩]; simpa using h3
        · rw [decide_eq_false (fun h => h.2.elim h2 h3)]; simpa using h3
    · rw [if_neg (by omega), decide_eq_false (fun h => h1 h.1)]
  · have h := key (decide (x.length = 33 ∧ (x.getD 0 0 = 2 ∨ x.getD 0 0 = 3)))
    unfold keyForm
    by_cases h1 : x.length = 33 ∧ (x.getD 0 0 = 2 ∨ x.getD 0 0 = 3)
    · rw [decide_eq_true h1, if_pos rfl] at h
      rw [decide_eq_true h1, if_pos h1]; exact h
    · rw [decide_eq_false h1, if_neg (by decide)] at h
      rw [decide_eq_false h1, if_neg h1]; exact h
theorem form_pos {x : List Int} (h : 0 < keyForm x) : (x.length = 33 ∧ (x.getD 0 0 = 2 ∨ x.getD 0 0 = 3)) ∨ (x.length = 65 ∧ x.getD 0 0 = 4) := by
  unfold keyForm at h
  split at h
  · exact Or.inl ‹_›
  · split at h
    · exact Or.inr ‹_›
    · omega
/-- By the tokens: a script that pays a key. -/
def KeyT (l : List S36) (b : Int) : Prop := ∃ t0 t1, l = [t0, t1] ∧ b < 0 ∧ t0.f0 = (t0.f1.length : Int) ∧ 0 < keyForm t0.f1 ∧ t1.f0 = 172
theorem ev_IsKey (s : List Int) (hn : s.length ≤ 1000000) (hB : ByteL s) {l : List S36} {b : Int} (h : Toks s 0 l b) : ∃ r, Ev (fun k => spec_IsKey.f k s) r ∧ (r = true ↔ KeyT l b) := by
  have hl := toks_le h
  have hev := ev_Tokens s hn hB h (by omega)
  have no : ∀ (hno : ¬ KeyT l b) (hf : ∀ k, (fun bt198 : List S36 × Int => (if bt198.2 < 0 then (if (bt198.1.length : Int) = 2 then (if 0 < (bt198.1.length : Int) then (if ((rd_T36 bt198.1 0).f0) = (((rd_T36 bt198.1 0).f1).length : Int) then ((spec_KeyForm.f k ((rd_T36 bt198.1 0).f1)).bind fun t205 => (if t205 > 0 then (if 1 < (bt198.1.length : Int) then (some (((rd_T36 bt198.1 1).f0) == 172)) else (none)) else (some false))) else (some false)) else (none)) else (some false)) else (some false))) (l, b) = some false), ∃ r, Ev (fun k => spec_IsKey.f k s) r ∧ (r = true ↔ KeyT l b) := by
    intro hno hf
    exact ⟨false, Ev.bind hev (Ev.congr (f := fun _ => some false) (fun k => hf k) (Ev.now _)), ⟨fun h => (by cases h), fun h => absurd h hno⟩⟩
  by_cases c1 : b < 0
  · by_cases c2 : (l.length : Int) = 2
    · obtain ⟨t0, t1, rfl⟩ : ∃ t0 t1, l = [t0, t1] := by
        match l, c2 with
        | [t0, t1], _ => exact ⟨t0, t1, rfl⟩
        | [], h => simp at h
        | [_], h => simp at h
        | _ :: _ :: _ :: _, h => simp at h; omega
      have e1 : rd_T36 [t0, t1] 1 = t1 := rfl
      have e0 : rd_T36 [t0, t1] 0 = t0 := rfl
      by_cases c3 : t0.f0 = (t0.f1.length : Int)
      · refine ⟨if keyForm t0.f1 > 0 then (t1.f0 == 172) else false, ?_, ?_⟩
        · refine Ev.bind hev (Ev.congr (f := fun k => (spec_KeyForm.f k t0.f1).bind fun t205 => (if t205 > 0 then some (t1.f0 == 172) else some false)) (fun k => ?_) (Ev.bind (ev_form t0.f1) (Ev.congr (f := fun _ => some (if keyForm t0.f1 > 0 then (t1.f0 == 172) else false)) (fun k => ?_) (Ev.now _))))
          · simp only [e0, e1]; rw [if_pos c1, if_pos c2, if_pos (by simp), if_pos c3]
            congr 1
          · by_cases ht : keyForm t0.f1 > 0
            · rw [if_pos ht, if_pos ht]
            · rw [if_neg ht, if_neg ht]
        · constructor
          · intro hh
            by_cases ht : keyForm t0.f1 > 0
            · rw [if_pos ht] at hh
              exact ⟨t0, t1, rfl, c1, c3, ht, by simpa using hh⟩
            · rw [if_neg ht] at hh; cases hh
          · rintro ⟨u0, u1, hu, _, _, h4, h5⟩
            injection hu with hu0 hu1; injection hu1 with hu1 _
            subst hu0; subst hu1
            rw [if_pos h4]; simpa using h5
      · refine no ?_ (fun k => ?_)
        · rintro ⟨u0, u1, hu, _, h3, _, _⟩
          injection hu with hu0 hu1
          subst hu0
          exact c3 h3
        · simp only [e0, e1]; rw [if_pos c1, if_pos c2, if_pos (by simp), if_neg c3]
    · refine no ?_ (fun k => ?_)
      · rintro ⟨u0, u1, hu, _⟩
        subst hu; exact c2 rfl
      · simp only []; rw [if_pos c1, if_neg c2]
  · refine no ?_ (fun k => ?_)
    · rintro ⟨u0, u1, hu, h2, _⟩
      exact c1 h2
    · simp only []; rw [if_neg c1]
theorem toks_cons {s : List Int} {i : Nat} {t : S36} {l : List S36} {b : Int} (h : Toks s i (t :: l) b) : ∃ a d, i < s.length ∧ dat s i = some (a, d) ∧ t = ⟨s.getD i 0, (s.drop a).take d, i⟩ ∧ Toks s (a + d) l b := by
  cases h with
  | step h1 h2 h3 => exact ⟨_, _, h1, h2, rfl, h3⟩
theorem toks_nil {s : List Int} {i : Nat} {b : Int} (h : Toks s i [] b) (hb : b < 0) : s.length ≤ i := by
  cases h with
  | done h1 => exact h1
  | bad h1 h2 => omega
theorem key_iff (s : List Int) (hB : ByteL s) {l : List S36} {b : Int} (h : Toks s 0 l b) (hh : ∀ t ∈ l, ¬ Hyb t) : KeyT l b ↔ KeyP s := by
  constructor
  · rintro ⟨t0, t1, rfl, hb, h0, hf, h1⟩
    obtain ⟨a, d, hi, hd, rfl, h2⟩ := toks_cons h
    obtain ⟨a2, d2, hi2, hd2, rfl, h3⟩ := toks_cons h2
    have hend := toks_nil h3 hb
    have hl := cut_len hi hd
    have hc := form_pos hf
    simp only [] at h0 h1 hc
    rw [hl] at h0 hc
    have e := dat_push (s := s) (i := 0) (by omega) (by omega)
    rw [hd] at e
    have e2 := dat_high (s := s) (i := a + d) (by omega)
    rw [hd2] at e2
    injection e2 with e2; injection e2 with f1 f2
    split at e
    · injection e with e; injection e with e1 e3
      subst e1
      rw [cut_get (by omega)] at hc
      simp only [Nat.zero_add] at hc h1 hi2 f1
      rcases hc with ⟨q1, q2⟩ | ⟨q1, q2⟩
      · refine Or.inl ⟨by omega, ?_, by omega, q2⟩
        rw [q1] at h1; exact h1
      · refine Or.inr ⟨by omega, ?_, by omega, Or.inl q2⟩
        rw [q1] at h1; exact h1
    · cases e
  · intro hk
    have go : ∀ m : Nat, 1 ≤ m → m < 76 → s.length = m + 2 → s.getD (m + 1) 0 = 172 → s.getD 0 0 = (m : Int) → l = [⟨s.getD 0 0, (s.drop 1).take m, 0⟩, ⟨s.getD (m + 1) 0, (s.drop (m + 2)).take 0, ((m + 1 : Nat) : Int)⟩] ∧ b = -1 ∧ ((s.drop 1).take m).length = m := by
      intro m g1 g2 g3 g4 g5
      have hd : dat s 0 = some (1, m) := by
        have e := dat_push (s := s) (i := 0) (by omega) (by omega)
        rw [if_pos (by omega)] at e
        rw [e, show (s.getD 0 0).toNat = m by omega]
      obtain ⟨l', rfl, h2⟩ := toks_inv (by omega) hd h
      rw [show 1 + m = m + 1 by omega] at h2
      have hd2 := dat_high (s := s) (i := m + 1) (by omega)
      obtain ⟨l'', rfl, h3⟩ := toks_inv (by omega) hd2 h2
      obtain ⟨rfl, rfl⟩ := toks_end (by omega) h3
      exact ⟨rfl, rfl, cut_len (i := 0) (by omega) hd⟩
    rcases hk with ⟨k1, k2, k3, k4⟩ | ⟨k1, k2, k3, k4⟩
    · obtain ⟨rfl, rfl, hl⟩ := go 33 (by omega) (by omega) k1 k2 k3
      refine ⟨_, _, rfl, by decide, ?_, ?_, k2⟩
      · show s.getD 0 0 = (((s.drop 1).take 33).length : Int)
        rw [hl]; exact k3
      · show 0 < keyForm ((s.drop 1).take 33)
        unfold keyForm
        rw [if_pos ⟨hl, by rw [cut_get (by omega)]; exact k4⟩]; decide
    · obtain ⟨rfl, rfl, hl⟩ := go 65 (by omega) (by omega) k1 k2 k3
      have hno := hh _ (List.mem_cons_self ..)
      have h4 : s.getD 1 0 = 4 := by
        rcases k4 with k4 | k4 | k4
        · exact k4
        · exact absurd ⟨hl, Or.inl (by show ((s.drop 1).take 65).getD 0 0 = 6; rw [cut_get (by omega)]; exact k4)⟩ hno
        · exact absurd ⟨hl, Or.inr (by show ((s.drop 1).take 65).getD 0 0 = 7; rw [cut_get (by omega)]; exact k4)⟩ hno
      refine ⟨_, _, rfl, by decide, ?_, ?_, k2⟩
      · show s.getD 0 0 = (((s.drop 1).take 65).length : Int)
        rw [hl]; exact k3
      · show 0 < keyForm ((s.drop 1).take 65)
        unfold keyForm
        rw [if_neg (by omega), if_pos ⟨hl, by rw [cut_get (by omega)]; exact h4⟩]; decide
/-- By the tokens: a script that holds data. -/
def DataT (l : List S36) (b : Int) : Prop := b < 0 ∧ ((∃ t0, l = [t0] ∧ t0.f0 = 106) ∨ (∃ t0 t1, l = [t0, t1] ∧ t0.f0 = 106 ∧ (Small t1.f0 ∨ (t1.f0 ≤ 78 ∧ t1.f1.length ≤ 80))))
theorem small_f {v : Int} (h : Small v) : spec_Small.f v = some (smallNum v, true) := by
  unfold Small at h
  unfold spec_Small.f smallNum
  by_cases h0 : v = 0
  · rw [if_pos h0, if_pos h0]
  · rw [if_neg h0, if_neg h0, if_pos (by omega), if_pos (by omega), show wrap64 (wrap64 (v - 81) + 1) = v - 80 by rw [tokW64 (x := v - 81) (by omega) (by omega), tokW64 (x := v - 81 + 1) (by omega) (by omega)]; omega]
theorem small_n {v : Int} (h : ¬ Small v) : spec_Small.f v = some (0, false) := by
  unfold Small at h
  unfold spec_Small.f
  rw [if_neg (by omega)]
  by_cases h1 : v ≥ 81
  · rw [if_pos h1, if_neg (by omega)]
  · rw [if_neg h1]
theorem ev_dataN (l : List S36) : Ev (fun k => spec_Data.j0 k l true) (([] : List Int), false) :=
  Ev.step (f := fun _ => some ([], false)) (fun k => by rw [spec_Data.j0, if_pos rfl]) (Ev.now _)
theorem ev_Data (s : List Int) (hn : s.length ≤ 1000000) (hB : ByteL s) {l : List S36} {b : Int} (h : Toks s 0 l b) : ∃ x r, Ev (fun k => spec_Data.f k s) (x, r) ∧ (r = true ↔ DataT l b) := by
  have hl := toks_le h
  have hev := ev_Tokens s hn hB h (by omega)
  by_cases c1 : b < 0
  · match l, hl, hev with
    | [], _, hev =>
      refine ⟨[], false, Ev.bind hev (Ev.congr (fun k => ?_) (ev_dataN [])), fun h => (by cases h), ?_⟩
      · simp only []; rw [if_neg (by omega), if_pos (by simp)]
      · rintro ⟨_, ⟨_, h, _⟩ | ⟨_, _, h, _⟩⟩ <;> cases h
    | [t0], _, hev =>
      have e0 : rd_T36 [t0] 0 = t0 := rfl
      refine ⟨[], decide (t0.f0 = 106), Ev.bind hev (Ev.congr (f := fun k => spec_Data.j0 k [t0] (t0.f0 != 106)) (fun k => ?_) ?_), ?_⟩
      · simp only [e0]; rw [if_neg (by omega), if_neg (by simp), if_neg (by simp), if_pos (by simp)]
      · refine Ev.step (f := fun _ => some ([], decide (t0.f0 = 106))) (fun k => ?_) (Ev.now _)
        rw [spec_Data.j0]
        by_cases h1 : t0.f0 = 106
        · rw [if_neg (by simp [h1]), if_pos (by simp), decide_eq_true h1]
        · rw [if_pos (by simpa using h1), decide_eq_false h1]
      · constructor
        · intro h; exact ⟨c1, Or.inl ⟨t0, rfl, of_decide_eq_true h⟩⟩
        · rintro ⟨_, ⟨_, h, h2⟩ | ⟨_, _, h, _⟩⟩
          · injection h with h; subst h; exact decide_eq_true h2
          · injection h with h h'; cases h'
    | [t0, t1], _, hev =>
      have e0 : rd_T36 [t0, t1] 0 = t0 := rfl
      have e1 : rd_T36 [t0, t1] 1 = t1 := rfl
      have hr : ∃ x r, (∀ k, spec_Data.j0 (k + 1) [t0, t1] (t0.f0 != 106) = some (x, r)) ∧ (r = true ↔ (t0.f0 = 106 ∧ (Small t1.f0 ∨ (t1.f0 ≤ 78 ∧ t1.f1.length ≤ 80)))) := by
        by_cases h1 : t0.f0 = 106
        · by_cases h2 : Small t1.f0
          · refine ⟨[], true, fun k => ?_, fun _ => ⟨h1, Or.inl h2⟩, fun _ => rfl⟩
            rw [spec_Data.j0, if_neg (by simp [h1]), if_neg (by simp), if_pos (by simp), e1, small_f h2, Option.bind_some, if_pos rfl]
          · by_cases h3 : t1.f0 ≤ 78
            · refine ⟨t1.f1, decide ((t1.f1.length : Int) ≤ 80), fun k => ?_, fun h => ⟨h1, Or.inr ⟨h3, by have := of_decide_eq_true h; omega⟩⟩, ?_⟩
              · rw [spec_Data.j0, if_neg (by simp [h1]), if_neg (by simp), if_pos (by simp), e1, small_n h2, Option.bind_some, if_neg (by decide), if_pos h3]
              · rintro ⟨_, h | h⟩
                · exact absurd h h2
                · exact decide_eq_true (by omega)
            · refine ⟨t1.f1, false, fun k => ?_, fun h => (by cases h), ?_⟩
              · rw [spec_Data.j0, if_neg (by simp [h1]), if_neg (by simp), if_pos (by simp), e1, small_n h2, Option.bind_some, if_neg (by decide), if_neg h3]
              · rintro ⟨_, h | h⟩
                · exact absurd h h2
                · exact absurd h.1 h3
        · refine ⟨[], false, fun k => ?_, fun h => (by cases h), fun h => absurd h.1 h1⟩
          rw [spec_Data.j0, if_pos (by simpa using h1)]
      obtain ⟨x, r, hf, hr⟩ := hr
      refine ⟨x, r, Ev.bind hev (Ev.congr (f := fun k => spec_Data.j0 k [t0, t1] (t0.f0 != 106)) (fun k => ?_) (Ev.step (f := fun _ => some (x, r)) hf (Ev.now _))), ?_⟩
      · simp only [e0]; rw [if_neg (by omega), if_neg (by simp), if_neg (by simp), if_pos (by simp)]
      · rw [hr]
        constructor
        · intro h; exact ⟨c1, Or.inr ⟨t0, t1, rfl, h⟩⟩
        · rintro ⟨_, ⟨_, h, _⟩ | ⟨_, _, h, h2⟩⟩
          · injection h with h h'; cases h'
          · injection h with h h'; injection h' with h' _; subst h; subst h'; exact h2
    | t0 :: t1 :: t2 :: l, _, hev =>
      refine ⟨[], false, Ev.bind hev (Ev.congr (fun k => ?_) (ev_dataN (t0 :: t1 :: t2 :: l))), fun h => (by cases h), ?_⟩
      · simp only []; rw [if_neg (by omega), if_neg (by simp; omega), if_pos (by simp; omega)]
      · rintro ⟨_, ⟨_, h, _⟩ | ⟨_, _, h, _⟩⟩
        · injection h with h h'; cases h'
        · injection h with h h'; injection h' with h' h''; cases h''
  · refine ⟨[], false, Ev.bind hev (Ev.congr (fun k => ?_) (ev_dataN l)), fun h => (by cases h), fun h => absurd h.1 c1⟩
    simp only []; rw [if_pos (by omega)]
theorem data_iff (s : List Int) (hB : ByteL s) {l : List S36} {b : Int} (h : Toks s 0 l b) : DataT l b ↔ NullP s := by
  constructor
  · rintro ⟨hb, ⟨t0, rfl, h0⟩ | ⟨t0, t1, rfl, h0, h1⟩⟩
    · obtain ⟨a, d, hi, hd, rfl, h2⟩ := toks_cons h
      have hend := toks_nil h2 hb
      have e2 := dat_high (s := s) (i := 0) (by have : s.getD 0 0 = 106 := h0; omega)
      rw [hd] at e2
      injection e2 with e2; injection e2 with f1 f2
      exact ⟨by omega, h0, Or.inl (by omega)⟩
    · obtain ⟨a, d, hi, hd, rfl, h2⟩ := toks_cons h
      obtain ⟨a2, d2, hi2, hd2, rfl, h3⟩ := toks_cons h2
      have hend := toks_nil h3 hb
      have e2 := dat_high (s := s) (i := 0) (by have : s.getD 0 0 = 106 := h0; omega)
      rw [hd] at e2
      injection e2 with e2; injection e2 with f1 f2
      subst f1; subst f2
      rw [show 0 + 1 + 0 = 1 from rfl] at hd2 hi2 h1
      have hl := cut_len hi2 hd2
      obtain ⟨g1, g2⟩ := dat_le hi2 hd2
      refine ⟨by omega, h0, Or.inr ⟨a2, d2, hi2, hd2, by omega, ?_, ?_⟩⟩
      · rcases h1 with h1 | h1
        · exact Or.inl h1
        · exact Or.inr h1.1
      · rcases h1 with h1 | h1
        · have := (dat_small h1 hd2).2; omega
        · have := h1.2; simp only [] at this; rw [hl] at this; exact this
  · rintro ⟨k1, k2, k3⟩
    have hd0 := dat_high (s := s) (i := 0) (by omega)
    obtain ⟨l', rfl, h2⟩ := toks_inv (by omega) hd0 h
    rw [show 0 + 1 + 0 = 1 from rfl] at h2
    rcases k3 with k3 | ⟨a, d, hi, hd, hend, hv, hle⟩
    · obtain ⟨rfl, rfl⟩ := toks_end (by omega) h2
      exact ⟨by decide, Or.inl ⟨_, rfl, k2⟩⟩
    · obtain ⟨l'', rfl, h3⟩ := toks_inv hi hd h2
      obtain ⟨rfl, rfl⟩ := toks_end (by omega) h3
      have hl := cut_len hi hd
      refine ⟨by decide, Or.inr ⟨_, _, rfl, k2, ?_⟩⟩
      rcases hv with hv | hv
      · exact Or.inl hv
      · exact Or.inr ⟨hv, by simp only []; omega⟩
end Go.Proofs.Ytfbkjkihcajmdac.Tok
