/- Classes of scripts: what the reference says, by the tokens, and that it is what the bytes say. -/
import Derived.Test.YtfbkjkihcajmdacCls2
namespace Go.Proofs.Ytfbkjkihcajmdac.Tok
open Go.RowKit Go.Proofs.YtfbkjkihcajmdacW.PrintWords Go.Proofs.YtfbkjkihcajmdacW.PrintLast Go.Proofs.YtfbkjkihcajmdacW.PrintMore Go.Proofs.Ytfbkjkihcajmdac.QFnClasses
set_option linter.unusedVariables false
set_option linter.unusedSimpArgs false
theorem dat_high {s : List Int} {i : Nat} (h : 78 < s.getD i 0) : dat s i = some (i + 1, 0) := by
  unfold dat
  rw [if_neg (by omega), if_neg (by omega), if_neg (by omega), if_neg (by omega)]
theorem dat_push {s : List Int} {i : Nat} (h1 : 1 ≤ s.getD i 0) (h2 : s.getD i 0 < 76) : dat s i = if i + 1 + (s.getD i 0).toNat ≤ s.length then some (i + 1, (s.getD i 0).toNat) else none := by
  unfold dat
  rw [if_neg (by omega), if_neg (by omega), if_neg (by omega), if_pos ⟨h1, h2⟩]
theorem toks_lenN {s : List Int} : ∀ {i : Nat} {l : List S36} {b : Int}, Toks s i l b → i + l.length ≤ s.length ∨ l = [] := by
  intro i l b h
  induction h with
  | done _ => exact Or.inr rfl
  | bad _ _ => exact Or.inr rfl
  | step h1 h2 h3 ih =>
    obtain ⟨g1, g2⟩ := dat_le h1 h2
    rw [List.length_cons]
    rcases ih with ih | ih
    · exact Or.inl (by omega)
    · rw [ih]; exact Or.inl (by simp only [List.length_nil]; omega)
theorem toks_le {s : List Int} {l : List S36} {b : Int} (h : Toks s 0 l b) : l.length ≤ s.length := by
  rcases toks_lenN h with h | h
  · omega
  · rw [h]; simp
theorem cut_len {s : List Int} {i a d : Nat} (hi : i < s.length) (hd : dat s i = some (a, d)) : ((s.drop a).take d).length = d := by
  obtain ⟨h1, h2⟩ := dat_le hi hd
  rw [List.length_take, List.length_drop]; omega
theorem cut_get {s : List Int} {a d : Nat} (h : 0 < d) : ((s.drop a).take d).getD 0 0 = s.getD a 0 := by
  rw [List.getD_eq_getElem?_getD, List.getD_eq_getElem?_getD, List.getElem?_take, if_pos h, List.getElem?_drop]; rfl
/-- A key of 65 bytes whose first is 6 or 7. -/
def Hyb (t : S36) : Prop := t.f1.length = 65 ∧ (t.f1.getD 0 0 = 6 ∨ t.f1.getD 0 0 = 7)
instance (t : S36) : Decidable (Hyb t) := by unfold Hyb; infer_instance
theorem ev_hyb0 (l : List S36) (hl : l.length ≤ 1000000) : ∀ n j, l.length ≤ j + n → Ev (fun k => laws_hybrid.l0 k l (j : Nat)) ((l.drop j).any (fun t => decide (Hyb t)))
  | 0, j, h => by
    refine Ev.step (f := fun _ => some false) (fun k => ?_) (by rw [List.drop_eq_nil_of_le (by omega)]; exact Ev.now _)
    rw [laws_hybrid.l0, if_neg (by omega)]
  | n + 1, j, h => by
    rcases Nat.lt_or_ge j l.length with hj | hj
    · have hr : rd_T36 l (j : Int) = l[j] := by unfold rd_T36; simp [hj]
      refine Ev.step (f := fun k => if Hyb l[j] then some true else laws_hybrid.l0 k l ((j + 1 : Nat) : Int)) (fun k => ?_) ?_
      · rw [laws_hybrid.l0, if_pos (by omega), if_pos (by omega), hr, show wrap64 ((j : Int) + 1) = ((j + 1 : Nat) : Int) by rw [tokW64 (by omega) (by omega)]; rfl]
        rw [show rd (l[j]).f1 0 = (l[j]).f1.getD 0 0 from rd_nat _ 0]
        by_cases h1 : (l[j]).f1.length = 65
        · rw [if_pos (by omega), if_pos (by omega)]
          by_cases h2 : (l[j]).f1.getD 0 0 = 6
          · rw [if_pos h2, if_pos (show Hyb l[j] from ⟨h1, Or.inl h2⟩)]
          · rw [if_neg h2]
            by_cases h3 : (l[j]).f1.getD 0 0 = 7
            · rw [if_pos h3, if_pos (show Hyb l[j] from ⟨h1, Or.inr h3⟩)]
            · rw [if_neg h3, if_neg (show ¬ Hyb l[j] from fun h => h.2.elim h2 h3)]
        · rw [if_neg (by omega), if_neg (show ¬ Hyb l[j] from fun h => h1 h.1)]
      · rw [List.drop_eq_getElem_cons hj, List.any_cons]
        by_cases hv : Hyb l[j]
        · simp only [decide_eq_true hv, if_pos hv, Bool.true_or]
          exact Ev.now _
        · simp only [decide_eq_false hv, if_neg hv, Bool.false_or]
          exact ev_hyb0 l hl n (j + 1) (by omega)
    · refine Ev.step (f := fun _ => some false) (fun k => ?_) (by rw [List.drop_eq_nil_of_le (by omega)]; exact Ev.now _)
      rw [laws_hybrid.l0, if_neg (by omega)]
theorem ev_hybrid (s : List Int) (hn : s.length ≤ 1000000) (hB : ByteL s) {l : List S36} {b : Int} (h : Toks s 0 l b) : Ev (fun k => laws_hybrid.f k s) (l.any (fun t => decide (Hyb t))) := by
  have hl := toks_le h
  exact Ev.bind (ev_Tokens s hn hB h (by omega)) (ev_hyb0 l (by omega) l.length 0 (by omega))
/-- How many bytes a key has by its first one. -/
def keyForm (x : List Int) : Int := if x.length = 33 ∧ (x.getD 0 0 = 2 ∨ x.getD 0 0 = 3) then 33 else if x.length = 65 ∧ x.getD 0 0 = 4 then 65 else 0
/-- By the tokens: a script that pays a key. -/
def KeyT (l : List S36) (b : Int) : Prop := ∃ t0 t1, l = [t0, t1] ∧ b < 0 ∧ t0.f0 = (t0.f1.length : Int) ∧ 0 < keyForm t0.f1 ∧ t1.f0 = 172
theorem toks_cons {s : List Int} {i : Nat} {t : S36} {l : List S36} {b : Int} (h : Toks s i (t :: l) b) : ∃ a d, i < s.length ∧ dat s i = some (a, d) ∧ t = ⟨s.getD i 0, (s.drop a).take d, i⟩ ∧ Toks s (a + d) l b := by
  cases h with
  | step h1 h2 h3 => exact ⟨_, _, h1, h2, rfl, h3⟩
theorem toks_nil {s : List Int} {i : Nat} {b : Int} (h : Toks s i [] b) (hb : b < 0) : s.length ≤ i := by
  cases h with
  | done h1 => exact h1
  | bad h1 h2 => omega
/-- By the tokens: a script that holds data. -/
def DataT (l : List S36) (b : Int) : Prop := b < 0 ∧ ((∃ t0, l = [t0] ∧ t0.f0 = 106) ∨ (∃ t0 t1, l = [t0, t1] ∧ t0.f0 = 106 ∧ (Small t1.f0 ∨ (t1.f0 ≤ 78 ∧ t1.f1.length ≤ 80))))
theorem small_f {v : Int} (h : Small v) : spec_Small.f v = some (smallNum v, true) := by
  unfold Small at h
  unfold spec_Small.f smallNum
  by_cases h0 : v = 0
  · rw [if_pos h0, if_pos h0]
  · rw [if_neg h0, if_neg h0, if_pos (by omega), if_pos (by omega), show wrap64 (wrap64 (v - 81) + 1) = v - 80 by rw [tokW64 (x := v - 81) (by omega) (by omega), tokW64 (x := v - 81 + 1) (by omega) (by omega)]; omega]
theorem small_n {v : Int} (h : ¬ Small v) : spec_Small.f v = some (0, false) := by
  unfold Small at h
  unfold spec_Small.f
  rw [if_neg (by omega)]
  by_cases h1 : v ≥ 81
  · rw [if_pos h1, if_neg (by omega)]
  · rw [if_neg h1]
end Go.Proofs.Ytfbkjkihcajmdac.Tok
