/- Checks of signatures: how many a script asks for, by its tokens; the reference's count and the package's. -/
import Derived.Test.YtfbkjkihcajmdabTok7
namespace Go.Proofs.Ytfbkjkihcajmdab.Tok
open Go.RowKit Go.Proofs.YtfbkjkihcajmdabW.PrintWords Go.Proofs.YtfbkjkihcajmdabW.PrintLast Go.Proofs.YtfbkjkihcajmdabW.PrintMore Go.Proofs.Ytfbkjkihcajmdab.QFnSpendSigOps
set_option linter.unusedVariables false
set_option linter.unusedSimpArgs false
/-- What a token counts for, by the one ahead. -/
def wt (p v : Int) : Int := if v = 172 ∨ v = 173 then 1 else if v = 174 ∨ v = 175 then (if 81 ≤ p ∧ p ≤ 96 then p - 80 else 20) else 0
theorem wt_range (p v : Int) : 0 ≤ wt p v ∧ wt p v ≤ 20 := by
  unfold wt
  repeat' split
  all_goals omega
def cnt : Int → List S34 → Int
  | _, [] => 0
  | p, t :: l => wt p t.f0 + cnt t.f0 l
theorem cnt_range : ∀ (l : List S34) (p : Int), 0 ≤ cnt p l ∧ cnt p l ≤ 20 * l.length
  | [], p => by simp [cnt]
  | t :: l, p => by
    have h1 := cnt_range l t.f0
    have h2 := wt_range p t.f0
    simp only [cnt, List.length_cons]
    omega
theorem toks_lenN {s : List Int} : ∀ {i : Nat} {l : List S34} {b : Int}, Toks s i l b → i + l.length ≤ s.length ∨ l = [] := by
  intro i l b h
  induction h with
  | done _ => exact Or.inr rfl
  | bad _ _ => exact Or.inr rfl
  | step h1 h2 h3 ih =>
    obtain ⟨g1, g2⟩ := dat_le h1 h2
    rw [List.length_cons]
    rcases ih with ih | ih
    · exact Or.inl (by omega)
    · rw [ih]; exact Or.inl (by simp only [List.length_nil]; omega)
theorem toks_le {s : List Int} {l : List S34} {b : Int} (h : Toks s 0 l b) : l.length ≤ s.length := by
  rcases toks_lenN h with h | h
  · omega
  · rw [h]; simp
theorem ev_cnt (full : List S34) (hn : full.length ≤ 1000000) : ∀ (l : List S34) (j : Nat) (p acc : Int), full.drop j = l → j + l.length = full.length →
    ((p = 255 ∧ j = 0) ∨ (0 < j ∧ p = (rd_T34 full ((j : Int) - 1)).f0)) → 0 ≤ acc → acc ≤ 20 * j → Ev (fun k => spec_SigOps.l0 k true full acc j) (acc + cnt p l)
  | [], j, p, acc, hd, hj, hp, h0, h1 => by
    refine Ev.step (f := fun _ => some (acc + cnt p [])) (fun k => ?_) (Ev.now _)
    rw [List.length_nil] at hj
    rw [spec_SigOps.l0, if_neg (by omega)]
    simp [cnt]
  | t :: l, j, p, acc, hd, hj, hp, h0, h1 => by
    rw [List.length_cons] at hj
    have hjl : j < full.length := by omega
    have he := List.drop_eq_getElem_cons hjl
    rw [hd] at he
    injection he with e1 e2
    have ht : rd_T34 full (j : Int) = t := by unfold rd_T34; rw [e1]; simp [hjl]
    obtain ⟨w0, w1⟩ := wt_range p t.f0
    have IH := ev_cnt full hn l (j + 1) t.f0 (acc + wt p t.f0) e2.symm (by omega) (Or.inr ⟨by omega, by rw [show ((j + 1 : Nat) : Int) - 1 = (j : Int) by omega, ht]⟩) (by omega) (by omega)
    rw [show acc + cnt p (t :: l) = acc + wt p t.f0 + cnt t.f0 l by rw [cnt]; omega]
    have hj1 : wrap64 ((j : Int) + 1) = ((j + 1 : Nat) : Int) := by rw [tokW64 (by omega) (by omega)]; rfl
    refine Ev.step (f := fun k => spec_SigOps.j1 k true full acc j t.f0 (decide (t.f0 = 172 ∨ t.f0 = 173))) (fun k => ?_) ?_
    · rw [spec_SigOps.l0, if_pos (by omega), if_pos (by omega), ht]
      by_cases h : t.f0 = 172
      · rw [if_pos h]; simp [h]
      · rw [if_neg h]; congr 1; simp only [h, false_or]; rfl
    by_cases c1 : t.f0 = 172 ∨ t.f0 = 173
    · rw [decide_eq_true c1]
      refine Ev.step (f := fun k => spec_SigOps.l0 k true full (acc + wt p t.f0) ((j + 1 : Nat) : Int)) (fun k => ?_) IH
      rw [spec_SigOps.j1, if_pos rfl, hj1, show wt p t.f0 = 1 by unfold wt; rw [if_pos c1], tokW64 (x := acc + 1) (by omega) (by omega)]
    rw [decide_eq_false c1]
    refine Ev.step (f := fun k => spec_SigOps.j2 k true full acc j (decide (t.f0 = 174 ∨ t.f0 = 175))) (fun k => ?_) ?_
    · rw [spec_SigOps.j1, if_neg (by decide)]
      by_cases h : t.f0 = 174
      · rw [if_pos h]; simp [h]
      · rw [if_neg h]; congr 1; simp only [h, false_or]; rfl
    by_cases c2 : t.f0 = 174 ∨ t.f0 = 175
    · rw [decide_eq_true c2]
      refine Ev.step (f := fun k => spec_SigOps.l0 k true full (acc + wt p t.f0) ((j + 1 : Nat) : Int)) (fun k => ?_) IH
      rw [spec_SigOps.j2, if_pos rfl, if_pos rfl, hj1]
      rcases hp with ⟨p1, p2⟩ | ⟨p1, p2⟩
      · rw [if_neg (by omega), show wt p t.f0 = 20 by unfold wt; rw [if_neg c1, if_pos c2, if_neg (by omega)], tokW64 (x := acc + 20) (by omega) (by omega)]
      · rw [if_pos (by omega), tokW64 (x := (j : Int) - 1) (by omega) (by omega), if_pos (by omega), if_pos (by omega), ← p2]
        by_cases c3 : 81 ≤ p
        · rw [if_pos c3]
          by_cases c4 : p ≤ 96
          · rw [if_pos c4, show wt p t.f0 = p - 80 by unfold wt; rw [if_neg c1, if_pos c2, if_pos ⟨c3, c4⟩], tokW64 (x := p - 81) (by omega) (by omega), tokW64 (x := p - 81 + 1) (by omega) (by omega), tokW64 (x := acc + (p - 81 + 1)) (by omega) (by omega), show acc + (p - 81 + 1) = acc + (p - 80) by omega]
          · rw [if_neg c4, show wt p t.f0 = 20 by unfold wt; rw [if_neg c1, if_pos c2, if_neg (by omega)], tokW64 (x := acc + 20) (by omega) (by omega)]
        · rw [if_neg c3, show wt p t.f0 = 20 by unfold wt; rw [if_neg c1, if_pos c2, if_neg (by omega)], tokW64 (x := acc + 20) (by omega) (by omega)]
    · rw [decide_eq_false c2]
      refine Ev.step (f := fun k => spec_SigOps.l0 k true full (acc + wt p t.f0) ((j + 1 : Nat) : Int)) (fun k => ?_) IH
      rw [spec_SigOps.j2, if_neg (by decide), hj1, show wt p t.f0 = 0 by unfold wt; rw [if_neg c1, if_neg c2], Int.add_zero]
theorem ev_SigOps (s : List Int) (hn : s.length ≤ 1000000) (hB : ByteL s) {l : List S34} {b : Int} (h : Toks s 0 l b) : Ev (fun k => spec_SigOps.f k s true) (cnt 255 l) := by
  have hl := toks_le h
  refine Ev.bind (ev_Tokens s hn hB h (by omega)) ?_
  have := ev_cnt l (by omega) l 0 255 0 rfl (by omega) (Or.inl ⟨rfl, rfl⟩) (by omega) (by omega)
  rw [Int.zero_add] at this
  exact this
/-- What is pushed last by a script that pushes only, and something. -/
theorem ev_lastPush (s : List Int) (hn : s.length ≤ 1000000) (hB : ByteL s) {l : List S34} {b : Int} (h : Toks s 0 l b) (r : Bool) (hr : Push s 0 r) :
    Ev (fun k => spec_lastPush.f k s) (if r = true ∧ l ≠ [] then ((l.getD (l.length - 1) z34).f1, true) else ([], false)) := by
  have hl := toks_le h
  refine Ev.bind (ev_Tokens s hn hB h (by omega)) ?_
  refine Ev.bind (ev_PushOnly s hn hB r hr) ?_
  refine Ev.congr (f := fun _ => some (if r = true ∧ l ≠ [] then ((l.getD (l.length - 1) z34).f1, true) else ([], false))) (fun k => ?_) (Ev.now _)
  by_cases hr1 : r = true
  · rw [if_pos hr1]
    by_cases h0 : l = []
    · subst h0; simp
    · have hpos : 0 < l.length := List.length_pos_iff.2 h0
      rw [if_neg (by simp only []; omega), tokW64 (by simp only []; omega) (by simp only []; omega), if_pos (by simp only []; omega), if_pos (by simp only []; omega), if_pos ⟨hr1, h0⟩]
      unfold rd_T34
      rw [show ((l.length : Int) - 1).toNat = l.length - 1 by omega]
  · rw [if_neg hr1, if_neg (fun h => hr1 h.1)]
end Go.Proofs.Ytfbkjkihcajmdab.Tok
