/- The tokens of two scripts, one behind the other. -/
import Derived.Test.YtnnegacjgpejdaaTok6
namespace Go.Proofs.Ytnnegacjgpejdaa.Tok
open Go.RowKit Go.Proofs.YtnnegacjgpejdaaW.PrintWords Go.Proofs.YtnnegacjgpejdaaW.PrintLast Go.Proofs.YtnnegacjgpejdaaW.PrintMore Go.Proofs.Ytnnegacjgpejdaa.QFnTokensJoined
set_option linter.unusedVariables false
set_option linter.unusedSimpArgs false
/-- The tokens from i on (opcode, data), and whether the script is whole. -/
inductive Tks (s : List Int) : Nat → List (Int × List Int) → Bool → Prop
  | done {i : Nat} : s.length ≤ i → Tks s i [] true
  | bad {i : Nat} : i < s.length → dat s i = none → Tks s i [] false
  | step {i a d : Nat} {l : List (Int × List Int)} {b : Bool} : i < s.length → dat s i = some (a, d) → Tks s (a + d) l b → Tks s i ((s.getD i 0, (s.drop a).take d) :: l) b
theorem tks_total (s : List Int) : ∀ n i, s.length ≤ i + n → ∃ l b, Tks s i l b ∧ l.length ≤ n
  | 0, i, h => ⟨[], true, .done (by omega), by simp⟩
  | n + 1, i, h => by
    rcases Nat.lt_or_ge i s.length with hi | hi
    · rcases hd : dat s i with _ | ⟨a, d⟩
      · exact ⟨[], false, .bad hi hd, by simp⟩
      · obtain ⟨h1, h2⟩ := dat_le hi hd
        obtain ⟨l, b, hl, hn⟩ := tks_total s n (a + d) (by omega)
        exact ⟨_, b, .step hi hd hl, by simpa using hn⟩
    · exact ⟨[], true, .done hi, by simp⟩
theorem tks_inv {s : List Int} {i a d : Nat} {l : List (Int × List Int)} {b : Bool} (hi : i < s.length) (hd : dat s i = some (a, d)) (h : Tks s i l b) : ∃ l', l = (s.getD i 0, (s.drop a).take d) :: l' ∧ Tks s (a + d) l' b := by
  cases h with
  | done _ => omega
  | bad _ h2 => rw [hd] at h2; cases h2
  | step _ h2 h3 => rw [hd] at h2; injection h2 with h2; injection h2 with h5 h6; subst h5; subst h6; exact ⟨_, rfl, h3⟩
theorem tks_end {s : List Int} {i : Nat} {l : List (Int × List Int)} {b : Bool} (hi : s.length ≤ i) (h : Tks s i l b) : l = [] ∧ b = true := by
  cases h with
  | done _ => exact ⟨rfl, rfl⟩
  | bad h1 _ => omega
  | step h1 _ _ => omega
theorem tks_halt {s : List Int} {i : Nat} {l : List (Int × List Int)} {b : Bool} (hi : i < s.length) (hd : dat s i = none) (h : Tks s i l b) : l = [] ∧ b = false := by
  cases h with
  | done _ => omega
  | bad _ _ => exact ⟨rfl, rfl⟩
  | step _ h2 _ => rw [hd] at h2; cases h2
theorem getL {a b : List Int} {j : Nat} (h : j < a.length) : (a ++ b).getD j 0 = a.getD j 0 := by
  simp [List.getD_eq_getElem?_getD, List.getElem?_append_left h]
theorem getR (a b : List Int) (j : Nat) : (a ++ b).getD (a.length + j) 0 = b.getD j 0 := by
  simp [List.getD_eq_getElem?_getD, List.getElem?_append_right]
theorem datL {a b : List Int} {i p d : Nat} (hi : i < a.length) (h : dat a i = some (p, d)) : dat (a ++ b) i = some (p, d) := by
  have hl : (a ++ b).length = a.length + b.length := List.length_append
  unfold dat at h ⊢
  rw [getL hi, hl]
  by_cases h1 : a.getD i 0 = 76
  · rw [if_pos h1] at h ⊢
    split at h
    · rename_i q
      rw [getL (by omega), if_pos (by omega)]; exact h
    · cases h
  rw [if_neg h1] at h ⊢
  by_cases h2 : a.getD i 0 = 77
  · rw [if_pos h2] at h ⊢
    split at h
    · rename_i q
      have e : word2 (a ++ b) i = word2 a i := by unfold word2; rw [getL (by omega), getL (by omega)]
      rw [e, if_pos (by omega)]; exact h
    · cases h
  rw [if_neg h2] at h ⊢
  by_cases h3 : a.getD i 0 = 78
  · rw [if_pos h3] at h ⊢
    split at h
    · rename_i q
      have e : word4 (a ++ b) i = word4 a i := by unfold word4; rw [getL (by omega), getL (by omega), getL (by omega), getL (by omega)]
      rw [e, if_pos (by omega)]; exact h
    · cases h
  rw [if_neg h3] at h ⊢
  by_cases h4 : 1 ≤ a.getD i 0 ∧ a.getD i 0 < 76
  · rw [if_pos h4] at h ⊢
    split at h
    · rename_i q
      rw [if_pos (by omega)]; exact h
    · cases h
  rw [if_neg h4] at h ⊢
  exact h
theorem datR (a b : List Int) (i : Nat) : dat (a ++ b) (a.length + i) = (dat b i).map (fun p => (a.length + p.1, p.2)) := by
  have hl : (a ++ b).length = a.length + b.length := List.length_append
  have g : ∀ j, (a ++ b).getD (a.length + i + 1 + j) 0 = b.getD (i + 1 + j) 0 := fun j => by rw [← getR a b]; congr 1; omega
  have w2 : word2 (a ++ b) (a.length + i) = word2 b i := by unfold word2; rw [g, g]
  have w4 : word4 (a ++ b) (a.length + i) = word4 b i := by unfold word4; rw [g, g, g, g]
  unfold dat
  rw [w2, w4, g, getR, hl]
  by_cases h1 : b.getD i 0 = 76
  · rw [if_pos h1, if_pos h1]
    by_cases q : i + 2 ≤ b.length ∧ i + 2 + (b.getD (i + 1 + 0) 0).toNat ≤ b.length
    · rw [if_pos q, if_pos (by omega)]; simp only [Option.map_some, Option.some.injEq, Prod.mk.injEq, and_true]; omega
    · rw [if_neg q, if_neg (by omega)]; rfl
  rw [if_neg h1, if_neg h1]
  by_cases h2 : b.getD i 0 = 77
  · rw [if_pos h2, if_pos h2]
    by_cases q : i + 3 ≤ b.length ∧ i + 3 + (word2 b i).toNat ≤ b.length
    · rw [if_pos q, if_pos (by omega)]; simp only [Option.map_some, Option.some.injEq, Prod.mk.injEq, and_true]; omega
    · rw [if_neg q, if_neg (by omega)]; rfl
  rw [if_neg h2, if_neg h2]
  by_cases h3 : b.getD i 0 = 78
  · rw [if_pos h3, if_pos h3]
    by_cases q : i + 5 ≤ b.length ∧ i + 5 + (word4 b i).toNat ≤ b.length
    · rw [if_pos q, if_pos (by omega)]; simp only [Option.map_some, Option.some.injEq, Prod.mk.injEq, and_true]; omega
    · rw [if_neg q, if_neg (by omega)]; rfl
  rw [if_neg h3, if_neg h3]
  by_cases h4 : 1 ≤ b.getD i 0 ∧ b.getD i 0 < 76
  · rw [if_pos h4, if_pos h4]
    by_cases q : i + 1 + (b.getD i 0).toNat ≤ b.length
    · rw [if_pos q, if_pos (by omega)]; simp only [Option.map_some, Option.some.injEq, Prod.mk.injEq, and_true]; omega
    · rw [if_neg q, if_neg (by omega)]; rfl
  rw [if_neg h4, if_neg h4]
  simp only [Option.map_some, Option.some.injEq, Prod.mk.injEq, and_true]; omega
theorem joinR (a b : List Int) : ∀ {i : Nat} {l : List (Int × List Int)} {k : Bool}, Tks b i l k → Tks (a ++ b) (a.length + i) l k := by
  intro i l k h
  have hl : (a ++ b).length = a.length + b.length := List.length_append
  induction h with
  | done h1 => exact .done (by omega)
  | bad h1 h2 => exact .bad (by omega) (by rw [datR, h2]; rfl)
  | step h1 h2 h3 ih =>
    rename_i i p d l k
    have e : (b.getD i 0, (b.drop p).take d) = ((a ++ b).getD (a.length + i) 0, ((a ++ b).drop (a.length + p)).take d) := by
      rw [getR]
      congr 2
      simp
    rw [e]
    exact .step (by omega) (by rw [datR, h2]; rfl) (by rw [show a.length + p + d = a.length + (p + d) by omega]; exact ih)
theorem joinL (a b : List Int) {lb : List (Int × List Int)} {k : Bool} (hb : Tks b 0 lb k) : ∀ {i : Nat} {la : List (Int × List Int)} {f : Bool}, Tks a i la f → f = true → i ≤ a.length → Tks (a ++ b) i (la ++ lb) k := by
  intro i la f h
  have hl : (a ++ b).length = a.length + b.length := List.length_append
  induction h with
  | done h1 =>
    rename_i i
    intro _ h2
    have e : i = a.length + 0 := by omega
    rw [e]
    exact joinR a b hb
  | bad h1 h2 => intro h; cases h
  | step h1 h2 h3 ih =>
    rename_i i p d l f
    intro hf hi
    obtain ⟨g1, g2⟩ := dat_le h1 h2
    have e : (a.getD i 0, (a.drop p).take d) = ((a ++ b).getD i 0, ((a ++ b).drop p).take d) := by
      rw [getL h1, List.drop_append_of_le_length (by omega), List.take_append_of_le_length (by rw [List.length_drop]; omega)]
    rw [e]
    exact .step (by omega) (datL h1 h2) (ih hf (by omega))
theorem tks_join {a b : List Int} {la lb : List (Int × List Int)} {k : Bool} (ha : Tks a 0 la true) (hb : Tks b 0 lb k) : Tks (a ++ b) 0 (la ++ lb) k := joinL a b hb ha rfl (Nat.zero_le _)
theorem tks_data {s : List Int} : ∀ {i : Nat} {l : List (Int × List Int)} {b : Bool}, Tks s i l b → ∀ t ∈ l, t.2.length ≤ s.length := by
  intro i l b h
  induction h with
  | done _ => simp
  | bad _ _ => simp
  | step h1 h2 h3 ih =>
    intro t ht
    rcases List.mem_cons.1 ht with rfl | ht
    · show (List.take _ (List.drop _ s)).length ≤ _
      rw [List.length_take, List.length_drop]; omega
    · exact ih t ht
end Go.Proofs.Ytnnegacjgpejdaa.Tok
