/- Numbers of scripts: the bytes that the package and the reference write. -/
import Derived.Test.YtdmpjoglejnpbabBd5
import Derived.Lib.VarintBits
namespace Go.Proofs.Ytdmpjoglejnpbab.Bd
open Go.RowKit Go.Proofs.YtdmpjoglejnpbabW.PrintWords Go.Proofs.YtdmpjoglejnpbabW.PrintLast Go.Proofs.YtdmpjoglejnpbabW.PrintMore Go.Proofs.Ytdmpjoglejnpbab.QFnBuilt
set_option linter.unusedVariables false
set_option linter.unusedSimpArgs false
/-- The bytes of a number, the least first. -/
def lb (m : Nat) : List Int := if h : m = 0 then [] else ((m % 256 : Nat) : Int) :: lb (m / 256)
termination_by m
decreasing_by omega
theorem lb_zero : lb 0 = [] := by rw [lb]; simp
theorem lb_pos {m : Nat} (h : m ≠ 0) : lb m = ((m % 256 : Nat) : Int) :: lb (m / 256) := by rw [lb]; simp [h]
theorem lb_len : ∀ k m, m < 256 ^ k → (lb m).length ≤ k
  | 0, m, h => by
    have : m = 0 := by simpa using h
    subst this; rw [lb_zero]; simp
  | k + 1, m, h => by
    by_cases hm : m = 0
    · subst hm; rw [lb_zero]; simp
    · rw [lb_pos hm]
      have := lb_len k (m / 256) (by rw [Nat.pow_succ] at h; omega)
      simp; omega
def By (l : List Int) : Prop := ∀ x ∈ l, 0 ≤ x ∧ x < 256
/-- The sign into the last byte, or behind it. -/
def fin (neg : Bool) (l : List Int) : List Int :=
  if l.getD (l.length - 1) 0 < 128 then (if neg = true then l.set (l.length - 1) (l.getD (l.length - 1) 0 + 128) else l) else (if neg = true then l ++ [128] else l ++ [0])
theorem fin_len (neg : Bool) (l : List Int) : (fin neg l).length ≤ l.length + 1 := by
  unfold fin
  repeat' split
  all_goals simp
theorem and128 : ∀ n : Fin 256, bits BinOp.and IntKind.u8 (n.val : Int) 128 = if (n.val : Int) < 128 then 0 else 128 := by decide +kernel
theorem or128 : ∀ n : Fin 128, bits BinOp.or IntKind.u8 (n.val : Int) 128 = (n.val : Int) + 128 := by decide +kernel
theorem and128' (x : Int) (h0 : 0 ≤ x) (h1 : x < 256) : bits BinOp.and IntKind.u8 x 128 = if x < 128 then 0 else 128 := by
  have h := and128 ⟨x.toNat, by omega⟩
  have e : ((x.toNat : Nat) : Int) = x := by omega
  simpa only [e] using h
theorem or128' (x : Int) (h0 : 0 ≤ x) (h1 : x < 128) : bits BinOp.or IntKind.u8 x 128 = x + 128 := by
  have h := or128 ⟨x.toNat, by omega⟩
  have e : ((x.toNat : Nat) : Int) = x := by omega
  simpa only [e] using h
theorem and255 (m : Nat) (h : m < 9223372036854775808) : bits BinOp.and IntKind.i64 (m : Int) 255 = ((m % 256 : Nat) : Int) := by
  have two63 : (2 : Int) ^ 63 = 9223372036854775808 := by decide
  have h := bits_mask .i64 63 (by decide) (fun n h0 h1 => by rw [two63] at h1; rw [IntKind.wrap_i64]; omega) 8 (by decide) (m : Int) (by omega) (by rw [two63]; omega)
  have e : ((2 : Int) ^ 8 - 1) = 255 := by decide
  rw [e] at h
  rw [h]
  omega
theorem getD_by {l : List Int} (h : By l) (j : Nat) : 0 ≤ l.getD j 0 ∧ l.getD j 0 < 256 := by
  rw [List.getD_eq_getElem?_getD]
  cases hj : l[j]? with
  | none => simp
  | some y => simp; exact h y (List.mem_of_getElem? hj)
theorem last_w {l : List Int} (h : l ≠ []) (hl : l.length ≤ 1000) : wrap64 ((l.length : Int) - 1) = ((l.length - 1 : Nat) : Int) := by
  have : 0 < l.length := List.length_pos_iff.2 h
  unfold wrap64; omega
theorem by_snoc {l : List Int} {x : Int} (h : By l) (h0 : 0 ≤ x) (h1 : x < 256) : By (l ++ [x]) := by
  intro y hy
  rw [List.mem_append] at hy
  rcases hy with hy | hy
  · exact h y hy
  · simp at hy; subst hy; exact ⟨h0, h1⟩
theorem implFin (neg : Bool) (l : List Int) (h : l ≠ []) (hl : l.length ≤ 1000) (hb : By l) (k : Nat) : btcdtxscript_scriptNum_Bytes.l0 (k + 1) 0 neg l = some (fin neg l) := by
  have hp : 0 < l.length := List.length_pos_iff.2 h
  simp only [btcdtxscript_scriptNum_Bytes.l0]
  rw [last_w h hl, if_neg (by decide), if_pos (by omega), if_pos (by omega)]
  have e : rd l ((l.length - 1 : Nat) : Int) = l.getD (l.length - 1) 0 := by show l.getD (Int.toNat _) 0 = _; rw [Int.toNat_natCast]
  rw [e, Int.toNat_natCast]
  obtain ⟨h0, h1⟩ := getD_by hb (l.length - 1)
  rw [and128' _ h0 h1]
  unfold fin
  by_cases c : l.getD (l.length - 1) 0 < 128
  · rw [if_pos c, if_pos rfl, if_pos c, or128' _ h0 c]
    split <;> rfl
  · rw [if_neg c, if_neg (by decide), if_neg c]
    have hh : l.length < 140737488355328 := by omega
    cases neg
    · rw [if_neg (by decide), if_pos hh, if_neg (by decide)]
    · rw [if_pos rfl, if_pos hh, if_pos rfl]
theorem implLoop (neg : Bool) : ∀ (d k m : Nat) (l : List Int), m < 256 ^ d → d ≤ k → m < 9223372036854775808 → l.length + d ≤ 1000 → (l ≠ [] ∨ m ≠ 0) → By l → btcdtxscript_scriptNum_Bytes.l0 (k + 1) (m : Int) neg l = some (fin neg (l ++ lb m)) := by
  intro d
  induction d with
  | zero =>
    intro k m l h hk hs hl hne hb
    have : m = 0 := by simpa using h
    subst this
    rw [lb_zero, List.append_nil]
    exact implFin neg l (by rcases hne with h | h; exact h; exact absurd rfl h) (by omega) hb k
  | succ d ih =>
    intro k m l h hk hs hl hne hb
    by_cases hm : m = 0
    · subst hm
      rw [lb_zero, List.append_nil]
      exact implFin neg l (by rcases hne with h | h; exact h; exact absurd rfl h) (by omega) hb _
    · obtain ⟨k, rfl⟩ : ∃ q, k = q + 1 := ⟨k - 1, by omega⟩
      rw [btcdtxscript_scriptNum_Bytes.l0, if_pos (by omega), if_pos (by omega), and255 m hs]
      have e1 : ((m % 256 : Nat) : Int) % 256 = ((m % 256 : Nat) : Int) := by omega
      have e2 : (m : Int) / 256 = ((m / 256 : Nat) : Int) := by omega
      rw [e1, e2, ih k (m / 256) (l ++ [((m % 256 : Nat) : Int)]) (by rw [Nat.pow_succ] at h; omega) (by omega) (by omega) (by simp; omega) (.inl (by simp)) (by_snoc hb (by omega) (by omega))]
      rw [lb_pos hm, List.append_assoc]; rfl
/-- The bytes of a script's number. -/
def nb (n : Int) : List Int := if n = 0 then [] else fin (decide (n < 0)) (lb n.natAbs)
theorem implBytes (n : Int) (h0 : -9223372036854775808 < n) (h1 : n ≤ 9223372036854775807) (k : Nat) (hk : 10 ≤ k) : btcdtxscript_scriptNum_Bytes.f k n = some (nb n) := by
  unfold btcdtxscript_scriptNum_Bytes.f nb
  by_cases c0 : n = 0
  · rw [if_pos c0, if_pos c0]
  rw [if_neg c0, if_neg c0]
  obtain ⟨k, rfl⟩ : ∃ q, k = q + 2 := ⟨k - 2, by omega⟩
  have key : ∀ neg, btcdtxscript_scriptNum_Bytes.j0 (k + 2) (n.natAbs : Int) neg = some (fin neg (lb n.natAbs)) := by
    intro neg
    rw [btcdtxscript_scriptNum_Bytes.j0, if_pos (by decide)]
    exact implLoop neg 8 k n.natAbs [] (by omega) (by omega) (by omega) (by simp) (.inr (by omega)) (fun x hx => by simp at hx)
  by_cases c1 : n < 0
  · rw [if_pos c1, show wrap64 (-n) = (n.natAbs : Int) by unfold wrap64; omega]
    exact key _
  · rw [if_neg c1]
    have e : (n.natAbs : Int) = n := by omega
    have h := key (decide (n < 0))
    rw [e] at h
    exact h
theorem lb_small (m : Nat) (h0 : m ≠ 0) (h1 : m < 256) : lb m = [(m : Int)] := by
  rw [lb_pos h0, Nat.mod_eq_of_lt h1, Nat.div_eq_of_lt h1, lb_zero]
theorem nb_num (n : Int) (h0 : -9223372036854775808 < n) (h1 : n ≤ 9223372036854775807) : Num n (nb n) := by
  refine ⟨?_, fun h => ?_, fun h => ?_, fun h2 h3 => ?_⟩
  · unfold nb
    split
    · simp
    · have := fin_len (decide (n < 0)) (lb n.natAbs)
      have := lb_len 8 n.natAbs (by omega)
      omega
  · subst h; rfl
  · subst h
    unfold nb
    rw [if_neg (by decide), lb_small _ (by decide) (by decide)]
    decide
  · unfold nb
    rw [if_neg (by omega), lb_small _ (by omega) (by omega), decide_eq_false (by omega)]
    unfold fin
    have e : ((n.natAbs : Nat) : Int) = n := by omega
    simp [e]; omega
/-! ### The reference -/
theorem specFin (n : Int) (l : List Int) (h : l ≠ []) (hl : l.length ≤ 1000) (hb : By l) (k : Nat) : spec_NumberBytes.l0 (k + 1) n 0 l = some (fin (decide (n < 0)) l) := by
  have hp : 0 < l.length := List.length_pos_iff.2 h
  simp only [spec_NumberBytes.l0]
  rw [last_w h hl, if_neg (by decide), if_pos (by omega), if_pos (by omega)]
  have e : rd l ((l.length - 1 : Nat) : Int) = l.getD (l.length - 1) 0 := by show l.getD (Int.toNat _) 0 = _; rw [Int.toNat_natCast]
  rw [e, Int.toNat_natCast]
  obtain ⟨h0, h1⟩ := getD_by hb (l.length - 1)
  unfold fin
  by_cases c : l.getD (l.length - 1) 0 < 128
  · rw [if_neg (by omega), if_pos c]
    by_cases c1 : n < 0
    · rw [if_pos c1, if_pos (decide_eq_true c1)]
      congr 2; omega
    · rw [if_neg c1, decide_eq_false c1, if_neg (by decide)]
  · rw [if_pos (by omega), if_pos (by omega), if_neg c, Option.bind_some]
    by_cases c1 : n < 0
    · have hl1 : (l ++ [0]).length = l.length + 1 := by simp
      have hw : wrap64 (((l ++ [0]).length : Int) - 1) = (l.length : Int) := by rw [hl1]; unfold wrap64; omega
      rw [if_pos c1, hw, if_pos (by omega), if_pos (by rw [hl1]; omega), if_pos (decide_eq_true c1), Int.toNat_natCast]
      have e2 : rd (l ++ [0]) (l.length : Int) = 0 := by show (l ++ [0]).getD (Int.toNat _) 0 = _; rw [Int.toNat_natCast]; simp
      rw [e2, List.set_append_right _ _ (Nat.le_refl _), Nat.sub_self]; rfl
    · rw [if_neg c1, decide_eq_false c1, if_neg (by decide)]
theorem specLoop (n : Int) : ∀ (d k m : Nat) (l : List Int), m < 256 ^ d → d ≤ k → l.length + d ≤ 1000 → (l ≠ [] ∨ m ≠ 0) → By l → spec_NumberBytes.l0 (k + 1) n (m : Int) l = some (fin (decide (n < 0)) (l ++ lb m)) := by
  intro d
  induction d with
  | zero =>
    intro k m l h hk hl hne hb
    have : m = 0 := by simpa using h
    subst this
    rw [lb_zero, List.append_nil]
    exact specFin n l (by rcases hne with h | h; exact h; exact absurd rfl h) (by omega) hb k
  | succ d ih =>
    intro k m l h hk hl hne hb
    by_cases hm : m = 0
    · subst hm
      rw [lb_zero, List.append_nil]
      exact specFin n l (by rcases hne with h | h; exact h; exact absurd rfl h) (by omega) hb _
    · obtain ⟨k, rfl⟩ : ∃ q, k = q + 1 := ⟨k - 1, by omega⟩
      rw [spec_NumberBytes.l0, if_pos (by omega), if_pos (by omega)]
      have e1 : (m : Int) % 256 = ((m % 256 : Nat) : Int) := by omega
      have e2 : (m : Int) / 256 = ((m / 256 : Nat) : Int) := by omega
      rw [e1, e2, ih k (m / 256) (l ++ [((m % 256 : Nat) : Int)]) (by rw [Nat.pow_succ] at h; omega) (by omega) (by simp; omega) (.inl (by simp)) (by_snoc hb (by omega) (by omega))]
      rw [lb_pos hm, List.append_assoc]; rfl
theorem u64w (x : Int) : IntKind.u64.wrap x = x % 18446744073709551616 := by simp [IntKind.wrap, IntKind.signed, IntKind.bits]
theorem specBytes (n : Int) (h0 : -9223372036854775808 < n) (h1 : n ≤ 9223372036854775807) (k : Nat) (hk : 10 ≤ k) : spec_NumberBytes.f k n = some (nb n) := by
  unfold spec_NumberBytes.f nb
  by_cases c0 : n = 0
  · rw [if_pos c0, if_pos c0]
  rw [if_neg c0, if_neg c0]
  obtain ⟨k, rfl⟩ : ∃ q, k = q + 2 := ⟨k - 2, by omega⟩
  have key : spec_NumberBytes.j0 (k + 2) n (n.natAbs : Int) = some (fin (decide (n < 0)) (lb n.natAbs)) := by
    rw [spec_NumberBytes.j0]
    exact specLoop n 8 k n.natAbs [] (by omega) (by omega) (by simp) (.inr (by omega)) (fun x hx => by simp at hx)
  by_cases c1 : n < 0
  · rw [if_pos c1, show IntKind.u64.wrap (-(IntKind.u64.wrap n)) = (n.natAbs : Int) by rw [u64w, u64w]; omega]
    exact key
  · rw [if_neg c1, show IntKind.u64.wrap n = (n.natAbs : Int) by rw [u64w]; omega]
    exact key
end Go.Proofs.Ytdmpjoglejnpbab.Bd
