/- What the reference's Regroup and the package's ConvertBits answer, by bits. -/
import Derived.Test.YtnbecklojmbbbaaRegMath
namespace Go.Proofs.Ytnbecklojmbbbaa.RG
open Go.RowKit Go.Proofs.Ytnbecklojmbbbaa.QFnRegroup Go.Proofs.YtnbecklojmbbbaaW.PrintWords Go.Proofs.YtnbecklojmbbbaaW.PrintLast Go.Proofs.YtnbecklojmbbbaaW.PrintMore

theorem pow_le {a b : Nat} (h : a ≤ b) : (2 : Int) ^ a ≤ 2 ^ b := by
  obtain ⟨c, rfl⟩ := Nat.exists_eq_add_of_le h
  have h1 := two_pow_pos a
  have h2 := two_pow_pos c
  rw [Int.pow_add]
  have := Int.mul_le_mul_of_nonneg_left (show (1 : Int) ≤ 2 ^ c by omega) (Int.le_of_lt h1)
  omega
theorem w64 {x : Int} (h0 : -9223372036854775808 ≤ x) (h1 : x ≤ 9223372036854775807) : wrap64 x = x := by unfold wrap64; omega

theorem ev_group (B : List Int) (hB : Bits B) (hl : B.length ≤ 8) : Ev (fun k => spec_group.f k B) (val B) := by
  have key : ∀ d (i : Nat), i + d = B.length → Ev (fun k => spec_group.l0 k B (val (B.take i)) i) (val B) := by
    intro d
    induction d with
    | zero =>
      intro i hi
      refine Ev.step (f := fun _ => some (val B)) (fun k => ?_) (Ev.now _)
      rw [spec_group.l0, if_neg (by omega), List.take_of_length_le (by omega)]
    | succ d ih =>
      intro i hi
      refine Ev.step (fun k => ?_) (ih (i + 1) (by omega))
      have hx : i < B.length := by omega
      have e1 : val (B.take (i + 1)) = 2 * val (B.take i) + B[i] := by
        rw [List.take_succ_eq_append_getElem hx, val_append, val_one]; simp; omega
      have hr := val_range (bits_take hB (i + 1))
      have hp : (2 : Int) ^ (B.take (i + 1)).length ≤ 2 ^ 8 := pow_le (by rw [List.length_take]; omega)
      have e2 : rd B i = B[i] := by simp [rd, hx]
      rw [spec_group.l0, if_pos (by omega), if_pos (by omega), e2, w64 (by omega) (by omega), Int.emod_eq_of_lt (by omega) (by omega), ← e1]
      rfl
  exact key B.length 0 (by omega)

/-- how both end: the groups, and what is left. -/
def fin (x1 : Int) (pad : Bool) (t : Nat) (out rest : List Int) : List Int × Bool :=
  if rest = [] then (out, true) else if pad = true then (out ++ [val rest * 2 ^ (t - rest.length)], true) else
    (out, decide ((rest.length : Int) < x1) && decide (val rest = 0))

theorem shl8 (v : Int) (n : Nat) (h0 : 0 ≤ v) (hn : n ≤ 8) (h : v * 2 ^ n < 256) : shl .u8 v n = v * 2 ^ n := by
  unfold shl
  rw [show min (n : Int).toNat IntKind.u8.bits = n by simp [IntKind.bits]; omega]
  have : 0 ≤ v * 2 ^ n := Int.mul_nonneg h0 (Int.le_of_lt (two_pow_pos n))
  generalize v * 2 ^ n = y at *
  simp [IntKind.wrap, IntKind.signed, IntKind.bits]; omega

theorem shifted_lt (B : List Int) (hB : Bits B) (t : Nat) (h : B.length ≤ t) : val B * 2 ^ (t - B.length) < 2 ^ t := by
  have h1 := val_range hB
  have h2 : val B * 2 ^ (t - B.length) < 2 ^ B.length * 2 ^ (t - B.length) := Int.mul_lt_mul_of_pos_right h1.2 (two_pow_pos _)
  rwa [← Int.pow_add, Nat.add_sub_cancel' h] at h2

theorem ev_l2 (x1 : Int) (t : Nat) (ht0 : 0 < t) (ht : t ≤ 8) (pad : Bool) (q : Nat) : ∀ (B out : List Int), Bits B → q * t ≤ B.length → B.length - q * t < t → out.length + q < 1000000 → B.length < 1000000 →
    Ev (fun k => spec_Regroup.l2 k x1 t pad B out) (fin x1 pad t (out ++ chunks t q B) (B.drop (q * t))) := by
  induction q with
  | zero =>
    intro B out hB h1 h2 h3 h4
    simp only [Nat.zero_mul, List.drop_zero, Nat.sub_zero] at h2 ⊢
    have e0 : chunks t 0 B = [] := rfl
    rw [e0, List.append_nil]
    by_cases hb : B = []
    · subst hb
      refine Ev.step (f := fun _ => some (out, true)) (fun k => ?_) (by unfold fin; rw [if_pos rfl]; exact Ev.now _)
      rw [spec_Regroup.l2, if_neg (by simp; omega), if_pos (by simp)]
    · have hne : B.length ≠ 0 := by simpa using hb
      have hs := shifted_lt B hB t (by omega)
      have hv := val_range hB
      have hp : (2 : Int) ^ t ≤ 2 ^ 8 := pow_le ht
      have e1 : wrap64 ((t : Int) - B.length) = ((t - B.length : Nat) : Int) := by rw [w64 (by omega) (by omega)]; omega
      have e2 : shl .u8 (val B) ((t - B.length : Nat) : Int) = val B * 2 ^ (t - B.length) := shl8 _ _ hv.1 (by omega) (by omega)
      refine Ev.step (fun k => ?_) (Ev.bind (f := fun _ v => some (if pad = true then (out ++ [shl .u8 v ((t - B.length : Nat) : Int)], true) else (out, decide ((B.length : Int) < x1) && decide (shl .u8 v ((t - B.length : Nat) : Int) = 0)))) (ev_group B hB (by omega)) ?_)
      · rw [spec_Regroup.l2, if_neg (by omega), if_neg (by omega)]
        congr 1
        funext v
        rw [e1, if_pos (by omega)]
        cases pad with
        | true => rw [if_pos rfl, if_pos rfl, if_pos (by omega)]
        | false =>
          simp only [Bool.false_eq_true, if_false]
          by_cases c : (B.length : Int) < x1
          · rw [if_pos c, decide_eq_true c]; rfl
          · rw [if_neg c, decide_eq_false c]; rfl
      · unfold fin
        rw [if_neg hb]
        simp only [e2]
        have z : decide (val B * 2 ^ (t - B.length) = 0) = decide (val B = 0) := by
          have := two_pow_pos (t - B.length)
          rw [decide_eq_decide, Int.mul_eq_zero]; omega
        rw [z]
        exact Ev.now _
  | succ q ih =>
    intro B out hB h1 h2 h3 h4
    rw [Nat.succ_mul] at h1 h2
    have hl : (B.drop t).length = B.length - t := List.length_drop
    have hI := ih (B.drop t) (out ++ [val (B.take t)]) (bits_drop hB t) (by omega) (by omega) (by simp; omega) (by omega)
    have e1 : (out ++ [val (B.take t)]) ++ chunks t q (B.drop t) = out ++ chunks t (q + 1) B := by rw [chunks_cons]; simp
    have e2 : (B.drop t).drop (q * t) = B.drop ((q + 1) * t) := by rw [List.drop_drop, Nat.succ_mul]; congr 1; omega
    rw [e1, e2] at hI
    refine Ev.step (fun k => ?_) (Ev.bind (f := fun k v => spec_Regroup.l2 k x1 t pad (B.drop t) (out ++ [v])) (ev_group (B.take t) (bits_take hB t) (by rw [List.length_take]; omega)) hI)
    rw [spec_Regroup.l2, if_pos (by omega), if_pos (by omega), if_pos (by omega)]
    congr 1
    funext v
    rw [if_pos (by omega)]; rfl

theorem ev_l1 (l : List Int) (f : Nat) (hf : f ≤ 8) (x2 : Int) (pad : Bool) (i : Nat) (hi : i < l.length) (x : Int) (hx : l[i] = x) (hx0 : 0 ≤ x) (hx1 : x < 256) (R : List Int × Bool) (m : Nat) : m ≤ f → ∀ (B : List Int), B.length + m < 1000000 →
    Ev (fun k => spec_Regroup.l0 k l f x2 pad (B ++ bitsOf m x) (wrap64 ((i : Int) + 1))) R → Ev (fun k => spec_Regroup.l1 k l f x2 pad B i ((m : Int) - 1)) R := by
  induction m with
  | zero =>
    intro hm B hB h
    refine Ev.step (fun k => ?_) h
    rw [spec_Regroup.l1, if_neg (by omega)]
    simp [bitsOf]
  | succ m ih =>
    intro hm B hB h
    have e : B ++ bitsOf (m + 1) x = (B ++ [x / 2 ^ m % 2]) ++ bitsOf m x := by simp [bitsOf]
    rw [e] at h
    refine Ev.step (fun k => ?_) (ih (by omega) (B ++ [x / 2 ^ m % 2]) (by simp; omega) h)
    have e2 : rd l i = x := by simp [rd, hi, hx]
    have e3 : Go.bits .and .u8 (shr .u8 x m) 1 = x / 2 ^ m % 2 := by
      unfold shr
      rw [show min (m : Int).toNat IntKind.u8.bits = m by simp [IntKind.bits]; omega]
      have hp := two_pow_pos m
      have h1 : 0 ≤ x / 2 ^ m := Int.ediv_nonneg hx0 (Int.le_of_lt hp)
      have h2 : x / 2 ^ m ≤ x := Int.ediv_le_self _ hx0
      exact (bits_mask .u8 8 (by decide) wraps_u8 1 (by decide) _ h1 (by omega)).trans (by simp)
    rw [spec_Regroup.l1, if_pos (by omega), if_pos (by omega), if_pos (by omega), if_pos (by omega), if_pos (by omega), e2, show ((m + 1 : Nat) : Int) - 1 = m by omega, e3, w64 (by omega) (by omega)]

theorem ev_spec (l : List Int) (f : Nat) (hf0 : 0 < f) (hf : f ≤ 8) (t : Nat) (ht0 : 0 < t) (ht : t ≤ 8) (pad : Bool) (hl : l.length ≤ 400) (hw : ∀ x ∈ l, 0 ≤ x ∧ x < 256) :
    Ev (fun k => spec_Regroup.f k l f t pad) (fin f pad t (chunks t ((all f l).length / t) (all f l)) ((all f l).drop ((all f l).length / t * t))) := by
  have key : ∀ d i, i + d = l.length → Ev (fun k => spec_Regroup.l0 k l f t pad (all f (l.take i)) i) (fin f pad t (chunks t ((all f l).length / t) (all f l)) ((all f l).drop ((all f l).length / t * t))) := by
    intro d
    induction d with
    | zero =>
      intro i hi
      have hlen := all_length f l
      have hmul : l.length * f ≤ 400 * 8 := Nat.mul_le_mul hl hf
      have hd := Nat.div_add_mod (all f l).length t
      have hm := Nat.mod_lt (all f l).length ht0
      have hq : (all f l).length / t ≤ (all f l).length := Nat.div_le_self _ _
      rw [Nat.mul_comm] at hd
      refine Ev.step (fun k => ?_) (ev_l2 f t ht0 ht pad ((all f l).length / t) (all f l) [] (all_bits f l) (by omega) (by omega) (by simp; omega) (by omega))
      rw [spec_Regroup.l0, if_neg (by omega), List.take_of_length_le (by omega)]
    | succ d ih =>
      intro i hi
      have hx : i < l.length := by omega
      have e : all f (l.take (i + 1)) = all f (l.take i) ++ bitsOf f l[i] := by
        rw [List.take_succ_eq_append_getElem hx]; unfold all; rw [List.flatMap_append]; simp
      have hlen := all_length f (l.take i)
      rw [List.length_take] at hlen
      have hmul : min i l.length * f ≤ 400 * 8 := Nat.mul_le_mul (by omega) hf
      have h := ih (i + 1) (by omega)
      rw [e] at h
      have hr := hw l[i] (List.getElem_mem hx)
      refine Ev.step (fun k => ?_) (ev_l1 l f hf t pad i hx l[i] rfl hr.1 hr.2 _ f (Nat.le_refl _) (all f (l.take i)) (by omega) (by rw [w64 (by omega) (by omega)]; exact h))
      rw [spec_Regroup.l0, if_pos (by omega), w64 (by omega) (by omega)]
  exact key l.length 0 (by omega)
end Go.Proofs.Ytnbecklojmbbbaa.RG
