/- What the package's ConvertBits answers, by bits. -/
import Derived.Test.YtnbecklojmbbbaaRegSpec
namespace Go.Proofs.Ytnbecklojmbbbaa.RG
open Go.RowKit Go.Proofs.Ytnbecklojmbbbaa.QFnRegroup Go.Proofs.YtnbecklojmbbbaaW.PrintWords Go.Proofs.YtnbecklojmbbbaaW.PrintLast Go.Proofs.YtnbecklojmbbbaaW.PrintMore

theorem shl_n (x : Int) (n : Nat) (hn : n ≤ 8) : shl .u8 x n = x * 2 ^ n % 256 := by
  unfold shl
  rw [show min (n : Int).toNat IntKind.u8.bits = n by simp [IntKind.bits]; omega]
  generalize x * 2 ^ n = y at *
  simp [IntKind.wrap, IntKind.signed, IntKind.bits]
theorem shr_n (x : Int) (n : Nat) (hn : n ≤ 8) : shr .u8 x n = x / 2 ^ n := by
  unfold shr
  rw [show min (n : Int).toNat IntKind.u8.bits = n by simp [IntKind.bits]; omega]

/-- the top e bits of what is left of a byte, moved to its bottom. -/
theorem top_bits (R : List Int) (hR : Bits R) (e : Nat) (he : e ≤ R.length) (hl : R.length ≤ 8) : (val R * 2 ^ (8 - R.length)) / 2 ^ (8 - e) = val (R.take e) := by
  rw [val_take hR e he, show 8 - e = (R.length - e) + (8 - R.length) by omega, Int.pow_add]
  rw [Int.mul_comm (2 ^ (R.length - e)), ← Int.ediv_ediv_of_nonneg (Int.le_of_lt (two_pow_pos _)), Int.mul_ediv_cancel _ (Int.ne_of_gt (two_pow_pos _))]
/-- what is left of the byte behind them. -/
theorem rest_bits (R : List Int) (hR : Bits R) (e : Nat) (he : e ≤ R.length) (hl : R.length ≤ 8) : (val R * 2 ^ (8 - R.length)) * 2 ^ e % 256 = val (R.drop e) * 2 ^ (8 - (R.drop e).length) := by
  have h1 : val R = val (R.take e) * 2 ^ (R.length - e) + val (R.drop e) := by
    conv => lhs; rw [← List.take_append_drop e R]
    rw [val_append, List.length_drop]
  have h2 := val_range (bits_drop hR e)
  have hd : (R.drop e).length = R.length - e := List.length_drop
  rw [hd] at h2 ⊢
  generalize hv : val (R.drop e) = v at *
  generalize hu : val (R.take e) = u at *
  have h3 : v * 2 ^ (8 - (R.length - e)) < 256 := by
    have : v * 2 ^ (8 - (R.length - e)) < 2 ^ (R.length - e) * 2 ^ (8 - (R.length - e)) := Int.mul_lt_mul_of_pos_right h2.2 (two_pow_pos _)
    rw [← Int.pow_add, show R.length - e + (8 - (R.length - e)) = 8 by omega] at this
    exact this
  have h4 : 0 ≤ v * 2 ^ (8 - (R.length - e)) := Int.mul_nonneg h2.1 (Int.le_of_lt (two_pow_pos _))
  have h5 : (val R * 2 ^ (8 - R.length)) * 2 ^ e = v * 2 ^ (8 - (R.length - e)) + u * 256 := by
    rw [h1, Int.mul_assoc, ← Int.pow_add, show 8 - R.length + e = 8 - (R.length - e) by omega, Int.add_mul, Int.mul_assoc, ← Int.pow_add, show R.length - e + (8 - (R.length - e)) = 8 by omega, Int.add_comm]
    rfl
  rw [h5, Int.add_mul_emod_self_right, Int.emod_eq_of_lt h4 h3]

theorem join_bits (n : Int) (r e : Nat) (y : Int) (hn0 : 0 ≤ n) (hn : n < 2 ^ r) (hre : r + e ≤ 8) (hy0 : 0 ≤ y) (hy : y < 2 ^ e) : Go.bits .or .u8 (shl .u8 n e) y = n * 2 ^ e + y := by
  have h1 : n * 2 ^ e < 256 := by
    have h2 : n * 2 ^ e < 2 ^ r * 2 ^ e := Int.mul_lt_mul_of_pos_right hn (two_pow_pos e)
    rw [← Int.pow_add] at h2
    have h3 : (2 : Int) ^ (r + e) ≤ 2 ^ 8 := pow_le hre
    omega
  have h0 : 0 ≤ n * 2 ^ e := Int.mul_nonneg hn0 (Int.le_of_lt (two_pow_pos e))
  rw [shl_n n e (by omega), Int.emod_eq_of_lt h0 h1]
  have hp : (2 : Int) ^ e ≤ 2 ^ 8 := pow_le (by omega)
  exact bits_join .u8 8 (by decide) wraps_u8 e (n * 2 ^ e) y h0 (Int.mul_emod_left _ _) h1 hy0 hy (by omega)

/-- the state behind some bits. -/
def out (t : Nat) (C : List Int) : List Int := chunks t (C.length / t) C
def rest (t : Nat) (C : List Int) : List Int := C.drop (C.length / t * t)
theorem rest_len (t : Nat) (C : List Int) : (rest t C).length = C.length % t := by
  unfold rest
  have := Nat.div_add_mod C.length t
  rw [Nat.mul_comm] at this
  rw [List.length_drop]; omega
theorem rest_bits' (t : Nat) {C : List Int} (hC : Bits C) : Bits (rest t C) := bits_drop hC _

/-- e bits more that do not fill the group. -/
theorem more_keep (t : Nat) (C T : List Int) (h : C.length % t + T.length < t) : out t (C ++ T) = out t C ∧ rest t (C ++ T) = rest t C ++ T := by
  have hd := Nat.div_add_mod C.length t
  have hq : (C ++ T).length / t = C.length / t := by
    rw [Nat.mul_comm] at hd
    exact Nat.div_eq_of_lt_le (by rw [List.length_append]; omega) (by rw [List.length_append, Nat.succ_mul]; omega)
  have hle : C.length / t * t ≤ C.length := Nat.div_mul_le_self _ _
  exact ⟨by unfold out; rw [hq, chunks_append _ _ _ _ hle], by unfold rest; rw [hq, List.drop_append_of_le_length hle]⟩
/-- e bits more that fill it. -/
theorem more_full (t : Nat) (ht : 0 < t) (C T : List Int) (h : C.length % t + T.length = t) : out t (C ++ T) = out t C ++ [val (rest t C ++ T)] ∧ rest t (C ++ T) = [] := by
  have hd := Nat.div_add_mod C.length t
  have hq : (C ++ T).length / t = C.length / t + 1 := by
    rw [Nat.mul_comm] at hd
    exact Nat.div_eq_of_lt_le (by rw [List.length_append, Nat.succ_mul]; omega) (by rw [List.length_append, Nat.succ_mul, Nat.succ_mul]; omega)
  have hle : C.length / t * t ≤ C.length := Nat.div_mul_le_self _ _
  have hrl := rest_len t C
  refine ⟨?_, ?_⟩
  · unfold out
    rw [hq, chunks_succ, chunks_append _ _ _ _ hle, List.drop_append_of_le_length hle]
    congr 3
    apply List.take_of_length_le
    rw [List.length_append]
    have : (C.drop (C.length / t * t)).length = C.length % t := hrl
    omega
  · unfold rest
    rw [hq]
    apply List.drop_of_length_le
    rw [List.length_append, Nat.succ_mul]
    rw [Nat.mul_comm] at hd
    omega

theorem ev_m1 (f t : Nat) (ht0 : 0 < t) (ht : t ≤ 8) (pad : Bool) (l : List Int) (n i : Int) (res : List Int × Option Int) (m : Nat) :
    ∀ (R C : List Int), R.length = m → Bits R → Bits C → R.length ≤ 8 → C.length + R.length < 1000000 →
    Ev (fun k => bech32_ConvertBits.l0 k f t pad (out t (C ++ R)) (val (rest t (C ++ R))) ((rest t (C ++ R)).length) l n (wrap64 (i + 1))) res →
    Ev (fun k => bech32_ConvertBits.l1 k f t pad (out t C) (val (rest t C)) ((rest t C).length) (val R * 2 ^ (8 - R.length)) R.length l n i) res := by
  induction m using Nat.strongRecOn with
  | _ m ih =>
    intro R C hm hR hC hl hs h
    by_cases h0 : R.length = 0
    · have : R = [] := List.eq_nil_of_length_eq_zero h0
      subst this
      rw [List.append_nil] at h
      refine Ev.step (fun k => ?_) h
      rw [bech32_ConvertBits.l1, if_neg (by simp)]
    have hrl := rest_len t C
    have hrm := Nat.mod_lt C.length ht0
    have hrb := val_range (rest_bits' t hC)
    have hq : C.length / t ≤ C.length := Nat.div_le_self _ _
    have hol : (out t C).length = C.length / t := chunks_length _ _ _
    have e1 : ((t : Int) - ((rest t C).length : Int)) % 256 = ((t - (rest t C).length : Nat) : Int) := by omega
    have e2 : ∀ e : Nat, e ≤ 8 → (8 - (e : Int)) % 256 = ((8 - e : Nat) : Int) := fun e he => by omega
    by_cases c : t - (rest t C).length < R.length
    · -- the group is filled, and bits are left
      obtain ⟨e, he⟩ : ∃ e, e = t - (rest t C).length := ⟨_, rfl⟩
      have hT : (R.take e).length = e := by rw [List.length_take]; omega
      have hf2 := more_full t ht0 C (R.take e) (by omega)
      have hsplit : C ++ R = (C ++ R.take e) ++ R.drop e := by rw [List.append_assoc, List.take_append_drop]
      have hdl : (R.drop e).length = R.length - e := List.length_drop
      have hi := ih (R.length - e) (by omega) (R.drop e) (C ++ R.take e) hdl (bits_drop hR e) (bits_append hC (bits_take hR e)) (by omega) (by rw [List.length_append]; omega) (by rw [← hsplit]; exact h)
      rw [hf2.1, hf2.2] at hi
      have hy := val_range (bits_take hR e)
      rw [hT] at hy
      have hv : val (rest t C ++ R.take e) = val (rest t C) * 2 ^ e + val (R.take e) := by rw [val_append, hT]
      refine Ev.step (fun k => ?_) hi
      rw [bech32_ConvertBits.l1, if_pos (by omega), e1, if_pos (by omega), ← he]
      rw [show ((rest t C).length + ((t : Int) - (rest t C).length)) % 256 = t by omega, if_pos rfl, if_pos (by omega)]
      rw [show (8 - ((t : Int) - (rest t C).length)) % 256 = ((8 - e : Nat) : Int) by omega, shr_n _ _ (by omega), top_bits R hR e (by omega) hl, join_bits _ _ _ _ hrb.1 hrb.2 (by omega) hy.1 hy.2, ← hv, shl_n _ _ (by omega), rest_bits R hR e (by omega) hl, hdl]
      rw [show ((R.length : Int) - ((t : Int) - (rest t C).length)) % 256 = ((R.length - e : Nat) : Int) by omega]
      rfl
    · have hT : R.take R.length = R := List.take_length
      have hD : R.drop R.length = [] := List.drop_length
      have hy := val_range hR
      have htop := top_bits R hR R.length (Nat.le_refl _) hl
      have hrst := rest_bits R hR R.length (Nat.le_refl _) hl
      rw [hT] at htop
      rw [hD] at hrst
      simp only [val_nil, Int.zero_mul] at hrst
      have hv : val (rest t C ++ R) = val (rest t C) * 2 ^ R.length + val R := by rw [val_append]
      have hz : Ev (fun k => bech32_ConvertBits.l1 k f t pad (out t (C ++ R)) (val (rest t (C ++ R))) ((rest t (C ++ R)).length) 0 0 l n i) res := by
        refine Ev.step (fun k => ?_) h
        rw [bech32_ConvertBits.l1, if_neg (by omega)]
      by_cases c2 : (rest t C).length + R.length = t
      · have hf2 := more_full t ht0 C R (by omega)
        rw [hf2.1, hf2.2] at hz
        refine Ev.step (fun k => ?_) hz
        rw [bech32_ConvertBits.l1, if_pos (by omega), e1, if_neg (by omega), if_pos (by omega)]
        rw [show (((rest t C).length : Int) + (R.length : Int)) % 256 = t by omega, if_pos rfl, if_pos (by omega)]
        rw [e2 _ hl, shr_n _ _ (by omega), htop, join_bits _ _ _ _ hrb.1 hrb.2 (by omega) hy.1 hy.2, ← hv, shl_n _ _ (by omega), hrst]
        rw [show ((R.length : Int) - (R.length : Int)) % 256 = 0 by omega]
        rfl
      · have hk := more_keep t C R (by omega)
        rw [hk.1, hk.2] at hz
        refine Ev.step (fun k => ?_) hz
        rw [bech32_ConvertBits.l1, if_pos (by omega), e1, if_neg (by omega), if_pos (by omega)]
        rw [show (((rest t C).length : Int) + (R.length : Int)) % 256 = ((rest t C ++ R).length : Int) by rw [List.length_append]; omega, if_neg (by rw [List.length_append]; omega)]
        rw [e2 _ hl, shr_n _ _ (by omega), htop, join_bits _ _ _ _ hrb.1 hrb.2 (by omega) hy.1 hy.2, ← hv, shl_n _ _ (by omega), hrst]
        rw [show ((R.length : Int) - (R.length : Int)) % 256 = 0 by omega]

def finI (pad : Bool) (t : Nat) (out rest : List Int) : List Int × Option Int :=
  if rest = [] then (out, none) else if pad = true then (out ++ [val rest * 2 ^ (t - rest.length)], none) else
    if (rest.length : Int) > 4 then ([], some 107) else if val rest = 0 then (out, none) else ([], some 107)

theorem ev_impl (l : List Int) (f : Nat) (hf0 : 0 < f) (hf : f ≤ 8) (t : Nat) (ht0 : 0 < t) (ht : t ≤ 8) (pad : Bool) (hl : l.length ≤ 400) (hw : ∀ x ∈ l, 0 ≤ x ∧ x < 2 ^ f) :
    Ev (fun k => bech32_ConvertBits.f k l f t pad) (finI pad t (out t (all f l)) (rest t (all f l))) := by
  have hlen := all_length f l
  have hmul : l.length * f ≤ 400 * 8 := Nat.mul_le_mul hl hf
  have hend : Ev (fun k => bech32_ConvertBits.l0 k f t pad (out t (all f l)) (val (rest t (all f l))) ((rest t (all f l)).length) l l.length l.length) (finI pad t (out t (all f l)) (rest t (all f l))) := by
    have hq : (all f l).length / t ≤ (all f l).length := Nat.div_le_self _ _
    have hol : (out t (all f l)).length = (all f l).length / t := chunks_length _ _ _
    have hrl := rest_len t (all f l)
    have hrm := Nat.mod_lt (all f l).length ht0
    have hrb := rest_bits' t (all_bits f l)
    generalize out t (all f l) = O at *
    generalize rest t (all f l) = R at *
    have hv := val_range hrb
    have hs := shifted_lt R hrb t (by omega)
    have hp : (2 : Int) ^ t ≤ 2 ^ 8 := pow_le ht
    unfold finI
    by_cases h0 : R = []
    · subst h0
      rw [if_pos rfl]
      refine Ev.step (f := fun k => bech32_ConvertBits.j3 k t O 0 0 false) (fun k => ?_) ?_
      · rw [bech32_ConvertBits.l0, if_neg (by omega)]
        cases pad <;> simp [val_nil]
      · refine Ev.step (fun k => ?_) (Ev.now _)
        rw [bech32_ConvertBits.j3]; simp
    · have hne : R.length ≠ 0 := by simpa using h0
      rw [if_neg h0]
      refine Ev.step (f := fun k => bech32_ConvertBits.j3 k t O (val R) R.length pad) (fun k => ?_) ?_
      · rw [bech32_ConvertBits.l0, if_neg (by omega)]
        cases pad
        · simp
        · rw [if_pos rfl, decide_eq_true (by omega)]
      · refine Ev.step (fun k => ?_) (Ev.now _)
        rw [bech32_ConvertBits.j3]
        cases pad
        · simp only [Bool.false_eq_true, if_false]
          rw [if_pos (by omega)]
          by_cases c1 : (R.length : Int) > 4
          · rw [if_pos c1, if_pos c1]
          · rw [if_neg c1, if_neg c1]
            by_cases c2 : val R = 0
            · rw [if_pos c2, if_pos c2]
            · rw [if_neg c2, if_neg c2]
        · simp only [if_true]
          rw [if_pos (by omega), show ((t : Int) - (R.length : Int)) % 256 = ((t - R.length : Nat) : Int) by omega, shl8 _ _ hv.1 (by omega) (by omega)]
  have key : ∀ d i, i + d = l.length → Ev (fun k => bech32_ConvertBits.l0 k f t pad (out t (all f (l.take i))) (val (rest t (all f (l.take i)))) ((rest t (all f (l.take i))).length) l l.length i) (finI pad t (out t (all f l)) (rest t (all f l))) := by
    intro d
    induction d with
    | zero =>
      intro i hi
      obtain rfl : i = l.length := by omega
      rw [List.take_length]
      exact hend
    | succ d ih =>
      intro i hi
      have hx : i < l.length := by omega
      have e : all f (l.take (i + 1)) = all f (l.take i) ++ bitsOf f l[i] := by
        rw [List.take_succ_eq_append_getElem hx]; unfold all; rw [List.flatMap_append]; simp
      have hlen2 := all_length f (l.take i)
      rw [List.length_take] at hlen2
      have hmul2 : min i l.length * f ≤ 400 * 8 := Nat.mul_le_mul (by omega) hf
      have h := ih (i + 1) (by omega)
      rw [e] at h
      have hr := hw l[i] (List.getElem_mem hx)
      have hbl := bitsOf_length f l[i]
      have hm := ev_m1 f t ht0 ht pad l l.length i _ f (bitsOf f l[i]) (all f (l.take i)) hbl (bitsOf_bits _ _) (all_bits _ _) (by omega) (by omega) (by rw [w64 (by omega) (by omega)]; exact h)
      rw [bitsOf_val, Int.emod_eq_of_lt hr.1 hr.2, hbl] at hm
      refine Ev.step (fun k => ?_) hm
      have hb : l[i] * 2 ^ (8 - f) < 256 := by
        have h2 : l[i] * 2 ^ (8 - f) < 2 ^ f * 2 ^ (8 - f) := Int.mul_lt_mul_of_pos_right hr.2 (two_pow_pos _)
        rw [← Int.pow_add, show f + (8 - f) = 8 by omega] at h2
        exact h2
      rw [bech32_ConvertBits.l0, if_pos (by omega), if_pos (by omega), if_pos (by omega), show rd l i = l[i] by simp [rd, hx], show (8 - (f : Int)) % 256 = ((8 - f : Nat) : Int) by omega, shl8 _ _ hr.1 (by omega) hb]
  have h0 := key l.length 0 (by omega)
  have hmulI : ((l.length : Int) * (f : Int)) = ((l.length * f : Nat) : Int) := by simp
  have hdiv : ((l.length * f : Nat) : Int) / (t : Int) ≤ ((l.length * f : Nat) : Int) := Int.ediv_le_self _ (by omega)
  have hdiv0 : 0 ≤ ((l.length * f : Nat) : Int) / (t : Int) := Int.ediv_nonneg (by omega) (by omega)
  have hc1 : wrap64 ((wrap64 (Int.tdiv (wrap64 ((l.length : Int) * (wrap64 (f : Int)))) (wrap64 (t : Int)))) + 1) = ((l.length * f : Nat) : Int) / (t : Int) + 1 := by
    rw [w64 (x := (f : Int)) (by omega) (by omega), w64 (x := (t : Int)) (by omega) (by omega), hmulI, w64 (x := ((l.length * f : Nat) : Int)) (by omega) (by omega), Int.tdiv_eq_ediv_of_nonneg (by omega), w64 (x := ((l.length * f : Nat) : Int) / (t : Int)) (by omega) (by omega), w64 (by omega) (by omega)]
  refine Ev.congr (f := fun k => bech32_ConvertBits.j0 k l f t pad false) (fun k => ?_) (Ev.step (fun k => ?_) h0)
  · unfold bech32_ConvertBits.f
    rw [if_neg (by omega), if_neg (by omega), if_neg (by omega), decide_eq_false (by omega)]
  · rw [bech32_ConvertBits.j0, if_neg (by simp), hc1, w64 (x := (t : Int)) (by omega) (by omega), if_neg (by omega), if_pos (by omega), if_pos (by omega)]
    have ha : all f (l.take 0) = [] := by simp [all]
    rw [ha]
    have ho : out t [] = [] := by unfold out; rw [List.length_nil, Nat.zero_div]; rfl
    have hr : rest t [] = [] := by unfold rest; exact List.drop_nil
    rw [ho, hr]
    rfl
end Go.Proofs.Ytnbecklojmbbbaa.RG
