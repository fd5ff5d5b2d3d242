/- The law FnTarget over numbers and lists, and its walk joined. -/
import Derived.Test.YtdmpjoglejnpbaaTarget
import Derived.Test.YtdmpjoglejnpbaaDigits
import Derived.OpenShut
namespace Go.Proofs.Ytdmpjoglejnpbaa.Big
open Go.RowKit Go.Proofs.YtdmpjoglejnpbaaW.PrintWords Go.Proofs.YtdmpjoglejnpbaaW.PrintLast Go.Proofs.YtdmpjoglejnpbaaW.PrintMore Go.Proofs.Ytdmpjoglejnpbaa.QFnTargetBack
set_option linter.unusedVariables false

theorem set_rep (w : Nat) (a b : Int) : ∀ (_ : True), ((List.replicate (w + 2) (0 : Int)).set w a).set (w + 1) b = List.replicate w 0 ++ [a, b] := by
  intro _
  rw [← List.replicate_append_replicate, List.set_append_right _ _ (by simp), List.set_append_right _ _ (by simp)]
  simp [List.replicate]
theorem nv_rep (w : Nat) (l : List Int) : nv (List.replicate w 0 ++ l) = 2 ^ (32 * w) * nv l := by
  rw [nv_append, List.length_replicate]
  have : nv (List.replicate w (0 : Int)) = 0 := by
    induction w with
    | zero => rfl
    | succ w ih => rw [List.replicate_succ, nv, ih]; rfl
  omega
/-- one digit, shifted. -/
theorem ev_lsh1 (m : Int) (h0 : 0 ≤ m) (h1 : m < 8388608) (n : Nat) (hn : n < 4096) : ∃ r, Ev (fun k => smallbig_nat_lsh.f k [m] n) r ∧ nv r = m * 2 ^ n ∧ Dig r ∧ Top r ∧ r.length ≤ 1000 := by
  obtain ⟨w, hw⟩ : ∃ w, n / 32 = w := ⟨_, rfl⟩
  obtain ⟨s, hs⟩ : ∃ s, n % 32 = s := ⟨_, rfl⟩
  have hw2 : w < 128 := by omega
  have hs2 : s < 32 := by omega
  have e1 : wrap64 (IntKind.u64.wrap (Int.tdiv (n : Int) 32)) = (w : Int) := by
    rw [Int.tdiv_eq_ediv_of_nonneg (by omega), u64w (by omega) (by omega), w64 (by omega) (by omega)]; omega
  have e2 : Int.tmod (n : Int) 32 = (s : Int) := by rw [Int.tmod_eq_emod_of_nonneg (by omega)]; omega
  have e4 : wrap64 (wrap64 ((([m] : List Int).length : Int) + (w : Int)) + 1) = ((w + 2 : Nat) : Int) := by
    rw [List.length_singleton, w64 (x := ((1 : Nat) : Int) + w) (by omega) (by omega), w64 (by omega) (by omega)]; omega
  have e5 : wrap64 ((0 : Int) + (w : Int)) = (w : Int) := by rw [w64 (by omega) (by omega)]; omega
  have e6 : wrap64 ((w : Int) + 1) = ((w + 1 : Nat) : Int) := by rw [w64 (by omega) (by omega)]; omega
  have hps := pow_pos2 s
  have hps2 : (2 : Int) ^ s ≤ 2 ^ 32 := pow_le2 (by omega)
  have hms : m * 2 ^ s ≤ m * 2 ^ 32 := Int.mul_le_mul_of_nonneg_left hps2 h0
  have hms0 : 0 ≤ m * 2 ^ s := Int.mul_nonneg h0 (Int.le_of_lt hps)
  have e3 : shl .u64 (IntKind.u64.wrap m) (s : Int) = m * 2 ^ s := by
    unfold shl
    rw [u64w (x := m) (by omega) (by omega), show min (s : Int).toNat IntKind.u64.bits = s by simp [IntKind.bits]; omega, u64w hms0 (by omega)]
  obtain ⟨y, hy⟩ : ∃ y, m * 2 ^ s = y := ⟨_, rfl⟩
  have HY := Aside0.mk hy
  rw [hy] at hms hms0 e3
  have hy1 : y < 18446744073709551616 := by omega
  clear hy hms hps hps2
  obtain ⟨a, ha⟩ : ∃ a, y % 4294967296 = a := ⟨_, rfl⟩
  obtain ⟨b, hb⟩ : ∃ b, y / 4294967296 % 4294967296 = b := ⟨_, rfl⟩
  have hab : a + 4294967296 * b = y := by omega
  obtain ⟨r, r1, r2, r3, r4, r5⟩ := ev_norm (w + 2) (List.replicate w 0 ++ [a, b]) (by simp) (by simp; omega) (by
    intro d hd
    rcases List.mem_append.1 hd with h | h
    · rw [List.mem_replicate] at h; omega
    · simp at h; rcases h with rfl | rfl <;> omega)
  refine ⟨r, ?_, ?_, r3, r4, by have := r5; simp at this; omega⟩
  · have h2 : Ev (fun k => smallbig_nat_lsh.l0 k w s (List.replicate w 0 ++ [a, b]) [m] 1 1) r := by
      refine Ev.step (fun k => ?_) (Ev.bind (f := fun _ t162 => some t162) r1 (Ev.now _))
      rw [smallbig_nat_lsh.l0, if_neg (by omega)]
    refine Ev.congr (f := fun k => smallbig_nat_lsh.l0 k w s (List.replicate (w + 2) 0) [m] 1 0) (fun k => ?_) (Ev.step (fun k => ?_) h2)
    · unfold smallbig_nat_lsh.f
      rw [if_neg (by simp), e1, e2, e4, if_pos (by omega), if_pos (by omega), Int.toNat_natCast]
      rfl
    · rw [smallbig_nat_lsh.l0, if_pos (by omega), if_pos (by omega), if_pos (by simp), if_pos (by omega)]
      have e7 : rd [m] 0 = m := rfl
      have e8 : rd (List.replicate (w + 2) 0) (w : Int) = 0 := by simp [rd]
      rw [e5, e6, e7, e8, e3, if_pos (by omega), if_pos (by simp; omega), if_pos (by omega), if_pos (by simp), ha, hb, Int.toNat_natCast, Int.toNat_natCast]
      have e9 : Go.bits .or .u32 0 a = a := by
        have := bits_join .u32 32 (by decide) (fun n h0 h1 => by simp [IntKind.wrap, IntKind.signed, IntKind.bits]; omega) 32 0 a (by decide) (by decide) (by decide) (by omega) (by omega) (by omega)
        rw [this]; omega
      rw [e9, set_rep w a b trivial, w64 (by omega) (by omega)]
      rfl
  · rw [r2, nv_rep]
    simp only [nv]
    rw [show a + 4294967296 * (b + 4294967296 * 0) = m * 2 ^ s by rw [HY.out]; omega, ← Int.mul_assoc, Int.mul_comm (2 ^ (32 * w)) m, Int.mul_assoc, ← Int.pow_add]
    congr 2; omega
theorem ev_lsh0 (n : Nat) : Ev (fun k => smallbig_nat_lsh.f k [] n) [] := Ev.congr (f := fun _ => some []) (fun k => by unfold smallbig_nat_lsh.f; rw [if_pos (by simp)]) (Ev.now _)

/-! the reference -/
def three (m : Int) : List Int := [m / 65536 % 256, m / 256 % 256, m % 256]
theorem copied_any (l : List Int) (hl : l.length < 1000000) : impl_copied.f l = some l := by
  unfold impl_copied.f
  simp; omega

/-- CompactToBig's number. -/
def valueOf (c : Int) : Int := if (c / 16777216).toNat ≤ 3 then c % 8388608 / 256 ^ (3 - (c / 16777216).toNat) else c % 8388608 * 256 ^ ((c / 16777216).toNat - 3)
theorem compacts (c : Int) (h0 : 0 ≤ c) (h1 : c < 4294967296) : ∃ l, Compacts c ((Go.bits .and .u32 c 8388608 != 0) && decide (l ≠ [])) l ∧ nv l = valueOf c ∧ Dig l ∧ Top l ∧ l.length ≤ 1000 := by
  obtain ⟨m, hm⟩ : ∃ m, c % 8388608 = m := ⟨_, rfl⟩
  obtain ⟨e, he⟩ : ∃ e : Nat, c / 16777216 = e := ⟨(c / 16777216).toNat, by omega⟩
  have hm0 : 0 ≤ m := by omega
  have hm1 : m < 8388608 := by omega
  have hmask : Go.bits .and .u32 c 8388607 = m := by
    have := bits_mask .u32 32 (by decide) (fun n h0 h1 => by simp [IntKind.wrap, IntKind.signed, IntKind.bits]; omega) 23 (by decide) c h0 (by simpa using h1)
    rw [← hm]; exact this
  unfold valueOf
  rw [hm, he, Int.toNat_natCast]
  by_cases c3 : e ≤ 3
  · rw [if_pos c3]
    have hx : m / 256 ^ (3 - e) ≤ m := Int.ediv_le_self _ hm0
    have hx0 : 0 ≤ m / 256 ^ (3 - e) := Int.ediv_nonneg hm0 (Int.le_of_lt (pow_pos256 _))
    have hM : wrap64 (Go.bits .and .u32 c 8388607 / 2 ^ (8 * (3 - c / 16777216)).toNat) = m / 256 ^ (3 - e) := by
      rw [hmask, he, show (8 * (3 - (e : Int))).toNat = 8 * (3 - e) by omega, ← pow256, w64 (by omega) (by omega)]
    generalize hX : m / 256 ^ (3 - e) = X at *
    obtain ⟨l, ⟨K, hK⟩, hn, hd, ht, hl⟩ := ev_natOf X (by omega) (by omega)
    refine ⟨l, ?_, hn, hd, ht, by omega⟩
    intro w
    by_cases hs : (Go.bits .and .u32 c 8388608 != 0) = false
    · rw [hs, Bool.false_and]
      exact compact_small_pos c h0 h1 (by omega) hs X 0 hM hx0 (by omega) K [] l (hK K (Nat.le_refl _)) w
    · have hs2 : (Go.bits .and .u32 c 8388608 != 0) = true := by simpa using hs
      rw [hs2, Bool.true_and]
      by_cases hl0 : l = []
      · rw [decide_eq_false (by simp [hl0])]
        exact compact_small_nil c h0 h1 (by omega) hs2 X 0 hM hx0 (by omega) K [] l (by simp [hl0]) (hK K (Nat.le_refl _)) w
      · rw [decide_eq_true hl0]
        exact compact_small_neg c h0 h1 (by omega) hs2 X 0 hM hx0 (by omega) K [] l (List.length_pos_iff.2 hl0) (hK K (Nat.le_refl _)) w
  · rw [if_neg c3]
    have hM : wrap64 (Go.bits .and .u32 c 8388607) = m := by rw [hmask, w64 (by omega) (by omega)]
    have hS : IntKind.u64.wrap (8 * (c / 16777216 - 3)) = ((8 * (e - 3) : Nat) : Int) := by rw [he, u64w (by omega) (by omega)]; omega
    obtain ⟨l0, ⟨K0, hK0⟩, hn0, hd0, ht0, hl0⟩ := ev_natOf m (by omega) (by omega)
    have hl1 : ∃ l, Ev (fun k => smallbig_nat_lsh.f k l0 ((8 * (e - 3) : Nat) : Int)) l ∧ nv l = m * 256 ^ (e - 3) ∧ Dig l ∧ Top l ∧ l.length ≤ 1000 := by
      by_cases hz : m = 0
      · have e0 : l0 = [] := by
          cases hc : l0 with
          | nil => rfl
          | cons x xs =>
            exfalso
            have hnn := hn0
            obtain ⟨a, y, hy⟩ : ∃ a y, l0 = a ++ [y] := ⟨l0.dropLast, l0.getLast (by rw [hc]; simp), (List.dropLast_concat_getLast _).symm⟩
            have hy0 := ht0 a y hy
            have hy1 := hd0 y (by rw [hy]; simp)
            have hna := nv_range (l := a) (fun d hd' => hd0 d (by rw [hy]; exact List.mem_append_left _ hd'))
            rw [hy, nv_append, hz] at hnn
            simp only [nv] at hnn
            have hp := pow_pos2 (32 * a.length)
            have h4 : 2 ^ (32 * a.length) * 1 ≤ 2 ^ (32 * a.length) * (y + 4294967296 * 0) := Int.mul_le_mul_of_nonneg_left (by omega) (Int.le_of_lt hp)
            omega
        subst e0
        refine ⟨[], ev_lsh0 _, by rw [hz]; simp [nv], fun _ h => by simp at h, fun a x h => by simp at h, by simp⟩
      · have e0 : l0 = [m] := by
          have hd0' := hd0
          cases l0 with
          | nil => simp [nv] at hn0; omega
          | cons x xs =>
            cases xs with
            | nil => simp [nv] at hn0; rw [hn0]
            | cons y ys =>
              exfalso
              have hys : ys = [] := by
                cases ys with
                | nil => rfl
                | cons _ _ => simp at hl0
              subst hys
              have h1 := ht0 [x] y rfl
              have h2 := hd0' x (by simp)
              have h3 := hd0' y (by simp)
              simp only [nv] at hn0
              omega
        subst e0
        obtain ⟨r, r1, r2, r3, r4, r5⟩ := ev_lsh1 m hm0 hm1 (8 * (e - 3)) (by omega)
        exact ⟨r, r1, by rw [r2, pow256], r3, r4, r5⟩
    obtain ⟨l, ⟨K1, hK1⟩, hn, hd, ht, hl⟩ := hl1
    refine ⟨l, ?_, hn, hd, ht, hl⟩
    intro w
    have k0 := hK0 (K0 + K1) (by omega)
    have k1 := hK1 (K0 + K1) (by omega)
    by_cases hs : (Go.bits .and .u32 c 8388608 != 0) = false
    · rw [hs, Bool.false_and]
      exact compact_big_pos c h0 h1 (by omega) hs m _ hM hm0 (by omega) (K0 + K1) l0 l k0 hS k1 w
    · have hs2 : (Go.bits .and .u32 c 8388608 != 0) = true := by simpa using hs
      rw [hs2, Bool.true_and]
      by_cases hz : l = []
      · rw [decide_eq_false (by simp [hz])]
        exact compact_big_nil c h0 h1 (by omega) hs2 m _ hM hm0 (by omega) (K0 + K1) l0 l (by simp [hz]) k0 hS k1 w
      · rw [decide_eq_true hz]
        exact compact_big_neg c h0 h1 (by omega) hs2 m _ hM hm0 (by omega) (K0 + K1) l0 l (List.length_pos_iff.2 hz) k0 hS k1 w

end Go.Proofs.Ytdmpjoglejnpbaa.Big
