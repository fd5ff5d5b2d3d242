/- FnTargetBack: the pure part (under way). -/
import Derived.Test.YtdmpjoglejnpbaaBackL
namespace Go.Proofs.Ytdmpjoglejnpbaa.Big
open Go.RowKit Go.Proofs.YtdmpjoglejnpbaaW.PrintWords Go.Proofs.YtdmpjoglejnpbaaW.PrintLast Go.Proofs.YtdmpjoglejnpbaaW.PrintMore Go.Proofs.Ytdmpjoglejnpbaa.QFnTargetBack
set_option linter.unusedVariables false
set_option linter.unusedSimpArgs false
theorem and23 (n : Nat) : n &&& 8388608 = 8388608 * (n / 8388608 % 2) := by
  apply Nat.eq_of_testBit_eq
  intro i
  rw [show (8388608 : Nat) = 2 ^ 23 from rfl, Nat.testBit_and, Nat.testBit_two_pow, Nat.testBit_two_pow_mul]
  by_cases h : 23 = i
  · subst h
    simp [Nat.testBit_eq_decide_div_mod_eq]
  · rw [decide_eq_false h, Bool.and_false]
    by_cases h2 : i ≥ 23
    · rw [decide_eq_true h2, Bool.true_and]
      have h3 : 1 ≤ i - 23 := by omega
      have h4 : (2 : Nat) ^ 1 ≤ 2 ^ (i - 23) := Nat.pow_le_pow_right (Nat.zero_lt_succ 1) h3
      have : n / 2 ^ 23 % 2 < 2 ^ (i - 23) := by have := Nat.mod_lt (n / 2 ^ 23) (Nat.zero_lt_succ 1); omega
      rw [Nat.testBit_lt_two_pow this]
    · rw [decide_eq_false h2, Bool.false_and]
theorem sign_bit (a : Int) (h0 : 0 ≤ a) (h1 : a < 4294967296) : (Go.bits .and .u32 a 8388608 != 0) = decide (a / 8388608 % 2 = 1) := by
  obtain ⟨n, rfl⟩ := Int.eq_ofNat_of_zero_le h0
  have := bits_nat .u32 32 (by decide) (fun n h0 h1 => by simp [IntKind.wrap, IntKind.signed, IntKind.bits]; omega) n 8388608 (by omega) (by decide)
  have e := and23 n
  have e2 : Go.bits .and .u32 (n : Int) 8388608 = ((8388608 * (n / 8388608 % 2) : Nat) : Int) := by rw [← e]; exact this.1
  rw [e2]
  rcases Nat.mod_two_eq_zero_or_one (n / 8388608) with c | c
  · rw [c, decide_eq_false (by omega)]; rfl
  · rw [c, decide_eq_true (by omega)]; rfl
/-- A number below 2^32 has at most one digit. -/
theorem one_digit (l : List Int) (hd : Dig l) (ht : Top l) (h : nv l < 4294967296) : l.length ≤ 1 := by
  match l, hd, ht, h with
  | [], _, _, _ => exact Nat.zero_le _
  | [a], _, _, _ => exact Nat.le_refl _
  | a :: b :: r, hd, ht, h =>
    exfalso
    have ha := hd a (by simp)
    obtain ⟨c, x, hx⟩ : ∃ c x, b :: r = c ++ [x] := ⟨(b :: r).dropLast, (b :: r).getLast (by simp), (List.dropLast_concat_getLast _).symm⟩
    have hx0 := ht (a :: c) x (by rw [hx]; rfl)
    have hx1 := hd x (by rw [hx]; simp)
    have hc := nv_range (l := c) (fun d hd' => hd d (by rw [hx]; simp [hd']))
    rw [hx, nv, nv_append] at h
    simp only [nv] at h
    have hp := pow_pos2 (32 * c.length)
    have h4 : 2 ^ (32 * c.length) * 1 ≤ 2 ^ (32 * c.length) * (x + 4294967296 * 0) := Int.mul_le_mul_of_nonneg_left (by omega) (Int.le_of_lt hp)
    omega
theorem pow_lt_of {a b : Nat} (h : (2 : Int) ^ a < 2 ^ b) : a < b := by
  rcases Nat.lt_or_ge a b with c | c
  · exact c
  · have := pow_le2 c; omega
/-- How many bits a number m*256^n has. -/
theorem bits_range (x m : Int) (n lo hi b : Nat) (hx : x = m * 2 ^ (8 * n)) (h0 : 2 ^ lo ≤ m) (h1 : m < 2 ^ hi) (b1 : x < 2 ^ b) (b2 : 0 < x → 2 ^ b ≤ 2 * x) : lo + 8 * n < b ∧ b < hi + 1 + 8 * n := by
  have hp := pow_pos2 (8 * n)
  have hl := pow_pos2 lo
  have e1 : (2 : Int) ^ (lo + 8 * n) ≤ x := by
    rw [hx, Int.pow_add]
    exact Int.mul_le_mul_of_nonneg_right h0 (Int.le_of_lt hp)
  have e2 : x < 2 ^ (hi + 8 * n) := by
    rw [hx, Int.pow_add]
    exact Int.mul_lt_mul_of_pos_right h1 hp
  have e3 := pow_pos2 (lo + 8 * n)
  refine ⟨pow_lt_of (by omega), pow_lt_of ?_⟩
  have := b2 (by omega)
  rw [show hi + 1 + 8 * n = (hi + 8 * n) + 1 by omega, Int.pow_add, show (2 : Int) ^ 1 = 2 from rfl]
  omega
theorem shifted (l : List Int) (hd : Dig l) (hl : l.length < 1000000) (W s : Nat) : ∃ r, Ev (fun k => smallbig_nat_norm.f k (dg (nv (l.drop W) / 2 ^ s) (l.length - W))) r ∧ nv r = nv l / 2 ^ (32 * W + s) ∧ Dig r ∧ Top r ∧ r.length ≤ l.length := by
  obtain ⟨r, h0, hn, hdr, htr, hlr⟩ := ev_norm _ (dg (nv (l.drop W) / 2 ^ s) (l.length - W)) rfl (by rw [dg_length]; omega) (dg_Dig _ _)
  rw [dg_length] at hlr
  have h1 := nv_range (l := l.drop W) (fun d h => hd d (List.mem_of_mem_drop h))
  rw [List.length_drop] at h1
  have hp := pow_pos2 s
  have h2 : 0 ≤ nv (l.drop W) / 2 ^ s := Int.ediv_nonneg h1.1 (Int.le_of_lt hp)
  have h3 : nv (l.drop W) / 2 ^ s ≤ nv (l.drop W) := Int.ediv_le_self _ h1.1
  refine ⟨r, h0, ?_, hdr, htr, by omega⟩
  rw [hn, dg_nv, Int.emod_eq_of_lt h2 (by omega), nv_drop l hd, Int.ediv_ediv_of_nonneg (Int.le_of_lt (pow_pos2 _)), ← Int.pow_add]
theorem or24 (a y : Int) (a0 : 0 ≤ a) (a1 : a ≤ 255) (y0 : 0 ≤ y) (y1 : y < 16777216) : Go.bits .or .u32 (a * 16777216) y = a * 16777216 + y :=
  bits_join .u32 32 (by decide) (fun n h0 h1 => by simp [IntKind.wrap, IntKind.signed, IntKind.bits]; omega) 24 (a * 16777216) y (by omega) (by omega) (by omega) (by omega) (by omega) (by omega)
theorem enough (l : List Int) (hd : Dig l) (W n : Nat) (h : 32 * W ≤ n) (hn : 2 ^ n ≤ nv l) : W < l.length := by
  rcases Nat.lt_or_ge W l.length with c | c
  · exact c
  · have h1 := nv_range hd
    have := pow_le2 (a := 32 * l.length) (b := n) (by omega)
    omega
theorem take2 (l : List Int) (h : l.length ≤ 1) : l.take 2 = l := List.take_of_length_le (by omega)
theorem nv_pos (l : List Int) (h : 0 < nv l) : 0 < l.length := by
  rcases l with _ | ⟨a, t⟩
  · simp [nv] at h
  · simp
theorem backs (e : Nat) (m : Int) (e3 : 3 ≤ e) (e1 : e ≤ 255) (m0 : 32768 ≤ m) (m1 : m < 8388608) (l : List Int) (hd : Dig l) (ht : Top l) (hl : l.length ≤ 1000) (hn : nv l = m * 2 ^ (8 * (e - 3))) (c : Int) (hc : (e : Int) * 16777216 + m = c) : Backs l c := by
  intro w g okx hI hok
  obtain ⟨b, ⟨K1, hb⟩, b1, b2, b3, b4⟩ := ev_bitLen l hd ht (by omega)
  have hp := pow_pos2 (8 * (e - 3))
  have hge : (2 : Int) ^ (8 * (e - 3)) ≤ nv l := by
    have := Int.mul_le_mul_of_nonneg_right (show (1 : Int) ≤ m by omega) (Int.le_of_lt hp)
    rw [Int.one_mul] at this
    rw [hn]; exact this
  have hne := nv_pos l (by omega)
  by_cases hm : m < 65536
  · obtain ⟨r1, r2⟩ := bits_range (nv l) m (e - 3) 15 16 b hn (by show (32768 : Int) ≤ m; exact m0) (by show m < (65536 : Int); exact hm) b1 b2
    have hcnt : ((((b : Int)) + 7) / 8).toNat = e - 1 := by omega
    have hsg : (Go.bits .and .u32 (m * 256) 8388608 != 0) = true := by rw [sign_bit _ (by omega) (by omega), decide_eq_true (by omega)]
    have hres : Go.bits .or .u32 ((((e - 1 : Nat) : Int) + 1) * 16777216) (m * 256 / 256) = c := by
      rw [show (((e - 1 : Nat) : Int) + 1) = (e : Int) by omega, show m * 256 / 256 = m by omega, or24 _ _ (by omega) (by omega) (by omega) (by omega)]; exact hc
    rw [← hres]
    by_cases hs : e ≤ 4
    · rcases (by omega : e = 3 ∨ e = 4) with rfl | rfl
      · have hn1 : nv l = m := by rw [hn]; show m * 1 = m; omega
        have h1 := one_digit l hd ht (by omega)
        exact back_small_high g okx l K1 b w (3 - 1) (nv l) hI hok (by omega) hd hne (hb K1 (Nat.le_refl _)) (by omega) (by omega) hcnt (by omega) (by omega) (by rw [take2 l h1]) (by omega) (by omega) (m * 256) (by rw [hn1]; show m * 256 % 4294967296 = m * 256; omega) hsg
      · have hn1 : nv l = m * 256 := by rw [hn]; rfl
        have h1 := one_digit l hd ht (by omega)
        exact back_small_high g okx l K1 b w (4 - 1) (nv l) hI hok (by omega) hd hne (hb K1 (Nat.le_refl _)) (by omega) (by omega) hcnt (by omega) (by omega) (by rw [take2 l h1]) (by omega) (by omega) (m * 256) (by rw [hn1]; show m * 256 * 1 % 4294967296 = m * 256; omega) hsg
    · obtain ⟨r, ⟨K2, hr⟩, hrn, hrd, hrt, hrl⟩ := shifted l hd (by omega) (8 * (e - 1 - 3) / 32) (8 * (e - 1 - 3) % 32)
      have hrn2 : nv r = m * 256 := by
        rw [hrn, hn, show 32 * (8 * (e - 1 - 3) / 32) + 8 * (e - 1 - 3) % 32 = 8 * (e - 4) by omega, show 8 * (e - 3) = 8 + 8 * (e - 4) by omega, Int.pow_add, ← Int.mul_assoc, Int.mul_ediv_cancel _ (Int.ne_of_gt (pow_pos2 _))]; rfl
      have h1 := one_digit r hrd hrt (by omega)
      exact back_big_high g okx l (K1 + K2) b w (e - 1) (m * 256) hI hok (by omega) hd hne (hb (K1 + K2) (by omega)) (by omega) (by omega) hcnt (by omega) (by omega) _ _ (by omega) (Nat.mod_lt _ (by omega)) (enough l hd _ _ (by omega) hge) r hrd (by omega) (nv_pos r (by omega)) (hr (K1 + K2) (by omega)) (by rw [take2 r h1, hrn2]) (by omega) (by omega) hsg
  · obtain ⟨r1, r2⟩ := bits_range (nv l) m (e - 3) 16 23 b hn (by show (65536 : Int) ≤ m; omega) (by show m < (8388608 : Int); exact m1) b1 b2
    have hcnt : ((((b : Int)) + 7) / 8).toNat = e := by omega
    have hsg : (Go.bits .and .u32 m 8388608 != 0) = false := by rw [sign_bit _ (by omega) (by omega), decide_eq_false (by omega)]
    have hres : Go.bits .or .u32 ((e : Int) * 16777216) m = c := by rw [or24 _ _ (by omega) (by omega) (by omega) (by omega)]; exact hc
    rw [← hres]
    by_cases hs : e ≤ 3
    · obtain rfl : e = 3 := by omega
      have hn1 : nv l = m := by rw [hn]; show m * 1 = m; omega
      have h1 := one_digit l hd ht (by omega)
      exact back_small_low g okx l K1 b w 3 (nv l) hI hok (by omega) hd hne (hb K1 (Nat.le_refl _)) (by omega) (by omega) hcnt (by omega) (by omega) (by rw [take2 l h1]) (by omega) (by omega) m (by rw [hn1]; show m * 1 % 4294967296 = m; omega) hsg
    · obtain ⟨r, ⟨K2, hr⟩, hrn, hrd, hrt, hrl⟩ := shifted l hd (by omega) (8 * (e - 3) / 32) (8 * (e - 3) % 32)
      have hrn2 : nv r = m := by
        rw [hrn, hn, show 32 * (8 * (e - 3) / 32) + 8 * (e - 3) % 32 = 8 * (e - 3) by omega, Int.mul_ediv_cancel _ (Int.ne_of_gt (pow_pos2 _))]
      have h1 := one_digit r hrd hrt (by omega)
      exact back_big_low g okx l (K1 + K2) b w e m hI hok (by omega) hd hne (hb (K1 + K2) (by omega)) (by omega) (by omega) hcnt (by omega) (by omega) _ _ (by omega) (Nat.mod_lt _ (by omega)) (enough l hd _ _ (by omega) hge) r hrd (by omega) (nv_pos r (by omega)) (hr (K1 + K2) (by omega)) (by rw [take2 r h1, hrn2]) (by omega) (by omega) hsg
set_option maxRecDepth 100000 in
set_option maxHeartbeats 2000000 in
theorem lawBack_out (e m : Int) (e0 : 0 ≤ e) (m0 : 0 ≤ m) (h : e < 3 ∨ m < 32768 ∨ 8388608 ≤ m) (w : World) :
    Calls Try.prog 4 #[.int .u8 e, .int .u32 m] w fun e w' => e = .returned (.bool true) ∧ Below w.heap.size w w' := by
  by_cases c0 : e < 3
  · have b0 : decide (e < 3) = true := decide_eq_true c0
    go_enter Try.func4, Try.ntmps4
    go_wp2
    go_ret
    exact ⟨rfl, Below.refl _ _⟩
  have b0 : decide (e < 3) = false := decide_eq_false c0
  by_cases c1 : m < 32768
  · have b1 : decide (m < 32768) = true := decide_eq_true c1
    go_enter Try.func4, Try.ntmps4
    go_wp2
    go_ret
    exact ⟨rfl, Below.refl _ _⟩
  have b1 : decide (m < 32768) = false := decide_eq_false c1
  have b2 : decide (8388608 ≤ m) = true := decide_eq_true (by omega)
  go_enter Try.func4, Try.ntmps4
  go_wp2
  go_ret
  exact ⟨rfl, Below.refl _ _⟩

theorem walkBack (a0 : Int) (w0 : (Lit.int .u8 a0).wf = true) (a1 : Int) (w1 : (Lit.int .u32 a1).wf = true) (w : World) :
    Calls Try.prog 4 #[.int .u8 a0, .int .u32 a1] w fun e w' => e = .returned (.bool true) ∧ Below w.heap.size w w' := by
  obtain ⟨p0, p1⟩ := bounds_u8 w0
  obtain ⟨p2, p3⟩ := bounds_u32 w1
  by_cases h : a0 < 3 ∨ a1 < 32768 ∨ 8388608 ≤ a1
  · exact lawBack_out a0 a1 p0 p2 h w
  have h0 : 3 ≤ a0 := by omega
  have h1 : 32768 ≤ a1 := by omega
  have h2 : a1 < 8388608 := by omega
  clear h
  obtain ⟨e, rfl⟩ := Int.eq_ofNat_of_zero_le p0
  obtain ⟨c, hc⟩ : ∃ c : Int, (e : Int) * 16777216 + a1 = c := ⟨_, rfl⟩
  have hcc : Go.bits .or .u32 ((e : Int) * 16777216) a1 = c := by rw [or24 _ _ (by omega) (by omega) (by omega) (by omega)]; exact hc
  obtain ⟨l, hC, hn, hd, ht, hl⟩ := compacts c (by omega) (by omega)
  have hsg : (Go.bits .and .u32 c 8388608 != 0) = false := by rw [sign_bit _ (by omega) (by omega), decide_eq_false (by omega)]
  rw [hsg, Bool.false_and] at hC
  have hv : nv l = a1 * 2 ^ (8 * (e - 3)) := by
    rw [hn]
    unfold valueOf
    rw [show (c / 16777216).toNat = e by omega, show c % 8388608 = a1 by omega]
    by_cases c3 : e ≤ 3
    · obtain rfl : e = 3 := by omega
      rw [if_pos (by omega)]
      show a1 / 1 = a1 * 1
      omega
    · rw [if_neg c3, pow256]
  have hp := pow_pos2 (8 * (e - 3))
  have hpos : 0 < nv l := by rw [hv]; exact Int.mul_pos (by omega) hp
  obtain ⟨b, ⟨K1, hb⟩, b1, b2, b3, b4⟩ := ev_bitLen l hd ht (by omega)
  obtain ⟨v1, v2⟩ := bytes_of l hd b b1 b2 b4
  obtain ⟨r, hr⟩ : ∃ r, bytesOf l (((b : Int) + 7) / 8).toNat = r := ⟨_, rfl⟩
  have hrl : r.length = (((b : Int) + 7) / 8).toNat := by rw [← hr, bytesOf_length]
  have hrb : Bytes r := by rw [← hr]; exact bytesOf_bytes _ _
  rw [hr] at v1
  have hcp := copied_any r (by omega)
  have hr0 : 0 < r.length := by
    rcases r with _ | ⟨x, t⟩
    · simp [vB] at v1; omega
    · simp
  obtain ⟨l2, ⟨K2, h5⟩, hn2, hd2, ht2, hl2⟩ := ev_norm _ (dg (vB r) ((r.length + 3) / 4)) rfl (by rw [dg_length]; omega) (dg_Dig _ _)
  rw [dg_length] at hl2
  have hrg := vB_range hrb
  have hle := pow_le2 (a := 8 * r.length) (b := 32 * ((r.length + 3) / 4)) (by omega)
  rw [pow256] at hrg
  rw [dg_nv, Int.emod_eq_of_lt hrg.1 (by omega), v1, hv] at hn2
  have hB := backs e a1 (by omega) (by omega) h1 h2 l2 hd2 ht2 (by omega) hn2 c hc
  exact lawBack e a1 c h0 (by omega) h1 h2 hcc false l hC (K1 + K2) b r (by omega) hd (hb (K1 + K2) (by omega)) (by omega) (by omega) (by rw [hr]; exact hcp) (by
    rw [if_neg (by have := nv_pos l hpos; omega), if_neg (by decide)]; rfl) l2 hB hrb (by omega) hr0 (h5 (K1 + K2) (by omega)) w
end Go.Proofs.Ytdmpjoglejnpbaa.Big
