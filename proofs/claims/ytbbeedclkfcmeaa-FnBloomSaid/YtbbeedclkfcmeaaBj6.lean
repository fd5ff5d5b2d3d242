/- FnBloom: the reference's hash is the package's. -/
import Derived.Test.YtbbeedclkfcmeaaBj5
namespace Go.Proofs.Ytbbeedclkfcmeaa.KFnBloom
open Go.RowKit Go.Proofs.YtbbeedclkfcmeaaW.PrintWords Go.Proofs.YtbbeedclkfcmeaaW.PrintLast Go.Proofs.YtbbeedclkfcmeaaW.PrintMore Go.Proofs.Ytbbeedclkfcmeaa.Snk Go.Proofs.Ytbbeedclkfcmeaa.Tok
set_option linter.unusedVariables false
set_option linter.unusedSimpArgs false
theorem w64 {x : Int} (h0 : -9223372036854775808 ≤ x) (h1 : x ≤ 9223372036854775807) : wrap64 x = x := by unfold wrap64; omega
theorem rd_nat (s : List Int) (i : Nat) : rd s (i : Int) = s.getD i 0 := by unfold rd; rw [Int.toNat_natCast]
theorem rot_some (x : Int) (n : Nat) (h : n ≤ 32) : spec_rotate.f x (n : Int) = some (Go.bits .or .u32 (x * 2 ^ n % 4294967296) (x / 2 ^ (32 - n))) := by
  have e : wrap64 (32 - (n : Int)) = ((32 - n : Nat) : Int) := by rw [w64 (by omega) (by omega)]; omega
  unfold spec_rotate.f
  rw [if_pos (Int.natCast_nonneg n), e, if_pos (Int.natCast_nonneg _)]
  unfold shl shr
  rw [Int.toNat_natCast, Int.toNat_natCast, Nat.min_eq_left (show n ≤ IntKind.u32.bits from h), Nat.min_eq_left (show 32 - n ≤ IntKind.u32.bits from Nat.sub_le _ _), u32_w_]
theorem mix_some (k : Int) : spec_Murmur_1.f k = some (mixF k) := by
  unfold spec_Murmur_1.f
  rw [show (15 : Int) = ((15 : Nat) : Int) from rfl, rot_some _ 15 (by decide), Option.bind_some]
  rfl
theorem xor_nat (a b : Nat) (ha : a < 4294967296) (hb : b < 4294967296) : Go.bits .xor .u32 (a : Int) (b : Int) = ((a ^^^ b : Nat) : Int) := by
  have h : Go.bits .xor .u32 (a : Int) (b : Int) = IntKind.u32.wrap ((BitVec.ofInt 32 (a : Int) ^^^ BitVec.ofInt 32 (b : Int)).toNat : Int) := rfl
  rw [h, BitVec.ofInt_natCast, BitVec.ofInt_natCast, BitVec.toNat_xor, BitVec.toNat_ofNat, BitVec.toNat_ofNat, Nat.mod_eq_of_lt (show a < 2 ^ 32 by omega), Nat.mod_eq_of_lt (show b < 2 ^ 32 by omega), u32_w_]
  have := Nat.xor_lt_two_pow (show a < 2 ^ 32 by omega) (show b < 2 ^ 32 by omega)
  omega
theorem xor_add (a b i : Nat) (hb : b < 2 ^ i) : (2 ^ i * a) ^^^ b = 2 ^ i * a + b := by
  refine Nat.eq_of_testBit_eq fun j => ?_
  rw [Nat.testBit_two_pow_mul_add a hb, Nat.testBit_xor, Nat.testBit_two_pow_mul]
  by_cases h : j < i
  · rw [if_pos h]; simp [show ¬ i ≤ j by omega]
  · rw [if_neg h]
    have : b.testBit j = false := Nat.testBit_lt_two_pow (Nat.lt_of_lt_of_le hb (Nat.pow_le_pow_right (by decide) (by omega)))
    rw [this]; simp [show i ≤ j by omega]
theorem xor_zero {h : Int} (h0 : 0 ≤ h) (h1 : h < 4294967296) : Go.bits .xor .u32 h 0 = h := by
  obtain ⟨n, rfl⟩ : ∃ n : Nat, h = n := ⟨h.toNat, by omega⟩
  have := xor_nat n 0 (by omega) (by decide)
  rw [Nat.xor_zero] at this
  exact this
theorem zero_xor {h : Int} (h0 : 0 ≤ h) (h1 : h < 4294967296) : Go.bits .xor .u32 0 h = h := by
  obtain ⟨n, rfl⟩ : ∃ n : Nat, h = n := ⟨h.toNat, by omega⟩
  have := xor_nat 0 n (by decide) (by omega)
  rw [Nat.zero_xor] at this
  exact this
theorem xor_sum {a b : Int} (i : Nat) (hi : i ≤ 24) (ha : 0 ≤ a) (hb0 : 0 ≤ b) (hb : b < 2 ^ i) (hs : a * 2 ^ i + b < 4294967296) : Go.bits .xor .u32 (a * 2 ^ i) b = a * 2 ^ i + b := by
  obtain ⟨m, rfl⟩ : ∃ m : Nat, a = m := ⟨a.toNat, by omega⟩
  obtain ⟨n, rfl⟩ : ∃ n : Nat, b = n := ⟨b.toNat, by omega⟩
  have hn : n < 2 ^ i := by exact_mod_cast hb
  have e : (m : Int) * 2 ^ i = ((2 ^ i * m : Nat) : Int) := by push_cast; exact Int.mul_comm _ _
  rw [e] at hs ⊢
  rw [xor_nat _ n (by omega) (by omega), xor_add m n i hn, Int.natCast_add]
theorem mix0 : mixF 0 = 0 := by decide
/-- What lies behind the whole words, as a number. -/
def restN (s : List Int) (i : Nat) : Nat → Int
  | 0 => 0
  | m + 1 => restN s (i + 1) m * 256 + s.getD i 0
theorem blk_range (s : List Int) (seed : Int) (h0 : 0 ≤ seed) (h1 : seed < 4294967296) : ∀ i, 0 ≤ blocks s seed i ∧ blocks s seed i < 4294967296
  | 0 => ⟨h0, h1⟩
  | i + 1 => by show 0 ≤ blkF _ _ ∧ blkF _ _ < _; unfold blkF; omega
theorem last_eq (s : List Int) (hB : Tok.ByteL s) (h : Int) (h0 : 0 ≤ h) (h1 : h < 4294967296) : lastF s h = Go.bits .xor .u32 h (mixF (restN s (4 * (s.length / 4)) (s.length % 4))) := by
  have b0 := hB.at (4 * (s.length / 4))
  have b1 := hB.at (4 * (s.length / 4) + 1)
  have b2 := hB.at (4 * (s.length / 4) + 2)
  have hr : s.length % 4 = 0 ∨ s.length % 4 = 1 ∨ s.length % 4 = 2 ∨ s.length % 4 = 3 := by omega
  unfold lastF
  rcases hr with hr | hr | hr | hr
  · rw [hr, if_pos rfl]
    show _ = Go.bits .xor .u32 h (mixF 0)
    rw [mix0, xor_zero h0 h1]
  · rw [hr, if_neg (by decide), if_pos rfl]
    unfold tail1
    rw [zero_xor b0.1 (by omega)]
    simp [restN]
  · rw [hr, if_neg (by decide), if_neg (by decide), if_pos rfl]
    unfold tail2
    rw [zero_xor (by omega) (by omega)]
    have := xor_sum (a := s.getD (4 * (s.length / 4) + 1) 0) (b := s.getD (4 * (s.length / 4)) 0) 8 (by decide) b1.1 b0.1 (by omega) (by omega)
    rw [show (2 : Int) ^ 8 = 256 by decide] at this
    rw [this]
    simp [restN]
  · rw [hr, if_neg (by decide), if_neg (by decide), if_neg (by decide)]
    unfold tail3
    rw [zero_xor (by omega) (by omega)]
    have t1 := xor_sum (a := s.getD (4 * (s.length / 4) + 2) 0) (b := s.getD (4 * (s.length / 4) + 1) 0 * 256) 16 (by decide) b2.1 (by omega) (by omega) (by omega)
    rw [show (2 : Int) ^ 16 = 65536 by decide] at t1
    rw [t1]
    have t2 := xor_sum (a := s.getD (4 * (s.length / 4) + 2) 0 * 256 + s.getD (4 * (s.length / 4) + 1) 0) (b := s.getD (4 * (s.length / 4)) 0) 8 (by decide) (by omega) b0.1 (by omega) (by omega)
    rw [show (2 : Int) ^ 8 = 256 by decide] at t2
    rw [show s.getD (4 * (s.length / 4) + 2) 0 * 65536 + s.getD (4 * (s.length / 4) + 1) 0 * 256 = (s.getD (4 * (s.length / 4) + 2) 0 * 256 + s.getD (4 * (s.length / 4) + 1) 0) * 256 by omega, t2]
    simp [restN]
theorem rest_range (s : List Int) (hB : Tok.ByteL s) : ∀ m i, m ≤ 3 → 0 ≤ restN s i m ∧ restN s i m < 256 ^ m
  | 0, i, _ => ⟨Int.le_refl 0, by show (0 : Int) < 1; decide⟩
  | m + 1, i, hm => by
    have := rest_range s hB m (i + 1) (by omega)
    have b := hB.at i
    show 0 ≤ restN s (i + 1) m * 256 + s.getD i 0 ∧ restN s (i + 1) m * 256 + s.getD i 0 < 256 ^ (m + 1)
    rw [Int.pow_succ]
    generalize (256 : Int) ^ m = p at this
    omega
theorem ev_tail (s : List Int) (hB : Tok.ByteL s) (hl : s.length ≤ 100000) (h : Int) (i : Nat) (hi : i + s.length % 4 = s.length) (R : Int) (hR : Go.bits .xor .u32 (Go.bits .xor .u32 h (mixF (restN s i (s.length % 4)))) (s.length : Int) = R) :
    Ev (fun k => spec_Murmur.l1 k s h (s.length : Int) (i : Int) 0 ((s.length : Int) - 1)) (finF R) := by
  have go : ∀ m, m ≤ s.length % 4 → Ev (fun k => spec_Murmur.l1 k s h (s.length : Int) (i : Int) (restN s (i + m) (s.length % 4 - m)) ((i : Int) + m - 1)) (finF R) := by
    intro m
    induction m with
    | zero =>
      intro _
      refine Ev.step (f := fun _ => some (finF R)) (fun k => ?_) (Ev.now _)
      rw [spec_Murmur.l1, if_neg (by omega), mix_some, Option.bind_some, Nat.add_zero, Nat.sub_zero, show (s.length : Int) % 4294967296 = (s.length : Int) by omega, hR]
      rfl
    | succ m ih =>
      intro hm
      have hb := hB.at (i + m)
      have hr := rest_range s hB (s.length % 4 - (m + 1)) (i + (m + 1)) (by omega)
      have e : restN s (i + m) (s.length % 4 - m) = restN s (i + (m + 1)) (s.length % 4 - (m + 1)) * 256 + s.getD (i + m) 0 := by
        rw [show s.length % 4 - m = (s.length % 4 - (m + 1)) + 1 by omega]; rfl
      have hlt : restN s (i + (m + 1)) (s.length % 4 - (m + 1)) < 65536 := by
        have : s.length % 4 - (m + 1) = 0 ∨ s.length % 4 - (m + 1) = 1 ∨ s.length % 4 - (m + 1) = 2 := by omega
        rcases this with q | q | q <;> (rw [q] at hr ⊢; omega)
      refine Ev.step (fun k => ?_) (ih (by omega))
      have ea : (i : Int) + ((m + 1 : Nat) : Int) - 1 = ((i + m : Nat) : Int) := by omega
      rw [ea, spec_Murmur.l1, if_pos (by omega), if_pos (Int.natCast_nonneg _), if_pos (by omega), rd_nat, w64 (by omega) (by omega), e, Int.emod_eq_of_lt (by omega) (by omega), show ((i + m : Nat) : Int) - 1 = (i : Int) + (m : Int) - 1 by omega]
  have := go (s.length % 4) (Nat.le_refl _)
  rw [Nat.sub_self] at this
  refine Ev.congr (fun k => ?_) this
  show _ = spec_Murmur.l1 k s h (s.length : Int) (i : Int) 0 _
  rw [show (i : Int) + ((s.length % 4 : Nat) : Int) - 1 = (s.length : Int) - 1 by omega]
theorem ev_murmur (s : List Int) (hB : Tok.ByteL s) (hl : s.length ≤ 100000) (seed : Int) (h0 : 0 ≤ seed) (h1 : seed < 4294967296) : Ev (fun k => spec_Murmur.f k seed s) (murF seed s) := by
  have go : ∀ m i, i + m = s.length / 4 → Ev (fun k => spec_Murmur.l0 k s (blocks s seed i) (s.length : Int) ((4 * i : Nat) : Int)) (murF seed s) := by
    intro m
    induction m with
    | zero =>
      intro i hi
      obtain rfl : i = s.length / 4 := by omega
      have br := blk_range s seed h0 h1 (s.length / 4)
      have ht := ev_tail s hB hl (blocks s seed (s.length / 4)) (4 * (s.length / 4)) (by omega) _ rfl
      refine Ev.step (fun k => ?_) (by
        unfold murF
        rw [last_eq s hB _ br.1 br.2]
        exact ht)
      rw [spec_Murmur.l0, w64 (by omega) (by omega), if_neg (by omega), w64 (by omega) (by omega)]
    | succ m ih =>
      intro i hi
      have b0 := hB.at (4 * i)
      have b1 := hB.at (4 * i + 1)
      have b2 := hB.at (4 * i + 2)
      have b3 := hB.at (4 * i + 3)
      refine Ev.step (fun k => ?_) (ih (i + 1) (by omega))
      rw [spec_Murmur.l0, w64 (by omega) (by omega), if_pos (by omega), if_pos (Int.natCast_nonneg _), if_pos (by omega), w64 (by omega) (by omega), if_pos (by omega), if_pos (by omega), w64 (by omega) (by omega), if_pos (by omega), if_pos (by omega), w64 (by omega) (by omega), if_pos (by omega), if_pos (by omega),
        show ((4 * i : Nat) : Int) + 1 = ((4 * i + 1 : Nat) : Int) by omega, show ((4 * i : Nat) : Int) + 2 = ((4 * i + 2 : Nat) : Int) by omega, show ((4 * i : Nat) : Int) + 3 = ((4 * i + 3 : Nat) : Int) by omega, show ((4 * i : Nat) : Int) + 4 = ((4 * (i + 1) : Nat) : Int) by omega, rd_nat, rd_nat, rd_nat, rd_nat,
        show (s.getD (4 * i) 0 + s.getD (4 * i + 1) 0 % 4294967296 * 256 + s.getD (4 * i + 2) 0 % 4294967296 * 65536 + s.getD (4 * i + 3) 0 % 4294967296 * 16777216) % 4294967296 = word4 s (4 * i) by unfold word4; omega,
        mix_some, Option.bind_some, show (13 : Int) = ((13 : Nat) : Int) from rfl, rot_some _ 13 (by decide), Option.bind_some]
      have e : ((Go.bits .or .u32 (Go.bits .xor .u32 (blocks s seed i) (mixF (word4 s (4 * i))) * 2 ^ 13 % 4294967296) (Go.bits .xor .u32 (blocks s seed i) (mixF (word4 s (4 * i))) / 2 ^ (32 - 13))) * 5 + 3864292196) % 4294967296 = blocks s seed (i + 1) := by
        show _ = blkF _ _
        unfold blkF
        rw [show (2 : Int) ^ 13 = 8192 by decide, show (2 : Int) ^ (32 - 13) = 524288 by decide]
        omega
      rw [e]
  have := go (s.length / 4) 0 (by omega)
  exact this
end Go.Proofs.Ytbbeedclkfcmeaa.KFnBloom
