/- Murmur: the package's walk. -/
import Derived.Test.YtbbeedclkfcmeaaLe
namespace Go.Proofs.Ytbbeedclkfcmeaa.Tok
open Go.RowKit Go.Proofs.YtbbeedclkfcmeaaW.PrintWords Go.Proofs.YtbbeedclkfcmeaaW.PrintLast Go.Proofs.YtbbeedclkfcmeaaW.PrintMore Go.Proofs.Ytbbeedclkfcmeaa.QFnBloom
set_option linter.unusedVariables false
set_option linter.unusedSimpArgs false
def word4 (s : List Int) (i : Nat) : Int := s.getD i 0 + s.getD (i + 1) 0 * 256 + s.getD (i + 2) 0 * 65536 + s.getD (i + 3) 0 * 16777216
def ByteL (b : List Int) : Prop := ∀ d ∈ b, 0 ≤ d ∧ d < 256
theorem ByteL.at {s : List Int} (h : ByteL s) (i : Nat) : 0 ≤ s.getD i 0 ∧ s.getD i 0 < 256 := by
  rw [List.getD_eq_getElem?_getD]
  rcases Nat.lt_or_ge i s.length with hi | hi
  · rw [List.getElem?_eq_getElem hi]; exact h _ (List.getElem_mem _)
  · rw [List.getElem?_eq_none hi]; decide
theorem and3 (n : Nat) (h : n < 4294967296) : Go.bits .and .u32 (n : Int) 3 = ((n % 4 : Nat) : Int) := by
  have e : (BitVec.ofInt 32 (n : Int) &&& BitVec.ofInt 32 3).toNat = n % 4 := by
    have h1 : BitVec.ofInt 32 (n : Int) = BitVec.ofNat 32 n := by simp
    have h2 : BitVec.ofInt 32 3 = BitVec.ofNat 32 3 := by decide
    rw [h1, h2, BitVec.toNat_and, BitVec.toNat_ofNat, BitVec.toNat_ofNat, Nat.mod_eq_of_lt h, Nat.mod_eq_of_lt (by decide), show 3 = 2 ^ 2 - 1 from rfl, Nat.and_two_pow_sub_one_eq_mod]
  have e2 : Go.bits .and .u32 (n : Int) 3 = IntKind.u32.wrap ((BitVec.ofInt 32 (n : Int) &&& BitVec.ofInt 32 3).toNat : Int) := by
    first | rfl | (unfold Go.bits; rfl) | simp [Go.bits, IntKind.bits]
  rw [e2, e, u32w (by omega) (by omega)]
/-- A word is mixed. -/
def mixF (k : Int) : Int := Go.bits .or .u32 (k * 3432918353 % 4294967296 * 32768 % 4294967296) (k * 3432918353 % 4294967296 / 131072) * 461845907 % 4294967296
def blkF (h k : Int) : Int := (Go.bits .or .u32 (Go.bits .xor .u32 h (mixF k) * 8192 % 4294967296) (Go.bits .xor .u32 h (mixF k) / 524288) * 5 % 4294967296 + 3864292196) % 4294967296
def finF (x : Int) : Int :=
  Go.bits .xor .u32 (Go.bits .xor .u32 (Go.bits .xor .u32 x (x / 65536) * 2246822507 % 4294967296) (Go.bits .xor .u32 x (x / 65536) * 2246822507 % 4294967296 / 8192) * 3266489909 % 4294967296) (Go.bits .xor .u32 (Go.bits .xor .u32 x (x / 65536) * 2246822507 % 4294967296) (Go.bits .xor .u32 x (x / 65536) * 2246822507 % 4294967296 / 8192) * 3266489909 % 4294967296 / 65536)
def blocks (s : List Int) (seed : Int) : Nat → Int
  | 0 => seed
  | i + 1 => blkF (blocks s seed i) (word4 s (4 * i))
def tail1 (b0 : Int) : Int := Go.bits .xor .u32 0 b0
def tail2 (b0 b1 : Int) : Int := Go.bits .xor .u32 (Go.bits .xor .u32 0 (b1 * 256)) b0
def tail3 (b0 b1 b2 : Int) : Int := Go.bits .xor .u32 (Go.bits .xor .u32 (Go.bits .xor .u32 0 (b2 * 65536)) (b1 * 256)) b0
/-- What lies behind the whole words, put into the hash. -/
def lastF (s : List Int) (h : Int) : Int := let i := 4 * (s.length / 4)
  if s.length % 4 = 0 then h else Go.bits .xor .u32 h (mixF (if s.length % 4 = 1 then tail1 (s.getD i 0) else if s.length % 4 = 2 then tail2 (s.getD i 0) (s.getD (i + 1) 0) else tail3 (s.getD i 0) (s.getD (i + 1) 0) (s.getD (i + 2) 0)))
/-- MurmurHash3. -/
def murF (seed : Int) (s : List Int) : Int := finF (Go.bits .xor .u32 (lastF s (blocks s seed (s.length / 4))) s.length)
set_option maxRecDepth 100000 in
set_option maxHeartbeats 8000000 in
theorem mmC (A : Option Addr) (s : List Int) (c : Nat) (w : World) (seed : Int) (h0 : 0 ≤ seed) (h1 : seed < 4294967296) (hC : Kd.C (Kd.int .u8) w A s.length s) (hc : s.length ≤ c) (hn : s.length ≤ 100000) (hB : ByteL s) : Calls Try.prog 36 #[.int .u32 seed, .slice A s.length c] w fun e w' => e = .returned (.int .u32 (murF seed s)) ∧ Below w.heap.size w w' := by
  obtain ⟨nb, hnb⟩ : ∃ nb : Nat, s.length / 4 = nb := ⟨_, rfl⟩
  have q8 : (s.length : Int) / 4 = (nb : Int) := by omega
  have HB := Aside0.mk hB
  have HC := Aside0.mk hC
  have HL := Aside0.mk hc
  have HNB : Aside0 (s.length / 4 = nb ∧ 4 * nb ≤ s.length) := ⟨by omega⟩
  clear hB hC hc hnb
  go_enter Try.func36, Try.ntmps36
  go_wp2_with fail
  go_loopw [6, 7, 9] (fun v6 v7 v9 wr => ∃ (i : Nat) (k : Int), i ≤ nb ∧ v9 = .int .u32 i ∧ v6 = .int .u32 (blocks s seed i) ∧ v7 = .int .u32 k ∧ Aside0 (Below w.heap.size w wr)) (fun _ _ v9 _ => nb - (intOf v9).toNat)
  case atStart => exact ⟨0, 0, Nat.zero_le _, rfl, rfl, rfl, ⟨Below.refl _ _⟩⟩
  case round =>
    obtain ⟨i, k, hi, rfl, rfl, rfl, HBr⟩ := hrel
    obtain ⟨h, hh⟩ : ∃ x, blocks s seed i = x := ⟨_, rfl⟩
    have HHH := Aside0.mk hh
    rw [hh]
    clear hh
    by_cases hlt : i < nb
    · have d0 : decide ((i : Int) < nb) = true := decide_eq_true (by omega)
      have d1 : decide (i < nb) = true := decide_eq_true hlt
      have hltI : (i : Int) < nb := by omega
      have hfit : 4 * i + 4 ≤ s.length := by have := HNB.out.2; omega
      have hCr := Kd.C_below HC.out HBr.out
      obtain ⟨i05, hi05, _, hsz5, _⟩ := info_parts info5
      obtain ⟨A1, hcut, hA1, hC1⟩ := print_drop_of (P := Try.prog) (Value.int .u8) 0 22 5 .u32 Try.underlying22 hi05 hsz5 A c s ((4 * i : Nat) : Int) (by omega) (by omega) HL.out
      rw [Int.toNat_natCast] at hcut hA1 hC1
      have q2 : IntKind.u32.wrap ((i : Int) * 4) = ((4 * i : Nat) : Int) := by rw [u32w (by omega) (by omega)]; omega
      have hR := hA1 wr (Kd.reads_of_C hCr)
      have hlen : (s.drop (4 * i)).length = s.length - 4 * i := List.length_drop
      have hg : ∀ j, (s.drop (4 * i)).getD j 0 = s.getD (4 * i + j) 0 := fun j => by simp [List.getD_eq_getElem?_getD, List.getElem?_drop]
      obtain ⟨ad1, e1, hcells⟩ := hR.2.2 (by omega)
      subst e1
      have k0 := hcells 0 (by omega)
      have k1 := hcells 1 (by omega)
      have k2 := hcells 2 (by omega)
      have k3 := hcells 3 (by omega)
      rw [hg] at k0 k1 k2 k3
      rw [show ad1.add 0 = ad1 by simp [Addr.add]] at k0
      obtain ⟨m1, hm1⟩ : ∃ m, (s.drop (4 * i)).length = m := ⟨_, rfl⟩
      obtain ⟨c1, hc1⟩ : ∃ m, c - 4 * i = m := ⟨_, rfl⟩
      rw [hm1, hc1] at hcut
      have hm4 : 4 ≤ m1 := by omega
      obtain ⟨p00, p01⟩ := HB.out.at (4 * i + 0)
      obtain ⟨p10, p11⟩ := HB.out.at (4 * i + 1)
      obtain ⟨p20, p21⟩ := HB.out.at (4 * i + 2)
      obtain ⟨p30, p31⟩ := HB.out.at (4 * i + 3)
      obtain ⟨b0, hb0⟩ : ∃ b, s.getD (4 * i + 0) 0 = b := ⟨_, rfl⟩
      obtain ⟨b1, hb1⟩ : ∃ b, s.getD (4 * i + 1) 0 = b := ⟨_, rfl⟩
      obtain ⟨b2, hb2⟩ : ∃ b, s.getD (4 * i + 2) 0 = b := ⟨_, rfl⟩
      obtain ⟨b3, hb3⟩ : ∃ b, s.getD (4 * i + 3) 0 = b := ⟨_, rfl⟩
      rw [hb0] at k0 p00 p01
      rw [hb1] at k1 p10 p11
      rw [hb2] at k2 p20 p21
      rw [hb3] at k3 p30 p31
      have HS := Aside0.mk (show wr.drew.cell? ad1 = some (.int .u8 b0) ∧ wr.drew.cell? ⟨ad1.block, ad1.off + 1, none⟩ = some (.int .u8 b1) ∧ wr.drew.cell? ⟨ad1.block, ad1.off + 2, none⟩ = some (.int .u8 b2) ∧ wr.drew.cell? ⟨ad1.block, ad1.off + 3, none⟩ = some (.int .u8 b3) from ⟨k0, k1, k2, k3⟩)
      obtain ⟨j4, hj4⟩ : ∃ j : Int, ((4 * i : Nat) : Int) = j := ⟨_, rfl⟩
      rw [hj4] at q2 hcut
      have HW : Aside0 (b0 + b1 * 256 + b2 * 65536 + b3 * 16777216 = word4 s (4 * i)) := ⟨by unfold word4; rw [← hb0, ← hb1, ← hb2, ← hb3]; rfl⟩
      clear k0 k1 k2 k3 hb0 hb1 hb2 hb3 hm1 hc1 hg hlen hcells hR hA1 hC1 hCr hfit hj4
      go_wp2
      refine start_ (n := 7) (S := fun w' => w'.cell? ad1 = some (.int .u8 b0) ∧ w'.cell? ⟨ad1.block, ad1.off + 1, none⟩ = some (.int .u8 b1) ∧ w'.cell? ⟨ad1.block, ad1.off + 2, none⟩ = some (.int .u8 b2) ∧ w'.cell? ⟨ad1.block, ad1.off + 3, none⟩ = some (.int .u8 b3)) (ds := []) #[false, false, false, false, false, false, false] (by kernel_rfl) rfl rfl HS.out (fun hHeld => ?_)
      refine take_ (i := 0) (N := some 22) (v := ?_) (a' := ?_) #[true, false, false, false, false, false, false] rfl rfl (by kernel_rfl) (fun _ _ _ h => h) (Or.inl ⟨by rfl, ?_⟩) hHeld ?_ ?_
      rotate_left
      · rintro w' ⟨s0, s1, s2, s3⟩
        go_simp
        with_reducible rfl
      rotate_left
      · simp only [Act.put, List.setIfInBounds_toArray, List.set_cons_zero, List.set_cons_succ, i64_w, i32_w]
        rfl
      refine pure_ (i := 1) (N := some 23) (v := ?_) (a' := ?_) #[true, true, false, false, false, false, false] rfl rfl (by kernel_rfl) (fun _ _ _ h => h) (Or.inl ⟨by rfl, ?_⟩) ?_ ?_
      rotate_left
      · intro w'
        go_simp
        with_reducible rfl
      rotate_left
      · simp only [Act.put, List.setIfInBounds_toArray, List.set_cons_zero, List.set_cons_succ, i64_w, i32_w]
        rfl
      refine pure_ (i := 2) (N := some 24) (v := ?_) (a' := ?_) #[true, true, true, false, false, false, false] rfl rfl (by kernel_rfl) (fun _ _ _ h => h) (Or.inl ⟨by rfl, ?_⟩) ?_ ?_
      rotate_left
      · intro w'
        go_simp
        with_reducible rfl
      rotate_left
      · simp only [Act.put, List.setIfInBounds_toArray, List.set_cons_zero, List.set_cons_succ, i64_w, i32_w]
        rfl
      refine pure_ (i := 3) (N := some 25) (v := ?_) (a' := ?_) #[true, true, true, true, false, false, false] rfl rfl (by kernel_rfl) (fun _ _ _ h => h) (Or.inl ⟨by rfl, ?_⟩) ?_ ?_
      rotate_left
      · intro w'
        go_simp
        with_reducible rfl
      rotate_left
      · simp only [Act.put, List.setIfInBounds_toArray, List.set_cons_zero, List.set_cons_succ, i64_w, i32_w]
        rfl
      refine pure_ (i := 4) (N := some 26) (v := ?_) (a' := ?_) #[true, true, true, true, true, false, false] rfl rfl (by kernel_rfl) (fun _ _ _ h => h) (Or.inl ⟨by rfl, ?_⟩) ?_ ?_
      rotate_left
      · intro w'
        unfold execOp
        go_simp
        rfl
      rotate_left
      · simp only [Act.put, List.setIfInBounds_toArray, List.set_cons_zero, List.set_cons_succ, i64_w, i32_w]
        rfl
      refine one_ (i := 5) (N := some 27) #[true, true, true, true, true, true, false] rfl rfl (by kernel_rfl) (by decide) (fun K hK => ?_)
      refine goes_ Try.func45 (by kernel_rfl) rfl #[.agg #[], .slice (some ad1) m1 c1] (by rfl) rfl rfl (by (try simp only [List.map_toArray, List.map_cons, List.map_nil]); first | done | rfl | (simp only [List.length_drop, List.length_take]; rfl)) ?_
      with_reducible refine (leUint32 ad1 m1 _ hm4 b0 b1 b2 b3 p00 p01 p10 p11 p20 p21 p30 p31 _ hHeld.1 hHeld.2.1 hHeld.2.2.1 hHeld.2.2.2).mono ?_
      rintro e w9 ⟨rfl, hb⟩
      refine ⟨_, rfl, ?_⟩
      have HB9 : Aside0 (Below w.heap.size w w9) := ⟨below_then (below_drew HBr.out) HBr.out.size hb⟩
      refine hK.out _ _ ⟨pw_cell_below hb hHeld.1, pw_cell_below hb hHeld.2.1, pw_cell_below hb hHeld.2.2.1, pw_cell_below hb hHeld.2.2.2⟩ (fun hHeld => ?_)
      clear hK K
      refine norm_ (a' := ?_) ?_ ?_
      rotate_left
      · show Act.put _ (some 27) _ = _
        simp only [Act.put, List.setIfInBounds_toArray, List.set_cons_zero, List.set_cons_succ, i64_w, i32_w]
        rfl
      refine pure_ (i := 6) (N := some 7) (v := ?_) (a' := ?_) #[true, true, true, true, true, true, true] rfl rfl (by kernel_rfl) (fun _ _ _ h => h) (Or.inl ⟨by rfl, ?_⟩) ?_ ?_
      rotate_left
      · intro w'
        go_simp
        with_reducible rfl
      rotate_left
      · simp only [Act.put, List.setIfInBounds_toArray, List.set_cons_zero, List.set_cons_succ, i64_w, i32_w]
        rfl
      refine done_ (by kernel_rfl) ?_
      obtain ⟨kk, hkk⟩ : ∃ x, b0 + b1 * 256 + b2 * 65536 + b3 * 16777216 = x := ⟨_, rfl⟩
      rw [hkk]
      clear hHeld
      have HKK := Aside0.mk hkk
      clear hkk
      go_wp2_with fail
      go_roundw
      case rel => exact ⟨i + 1, _, by omega, by go_num, by (show _ = Value.int .u32 (blkF (blocks s seed i) (word4 s (4 * i))); rw [HHH.out, ← HW.out, HKK.out]; rfl), rfl, HB9⟩
      case measure => simp [intOf]; omega
    · obtain rfl : i = nb := by omega
      have hge : ¬ (i : Int) < (i : Int) := by omega
      have han := and3 s.length (by omega)
      have ht4 : IntKind.u32.wrap ((i : Int) * 4) = ((4 * i : Nat) : Int) := by rw [u32w (by omega) (by omega)]; omega
      have hr4 : s.length % 4 = 0 ∨ s.length % 4 = 1 ∨ s.length % 4 = 2 ∨ s.length % 4 = 3 := by omega
      rcases hr4 with hr | hr | hr | hr
      · rw [hr] at han
        go_upto_region 29 with fail
        obtain ⟨x2, hx2⟩ : ∃ x, Go.bits .xor .u32 h (s.length : Int) = x := ⟨_, rfl⟩
        rw [hx2]
        have HX2 := Aside0.mk hx2
        clear hx2
        go_upto_region 30 with fail
        obtain ⟨x3, hx3⟩ : ∃ x, Go.bits .xor .u32 x2 (x2 / 65536) = x := ⟨_, rfl⟩
        rw [hx3]
        have HX3 := Aside0.mk hx3
        clear hx3
        go_upto_region 31 with fail
        obtain ⟨x4, hx4⟩ : ∃ x, x3 * 2246822507 % 4294967296 = x := ⟨_, rfl⟩
        rw [hx4]
        have HX4 := Aside0.mk hx4
        clear hx4
        go_upto_region 32 with fail
        obtain ⟨x5, hx5⟩ : ∃ x, Go.bits .xor .u32 x4 (x4 / 8192) = x := ⟨_, rfl⟩
        rw [hx5]
        have HX5 := Aside0.mk hx5
        clear hx5
        go_upto_region 33 with fail
        obtain ⟨x6, hx6⟩ : ∃ x, x5 * 3266489909 % 4294967296 = x := ⟨_, rfl⟩
        rw [hx6]
        have HX6 := Aside0.mk hx6
        clear hx6
        go_wp2_with fail
        go_ret
        refine ⟨?_, HBr.out⟩
        show _ = Ending.returned (.int .u32 (murF seed s))
        unfold murF lastF
        rw [show s.length / 4 = i from HNB.out.1, HHH.out]
        rw [if_pos hr]
        unfold finF
        rw [HX2.out, HX3.out, HX4.out, HX5.out, HX6.out]
        rfl
      · rw [hr] at han
        have hlt : 4 * i < s.length := by omega
        obtain ⟨ad, rfl, hcells⟩ := (Kd.reads_of_C (Kd.C_below HC.out HBr.out) : ReadsInt wr .u8 A s.length s).2.2 (by omega)
        have c0 := hcells (4 * i) (by omega)
        obtain ⟨p00, p01⟩ := HB.out.at (4 * i)
        obtain ⟨b0, hb0⟩ : ∃ b, s.getD (4 * i) 0 = b := ⟨_, rfl⟩
        rw [hb0] at c0 p00 p01
        have HBB0 := Aside0.mk hb0
        obtain ⟨j0, hj0⟩ : ∃ j : Nat, 4 * i = j := ⟨_, rfl⟩
        rw [hj0] at ht4 hlt c0
        have h0I : (j0 : Int) < (s.length : Int) := by omega
        have HR := Aside0.mk hr
        clear hcells hj0 hr hb0
        go_upto_region 24 with fail
        obtain ⟨k0, hk0⟩ : ∃ x, Go.bits .xor .u32 0 b0 = x := ⟨_, rfl⟩
        rw [hk0]
        have HK0 := Aside0.mk hk0
        clear hk0
        go_upto_region 25 with fail
        obtain ⟨k1, hk1⟩ : ∃ x, k0 * 3432918353 % 4294967296 = x := ⟨_, rfl⟩
        rw [hk1]
        have HK1 := Aside0.mk hk1
        clear hk1
        go_upto_region 26 with fail
        obtain ⟨k2, hk2⟩ : ∃ x, Go.bits .or .u32 (k1 * 32768 % 4294967296) (k1 / 131072) = x := ⟨_, rfl⟩
        rw [hk2]
        have HK2 := Aside0.mk hk2
        clear hk2
        go_upto_region 27 with fail
        obtain ⟨k3, hk3⟩ : ∃ x, k2 * 461845907 % 4294967296 = x := ⟨_, rfl⟩
        rw [hk3]
        have HK3 := Aside0.mk hk3
        clear hk3
        go_upto_region 28 with fail
        obtain ⟨x1, hx1⟩ : ∃ x, Go.bits .xor .u32 h k3 = x := ⟨_, rfl⟩
        rw [hx1]
        have HX1 := Aside0.mk hx1
        clear hx1
        go_upto_region 29 with fail
        obtain ⟨x2, hx2⟩ : ∃ x, Go.bits .xor .u32 x1 (s.length : Int) = x := ⟨_, rfl⟩
        rw [hx2]
        have HX2 := Aside0.mk hx2
        clear hx2
        go_upto_region 30 with fail
        obtain ⟨x3, hx3⟩ : ∃ x, Go.bits .xor .u32 x2 (x2 / 65536) = x := ⟨_, rfl⟩
        rw [hx3]
        have HX3 := Aside0.mk hx3
        clear hx3
        go_upto_region 31 with fail
        obtain ⟨x4, hx4⟩ : ∃ x, x3 * 2246822507 % 4294967296 = x := ⟨_, rfl⟩
        rw [hx4]
        have HX4 := Aside0.mk hx4
        clear hx4
        go_upto_region 32 with fail
        obtain ⟨x5, hx5⟩ : ∃ x, Go.bits .xor .u32 x4 (x4 / 8192) = x := ⟨_, rfl⟩
        rw [hx5]
        have HX5 := Aside0.mk hx5
        clear hx5
        go_upto_region 33 with fail
        obtain ⟨x6, hx6⟩ : ∃ x, x5 * 3266489909 % 4294967296 = x := ⟨_, rfl⟩
        rw [hx6]
        have HX6 := Aside0.mk hx6
        clear hx6
        go_wp2_with fail
        go_ret
        refine ⟨?_, HBr.out⟩
        show _ = Ending.returned (.int .u32 (murF seed s))
        unfold murF lastF
        rw [show s.length / 4 = i from HNB.out.1, HHH.out]
        rw [if_neg (by rw [HR.out]; decide), if_pos HR.out]
        rw [HBB0.out]
        rw [show tail1 b0 = k0 from HK0.out]
        unfold mixF
        rw [HK1.out, HK2.out, HK3.out, HX1.out]
        unfold finF
        rw [HX2.out, HX3.out, HX4.out, HX5.out, HX6.out]
        rfl
      · rw [hr] at han
        have hlt : 4 * i + 1 < s.length := by omega
        obtain ⟨ad, rfl, hcells⟩ := (Kd.reads_of_C (Kd.C_below HC.out HBr.out) : ReadsInt wr .u8 A s.length s).2.2 (by omega)
        have c0 := hcells (4 * i) (by omega)
        obtain ⟨p00, p01⟩ := HB.out.at (4 * i)
        obtain ⟨b0, hb0⟩ : ∃ b, s.getD (4 * i) 0 = b := ⟨_, rfl⟩
        rw [hb0] at c0 p00 p01
        have HBB0 := Aside0.mk hb0
        have c1 := hcells (4 * i + 1) (by omega)
        obtain ⟨p10, p11⟩ := HB.out.at (4 * i + 1)
        obtain ⟨b1, hb1⟩ : ∃ b, s.getD (4 * i + 1) 0 = b := ⟨_, rfl⟩
        rw [hb1] at c1 p10 p11
        have HBB1 := Aside0.mk hb1
        obtain ⟨j0, hj0⟩ : ∃ j : Nat, 4 * i = j := ⟨_, rfl⟩
        rw [hj0] at ht4 hlt c0 c1
        have h0I : (j0 : Int) < (s.length : Int) := by omega
        have h1I : (j0 : Int) + 1 < (s.length : Int) := by omega
        have h1N : j0 + 1 < s.length := by omega
        rw [show ad.add (j0 + 1) = ⟨ad.block, ad.off + (j0 + 1), none⟩ by unfold Addr.add; rw [if_neg (by omega)]] at c1
        have HR := Aside0.mk hr
        clear hcells hj0 hr hb0 hb1
        go_upto_region 24 with fail
        obtain ⟨k0, hk0⟩ : ∃ x, Go.bits .xor .u32 (Go.bits .xor .u32 0 (b1 * 256)) b0 = x := ⟨_, rfl⟩
        rw [hk0]
        have HK0 := Aside0.mk hk0
        clear hk0
        go_upto_region 25 with fail
        obtain ⟨k1, hk1⟩ : ∃ x, k0 * 3432918353 % 4294967296 = x := ⟨_, rfl⟩
        rw [hk1]
        have HK1 := Aside0.mk hk1
        clear hk1
        go_upto_region 26 with fail
        obtain ⟨k2, hk2⟩ : ∃ x, Go.bits .or .u32 (k1 * 32768 % 4294967296) (k1 / 131072) = x := ⟨_, rfl⟩
        rw [hk2]
        have HK2 := Aside0.mk hk2
        clear hk2
        go_upto_region 27 with fail
        obtain ⟨k3, hk3⟩ : ∃ x, k2 * 461845907 % 4294967296 = x := ⟨_, rfl⟩
        rw [hk3]
        have HK3 := Aside0.mk hk3
        clear hk3
        go_upto_region 28 with fail
        obtain ⟨x1, hx1⟩ : ∃ x, Go.bits .xor .u32 h k3 = x := ⟨_, rfl⟩
        rw [hx1]
        have HX1 := Aside0.mk hx1
        clear hx1
        go_upto_region 29 with fail
        obtain ⟨x2, hx2⟩ : ∃ x, Go.bits .xor .u32 x1 (s.length : Int) = x := ⟨_, rfl⟩
        rw [hx2]
        have HX2 := Aside0.mk hx2
        clear hx2
        go_upto_region 30 with fail
        obtain ⟨x3, hx3⟩ : ∃ x, Go.bits .xor .u32 x2 (x2 / 65536) = x := ⟨_, rfl⟩
        rw [hx3]
        have HX3 := Aside0.mk hx3
        clear hx3
        go_upto_region 31 with fail
        obtain ⟨x4, hx4⟩ : ∃ x, x3 * 2246822507 % 4294967296 = x := ⟨_, rfl⟩
        rw [hx4]
        have HX4 := Aside0.mk hx4
        clear hx4
        go_upto_region 32 with fail
        obtain ⟨x5, hx5⟩ : ∃ x, Go.bits .xor .u32 x4 (x4 / 8192) = x := ⟨_, rfl⟩
        rw [hx5]
        have HX5 := Aside0.mk hx5
        clear hx5
        go_upto_region 33 with fail
        obtain ⟨x6, hx6⟩ : ∃ x, x5 * 3266489909 % 4294967296 = x := ⟨_, rfl⟩
        rw [hx6]
        have HX6 := Aside0.mk hx6
        clear hx6
        go_wp2_with fail
        go_ret
        refine ⟨?_, HBr.out⟩
        show _ = Ending.returned (.int .u32 (murF seed s))
        unfold murF lastF
        rw [show s.length / 4 = i from HNB.out.1, HHH.out]
        rw [if_neg (by rw [HR.out]; decide), if_neg (by rw [HR.out]; decide), if_pos HR.out]
        rw [HBB0.out, HBB1.out]
        rw [show tail2 b0 b1 = k0 from HK0.out]
        unfold mixF
        rw [HK1.out, HK2.out, HK3.out, HX1.out]
        unfold finF
        rw [HX2.out, HX3.out, HX4.out, HX5.out, HX6.out]
        rfl
      · rw [hr] at han
        have hlt : 4 * i + 2 < s.length := by omega
        obtain ⟨ad, rfl, hcells⟩ := (Kd.reads_of_C (Kd.C_below HC.out HBr.out) : ReadsInt wr .u8 A s.length s).2.2 (by omega)
        have c0 := hcells (4 * i) (by omega)
        obtain ⟨p00, p01⟩ := HB.out.at (4 * i)
        obtain ⟨b0, hb0⟩ : ∃ b, s.getD (4 * i) 0 = b := ⟨_, rfl⟩
        rw [hb0] at c0 p00 p01
        have HBB0 := Aside0.mk hb0
        have c1 := hcells (4 * i + 1) (by omega)
        obtain ⟨p10, p11⟩ := HB.out.at (4 * i + 1)
        obtain ⟨b1, hb1⟩ : ∃ b, s.getD (4 * i + 1) 0 = b := ⟨_, rfl⟩
        rw [hb1] at c1 p10 p11
        have HBB1 := Aside0.mk hb1
        have c2 := hcells (4 * i + 2) (by omega)
        obtain ⟨p20, p21⟩ := HB.out.at (4 * i + 2)
        obtain ⟨b2, hb2⟩ : ∃ b, s.getD (4 * i + 2) 0 = b := ⟨_, rfl⟩
        rw [hb2] at c2 p20 p21
        have HBB2 := Aside0.mk hb2
        obtain ⟨j0, hj0⟩ : ∃ j : Nat, 4 * i = j := ⟨_, rfl⟩
        rw [hj0] at ht4 hlt c0 c1 c2
        have h0I : (j0 : Int) < (s.length : Int) := by omega
        have h1I : (j0 : Int) + 1 < (s.length : Int) := by omega
        have h1N : j0 + 1 < s.length := by omega
        have h2I : (j0 : Int) + 2 < (s.length : Int) := by omega
        have h2N : j0 + 2 < s.length := by omega
        rw [show ad.add (j0 + 1) = ⟨ad.block, ad.off + (j0 + 1), none⟩ by unfold Addr.add; rw [if_neg (by omega)]] at c1
        rw [show ad.add (j0 + 2) = ⟨ad.block, ad.off + (j0 + 2), none⟩ by unfold Addr.add; rw [if_neg (by omega)]] at c2
        have HR := Aside0.mk hr
        clear hcells hj0 hr hb0 hb1 hb2
        go_upto_region 24 with fail
        obtain ⟨k0, hk0⟩ : ∃ x, Go.bits .xor .u32 (Go.bits .xor .u32 (Go.bits .xor .u32 0 (b2 * 65536)) (b1 * 256)) b0 = x := ⟨_, rfl⟩
        rw [hk0]
        have HK0 := Aside0.mk hk0
        clear hk0
        go_upto_region 25 with fail
        obtain ⟨k1, hk1⟩ : ∃ x, k0 * 3432918353 % 4294967296 = x := ⟨_, rfl⟩
        rw [hk1]
        have HK1 := Aside0.mk hk1
        clear hk1
        go_upto_region 26 with fail
        obtain ⟨k2, hk2⟩ : ∃ x, Go.bits .or .u32 (k1 * 32768 % 4294967296) (k1 / 131072) = x := ⟨_, rfl⟩
        rw [hk2]
        have HK2 := Aside0.mk hk2
        clear hk2
        go_upto_region 27 with fail
        obtain ⟨k3, hk3⟩ : ∃ x, k2 * 461845907 % 4294967296 = x := ⟨_, rfl⟩
        rw [hk3]
        have HK3 := Aside0.mk hk3
        clear hk3
        go_upto_region 28 with fail
        obtain ⟨x1, hx1⟩ : ∃ x, Go.bits .xor .u32 h k3 = x := ⟨_, rfl⟩
        rw [hx1]
        have HX1 := Aside0.mk hx1
        clear hx1
        go_upto_region 29 with fail
        obtain ⟨x2, hx2⟩ : ∃ x, Go.bits .xor .u32 x1 (s.length : Int) = x := ⟨_, rfl⟩
        rw [hx2]
        have HX2 := Aside0.mk hx2
        clear hx2
        go_upto_region 30 with fail
        obtain ⟨x3, hx3⟩ : ∃ x, Go.bits .xor .u32 x2 (x2 / 65536) = x := ⟨_, rfl⟩
        rw [hx3]
        have HX3 := Aside0.mk hx3
        clear hx3
        go_upto_region 31 with fail
        obtain ⟨x4, hx4⟩ : ∃ x, x3 * 2246822507 % 4294967296 = x := ⟨_, rfl⟩
        rw [hx4]
        have HX4 := Aside0.mk hx4
        clear hx4
        go_upto_region 32 with fail
        obtain ⟨x5, hx5⟩ : ∃ x, Go.bits .xor .u32 x4 (x4 / 8192) = x := ⟨_, rfl⟩
        rw [hx5]
        have HX5 := Aside0.mk hx5
        clear hx5
        go_upto_region 33 with fail
        obtain ⟨x6, hx6⟩ : ∃ x, x5 * 3266489909 % 4294967296 = x := ⟨_, rfl⟩
        rw [hx6]
        have HX6 := Aside0.mk hx6
        clear hx6
        go_wp2_with fail
        go_ret
        refine ⟨?_, HBr.out⟩
        show _ = Ending.returned (.int .u32 (murF seed s))
        unfold murF lastF
        rw [show s.length / 4 = i from HNB.out.1, HHH.out]
        rw [if_neg (by rw [HR.out]; decide), if_neg (by rw [HR.out]; decide), if_neg (by rw [HR.out]; decide)]
        rw [HBB0.out, HBB1.out, HBB2.out]
        rw [show tail3 b0 b1 b2 = k0 from HK0.out]
        unfold mixF
        rw [HK1.out, HK2.out, HK3.out, HX1.out]
        unfold finF
        rw [HX2.out, HX3.out, HX4.out, HX5.out, HX6.out]
        rfl
end Go.Proofs.Ytbbeedclkfcmeaa.Tok
