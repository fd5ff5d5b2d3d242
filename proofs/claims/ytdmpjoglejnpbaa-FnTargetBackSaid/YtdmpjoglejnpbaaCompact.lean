/- The contract of CompactToBig. -/
import Derived.Test.YtdmpjoglejnpbaaFill
namespace Go.Proofs.Ytdmpjoglejnpbaa.Big
open Go.RowKit Go.Proofs.YtdmpjoglejnpbaaW.PrintWords Go.Proofs.YtdmpjoglejnpbaaW.PrintLast Go.Proofs.YtdmpjoglejnpbaaW.PrintMore Go.Proofs.Ytdmpjoglejnpbaa.QFnTargetBack
set_option linter.unusedVariables false
set_option linter.unusedSimpArgs false

set_option maxRecDepth 100000 in
set_option maxHeartbeats 2000000 in
theorem compact_small_pos (c : Int) (h0 : 0 ≤ c) (h1 : c < 4294967296) (he : c / 16777216 ≤ 3) (hs : (Go.bits .and .u32 c 8388608 != 0) = false) (m s : Int) (hm : wrap64 (Go.bits .and .u32 c 8388607 / 2 ^ (8 * (3 - c / 16777216)).toNat) = m) (hm0 : 0 ≤ m) (hm1 : m ≤ 9223372036854775807) (k : Nat) (l0 l : List Int)
    (h : smallbig_natOf.f k m = some l) (w : World) :
    Calls Try.prog 45 #[.int .u32 c] w fun e w' => e = .returned (.pointer (some ⟨w.heap.size, 0, none⟩)) ∧ Is w' w.heap.size (· ≠ w.heap.size) false l ∧ Below w.heap.size w w' := by
  have b0 : decide (c / 16777216 ≤ 3) = true := decide_eq_true he
  have H := Aside0.mk h
  clear h
  skip
  go_enter Try.func45, Try.ntmps45
  go_wp2_with (first | (go_at_call 56; refine (newInt k m hm0 hm1 l _ H.out).mono ?_; rintro e w1 ⟨rfl, hi, hb⟩; have HI := Aside0.mk hi; have HB := Aside0.mk hb; have HZ := Aside0.mk (blk_lt' hi.choose_spec.1); clear hi hb))
  go_ret
  exact ⟨rfl, HI.out, HB.out⟩

set_option maxRecDepth 100000 in
set_option maxHeartbeats 2000000 in
theorem compact_small_neg (c : Int) (h0 : 0 ≤ c) (h1 : c < 4294967296) (he : c / 16777216 ≤ 3) (hs : (Go.bits .and .u32 c 8388608 != 0) = true) (m s : Int) (hm : wrap64 (Go.bits .and .u32 c 8388607 / 2 ^ (8 * (3 - c / 16777216)).toNat) = m) (hm0 : 0 ≤ m) (hm1 : m ≤ 9223372036854775807) (k : Nat) (l0 l : List Int) (hne : 0 < l.length)
    (h : smallbig_natOf.f k m = some l) (w : World) :
    Calls Try.prog 45 #[.int .u32 c] w fun e w' => e = .returned (.pointer (some ⟨w.heap.size, 0, none⟩)) ∧ Is w' w.heap.size (· ≠ w.heap.size) true l ∧ Below w.heap.size w w' := by
  have b0 : decide (c / 16777216 ≤ 3) = true := decide_eq_true he
  have H := Aside0.mk h
  clear h
  have HE := Aside0.mk hne
  clear hne
  go_enter Try.func45, Try.ntmps45
  go_wp2_with (first | (go_at_call 56; refine (newInt k m hm0 hm1 l _ H.out).mono ?_; rintro e w1 ⟨rfl, hi, hb⟩; have HI := Aside0.mk hi; have HB := Aside0.mk hb; have HZ := Aside0.mk (blk_lt' hi.choose_spec.1); clear hi hb) | (go_at_call 58; refine (neg_pos w.heap.size false l HE.out _ HI.out).mono ?_; rintro e w3 ⟨rfl, hi, ho⟩; have n0_ := Aside0.mk hi; have n1_ := Aside0.mk (ho.below HB.out (Nat.le_refl _) HB.out.size); clear hi ho HI HB; have HI := n0_; have HB := n1_; clear n0_ n1_))
  go_ret
  exact ⟨rfl, HI.out, HB.out⟩

set_option maxRecDepth 100000 in
set_option maxHeartbeats 2000000 in
theorem compact_small_nil (c : Int) (h0 : 0 ≤ c) (h1 : c < 4294967296) (he : c / 16777216 ≤ 3) (hs : (Go.bits .and .u32 c 8388608 != 0) = true) (m s : Int) (hm : wrap64 (Go.bits .and .u32 c 8388607 / 2 ^ (8 * (3 - c / 16777216)).toNat) = m) (hm0 : 0 ≤ m) (hm1 : m ≤ 9223372036854775807) (k : Nat) (l0 l : List Int) (hnl : l.length = 0)
    (h : smallbig_natOf.f k m = some l) (w : World) :
    Calls Try.prog 45 #[.int .u32 c] w fun e w' => e = .returned (.pointer (some ⟨w.heap.size, 0, none⟩)) ∧ Is w' w.heap.size (· ≠ w.heap.size) false l ∧ Below w.heap.size w w' := by
  have b0 : decide (c / 16777216 ≤ 3) = true := decide_eq_true he
  have H := Aside0.mk h
  clear h
  have HE := Aside0.mk hnl
  clear hnl
  go_enter Try.func45, Try.ntmps45
  go_wp2_with (first | (go_at_call 56; refine (newInt k m hm0 hm1 l _ H.out).mono ?_; rintro e w1 ⟨rfl, hi, hb⟩; have HI := Aside0.mk hi; have HB := Aside0.mk hb; have HZ := Aside0.mk (blk_lt' hi.choose_spec.1); clear hi hb) | (go_at_call 58; refine (neg_nil w.heap.size false l HE.out _ HI.out).mono ?_; rintro e w3 ⟨rfl, hi, ho⟩; have n0_ := Aside0.mk hi; have n1_ := Aside0.mk (ho.below HB.out (Nat.le_refl _) HB.out.size); clear hi ho HI HB; have HI := n0_; have HB := n1_; clear n0_ n1_))
  go_ret
  exact ⟨rfl, HI.out, HB.out⟩

set_option maxRecDepth 100000 in
set_option maxHeartbeats 2000000 in
theorem compact_big_pos (c : Int) (h0 : 0 ≤ c) (h1 : c < 4294967296) (he : 3 < c / 16777216) (hs : (Go.bits .and .u32 c 8388608 != 0) = false) (m s : Int) (hm : wrap64 (Go.bits .and .u32 c 8388607) = m) (hm0 : 0 ≤ m) (hm1 : m ≤ 9223372036854775807) (k : Nat) (l0 l : List Int)
    (h : smallbig_natOf.f k m = some l0) (hsh : IntKind.u64.wrap (8 * (c / 16777216 - 3)) = s) (h2 : smallbig_nat_lsh.f k l0 s = some l) (w : World) :
    Calls Try.prog 45 #[.int .u32 c] w fun e w' => e = .returned (.pointer (some ⟨w.heap.size, 0, none⟩)) ∧ Is w' w.heap.size (· ≠ w.heap.size) false l ∧ Below w.heap.size w w' := by
  have b0 : decide (c / 16777216 ≤ 3) = false := decide_eq_false (by omega)
  have H := Aside0.mk h
  clear h
  have H2 := Aside0.mk h2
  clear h2
  go_enter Try.func45, Try.ntmps45
  go_wp2_with (first | (go_at_call 56; refine (newInt k m hm0 hm1 l0 _ H.out).mono ?_; rintro e w1 ⟨rfl, hi, hb⟩; have HI := Aside0.mk hi; have HB := Aside0.mk hb; have HZ := Aside0.mk (blk_lt' hi.choose_spec.1); clear hi hb) | (go_at_call 57; refine (lsh k w.heap.size false l0 s l _ HI.out H2.out).mono ?_; rintro e w2 ⟨rfl, hi, ho⟩; have n0_ := Aside0.mk hi; have n1_ := Aside0.mk (ho.below HB.out (Nat.le_refl _) HB.out.size); clear hi ho HI HB HZ; have HI := n0_; have HB := n1_; clear n0_ n1_))
  go_ret
  exact ⟨rfl, HI.out, HB.out⟩

set_option maxRecDepth 100000 in
set_option maxHeartbeats 2000000 in
theorem compact_big_neg (c : Int) (h0 : 0 ≤ c) (h1 : c < 4294967296) (he : 3 < c / 16777216) (hs : (Go.bits .and .u32 c 8388608 != 0) = true) (m s : Int) (hm : wrap64 (Go.bits .and .u32 c 8388607) = m) (hm0 : 0 ≤ m) (hm1 : m ≤ 9223372036854775807) (k : Nat) (l0 l : List Int) (hne : 0 < l.length)
    (h : smallbig_natOf.f k m = some l0) (hsh : IntKind.u64.wrap (8 * (c / 16777216 - 3)) = s) (h2 : smallbig_nat_lsh.f k l0 s = some l) (w : World) :
    Calls Try.prog 45 #[.int .u32 c] w fun e w' => e = .returned (.pointer (some ⟨w.heap.size, 0, none⟩)) ∧ Is w' w.heap.size (· ≠ w.heap.size) true l ∧ Below w.heap.size w w' := by
  have b0 : decide (c / 16777216 ≤ 3) = false := decide_eq_false (by omega)
  have H := Aside0.mk h
  clear h
  have H2 := Aside0.mk h2
  clear h2
  have HE := Aside0.mk hne
  clear hne
  go_enter Try.func45, Try.ntmps45
  go_wp2_with (first | (go_at_call 56; refine (newInt k m hm0 hm1 l0 _ H.out).mono ?_; rintro e w1 ⟨rfl, hi, hb⟩; have HI := Aside0.mk hi; have HB := Aside0.mk hb; have HZ := Aside0.mk (blk_lt' hi.choose_spec.1); clear hi hb) | (go_at_call 57; refine (lsh k w.heap.size false l0 s l _ HI.out H2.out).mono ?_; rintro e w2 ⟨rfl, hi, ho⟩; have n0_ := Aside0.mk hi; have n1_ := Aside0.mk (ho.below HB.out (Nat.le_refl _) HB.out.size); clear hi ho HI HB HZ; have HI := n0_; have HB := n1_; clear n0_ n1_) | (go_at_call 58; refine (neg_pos w.heap.size false l HE.out _ HI.out).mono ?_; rintro e w3 ⟨rfl, hi, ho⟩; have n0_ := Aside0.mk hi; have n1_ := Aside0.mk (ho.below HB.out (Nat.le_refl _) HB.out.size); clear hi ho HI HB; have HI := n0_; have HB := n1_; clear n0_ n1_))
  go_ret
  exact ⟨rfl, HI.out, HB.out⟩

set_option maxRecDepth 100000 in
set_option maxHeartbeats 2000000 in
theorem compact_big_nil (c : Int) (h0 : 0 ≤ c) (h1 : c < 4294967296) (he : 3 < c / 16777216) (hs : (Go.bits .and .u32 c 8388608 != 0) = true) (m s : Int) (hm : wrap64 (Go.bits .and .u32 c 8388607) = m) (hm0 : 0 ≤ m) (hm1 : m ≤ 9223372036854775807) (k : Nat) (l0 l : List Int) (hnl : l.length = 0)
    (h : smallbig_natOf.f k m = some l0) (hsh : IntKind.u64.wrap (8 * (c / 16777216 - 3)) = s) (h2 : smallbig_nat_lsh.f k l0 s = some l) (w : World) :
    Calls Try.prog 45 #[.int .u32 c] w fun e w' => e = .returned (.pointer (some ⟨w.heap.size, 0, none⟩)) ∧ Is w' w.heap.size (· ≠ w.heap.size) false l ∧ Below w.heap.size w w' := by
  have b0 : decide (c / 16777216 ≤ 3) = false := decide_eq_false (by omega)
  have H := Aside0.mk h
  clear h
  have H2 := Aside0.mk h2
  clear h2
  have HE := Aside0.mk hnl
  clear hnl
  go_enter Try.func45, Try.ntmps45
  go_wp2_with (first | (go_at_call 56; refine (newInt k m hm0 hm1 l0 _ H.out).mono ?_; rintro e w1 ⟨rfl, hi, hb⟩; have HI := Aside0.mk hi; have HB := Aside0.mk hb; have HZ := Aside0.mk (blk_lt' hi.choose_spec.1); clear hi hb) | (go_at_call 57; refine (lsh k w.heap.size false l0 s l _ HI.out H2.out).mono ?_; rintro e w2 ⟨rfl, hi, ho⟩; have n0_ := Aside0.mk hi; have n1_ := Aside0.mk (ho.below HB.out (Nat.le_refl _) HB.out.size); clear hi ho HI HB HZ; have HI := n0_; have HB := n1_; clear n0_ n1_) | (go_at_call 58; refine (neg_nil w.heap.size false l HE.out _ HI.out).mono ?_; rintro e w3 ⟨rfl, hi, ho⟩; have n0_ := Aside0.mk hi; have n1_ := Aside0.mk (ho.below HB.out (Nat.le_refl _) HB.out.size); clear hi ho HI HB; have HI := n0_; have HB := n1_; clear n0_ n1_))
  go_ret
  exact ⟨rfl, HI.out, HB.out⟩
end Go.Proofs.Ytdmpjoglejnpbaa.Big
