/- BigToCompact (under way). -/
import Derived.Test.YtdmpjoglejnpbaaBackC
namespace Go.Proofs.Ytdmpjoglejnpbaa.Big
open Go.RowKit Go.Proofs.YtdmpjoglejnpbaaW.PrintWords Go.Proofs.YtdmpjoglejnpbaaW.PrintLast Go.Proofs.YtdmpjoglejnpbaaW.PrintMore Go.Proofs.Ytdmpjoglejnpbaa.QFnTargetBack
set_option linter.unusedVariables false
set_option linter.unusedSimpArgs false
theorem pos_of_head (ys : List Int) (y : Int) (h : ys[0]? = some y) : 0 < ys.length := by
  cases ys with
  | nil => simp at h
  | cons a t => simp
theorem rd_zero (ys : List Int) (y : Int) (h : ys[0]? = some y) : rd ys (0 : Int) = y := by
  unfold rd
  show ys.getD 0 0 = y
  rw [List.getD_eq_getElem?_getD, h]; rfl
set_option maxRecDepth 100000 in
set_option maxHeartbeats 4000000 in
theorem back_small_low (g : Nat) (okx : Nat → Prop) (l : List Int) (k : Nat) (bl : Int) (w : World) (cnt : Nat) (y : Int)
    (hI : Is w g okx false l) (hok : ∀ k, okx k → k < w.heap.size) (hlen : l.length ≤ 1000000) (hdig : Dig l) (hne : 0 < l.length)
    (hbl : smallbig_nat_bitLen.f k l = some bl) (hbl0 : 0 ≤ bl) (hbl1 : bl ≤ 32000000000) (hcnt : ((bl + 7) / 8).toNat = cnt) (hc3 : cnt ≤ 3) (hc1 : 2 ≤ cnt)
    (hy : nv (l.take 2) = y) (y0 : 0 ≤ y) (y1 : y < 4294967296) (M : Int) (hM : y * 2 ^ (8 * (3 - cnt)) % 4294967296 = M) (hsg : (Go.bits .and .u32 M 8388608 != 0) = false) :
    Calls Try.prog 48 #[.pointer (some ⟨g, 0, none⟩)] w fun e w' => e = .returned (.int .u32 (Go.bits .or .u32 ((cnt : Int) * 16777216) M)) ∧ Below w.heap.size w w' := by
  have HI := Aside0.mk hI
  have HK := Aside0.mk hok
  have HD := Aside0.mk hdig
  have HBL := Aside0.mk hbl
  have HY := Aside0.mk hy
  have HCN := Aside0.mk hcnt
  have HNE := Aside0.mk hne
  have hS : (if l.length = 0 then (0 : Int) else if false = true then -1 else 1) = 1 := by rw [if_neg (by omega), if_neg (by decide)]
  have HS := Aside0.mk hS
  clear hI hok hdig hbl hy hcnt hne hS
  have e1 : IntKind.u64.wrap (cnt : Int) = (cnt : Int) := u64w (by omega) (by omega)
  have c0 : decide ((cnt : Int) ≤ 3) = true := decide_eq_true (by omega)
  have c1 : decide (cnt ≤ 3) = true := decide_eq_true hc3
  go_enter Try.func48, Try.ntmps48
  go_wp2_with (first
    | (go_at_call 27; refine (sign g _ false l _ HI.out).mono ?_; rw [HS.out]; rintro e w4 ⟨rfl, rfl⟩)
    | (go_at_call 26; refine (bytes g okx false l k bl _ HI.out HK.out (by omega) HD.out HBL.out hbl0 hbl1).mono ?_; rintro e w3 ⟨v2, rfl, hr, hb⟩; have HB := Aside0.mk hb; obtain ⟨A9, c9, e9, hl9, hC9⟩ := Kd.R_reads hr; rw [bytesOf_length, HCN.out] at e9; subst e9; have n0_ := Aside0.mk (Is.below HI.out hb); clear HI; have HI := n0_; clear n0_ hr hb hl9 hC9)
    | (go_at_call 59; go_loud (refine (bitsC g okx false l _ HD.out hlen HI.out (fun k hk => Nat.lt_of_lt_of_le (HK.out k hk) HB.out.size)).mono ?_; rintro e w5 ⟨v3, ys, rfl, hr, hy0, hb⟩; have n1_ := Aside0.mk (HB.out.trans (hb.mono HB.out.size)); have n2_ := Aside0.mk (Is.below HI.out hb); clear HB HI; have HB := n1_; have HI := n2_; clear n1_ n2_ hb; obtain ⟨A8, c8, e8, hl8, hC8⟩ := Kd.R_reads hr; subst e8; have hy1 := hy0 HNE.out; clear hy0 hr; rw [HY.out] at hy1; have hlp : 0 < ys.length := pos_of_head ys y hy1; obtain ⟨ad, hA, hcell⟩ := Kd.at_int hC8 (0 : Int) (by omega) (by omega); rw [rd_zero ys y hy1] at hcell; subst hA; have b8 : decide (0 < ys.length) = true := decide_eq_true hlp; have b9 : (0 : Int) < (ys.length : Int) := (by omega); have hcell2 : w5.cell? ad = some (.int .u64 y) := (by simpa [Addr.add] using hcell); clear hcell hC8 hl8)))
  go_ret
  exact ⟨rfl, HB.out⟩
set_option maxRecDepth 100000 in
set_option maxHeartbeats 4000000 in
theorem back_small_high (g : Nat) (okx : Nat → Prop) (l : List Int) (k : Nat) (bl : Int) (w : World) (cnt : Nat) (y : Int)
    (hI : Is w g okx false l) (hok : ∀ k, okx k → k < w.heap.size) (hlen : l.length ≤ 1000000) (hdig : Dig l) (hne : 0 < l.length)
    (hbl : smallbig_nat_bitLen.f k l = some bl) (hbl0 : 0 ≤ bl) (hbl1 : bl ≤ 32000000000) (hcnt : ((bl + 7) / 8).toNat = cnt) (hc3 : cnt ≤ 3) (hc1 : 2 ≤ cnt)
    (hy : nv (l.take 2) = y) (y0 : 0 ≤ y) (y1 : y < 4294967296) (M : Int) (hM : y * 2 ^ (8 * (3 - cnt)) % 4294967296 = M) (hsg : (Go.bits .and .u32 M 8388608 != 0) = true) :
    Calls Try.prog 48 #[.pointer (some ⟨g, 0, none⟩)] w fun e w' => e = .returned (.int .u32 (Go.bits .or .u32 (((cnt : Int) + 1) * 16777216) (M / 256))) ∧ Below w.heap.size w w' := by
  have HI := Aside0.mk hI
  have HK := Aside0.mk hok
  have HD := Aside0.mk hdig
  have HBL := Aside0.mk hbl
  have HY := Aside0.mk hy
  have HCN := Aside0.mk hcnt
  have HNE := Aside0.mk hne
  have hS : (if l.length = 0 then (0 : Int) else if false = true then -1 else 1) = 1 := by rw [if_neg (by omega), if_neg (by decide)]
  have HS := Aside0.mk hS
  clear hI hok hdig hbl hy hcnt hne hS
  have e1 : IntKind.u64.wrap (cnt : Int) = (cnt : Int) := u64w (by omega) (by omega)
  have c0 : decide ((cnt : Int) ≤ 3) = true := decide_eq_true (by omega)
  have c1 : decide (cnt ≤ 3) = true := decide_eq_true hc3
  go_enter Try.func48, Try.ntmps48
  go_wp2_with (first
    | (go_at_call 27; refine (sign g _ false l _ HI.out).mono ?_; rw [HS.out]; rintro e w4 ⟨rfl, rfl⟩)
    | (go_at_call 26; refine (bytes g okx false l k bl _ HI.out HK.out (by omega) HD.out HBL.out hbl0 hbl1).mono ?_; rintro e w3 ⟨v2, rfl, hr, hb⟩; have HB := Aside0.mk hb; obtain ⟨A9, c9, e9, hl9, hC9⟩ := Kd.R_reads hr; rw [bytesOf_length, HCN.out] at e9; subst e9; have n0_ := Aside0.mk (Is.below HI.out hb); clear HI; have HI := n0_; clear n0_ hr hb hl9 hC9)
    | (go_at_call 59; go_loud (refine (bitsC g okx false l _ HD.out hlen HI.out (fun k hk => Nat.lt_of_lt_of_le (HK.out k hk) HB.out.size)).mono ?_; rintro e w5 ⟨v3, ys, rfl, hr, hy0, hb⟩; have n1_ := Aside0.mk (HB.out.trans (hb.mono HB.out.size)); have n2_ := Aside0.mk (Is.below HI.out hb); clear HB HI; have HB := n1_; have HI := n2_; clear n1_ n2_ hb; obtain ⟨A8, c8, e8, hl8, hC8⟩ := Kd.R_reads hr; subst e8; have hy1 := hy0 HNE.out; clear hy0 hr; rw [HY.out] at hy1; have hlp : 0 < ys.length := pos_of_head ys y hy1; obtain ⟨ad, hA, hcell⟩ := Kd.at_int hC8 (0 : Int) (by omega) (by omega); rw [rd_zero ys y hy1] at hcell; subst hA; have b8 : decide (0 < ys.length) = true := decide_eq_true hlp; have b9 : (0 : Int) < (ys.length : Int) := (by omega); have hcell2 : w5.cell? ad = some (.int .u64 y) := (by simpa [Addr.add] using hcell); clear hcell hC8 hl8)))
  go_ret
  exact ⟨rfl, HB.out⟩
end Go.Proofs.Ytdmpjoglejnpbaa.Big
