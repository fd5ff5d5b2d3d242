/- BigToCompact of more than 3 bytes. -/
import Derived.Test.YtdmpjoglejnpbaaBackC2
namespace Go.Proofs.Ytdmpjoglejnpbaa.Big
open Go.RowKit Go.Proofs.YtdmpjoglejnpbaaW.PrintWords Go.Proofs.YtdmpjoglejnpbaaW.PrintLast Go.Proofs.YtdmpjoglejnpbaaW.PrintMore Go.Proofs.Ytdmpjoglejnpbaa.QFnTargetBack
set_option linter.unusedVariables false
set_option linter.unusedSimpArgs false
set_option maxRecDepth 100000 in
set_option maxHeartbeats 4000000 in
theorem back_big_low (g : Nat) (okx : Nat → Prop) (l : List Int) (k : Nat) (bl : Int) (w : World) (cnt : Nat) (y : Int)
    (hI : Is w g okx false l) (hok : ∀ k, okx k → k < w.heap.size) (hlen : l.length ≤ 1000000) (hdig : Dig l) (hne : 0 < l.length)
    (hbl : smallbig_nat_bitLen.f k l = some bl) (hbl0 : 0 ≤ bl) (hbl1 : bl ≤ 32000000000) (hcnt : ((bl + 7) / 8).toNat = cnt) (hc3 : 3 < cnt) (hc1 : cnt ≤ 255) (W s : Nat) (hn : 8 * (cnt - 3) = 32 * W + s) (hs : s < 32) (hW : W < l.length) (l2 : List Int) (hd2 : Dig l2) (hl2 : l2.length ≤ 1000000) (hne2 : 0 < l2.length) (hr : smallbig_nat_norm.f k (dg (nv (l.drop W) / 2 ^ s) (l.length - W)) = some l2)
    (hy : nv (l2.take 2) = y) (y0 : 0 ≤ y) (y1 : y < 4294967296) (hsg : (Go.bits .and .u32 y 8388608 != 0) = false) :
    Calls Try.prog 48 #[.pointer (some ⟨g, 0, none⟩)] w fun e w' => e = .returned (.int .u32 (Go.bits .or .u32 ((cnt : Int) * 16777216) y)) ∧ Below w.heap.size w w' := by
  have HI := Aside0.mk hI
  have HK := Aside0.mk hok
  have HD := Aside0.mk hdig
  have HBL := Aside0.mk hbl
  have HY := Aside0.mk hy
  have HCN := Aside0.mk hcnt
  have HNE := Aside0.mk hne2
  have HD2 := Aside0.mk hd2
  have HRR := Aside0.mk hr
  have HN := Aside0.mk hn
  have HS32 := Aside0.mk hs
  have HW := Aside0.mk hW
  have HG := Aside0.mk (blk_lt' hI.choose_spec.1)
  have hS : (if l.length = 0 then (0 : Int) else if false = true then -1 else 1) = 1 := by rw [if_neg (by omega), if_neg (by decide)]
  have HS := Aside0.mk hS
  clear hI hok hdig hbl hy hcnt hne hne2 hS hd2 hr hn hs hW
  have e1 : IntKind.u64.wrap (cnt : Int) = (cnt : Int) := u64w (by omega) (by omega)
  have c0 : decide ((cnt : Int) ≤ 3) = false := decide_eq_false (by omega)
  have c1 : decide (cnt ≤ 3) = false := decide_eq_false (by omega)
  go_enter Try.func48, Try.ntmps48
  go_wp2_with (first
    | (go_at_call 27; refine (sign g _ false l _ HI.out).mono ?_; rw [HS.out]; rintro e w4 ⟨rfl, rfl⟩)
    | (go_at_call 26; refine (bytes g okx false l k bl _ HI.out HK.out (by omega) HD.out HBL.out hbl0 hbl1).mono ?_; rintro e w3 ⟨v2, rfl, hr, hb⟩; have HB := Aside0.mk hb; obtain ⟨A9, c9, e9, hl9, hC9⟩ := Kd.R_reads hr; rw [bytesOf_length, HCN.out] at e9; subst e9; have n0_ := Aside0.mk (Is.below HI.out hb); clear HI; have HI := n0_; clear n0_ hr hb hl9 hC9)
    | (go_at_call 60; refine (setInt w3.heap.size g (.bool false) (.slice none 0 0) (fun k => okx k ∧ k < w3.heap.size) false l _ (by have := HG.out; have := HB.out.size; omega) (fun k hk => by have := hk.2; omega) (heap_alloc_new w3 _) (Is.below (Is.bound HI.out) (below_alloc (Below.refl _ _) _))).mono ?_; rintro e w5 ⟨rfl, hi2, ho⟩; have HI2 := Aside0.mk hi2; have n2_ := Aside0.mk (Is.only (Is.below (Is.bound HI.out) (below_alloc (Below.refl _ _) (.cells #[.bool false, .slice none 0 0] 105))) ho (by have := HG.out; have := HB.out.size; omega) (fun k hk => by have := hk.2; omega)); have n3_ := Aside0.mk ho.size; have HLE := Aside0.mk HB.out.size; have n1_ := Aside0.mk (ho.below (below_alloc HB.out _) HB.out.size (below_alloc HB.out _).size); clear HB HI; have HB := n1_; have HI := n2_; have HZ3 := n3_; clear n1_ n2_ n3_ hi2 ho)
    | (go_at_call 61; rw [show (8 * ((cnt : Int) - 3)) = ((8 * (cnt - 3) : Nat) : Int) by omega]; refine (rshInt w3.heap.size _ l (8 * (cnt - 3)) W s k l2 _ HN.out HS32.out HW.out hlen HD.out HI2.out HRR.out).mono ?_; rintro e w6 ⟨rfl, hi3, ho⟩; have n0_ := Aside0.mk hi3; have n2_ := Aside0.mk (Is.only HI.out ho (by have := HG.out; have := HZ3.out; have hsz := HB.out.size; have := HLE.out; omega) (fun k hk => by have := hk.2; omega)); have n1_ := Aside0.mk (ho.below HB.out HLE.out HB.out.size); clear HB HI HI2; have HB := n1_; have HI := n2_; have HI2 := n0_; clear n0_ n1_ n2_ hi3 ho)
    | (go_at_call 59; refine (bitsC w3.heap.size _ false l2 _ HD2.out hl2 (Is.bound HI2.out) (fun k hk => hk.2)).mono ?_; rintro e w7 ⟨v3, ys, rfl, hr, hy0, hb⟩; have n1_ := Aside0.mk (HB.out.trans (hb.mono HB.out.size)); have n2_ := Aside0.mk (Is.below HI.out hb); clear HB HI; have HB := n1_; have HI := n2_; clear n1_ n2_ hb; obtain ⟨A8, c8, e8, hl8, hC8⟩ := Kd.R_reads hr; subst e8; have hy1 := hy0 HNE.out; clear hy0 hr; rw [HY.out] at hy1; have hlp : 0 < ys.length := pos_of_head ys y hy1; obtain ⟨ad, hA, hcell⟩ := Kd.at_int hC8 (0 : Int) (by omega) (by omega); rw [rd_zero ys y hy1] at hcell; subst hA; have b8 : decide (0 < ys.length) = true := decide_eq_true hlp; have b9 : (0 : Int) < (ys.length : Int) := (by omega); have hcell2 : w7.cell? ad = some (.int .u64 y) := (by simpa [Addr.add] using hcell); clear hcell hC8 hl8))
  go_ret
  exact ⟨rfl, HB.out⟩
set_option maxRecDepth 100000 in
set_option maxHeartbeats 4000000 in
theorem back_big_high (g : Nat) (okx : Nat → Prop) (l : List Int) (k : Nat) (bl : Int) (w : World) (cnt : Nat) (y : Int)
    (hI : Is w g okx false l) (hok : ∀ k, okx k → k < w.heap.size) (hlen : l.length ≤ 1000000) (hdig : Dig l) (hne : 0 < l.length)
    (hbl : smallbig_nat_bitLen.f k l = some bl) (hbl0 : 0 ≤ bl) (hbl1 : bl ≤ 32000000000) (hcnt : ((bl + 7) / 8).toNat = cnt) (hc3 : 3 < cnt) (hc1 : cnt ≤ 254) (W s : Nat) (hn : 8 * (cnt - 3) = 32 * W + s) (hs : s < 32) (hW : W < l.length) (l2 : List Int) (hd2 : Dig l2) (hl2 : l2.length ≤ 1000000) (hne2 : 0 < l2.length) (hr : smallbig_nat_norm.f k (dg (nv (l.drop W) / 2 ^ s) (l.length - W)) = some l2)
    (hy : nv (l2.take 2) = y) (y0 : 0 ≤ y) (y1 : y < 4294967296) (hsg : (Go.bits .and .u32 y 8388608 != 0) = true) :
    Calls Try.prog 48 #[.pointer (some ⟨g, 0, none⟩)] w fun e w' => e = .returned (.int .u32 (Go.bits .or .u32 (((cnt : Int) + 1) * 16777216) (y / 256))) ∧ Below w.heap.size w w' := by
  have HI := Aside0.mk hI
  have HK := Aside0.mk hok
  have HD := Aside0.mk hdig
  have HBL := Aside0.mk hbl
  have HY := Aside0.mk hy
  have HCN := Aside0.mk hcnt
  have HNE := Aside0.mk hne2
  have HD2 := Aside0.mk hd2
  have HRR := Aside0.mk hr
  have HN := Aside0.mk hn
  have HS32 := Aside0.mk hs
  have HW := Aside0.mk hW
  have HG := Aside0.mk (blk_lt' hI.choose_spec.1)
  have hS : (if l.length = 0 then (0 : Int) else if false = true then -1 else 1) = 1 := by rw [if_neg (by omega), if_neg (by decide)]
  have HS := Aside0.mk hS
  clear hI hok hdig hbl hy hcnt hne hne2 hS hd2 hr hn hs hW
  have e1 : IntKind.u64.wrap (cnt : Int) = (cnt : Int) := u64w (by omega) (by omega)
  have c0 : decide ((cnt : Int) ≤ 3) = false := decide_eq_false (by omega)
  have c1 : decide (cnt ≤ 3) = false := decide_eq_false (by omega)
  go_enter Try.func48, Try.ntmps48
  go_wp2_with (first
    | (go_at_call 27; refine (sign g _ false l _ HI.out).mono ?_; rw [HS.out]; rintro e w4 ⟨rfl, rfl⟩)
    | (go_at_call 26; refine (bytes g okx false l k bl _ HI.out HK.out (by omega) HD.out HBL.out hbl0 hbl1).mono ?_; rintro e w3 ⟨v2, rfl, hr, hb⟩; have HB := Aside0.mk hb; obtain ⟨A9, c9, e9, hl9, hC9⟩ := Kd.R_reads hr; rw [bytesOf_length, HCN.out] at e9; subst e9; have n0_ := Aside0.mk (Is.below HI.out hb); clear HI; have HI := n0_; clear n0_ hr hb hl9 hC9)
    | (go_at_call 60; refine (setInt w3.heap.size g (.bool false) (.slice none 0 0) (fun k => okx k ∧ k < w3.heap.size) false l _ (by have := HG.out; have := HB.out.size; omega) (fun k hk => by have := hk.2; omega) (heap_alloc_new w3 _) (Is.below (Is.bound HI.out) (below_alloc (Below.refl _ _) _))).mono ?_; rintro e w5 ⟨rfl, hi2, ho⟩; have HI2 := Aside0.mk hi2; have n2_ := Aside0.mk (Is.only (Is.below (Is.bound HI.out) (below_alloc (Below.refl _ _) (.cells #[.bool false, .slice none 0 0] 105))) ho (by have := HG.out; have := HB.out.size; omega) (fun k hk => by have := hk.2; omega)); have n3_ := Aside0.mk ho.size; have HLE := Aside0.mk HB.out.size; have n1_ := Aside0.mk (ho.below (below_alloc HB.out _) HB.out.size (below_alloc HB.out _).size); clear HB HI; have HB := n1_; have HI := n2_; have HZ3 := n3_; clear n1_ n2_ n3_ hi2 ho)
    | (go_at_call 61; rw [show (8 * ((cnt : Int) - 3)) = ((8 * (cnt - 3) : Nat) : Int) by omega]; refine (rshInt w3.heap.size _ l (8 * (cnt - 3)) W s k l2 _ HN.out HS32.out HW.out hlen HD.out HI2.out HRR.out).mono ?_; rintro e w6 ⟨rfl, hi3, ho⟩; have n0_ := Aside0.mk hi3; have n2_ := Aside0.mk (Is.only HI.out ho (by have := HG.out; have := HZ3.out; have hsz := HB.out.size; have := HLE.out; omega) (fun k hk => by have := hk.2; omega)); have n1_ := Aside0.mk (ho.below HB.out HLE.out HB.out.size); clear HB HI HI2; have HB := n1_; have HI := n2_; have HI2 := n0_; clear n0_ n1_ n2_ hi3 ho)
    | (go_at_call 59; refine (bitsC w3.heap.size _ false l2 _ HD2.out hl2 (Is.bound HI2.out) (fun k hk => hk.2)).mono ?_; rintro e w7 ⟨v3, ys, rfl, hr, hy0, hb⟩; have n1_ := Aside0.mk (HB.out.trans (hb.mono HB.out.size)); have n2_ := Aside0.mk (Is.below HI.out hb); clear HB HI; have HB := n1_; have HI := n2_; clear n1_ n2_ hb; obtain ⟨A8, c8, e8, hl8, hC8⟩ := Kd.R_reads hr; subst e8; have hy1 := hy0 HNE.out; clear hy0 hr; rw [HY.out] at hy1; have hlp : 0 < ys.length := pos_of_head ys y hy1; obtain ⟨ad, hA, hcell⟩ := Kd.at_int hC8 (0 : Int) (by omega) (by omega); rw [rd_zero ys y hy1] at hcell; subst hA; have b8 : decide (0 < ys.length) = true := decide_eq_true hlp; have b9 : (0 : Int) < (ys.length : Int) := (by omega); have hcell2 : w7.cell? ad = some (.int .u64 y) := (by simpa [Addr.add] using hcell); clear hcell hC8 hl8))
  go_ret
  exact ⟨rfl, HB.out⟩
end Go.Proofs.Ytdmpjoglejnpbaa.Big
