/- The law FnTargetBack's walk, past its conditions. -/
import Derived.Test.YtdmpjoglejnpbaaBackI
import Derived.Test.YtdmpjoglejnpbaaTargetPure
namespace Go.Proofs.Ytdmpjoglejnpbaa.Big
open Go.RowKit Go.Proofs.YtdmpjoglejnpbaaW.PrintWords Go.Proofs.YtdmpjoglejnpbaaW.PrintLast Go.Proofs.YtdmpjoglejnpbaaW.PrintMore Go.Proofs.Ytdmpjoglejnpbaa.QFnTargetBack
set_option linter.unusedVariables false
set_option linter.unusedSimpArgs false
set_option maxRecDepth 100000 in
set_option maxHeartbeats 4000000 in
theorem lawBack (e m c : Int) (e0 : 3 ≤ e) (e1 : e < 256) (m0 : 32768 ≤ m) (m1 : m < 8388608) (hcc : Go.bits .or .u32 (e * 16777216) m = c) (neg : Bool) (l : List Int) (h : Compacts c neg l) (k : Nat) (bl : Int) (r : List Int) (hlen : l.length ≤ 1000000000) (hdig : ∀ x ∈ l, 0 ≤ x ∧ x < 4294967296)
    (hbl : smallbig_nat_bitLen.f k l = some bl) (hbl0 : 0 ≤ bl) (hbl1 : bl ≤ 32000000000) (hc : impl_copied.f (bytesOf l ((bl + 7) / 8).toNat) = some r)
    (hsg : decide ((if l.length = 0 then (0 : Int) else if neg = true then -1 else 1) < 0) = false) (l2 : List Int) (hB : Backs l2 c) (hx : Bytes r) (hn : r.length ≤ 1000000) (hr0 : 0 < r.length) (hr : smallbig_nat_norm.f k (dg (vB r) ((r.length + 3) / 4)) = some l2) (w : World) :
    Calls Try.prog 4 #[.int .u8 e, .int .u32 m] w fun e w' => e = .returned (.bool true) ∧ Below w.heap.size w w' := by
  have H := Aside0.mk h
  have HC := Aside0.mk hc
  have HD := Aside0.mk hdig
  have HBL := Aside0.mk hbl
  have HSG := Aside0.mk hsg
  have HBK := Aside0.mk hB
  have HX := Aside0.mk hx
  have HR := Aside0.mk hr
  have HCC := Aside0.mk hcc
  have g0 : decide (e < 3) = false := decide_eq_false (by omega)
  have g1 : decide (m < 32768) = false := decide_eq_false (by omega)
  have g2 : decide (8388608 ≤ m) = false := decide_eq_false (by omega)
  have g3 : decide ((0 : Int) < (r.length : Int)) = true := decide_eq_true (by omega)
  have g4 : decide (0 < r.length) = true := decide_eq_true hr0
  clear h hc hdig hbl hsg hB hx hr
  go_enter Try.func4, Try.ntmps4
  go_wp2_with (first
    | (go_at_call 10; refine (implTarget c neg l H.out k bl r hlen HD.out HBL.out hbl0 hbl1 HC.out _).mono ?_; rw [HSG.out]; rintro e w2 ⟨v2, rfl, hr, hb⟩; have HB := Aside0.mk hb; have HV := Aside0.mk (Kd.V_bound (Kd.R_V (base' := 0) hr)); obtain ⟨A9, c9, e9, hl9, hC9⟩ := Kd.R_reads hr; subst e9; clear hr hb hl9 hC9)
    | (go_at_call 11; refine (implCompact l2 c HBK.out k _ _ r _ 0 (fun k hk => hk.2) HV.out HX.out hn HR.out).mono ?_; rintro e w3 ⟨rfl, hb⟩; have HB3 := Aside0.mk (HB.out.trans (hb.mono HB.out.size)); clear hb))
  go_ret
  exact ⟨by simp, HB3.out⟩
end Go.Proofs.Ytdmpjoglejnpbaa.Big
