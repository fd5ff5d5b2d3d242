/- impl.Target: the bytes of the number that a compact one stands for, and whether it is below 0. -/
import Derived.Test.YtdmpjoglejnpbaaCompact
namespace Go.Proofs.Ytdmpjoglejnpbaa.Big
open Go.RowKit Go.Proofs.YtdmpjoglejnpbaaW.PrintWords Go.Proofs.YtdmpjoglejnpbaaW.PrintLast Go.Proofs.YtdmpjoglejnpbaaW.PrintMore Go.Proofs.Ytdmpjoglejnpbaa.QFnTargetBack
set_option linter.unusedVariables false
set_option linter.unusedSimpArgs false
/-- What CompactToBig answers at c. -/
def Compacts (c : Int) (neg : Bool) (l : List Int) : Prop := ∀ w, Calls Try.prog 45 #[.int .u32 c] w fun e w' => e = .returned (.pointer (some ⟨w.heap.size, 0, none⟩)) ∧ Is w' w.heap.size (· ≠ w.heap.size) neg l ∧ Below w.heap.size w w'

set_option maxHeartbeats 1000000 in
theorem compactToBig (c : Int) (neg : Bool) (l : List Int) (h : Compacts c neg l) (w : World) :
    Calls Try.prog 24 #[.int .u32 c] w fun e w' => e = .returned (.pointer (some ⟨w.heap.size, 0, none⟩)) ∧ Is w' w.heap.size (· ≠ w.heap.size) neg l ∧ Below w.heap.size w w' := by
  have H := Aside0.mk h
  clear h
  go_enter Try.func24, Try.ntmps24
  go_wp2_with (go_at_call 45; refine (H.out _).mono ?_; rintro e w1 ⟨rfl, hi, hb⟩; have HI := Aside0.mk hi; have HB := Aside0.mk hb; clear hi hb)
  go_ret
  exact ⟨rfl, HI.out, HB.out⟩

set_option maxHeartbeats 2000000 in
theorem implTarget (c : Int) (neg : Bool) (l : List Int) (h : Compacts c neg l) (k : Nat) (bl : Int) (r : List Int) (hlen : l.length ≤ 1000000000) (hdig : ∀ x ∈ l, 0 ≤ x ∧ x < 4294967296)
    (hbl : smallbig_nat_bitLen.f k l = some bl) (hbl0 : 0 ≤ bl) (hbl1 : bl ≤ 32000000000) (hc : impl_copied.f (bytesOf l ((bl + 7) / 8).toNat) = some r) (w : World) :
    Calls Try.prog 10 #[.int .u32 c] w fun e w' => ∃ v, e = .returned (.tuple #[v, .bool (decide ((if l.length = 0 then (0 : Int) else if neg = true then -1 else 1) < 0))]) ∧ Kd.R (Kd.int .u8) 5 w' w.heap.size (fun k => w.heap.size ≤ k) v r ∧ Below w.heap.size w w' := by
  have H := Aside0.mk h
  have HC := Aside0.mk hc
  have HD := Aside0.mk hdig
  have HBL := Aside0.mk hbl
  clear h hc hdig hbl
  obtain ⟨sg, hsg⟩ : ∃ x, (if l.length = 0 then (0 : Int) else if neg = true then -1 else 1) = x := ⟨_, rfl⟩
  have HSG := Aside0.mk hsg
  rw [hsg]
  clear hsg
  go_enter Try.func10, Try.ntmps10
  go_wp2_with (first
    | (go_at_call 24; refine (compactToBig c neg l H.out _).mono ?_; rintro e w1 ⟨rfl, hi, hb⟩; have HI := Aside0.mk hi; have HB := Aside0.mk hb; clear hi hb)
    | (go_at_call 26; refine (bytes w.heap.size _ neg l k bl _ (Is.bound HI.out) (fun k hk => hk.2) hlen HD.out HBL.out hbl0 hbl1).mono ?_; rintro e w2 ⟨v2, rfl, hr, hb⟩; have HR := Aside0.mk hr; have n0_ := Aside0.mk (HB.out.trans (hb.mono HB.out.size)); have n1_ := Aside0.mk (Is.below HI.out hb); clear HB HI; have HB := n0_; have HI := n1_; clear n0_ n1_ hr hb; obtain ⟨A9, c9, e9, hl9, hC9⟩ := Kd.R_reads HR.out; subst e9; have HL9 := Aside0.mk hl9; have HC9 := Aside0.mk hC9; clear hl9 hC9 HR)
    | (go_at_call 25; refine (impl_copied.calls A9 c9 _ r _ HC9.out HL9.out HC.out).mono ?_; rintro e w3 ⟨v3, rfl, hr, hb⟩; have HR := Aside0.mk hr; have n0_ := Aside0.mk (HB.out.trans (hb.mono HB.out.size)); have n1_ := Aside0.mk (Is.below HI.out hb); have n2_ := Aside0.mk HB.out.size; clear HB HI; have HB := n0_; have HI := n1_; have HZ := n2_; clear n0_ n1_ n2_ hr hb)
    | (go_at_call 27; refine (sign w.heap.size _ neg l _ HI.out).mono ?_; rw [HSG.out]; rintro e w4 ⟨rfl, rfl⟩))
  go_ret2
  refine ⟨_, rfl, Kd.R_mono (Kd.R_lower (Kd.R_bound HR.out) HZ.out) (fun k hk => ?_), HB.out⟩
  have := hk.2.1
  have := HZ.out
  omega

end Go.Proofs.Ytdmpjoglejnpbaa.Big
