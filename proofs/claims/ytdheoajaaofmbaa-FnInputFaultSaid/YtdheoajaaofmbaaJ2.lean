/- For all transactions, heights, coins and maturities the law FnInputFault (a transaction that is right by itself is refused just if something is wrong with what it spends, and its fee is what is left) returns true; conditions: none beyond the arguments being such. -/
import Derived.Test.YtdheoajaaofmbaaTx8
import Derived.Test.YtdheoajaaofmbaaOpen2
import Derived.Test.YtdheoajaaofmbaaRows
import Derived.WalkKit
import Derived.ProofKit
import Derived.OpenShut
import Derived.ShutString
import Derived.ChangeOld
import Derived.Below
import Derived.SizedLaws
import Derived.Test.YtdheoajaaofmbaaWSized
import Derived.Test.YtdheoajaaofmbaaJ1
/- The package's check of what a transaction spends. -/
namespace Go.Proofs.Ytdheoajaaofmbaa.QFnScriptPlaces
open Go.RowKit Go.Proofs.YtdheoajaaofmbaaW.PrintWords Go.Proofs.YtdheoajaaofmbaaW.PrintLast Go.Proofs.YtdheoajaaofmbaaW.PrintMore
set_option linter.unusedVariables false
set_option linter.unusedSimpArgs false
def spd : Option S74 → Option S74
  | some c => if c.f4 = true then none else some c
  | none => none
structure LookP (w : World) (LL : Option S74) (e : Ending) (w' : World) : Prop where
  ex : ∃ v, e = .returned v ∧ (LL = none → v = .pointer none) ∧ (∀ x, LL = some x → ∃ g, v = .pointer (some ⟨g, 0, none⟩) ∧ EntW w g x.f1.f0 x.f2 x.f3 x.f4)
  low : Below w.heap.size w w'
theorem noC_mem {l : List S74} {ins : List S35} {x : S35} (hx : x ∈ ins) (h : fnd l x = none) : noC l ins = true := by
  unfold noC
  rw [List.any_eq_true]
  exact ⟨x, hx, by rw [h]; rfl⟩
theorem youngC_mem {height mat : Int} {l : List S74} {ins : List S35} {x : S35} {c : S74} (hx : x ∈ ins) (h : fnd l x = some c) (hy : yng height mat c = true) : youngC height mat l ins = true := by
  unfold youngC
  rw [List.any_eq_true]
  exact ⟨c, List.mem_filterMap.2 ⟨x, hx, h⟩, hy⟩
theorem valsC_cons {l : List S74} {x : S35} {c : S74} (h : fnd l x = some c) (r : List S35) : valsC l (x :: r) = c.f1.f0 :: valsC l r := by
  unfold valsC
  simp [h]
theorem addL_mem {n m : Int} {b : Bool} {l : List Int} (h : n ∈ l) : n ∈ addL b m l := by
  unfold addL
  split
  · exact List.mem_append_left _ h
  · exact h
theorem addL_self (m : Int) (l : List Int) : m ∈ addL true m l := by unfold addL; simp
theorem f21 {height mat : Int} {l : List S74} {ins : List S35} {outs : List S41} (hc : isCoin ins = false) (h : noC l ins = true) : (21 : Int) ∈ inFaults height mat l ins outs := by
  unfold inFaults
  rw [if_neg (by rw [hc]; decide), h]
  split
  · exact List.mem_append_left _ (addL_mem (addL_self _ _))
  · exact addL_mem (addL_mem (addL_self _ _))
theorem f25 {height mat : Int} {l : List S74} {ins : List S35} {outs : List S41} (hc : isCoin ins = false) (h : youngC height mat l ins = true) : (25 : Int) ∈ inFaults height mat l ins outs := by
  unfold inFaults
  rw [if_neg (by rw [hc]; decide), h]
  split
  · exact List.mem_append_left _ (addL_self _ _)
  · exact addL_mem (addL_self _ _)
theorem f18 {height mat : Int} {l : List S74} {ins : List S35} {outs : List S41} (hc : isCoin ins = false) (h : badW 0 (valsC l ins) = true) : (18 : Int) ∈ inFaults height mat l ins outs := by
  unfold inFaults
  rw [if_neg (by rw [hc]; decide), if_pos h]
  exact List.mem_append_right _ (by simp)
theorem f26 {height mat : Int} {l : List S74} {ins : List S35} {outs : List S41} (hc : isCoin ins = false) (h : badW 0 (valsC l ins) = false) (hs : sumW (valsC l ins) < sumW (outs.map fun y => y.f0)) : (26 : Int) ∈ inFaults height mat l ins outs := by
  unfold inFaults
  rw [if_neg (by rw [hc]; decide), if_neg (by rw [h]; decide), decide_eq_true hs]
  exact addL_self _ _
theorem f0 {height mat : Int} {l : List S74} {ins : List S35} {outs : List S41} (hc : isCoin ins = false) (h : badW 0 (valsC l ins) = false) (hn : noC l ins = false) (hy : youngC height mat l ins = false) (hs : ¬ sumW (valsC l ins) < sumW (outs.map fun y => y.f0)) : inFaults height mat l ins outs = [] := by
  unfold inFaults
  rw [if_neg (by rw [hc]; decide), if_neg (by rw [h]; decide), decide_eq_false hs, hn, hy]
  rfl
structure ChkP (w : World) (F : List Int) (fee : Int) (e : Ending) (w' : World) : Prop where
  ex : ∃ (q c : Int) (v0 : Value), e = .returned (.tuple #[.int .i64 q, v0]) ∧ ErrV c v0 ∧ (c = 0 → F = [] ∧ q = fee) ∧ (c ≠ 0 → c ∈ F)
  low : Below w.heap.size w w'
set_option maxRecDepth 100000 in
set_option maxHeartbeats 16000000 in
theorem checkInC (b g : Nat) (v lock : Int) (ins : List S35) (outs : List S41) (A1 : Option Addr) (c1 : Nat) (A2 : Option Addr) (c2 : Nat) (height mat : Int) (vp mb nn gp : Nat) (DD : DataW Unit) (l : List S74) (w : World) (hu : UTx w b g) (hm : Msg w g v lock ins outs A1 c1 A2 c2) (hn1 : ins.length ≤ 1000000) (hn2 : outs.length ≤ 1000000) (hok : ∀ x ∈ ins, OpOk x.f0.f0 x.f0.f1)
    (hv : VwW w vp mb) (hh : Holds w mb nn DD l l.length) (hl : CoinsOk l) (hbo : badV 0 outs = false) (hg : 0 ≤ height ∧ height ≤ 2147483647) (hp : w.cell? ⟨gp, 14, none⟩ = some (.int .u16 mat)) (hma : 0 ≤ mat ∧ mat ≤ 65535) :
    Calls Try.prog 42 #[.pointer (some ⟨b, 0, none⟩), .int .i32 height, .pointer (some ⟨vp, 0, none⟩), .pointer (some ⟨gp, 0, none⟩)] w fun e w' => ChkP w (inFaults height mat l ins outs) (inFee l ins outs) e w' := by
  have HU := Aside0.mk hu
  have HM := Aside0.mk hm
  have HN1 := Aside0.mk hn1
  have HN2 := Aside0.mk hn2
  have HOK := Aside0.mk hok
  have HV := Aside0.mk hv
  have HH := Aside0.mk hh
  have HL := Aside0.mk hl
  have HBO2 : Aside0 (badW 0 (outs.map fun y => y.f0) = false) := ⟨by rw [← badV_eq]; exact hbo⟩
  have HHT := Aside0.mk hg
  have HPM := Aside0.mk hp
  have hwm : wrap32 mat = mat := by unfold wrap32; omega
  obtain ⟨bc, hbc⟩ : ∃ x, isCoin ins = x := ⟨_, rfl⟩
  have HBC := Aside0.mk hbc
  have HIS : Aside0 (Calls Try.prog 55 #[.pointer (some ⟨b, 0, none⟩)] w fun e w' => e = .returned (.bool bc) ∧ w = w') := ⟨by rw [← hbc]; exact coinUC b g v lock ins outs A1 c1 A2 c2 w hu hm hok⟩
  have kb1 := cell_of hm.blk (j := 1) (v := .slice A1 ins.length c1) rfl
  clear hu hm hn1 hn2 hok hv hh hl hbo hg hp hbc hma
  go_enter Try.func42, Try.ntmps42
  cases bc
  · skip
    go_wp2_with (first
      | (go_at_call 55; (with_reducible refine HIS.out.mono ?_); rintro e w2 ⟨rfl, rfl⟩)
      | (go_at_call 52; (with_reducible refine (msgTxC b g w HU.out).mono ?_); rintro e w2 ⟨rfl, rfl⟩))
    go_loopg [10, 37] (ins.length + 1) (fun kq p10 p37 w' => ∃ (s : Int) (i : Nat), p10 = .int .i64 s ∧ p37 = .int .i64 (i : Int) ∧ Aside0 (i ≤ ins.length ∧ ins.length + 1 ≤ i + kq) ∧ Aside0 (Below w.heap.size w w') ∧ Aside0 (0 ≤ s ∧ s ≤ 2100000000000000 ∧ s = sumW (valsC l (ins.take i)) ∧ badW 0 (valsC l ins) = badW s (valsC l (ins.drop i))) ∧ Aside0 (noC l (ins.take i) = false ∧ youngC height mat l (ins.take i) = false))
    case atStart => exact ⟨0, 0, by rfl, by rfl, ⟨by omega⟩, ⟨Below.refl _ _⟩, ⟨by decide, by decide, by rfl, by rw [List.drop_zero]⟩, ⟨by rfl, by rfl⟩⟩
    case round =>
      obtain ⟨s, i, rfl, rfl, HK, HB, HS, HNY⟩ := hrel
      have HMR := Aside0.mk (HM.out.below HB.out)
      have HVR := Aside0.mk (HV.out.below HB.out)
      have HHR := Aside0.mk (HH.out.below HB.out)
      have hpm := pw_cell_below HB.out HPM.out
      by_cases hlt : i < ins.length
      · have hi1 : (i : Int) < (ins.length : Int) := by omega
        have hw1 : wrap64 ((i : Int) + 1) = ((i + 1 : Nat) : Int) := by rw [ln64 _ (by omega) (by have := HN1.out; omega)]; rfl
        have HI9 := Aside0.mk hlt
        obtain ⟨ad, g0, B1, d1, e1, hx, h32, hc, h9⟩ := in_ptrH HMR.out.g1 i rfl hlt
        subst e1
        have k0 := HOK.out _ (List.getElem_mem hlt)
        have HTK : Aside0 (ins.take (i + 1) = ins.take i ++ [ins[i]]) := ⟨take_snoc ins i hlt⟩
        have HDR : Aside0 (ins.drop i = ins[i] :: ins.drop (i + 1)) := ⟨List.drop_eq_getElem_cons hlt⟩
        have HMEM : Aside0 (ins[i] ∈ ins) := ⟨List.getElem_mem hlt⟩
        obtain ⟨x, hx9⟩ : ∃ x, ins[i] = x := ⟨_, rfl⟩
        rw [hx9] at hc k0 HTK HDR HMEM
        obtain ⟨LL, hLL⟩ : ∃ q, lastC l (x.f0.f0, x.f0.f1) l.length = q := ⟨_, rfl⟩
        have HFND : Aside0 (fnd l x = spd LL) := ⟨by rw [← hLL]; rfl⟩
        obtain ⟨ks, hks⟩ : ∃ q, opC x.f0.f0 x.f0.f1 = q := ⟨_, rfl⟩
        have HLKC : Aside0 (∀ W : World, VwW W vp mb → Holds W mb nn DD l l.length → Calls Try.prog 58 #[.pointer (some ⟨vp, 0, none⟩), .agg ks.toArray] W fun e w' => LookP W LL e w') := ⟨fun W h1 h2 => by rw [← hks, ← hLL]; exact (lookC vp mb nn DD l l.length x.f0.f0 x.f0.f1 k0 W h1 h2).mono (fun e w' ⟨v, h1, h2, h3, h4⟩ => ⟨⟨v, h1, h2, h3⟩, h4⟩)⟩
        have HCL : Aside0 (ks.length = 33) := ⟨by rw [← hks]; exact opC_len k0.l _⟩
        have HCC : Aside0 (∀ j u, ks[j]? = some u → wr.cell? ((⟨g0, 0, none⟩ : Addr).add j) = some u) := ⟨fun j u hj => by rw [add_plain]; rw [← hks] at hj; exact hc j u hj⟩
        have HLMEM : Aside0 (∀ c, LL = some c → 0 ≤ c.f2 ∧ c.f2 ≤ 2147483647) := ⟨fun c e => by
          obtain ⟨ii, hii, e2⟩ := lastC_mem (hLL.trans e)
          rw [← e2]
          exact HL.out.high ii hii⟩
        clear hc h9 h32 k0 hLL hks hx9 hlt
        cases LL with
        | none =>
          have HME : Aside0 ((21 : Int) ∈ inFaults height mat l ins outs) := ⟨f21 HBC.out (noC_mem HMEM.out HFND.out)⟩
          go_upto_region 8 with (first
            | ((with_reducible refine at_dst (N := 45) rfl ?_); refine wpList_load_at rfl 102 (.tmp 44) rfl ⟨g0, 0, none⟩ rfl ks _ HCC.out Try.underlying102 rfl (by rw [HCL.out]; exact sizeOw) ?_)
            | (go_at_call 58; (with_reducible refine (HLKC.out _ HVR.out HHR.out).mono ?_); rintro e w4 ⟨⟨v4, rfl, hv0, hv1⟩, hb⟩; have HV0 := Aside0.mk hv0; have HV1 := Aside0.mk hv1; have HB4 := Aside0.mk (HB.out.trans (hb.mono HB.out.size)); have hB4 := Aside0.mk hb; clear hv0 hv1 hb))
          obtain rfl := HV0.out (by first | rfl | trivial)
          go_wp2_with (go_at_call 53; (with_reducible refine (ruleErrC _ _ _).mono ?_); rintro e w9 ⟨rfl, hb⟩; have HB9 := Aside0.mk (HB4.out.trans (hb.mono HB4.out.size)); clear hb)
          go_ret2
          exact ⟨⟨0, 21, _, rfl, Or.inr ⟨_, rfl⟩, fun h => absurd h (by decide), fun _ => HME.out⟩, HB9.out⟩
        | some c =>
          obtain ⟨va, hva⟩ : ∃ q, c.f1.f0 = q := ⟨_, rfl⟩
          obtain ⟨hgt, hhh⟩ : ∃ q, c.f2 = q := ⟨_, rfl⟩
          obtain ⟨cb, hcb⟩ : ∃ q, c.f3 = q := ⟨_, rfl⟩
          obtain ⟨sp, hsp⟩ : ∃ q, c.f4 = q := ⟨_, rfl⟩
          have HFE : Aside0 (c.f1.f0 = va ∧ c.f2 = hgt ∧ c.f3 = cb ∧ c.f4 = sp) := ⟨hva, hhh, hcb, hsp⟩
          have hgr := HLMEM.out c rfl
          rw [hhh] at hgr
          have hw32 : wrap32 (height - hgt) = height - hgt := by have := HHT.out; unfold wrap32; omega
          clear hva hhh hcb hsp hgr
          go_upto_region 8 with (first
            | ((with_reducible refine at_dst (N := 45) rfl ?_); refine wpList_load_at rfl 102 (.tmp 44) rfl ⟨g0, 0, none⟩ rfl ks _ HCC.out Try.underlying102 rfl (by rw [HCL.out]; exact sizeOw) ?_)
            | (go_at_call 58; (with_reducible refine (HLKC.out _ HVR.out HHR.out).mono ?_); rintro e w4 ⟨⟨v4, rfl, hv0, hv1⟩, hb⟩; have HV0 := Aside0.mk hv0; have HV1 := Aside0.mk hv1; have HB4 := Aside0.mk (HB.out.trans (hb.mono HB.out.size)); have hB4 := Aside0.mk hb; clear hv0 hv1 hb))
          have hpm4 := pw_cell_below hB4.out hpm
          obtain ⟨ge, rfl, hen⟩ := HV1.out c (by first | rfl | trivial)
          rw [HFE.out.1, HFE.out.2.1, HFE.out.2.2.1, HFE.out.2.2.2] at hen
          have HEN := Aside0.mk (hen.below hB4.out)
          clear hen hpm
          cases sp
          · have HF2 : Aside0 (fnd l x = some c) := ⟨by rw [HFND.out]; simp [spd, HFE.out.2.2.2]⟩
            have HVC : Aside0 (valsC l (x :: ins.drop (i + 1)) = va :: valsC l (ins.drop (i + 1))) := ⟨by rw [valsC_cons HF2.out, HFE.out.1]⟩
            have HSN : Aside0 (noC l (ins.take (i + 1)) = noC l (ins.take i) ∧ youngC height mat l (ins.take (i + 1)) = (youngC height mat l (ins.take i) || yng height mat c) ∧ valsC l (ins.take (i + 1)) = valsC l (ins.take i) ++ [va]) := ⟨by
              rw [HTK.out]
              have h := snoc_some (height := height) (mat := mat) (ins := ins.take i) HF2.out
              rw [HFE.out.1] at h
              exact h⟩
            have HBD : Aside0 (badW 0 (valsC l ins) = if va < 0 then true else if va > 2100000000000000 - s then true else badW (s + va) (valsC l (ins.drop (i + 1)))) := ⟨by rw [HS.out.2.2.2, HDR.out, HVC.out]; rfl⟩
            have HYN : Aside0 (yng height mat c = (cb && decide (height - hgt < mat))) := ⟨by unfold yng; rw [HFE.out.2.1, HFE.out.2.2.1]⟩
            have hs0 := HS.out.1
            have hs1 := HS.out.2.1
            cases cb
            · have HYF : Aside0 (yng height mat c = false) := ⟨HYN.out⟩
              by_cases q1 : va < 0
              · have HME : Aside0 ((18 : Int) ∈ inFaults height mat l ins outs) := ⟨f18 HBC.out (by rw [HBD.out, if_pos q1])⟩
                go_wp2_with (first | (go_at_call 59; (with_reducible refine (isSpentC ge va hgt _ false w4 HEN.out).mono ?_); rintro e w5 ⟨rfl, rfl⟩) | (go_at_call 60; (with_reducible refine (isCbC ge va hgt _ false w4 HEN.out).mono ?_); rintro e w5 ⟨rfl, rfl⟩) | (go_at_call 61; (with_reducible refine (heightC ge va hgt _ false w4 HEN.out).mono ?_); rintro e w5 ⟨rfl, rfl⟩) | (go_at_call 62; (with_reducible refine (amountC ge va hgt _ false w4 HEN.out).mono ?_); rintro e w5 ⟨rfl, rfl⟩) | (go_at_call 53; (with_reducible refine (ruleErrC _ _ _).mono ?_); rintro e w9 ⟨rfl, hb⟩; have HB9 := Aside0.mk (HB4.out.trans (hb.mono HB4.out.size)); clear hb))
                go_ret2
                exact ⟨⟨0, 18, _, rfl, Or.inr ⟨_, rfl⟩, fun h => absurd h (by decide), fun _ => HME.out⟩, HB9.out⟩
              by_cases q2 : va > 2100000000000000
              · have HME : Aside0 ((18 : Int) ∈ inFaults height mat l ins outs) := ⟨f18 HBC.out (by rw [HBD.out, if_neg q1, if_pos (show va > 2100000000000000 - s by omega)])⟩
                go_wp2_with (first | (go_at_call 59; (with_reducible refine (isSpentC ge va hgt _ false w4 HEN.out).mono ?_); rintro e w5 ⟨rfl, rfl⟩) | (go_at_call 60; (with_reducible refine (isCbC ge va hgt _ false w4 HEN.out).mono ?_); rintro e w5 ⟨rfl, rfl⟩) | (go_at_call 61; (with_reducible refine (heightC ge va hgt _ false w4 HEN.out).mono ?_); rintro e w5 ⟨rfl, rfl⟩) | (go_at_call 62; (with_reducible refine (amountC ge va hgt _ false w4 HEN.out).mono ?_); rintro e w5 ⟨rfl, rfl⟩) | (go_at_call 53; (with_reducible refine (ruleErrC _ _ _).mono ?_); rintro e w9 ⟨rfl, hb⟩; have HB9 := Aside0.mk (HB4.out.trans (hb.mono HB4.out.size)); clear hb))
                go_ret2
                exact ⟨⟨0, 18, _, rfl, Or.inr ⟨_, rfl⟩, fun h => absurd h (by decide), fun _ => HME.out⟩, HB9.out⟩
              have q7 : wrap64 (s + va) = s + va := by rw [ln64 _ (by omega) (by omega)]
              have q8 : ¬ (s + va < s) := by omega
              by_cases q3 : s + va > 2100000000000000
              · have HME : Aside0 ((18 : Int) ∈ inFaults height mat l ins outs) := ⟨f18 HBC.out (by rw [HBD.out, if_neg q1, if_pos (show va > 2100000000000000 - s by omega)])⟩
                go_wp2_with (first | (go_at_call 59; (with_reducible refine (isSpentC ge va hgt _ false w4 HEN.out).mono ?_); rintro e w5 ⟨rfl, rfl⟩) | (go_at_call 60; (with_reducible refine (isCbC ge va hgt _ false w4 HEN.out).mono ?_); rintro e w5 ⟨rfl, rfl⟩) | (go_at_call 61; (with_reducible refine (heightC ge va hgt _ false w4 HEN.out).mono ?_); rintro e w5 ⟨rfl, rfl⟩) | (go_at_call 62; (with_reducible refine (amountC ge va hgt _ false w4 HEN.out).mono ?_); rintro e w5 ⟨rfl, rfl⟩) | (go_at_call 53; (with_reducible refine (ruleErrC _ _ _).mono ?_); rintro e w9 ⟨rfl, hb⟩; have HB9 := Aside0.mk (HB4.out.trans (hb.mono HB4.out.size)); clear hb))
                go_ret2
                exact ⟨⟨0, 18, _, rfl, Or.inr ⟨_, rfl⟩, fun h => absurd h (by decide), fun _ => HME.out⟩, HB9.out⟩
              have HS2 : Aside0 (0 ≤ s + va ∧ s + va ≤ 2100000000000000 ∧ s + va = sumW (valsC l (ins.take (i + 1))) ∧ badW 0 (valsC l ins) = badW (s + va) (valsC l (ins.drop (i + 1)))) := ⟨by omega, by omega, by rw [HSN.out.2.2, sumW_snoc, ← HS.out.2.2.1], by rw [HBD.out, if_neg q1, if_neg (by omega)]⟩
              have HNY2 : Aside0 (noC l (ins.take (i + 1)) = false ∧ youngC height mat l (ins.take (i + 1)) = false) := ⟨by rw [HSN.out.1]; exact HNY.out.1, by rw [HSN.out.2.1, HNY.out.2, HYF.out]; rfl⟩
              go_wp2_with (first | (go_at_call 59; (with_reducible refine (isSpentC ge va hgt _ false w4 HEN.out).mono ?_); rintro e w5 ⟨rfl, rfl⟩) | (go_at_call 60; (with_reducible refine (isCbC ge va hgt _ false w4 HEN.out).mono ?_); rintro e w5 ⟨rfl, rfl⟩) | (go_at_call 61; (with_reducible refine (heightC ge va hgt _ false w4 HEN.out).mono ?_); rintro e w5 ⟨rfl, rfl⟩) | (go_at_call 62; (with_reducible refine (amountC ge va hgt _ false w4 HEN.out).mono ?_); rintro e w5 ⟨rfl, rfl⟩))
              go_roundg (gk - 1)
              case measure => exact meas1 HK.out HI9.out
              case rel => exact ⟨s + va, i + 1, by first | rfl | (rw [q7]; done), by first | rfl | (rw [hw1]; done), ⟨meas2 HK.out HI9.out⟩, HB4, HS2, HNY2⟩
            · by_cases hy : height - hgt < mat
              · have HME : Aside0 ((25 : Int) ∈ inFaults height mat l ins outs) := ⟨f25 HBC.out (youngC_mem HMEM.out HF2.out (by rw [HYN.out, decide_eq_true hy]; rfl))⟩
                go_wp2_with (first | (go_at_call 59; (with_reducible refine (isSpentC ge va hgt _ false w4 HEN.out).mono ?_); rintro e w5 ⟨rfl, rfl⟩) | (go_at_call 60; (with_reducible refine (isCbC ge va hgt _ false w4 HEN.out).mono ?_); rintro e w5 ⟨rfl, rfl⟩) | (go_at_call 61; (with_reducible refine (heightC ge va hgt _ false w4 HEN.out).mono ?_); rintro e w5 ⟨rfl, rfl⟩) | (go_at_call 53; (with_reducible refine (ruleErrC _ _ _).mono ?_); rintro e w9 ⟨rfl, hb⟩; have HB9 := Aside0.mk (HB4.out.trans (hb.mono HB4.out.size)); clear hb))
                go_ret2
                exact ⟨⟨0, 25, _, rfl, Or.inr ⟨_, rfl⟩, fun h => absurd h (by decide), fun _ => HME.out⟩, HB9.out⟩
              · have HYF : Aside0 (yng height mat c = false) := ⟨by rw [HYN.out, decide_eq_false hy]; rfl⟩
                by_cases q1 : va < 0
                · have HME : Aside0 ((18 : Int) ∈ inFaults height mat l ins outs) := ⟨f18 HBC.out (by rw [HBD.out, if_pos q1])⟩
                  go_wp2_with (first | (go_at_call 59; (with_reducible refine (isSpentC ge va hgt _ false w4 HEN.out).mono ?_); rintro e w5 ⟨rfl, rfl⟩) | (go_at_call 60; (with_reducible refine (isCbC ge va hgt _ false w4 HEN.out).mono ?_); rintro e w5 ⟨rfl, rfl⟩) | (go_at_call 61; (with_reducible refine (heightC ge va hgt _ false w4 HEN.out).mono ?_); rintro e w5 ⟨rfl, rfl⟩) | (go_at_call 62; (with_reducible refine (amountC ge va hgt _ false w4 HEN.out).mono ?_); rintro e w5 ⟨rfl, rfl⟩) | (go_at_call 53; (with_reducible refine (ruleErrC _ _ _).mono ?_); rintro e w9 ⟨rfl, hb⟩; have HB9 := Aside0.mk (HB4.out.trans (hb.mono HB4.out.size)); clear hb))
                  go_ret2
                  exact ⟨⟨0, 18, _, rfl, Or.inr ⟨_, rfl⟩, fun h => absurd h (by decide), fun _ => HME.out⟩, HB9.out⟩
                by_cases q2 : va > 2100000000000000
                · have HME : Aside0 ((18 : Int) ∈ inFaults height mat l ins outs) := ⟨f18 HBC.out (by rw [HBD.out, if_neg q1, if_pos (show va > 2100000000000000 - s by omega)])⟩
                  go_wp2_with (first | (go_at_call 59; (with_reducible refine (isSpentC ge va hgt _ false w4 HEN.out).mono ?_); rintro e w5 ⟨rfl, rfl⟩) | (go_at_call 60; (with_reducible refine (isCbC ge va hgt _ false w4 HEN.out).mono ?_); rintro e w5 ⟨rfl, rfl⟩) | (go_at_call 61; (with_reducible refine (heightC ge va hgt _ false w4 HEN.out).mono ?_); rintro e w5 ⟨rfl, rfl⟩) | (go_at_call 62; (with_reducible refine (amountC ge va hgt _ false w4 HEN.out).mono ?_); rintro e w5 ⟨rfl, rfl⟩) | (go_at_call 53; (with_reducible refine (ruleErrC _ _ _).mono ?_); rintro e w9 ⟨rfl, hb⟩; have HB9 := Aside0.mk (HB4.out.trans (hb.mono HB4.out.size)); clear hb))
                  go_ret2
                  exact ⟨⟨0, 18, _, rfl, Or.inr ⟨_, rfl⟩, fun h => absurd h (by decide), fun _ => HME.out⟩, HB9.out⟩
                have q7 : wrap64 (s + va) = s + va := by rw [ln64 _ (by omega) (by omega)]
                have q8 : ¬ (s + va < s) := by omega
                by_cases q3 : s + va > 2100000000000000
                · have HME : Aside0 ((18 : Int) ∈ inFaults height mat l ins outs) := ⟨f18 HBC.out (by rw [HBD.out, if_neg q1, if_pos (show va > 2100000000000000 - s by omega)])⟩
                  go_wp2_with (first | (go_at_call 59; (with_reducible refine (isSpentC ge va hgt _ false w4 HEN.out).mono ?_); rintro e w5 ⟨rfl, rfl⟩) | (go_at_call 60; (with_reducible refine (isCbC ge va hgt _ false w4 HEN.out).mono ?_); rintro e w5 ⟨rfl, rfl⟩) | (go_at_call 61; (with_reducible refine (heightC ge va hgt _ false w4 HEN.out).mono ?_); rintro e w5 ⟨rfl, rfl⟩) | (go_at_call 62; (with_reducible refine (amountC ge va hgt _ false w4 HEN.out).mono ?_); rintro e w5 ⟨rfl, rfl⟩) | (go_at_call 53; (with_reducible refine (ruleErrC _ _ _).mono ?_); rintro e w9 ⟨rfl, hb⟩; have HB9 := Aside0.mk (HB4.out.trans (hb.mono HB4.out.size)); clear hb))
                  go_ret2
                  exact ⟨⟨0, 18, _, rfl, Or.inr ⟨_, rfl⟩, fun h => absurd h (by decide), fun _ => HME.out⟩, HB9.out⟩
                have HS2 : Aside0 (0 ≤ s + va ∧ s + va ≤ 2100000000000000 ∧ s + va = sumW (valsC l (ins.take (i + 1))) ∧ badW 0 (valsC l ins) = badW (s + va) (valsC l (ins.drop (i + 1)))) := ⟨by omega, by omega, by rw [HSN.out.2.2, sumW_snoc, ← HS.out.2.2.1], by rw [HBD.out, if_neg q1, if_neg (by omega)]⟩
                have HNY2 : Aside0 (noC l (ins.take (i + 1)) = false ∧ youngC height mat l (ins.take (i + 1)) = false) := ⟨by rw [HSN.out.1]; exact HNY.out.1, by rw [HSN.out.2.1, HNY.out.2, HYF.out]; rfl⟩
                go_wp2_with (first | (go_at_call 59; (with_reducible refine (isSpentC ge va hgt _ false w4 HEN.out).mono ?_); rintro e w5 ⟨rfl, rfl⟩) | (go_at_call 60; (with_reducible refine (isCbC ge va hgt _ false w4 HEN.out).mono ?_); rintro e w5 ⟨rfl, rfl⟩) | (go_at_call 61; (with_reducible refine (heightC ge va hgt _ false w4 HEN.out).mono ?_); rintro e w5 ⟨rfl, rfl⟩) | (go_at_call 62; (with_reducible refine (amountC ge va hgt _ false w4 HEN.out).mono ?_); rintro e w5 ⟨rfl, rfl⟩))
                go_roundg (gk - 1)
                case measure => exact meas1 HK.out HI9.out
                case rel => exact ⟨s + va, i + 1, by first | rfl | (rw [q7]; done), by first | rfl | (rw [hw1]; done), ⟨meas2 HK.out HI9.out⟩, HB4, HS2, HNY2⟩
          · have HME : Aside0 ((21 : Int) ∈ inFaults height mat l ins outs) := ⟨f21 HBC.out (noC_mem HMEM.out (by rw [HFND.out]; simp [spd, HFE.out.2.2.2]))⟩
            go_wp2_with (first | (go_at_call 59; (with_reducible refine (isSpentC ge va hgt _ true w4 HEN.out).mono ?_); rintro e w5 ⟨rfl, rfl⟩) | (go_at_call 53; (with_reducible refine (ruleErrC _ _ _).mono ?_); rintro e w9 ⟨rfl, hb⟩; have HB9 := Aside0.mk (HB4.out.trans (hb.mono HB4.out.size)); clear hb))
            go_ret2
            exact ⟨⟨0, 21, _, rfl, Or.inr ⟨_, rfl⟩, fun h => absurd h (by decide), fun _ => HME.out⟩, HB9.out⟩
      · have hi1 : ¬ (i : Int) < (ins.length : Int) := by omega
        have htk : ins.take i = ins := List.take_of_length_le (by omega)
        have hdr : ins.drop i = [] := List.drop_eq_nil_of_le (by omega)
        have hs9 := HS.out
        have hny := HNY.out
        rw [htk] at hs9 hny
        rw [hdr] at hs9
        have HBF : Aside0 (badW 0 (valsC l ins) = false) := ⟨hs9.2.2.2⟩
        have HSE : Aside0 (s = sumW (valsC l ins)) := ⟨hs9.2.2.1⟩
        have HNY2 := Aside0.mk hny
        have hs0 := hs9.1
        have hs1 := hs9.2.1
        clear htk hdr hs9 hny hpm kb1 HNY HS
        have HUR := Aside0.mk (HU.out.below HB.out)
        have kb2 := cell_of HMR.out.blk (j := 2) (v := .slice A2 outs.length c2) rfl
        obtain ⟨w7, hw7⟩ : ∃ q, wr = q := ⟨_, rfl⟩
        rw [hw7] at HUR HMR kb2 HB ⊢
        clear hw7
        go_wp2_with (go_at_call 52; (with_reducible refine (msgTxC b g w7 HUR.out).mono ?_); rintro e w2 ⟨rfl, rfl⟩)
        go_loopg [24, 107] (outs.length + 1) (fun kq p24 p107 w' => ∃ (i3 : Nat), p24 = .int .i64 (sumW ((outs.map fun y => y.f0).take i3)) ∧ p107 = .int .i64 (i3 : Int) ∧ w' = w7 ∧ Aside0 (i3 ≤ outs.length ∧ outs.length + 1 ≤ i3 + kq))
        case atStart => exact ⟨0, by rfl, by rfl, rfl, ⟨by omega⟩⟩
        case round =>
          obtain ⟨i3, rfl, rfl, rfl, HK3⟩ := hrel
          by_cases hlt3 : i3 < outs.length
          · have hi3 : (i3 : Int) < (outs.length : Int) := by omega
            have hw3 : wrap64 ((i3 : Int) + 1) = ((i3 + 1 : Nat) : Int) := by rw [ln64 _ (by omega) (by have := HN2.out; omega)]; rfl
            have HI3 := Aside0.mk hlt3
            obtain ⟨ad3, g3, B3, d3, e3, hx3, hv3, hz1, hz2, hz3⟩ := out_ptr HMR.out.g2 i3 rfl hlt3
            clear hz1 hz2 hz3
            subst e3
            have hst := sumW_take (outs.map fun y => y.f0) i3 (by rw [List.length_map]; exact hlt3)
            rw [List.getElem_map] at hst
            have hb3 := (badW_sum (outs.map fun y => y.f0) 0 (by decide) (by decide) HBO2.out (i3 + 1))
            rw [Int.zero_add] at hb3
            have hws : wrap64 (sumW ((outs.map fun y => y.f0).take i3) + outs[i3].f0) = sumW ((outs.map fun y => y.f0).take (i3 + 1)) := by rw [← hst, ln64 _ hb3.1 (by omega)]
            obtain ⟨y3, hy3⟩ : ∃ y, outs[i3].f0 = y := ⟨_, rfl⟩
            obtain ⟨s3, hs3⟩ : ∃ y, sumW ((outs.map fun y => y.f0).take i3) = y := ⟨_, rfl⟩
            rw [hy3] at hv3 hws
            rw [hs3] at hws ⊢
            clear hst hb3 hlt3 hy3 hs3
            have HWS := Aside0.mk hws
            clear hws
            go_wp2_with fail
            go_roundg (gk - 1)
            case measure => exact meas1 HK3.out HI3.out
            case rel => exact ⟨i3 + 1, by rw [← HWS.out], by first | rfl | (rw [hw3]; done), rfl, ⟨meas2 HK3.out HI3.out⟩⟩
          · have hi3 : ¬ (i3 : Int) < (outs.length : Int) := by omega
            rw [List.take_of_length_le (l := outs.map fun y => y.f0) (i := i3) (by rw [List.length_map]; omega)]
            have hb9 := (badW_sum (outs.map fun y => y.f0) 0 (by decide) (by decide) HBO2.out (outs.map fun y => y.f0).length)
            rw [Int.zero_add, List.take_of_length_le (Nat.le_refl _)] at hb9
            obtain ⟨so, hso⟩ : ∃ q, sumW (outs.map fun y => y.f0) = q := ⟨_, rfl⟩
            rw [hso] at hb9 ⊢
            have HSO := Aside0.mk hso
            clear hso
            by_cases hlt9 : s < so
            · have HME : Aside0 ((26 : Int) ∈ inFaults height mat l ins outs) := ⟨f26 HBC.out HBF.out (by rw [← HSE.out, HSO.out]; exact hlt9)⟩
              clear hb9
              go_wp2_with (go_at_call 53; (with_reducible refine (ruleErrC _ _ _).mono ?_); rintro e w9 ⟨rfl, hb⟩; have HB9 := Aside0.mk (HB.out.trans (hb.mono HB.out.size)); clear hb)
              go_ret2
              exact ⟨⟨0, 26, _, rfl, Or.inr ⟨_, rfl⟩, fun h => absurd h (by decide), fun _ => HME.out⟩, HB9.out⟩
            · have hws : wrap64 (s - so) = s - so := by rw [ln64 _ (by omega) (by omega)]
              have HF9 : Aside0 (inFaults height mat l ins outs = []) := ⟨f0 HBC.out HBF.out HNY2.out.1 HNY2.out.2 (by rw [← HSE.out, HSO.out]; exact hlt9)⟩
              have HFE9 : Aside0 (s - so = inFee l ins outs) := ⟨by unfold inFee; rw [if_neg (by rw [HBC.out]; decide), ← HSE.out, HSO.out]⟩
              clear hb9
              go_wp2_with fail
              go_ret2
              refine ⟨⟨s - so, 0, .nilIface, ?_, Or.inl ⟨rfl, rfl⟩, fun _ => ⟨HF9.out, HFE9.out⟩, fun h => absurd rfl h⟩, HB.out⟩
              first | rfl | (rw [hws]; rfl)
  · go_wp2_with (go_at_call 55; (with_reducible refine HIS.out.mono ?_); rintro e w2 ⟨rfl, rfl⟩)
    go_ret2
    exact ⟨⟨0, 0, .nilIface, rfl, Or.inl ⟨rfl, rfl⟩, fun _ => ⟨by unfold inFaults; rw [if_pos HBC.out], by unfold inFee; rw [if_pos HBC.out]⟩, fun h => absurd rfl h⟩, Below.refl _ _⟩
end Go.Proofs.Ytdheoajaaofmbaa.QFnScriptPlaces
/- impl.InputFault; the law of FnInputFault. -/
namespace Go.Proofs.Ytdheoajaaofmbaa.QFnScriptPlaces
open Go.RowKit Go.Proofs.YtdheoajaaofmbaaW.PrintWords Go.Proofs.YtdheoajaaofmbaaW.PrintLast Go.Proofs.YtdheoajaaofmbaaW.PrintMore
set_option linter.unusedVariables false
set_option linter.unusedSimpArgs false
def amongL (f : Int) (l : List Int) : Bool := if l = [] then f == 0 else decide (f ∈ l)
theorem ev_among (f : Int) (l : List Int) (hl : l.length ≤ 1000) : Ev (fun k => laws_among.f k f l) (amongL f l) := by
  unfold amongL
  by_cases h0 : l = []
  · subst h0
    rw [if_pos rfl]
    exact Ev.congr (fun k => by unfold laws_among.f; exact if_pos rfl) (Ev.now _)
  rw [if_neg h0]
  have key : ∀ d (i : Nat), i + d = l.length → Ev (fun k => laws_among.l0 k f l (i : Int)) (decide (f ∈ l.drop i)) := by
    intro d
    induction d with
    | zero =>
      intro i hi
      rw [List.drop_eq_nil_of_le (by omega)]
      refine Ev.step (f := fun _ => some false) (fun k => ?_) (Ev.now _)
      rw [laws_among.l0, if_neg (by omega)]
    | succ d ih =>
      intro i hi
      have hil : i < l.length := by omega
      rw [List.drop_eq_getElem_cons hil]
      have hrd : rd l (i : Int) = l[i] := by
        show l.getD (i : Int).toNat _ = _
        rw [Int.toNat_natCast, List.getD_eq_getElem?_getD, List.getElem?_eq_getElem hil]; rfl
      by_cases c : f = l[i]
      · rw [decide_eq_true (by rw [c]; exact List.mem_cons_self)]
        refine Ev.step (f := fun _ => some true) (fun k => ?_) (Ev.now _)
        rw [laws_among.l0, if_pos (by omega), if_pos (by omega), hrd, if_pos c]
      · have e : decide (f ∈ l[i] :: l.drop (i + 1)) = decide (f ∈ l.drop (i + 1)) := by simp only [List.mem_cons, c, false_or]
        rw [e]
        refine Ev.step (fun k => ?_) (ih (i + 1) (by omega))
        rw [laws_among.l0, if_pos (by omega), if_pos (by omega), hrd, if_neg c, ln64 _ (by omega) (by omega)]
        rfl
  have h := key l.length 0 (by omega)
  rw [List.drop_zero] at h
  have h0' : ¬ (l.length : Int) = 0 := by have := List.length_pos_iff.2 h0; omega
  exact Ev.congr (fun k => by unfold laws_among.f; rw [if_neg h0']; rfl) h
theorem faults_len (v lock : Int) (ins : List S35) (outs : List S41) : (faultsF v lock ins outs).length ≤ 1000 := by
  have h5 : (base5 v lock ins outs).length ≤ 5 := by
    unfold base5
    have a1 := addL_len ((ins.length : Int) == 0) 15 []
    have a2 := addL_len ((outs.length : Int) == 0) 16 (addL ((ins.length : Int) == 0) 15 [])
    have a3 := addL_len (decide (1000000 < ((txB false v lock ins outs).length : Int))) 17 (addL ((outs.length : Int) == 0) 16 (addL ((ins.length : Int) == 0) 15 []))
    have a4 := addL_len (badV 0 outs) 18 (addL (decide (1000000 < ((txB false v lock ins outs).length : Int))) 17 (addL ((outs.length : Int) == 0) 16 (addL ((ins.length : Int) == 0) 15 [])))
    have a5 := addL_len (sameP ins) 19 (addL (badV 0 outs) 18 (addL (decide (1000000 < ((txB false v lock ins outs).length : Int))) 17 (addL ((outs.length : Int) == 0) 16 (addL ((ins.length : Int) == 0) 15 []))))
    simp only [List.length_nil] at a1
    omega
  unfold faultsF
  split
  · have := addL_len (decide (((scr0 ins).length : Int) < 2) || decide (100 < ((scr0 ins).length : Int))) 31 (base5 v lock ins outs); omega
  · have := addL_len (anyNo ins) 20 (base5 v lock ins outs); omega
theorem builtP (m : Int) : Try.prog.built 92 [(14, .int .u16 m)] = some #[.string ⟨#[]⟩, .int .u32 0, .string ⟨#[]⟩, .slice none 0 0, .pointer none, .pointer none, .pointer none, .int .u32 0, .bool false, .bool false, .int .i32 0, .pointer none, .int .i32 0, .int .i32 0, .int .u16 m, .int .i32 0, .int .i64 0, .int .i64 0, .int .i64 0, .bool false, .int .i64 0, .bool false, .slice none 0 0, .int .u32 0, .int .u32 0, .bool false, .string ⟨#[]⟩, .int .u8 0, .int .u8 0, .int .u8 0, .int .u8 0, .int .u8 0, .int .u8 0, .int .u8 0, .int .u8 0, .int .u8 0, .int .u8 0, .int .u8 0, .int .u8 0, .int .u8 0, .int .u32 0] := by kernel_rfl
structure InImp (w : World) (F : List Int) (fee : Int) (e : Ending) (w' : World) : Prop where
  ex : ∃ (q c : Int), e = .returned (.tuple #[.int .i64 q, .int .i64 c]) ∧ (c = 0 → F = [] ∧ q = fee) ∧ (c ≠ 0 → c ∈ F)
  low : Below w.heap.size w w'
set_option maxRecDepth 100000 in
set_option maxHeartbeats 8000000 in
theorem inputFaultC (v lock : Int) (Ai : Option Addr) (ci : Nat) (ins : List S35) (Ao : Option Addr) (co : Nat) (outs : List S41) (height : Int) (A : Option Addr) (c : Nat) (l : List S74) (mat : Int) (w : World) (hi : Kd.C k35 w Ai ins.length ins) (hci : ins.length ≤ ci) (ho : Kd.C k41 w Ao outs.length outs) (hco : outs.length ≤ co) (hf : TxFit ins outs) (hok : ∀ x ∈ ins, OpOk x.f0.f0 x.f0.f1)
    (hr : Kd.C k74 w A l.length l) (hl : CoinsOk l) (hl2 : l.length ≤ 1000) (hsm : ∀ i : Nat, i < l.length → (rdC l (i : Int)).f1.f1.length ≤ 1000000) (hbo : badV 0 outs = false) (hh : 0 ≤ height ∧ height ≤ 2147483647) (hma : 0 ≤ mat ∧ mat ≤ 65535) :
    Calls Try.prog 20 #[.agg #[.int .i32 v, .slice Ai ins.length ci, .slice Ao outs.length co, .int .u32 lock], .int .i32 height, .slice A l.length c, .int .u16 mat] w fun e w' => InImp w (inFaults height mat l ins outs) (inFee l ins outs) e w' := by
  have HI := Aside0.mk hi
  have HO := Aside0.mk ho
  have HCI := Aside0.mk hci
  have HCO := Aside0.mk hco
  have HFIT := Aside0.mk hf
  have HOK := Aside0.mk hok
  have HR := Aside0.mk hr
  have HL := Aside0.mk hl
  have HL2 := Aside0.mk hl2
  have HSM := Aside0.mk hsm
  have HBO := Aside0.mk hbo
  have HH := Aside0.mk hh
  have HMA := Aside0.mk hma
  clear hi ho hci hco hf hok hr hl hl2 hsm hbo hh hma
  obtain ⟨FF, hFF⟩ : ∃ q, inFaults height mat l ins outs = q := ⟨_, rfl⟩
  obtain ⟨fee, hfee⟩ : ∃ q, inFee l ins outs = q := ⟨_, rfl⟩
  have HFF := Aside0.mk hFF
  have HFE := Aside0.mk hfee
  rw [hFF, hfee]
  clear hFF hfee
  obtain ⟨pc, hpc, hp14⟩ : ∃ pc, Try.prog.built 92 [(14, .int .u16 mat)] = some pc ∧ pc[14]? = some (Value.int .u16 mat) := ⟨_, builtP mat, rfl⟩
  have HPC := Aside0.mk hpc
  have HP14 := Aside0.mk hp14
  clear hpc hp14
  go_enter Try.func20, Try.ntmps20
  go_upto_region 1 with fail
  have HW0 : Aside0 (InW w v lock Ai ins.length ci Ao outs.length co (w.alloc (.cells #[.int .i32 v, .slice Ai ins.length ci, .slice Ao outs.length co, .int .u32 lock] 26))) := ⟨⟨heap_alloc_new _ _, below_alloc (Below.refl _ _) _⟩⟩
  generalize w.alloc (.cells #[.int .i32 v, .slice Ai ins.length ci, .slice Ao outs.length co, .int .u32 lock] 26) = w1 at *
  have kb0 := cell_of HW0.out.box (j := 0) rfl
  have kb1 := cell_of HW0.out.box (j := 1) rfl
  have kb2 := cell_of HW0.out.box (j := 2) rfl
  have kb3 := cell_of HW0.out.box (j := 3) rfl
  go_upto_region 2 with (first
    | ((with_reducible refine at_dst (N := 18) rfl ?_); refine wpList_runw (by rfl) _ (run_built 92 #[(14, .tmp 17)] ?b1 [(14, .int .u16 mat)] ?b2 pc HPC.out) ?_; (case b1 => rfl); (case b2 => ((try simp only [List.map_toArray, List.map_cons, List.map_nil]); rfl)))
    | (go_at_call 34; (with_reducible refine (utilTxC v lock Ai ci ins Ao co outs w1 (Kd.C_below HI.out HW0.out.low) HCI.out (Kd.C_below HO.out HW0.out.low) HCO.out HFIT.out).mono ?_); rintro e w2 ⟨b, g, A1, c1, A2, c2, rfl, hu, hm, hb⟩; have HU := Aside0.mk hu; have HM := Aside0.mk hm; have HB2 := Aside0.mk (HW0.out.low.trans (hb.mono HW0.out.low.size)); clear hu hm hb kb0 kb1 kb2 kb3)
    | (go_at_call 43; (with_reducible refine (viewOfC A c l w2 (Kd.C_below HR.out HB2.out) HL2.out HL.out.op HSM.out).mono ?_); rintro e w3 ⟨⟨vp, mb, nn, DD, rfl, hv, hh⟩, hb⟩; have HV := Aside0.mk hv; have HHO := Aside0.mk hh; have HU3 := Aside0.mk (HU.out.below hb); have HM3 := Aside0.mk (HM.out.below hb); have HB3 := Aside0.mk (HB2.out.trans (hb.mono HB2.out.size)); clear hv hh hb)
    | (go_at_call 42; (with_reducible refine (checkInC b g v lock ins outs A1 c1 A2 c2 height mat vp mb nn w3.heap.size DD l _ (HU3.out.below (below_alloc (Below.refl _ _) _)) (HM3.out.below (below_alloc (Below.refl _ _) _)) HFIT.out.n1 HFIT.out.n2 HOK.out (HV.out.below (below_alloc (Below.refl _ _) _)) (HHO.out.below (below_alloc (Below.refl _ _) _)) HL.out HBO.out HH.out (cell_of (heap_alloc_new _ _) (j := 14) HP14.out) HMA.out).mono ?_); rw [HFF.out, HFE.out]; rintro e w5 ⟨⟨q, k, v0, rfl, he, h0, h1⟩, hb⟩; have HE := Aside0.mk he; have H0 := Aside0.mk h0; have H1 := Aside0.mk h1; have HB5 := Aside0.mk (HB3.out.trans (((below_alloc (Below.refl w3.heap.size w3) _).trans (hb.mono (by simp))).mono HB3.out.size)); clear he h0 h1 hb))
  go_wp2_with (go_at_call 32; (with_reducible refine (faultC k v0 HE.out _).mono ?_); rintro e w6 ⟨rfl, hb⟩; have HB6 := Aside0.mk (HB5.out.trans (hb.mono HB5.out.size)); clear hb)
  go_ret2
  exact ⟨⟨q, k, rfl, H0.out, H1.out⟩, HB6.out⟩
theorem faults_bad {v lock : Int} {ins : List S35} {outs : List S41} (h : faultsF v lock ins outs = []) : badV 0 outs = false := by
  have nil_addL : ∀ {n : Int} {b : Bool} {l : List Int}, addL b n l = [] → b = false ∧ l = [] := fun {n b l} => by
    unfold addL
    cases b <;> simp
  have h5 : base5 v lock ins outs = [] := by
    unfold faultsF at h
    split at h
    · exact (nil_addL h).2
    · exact (nil_addL h).2
  unfold base5 at h5
  exact (nil_addL (nil_addL h5).2).1
theorem inFaults_len (height mat : Int) (l : List S74) (ins : List S35) (outs : List S41) : (inFaults height mat l ins outs).length ≤ 1000 := by
  unfold inFaults
  have a1 := addL_len (noC l ins) 21 []
  have a2 := addL_len (youngC height mat l ins) 25 (addL (noC l ins) 21 [])
  have a3 := addL_len (decide (sumW (valsC l ins) < sumW (outs.map fun y => y.f0))) 26 (addL (youngC height mat l ins) 25 (addL (noC l ins) 21 []))
  have a0 : ([] : List Int).length = 0 := rfl
  split
  · simp
  split
  · rw [List.length_append]
    have : ([18] : List Int).length = 1 := rfl
    omega
  · omega
set_option maxRecDepth 100000 in
set_option maxHeartbeats 8000000 in
theorem lawInputFault (v lock : Int) (Ai : Option Addr) (ci : Nat) (ins : List S35) (Ao : Option Addr) (co : Nat) (outs : List S41) (height : Int) (A : Option Addr) (c : Nat) (l : List S74) (mat : Int) (w : World) (hi : Kd.C k35 w Ai ins.length ins) (hci : ins.length ≤ ci) (ho : Kd.C k41 w Ao outs.length outs) (hco : outs.length ≤ co) (hraw : RawT ins lock) (hok : ∀ x ∈ ins, OpOk x.f0.f0 x.f0.f1)
    (hr : Kd.C k74 w A l.length l) (hop : ∀ i : Nat, i < l.length → OpOk (rdC l (i : Int)).f0.f0 (rdC l (i : Int)).f0.f1) (hf2 : ∀ i : Nat, i < l.length → (rdC l (i : Int)).f2 ≤ 2147483647) (hh : height ≤ 2147483647) (hma : 0 ≤ mat ∧ mat ≤ 65535) :
    Calls Try.prog 5 #[.agg #[.int .i32 v, .slice Ai ins.length ci, .slice Ao outs.length co, .int .u32 lock], .int .i32 height, .slice A l.length c, .int .u16 mat] w fun e w' => e = .returned (.bool true) ∧ Below w.heap.size w w' := by
  have HI := Aside0.mk hi
  have HO := Aside0.mk ho
  have HCI := Aside0.mk hci
  have HCO := Aside0.mk hco
  have HRAW := Aside0.mk hraw
  have HOK := Aside0.mk hok
  have HR := Aside0.mk hr
  have HOP := Aside0.mk hop
  have HF2 := Aside0.mk hf2
  have HH := Aside0.mk hh
  have HMA := Aside0.mk hma
  clear hi ho hci hco hraw hok hr hop hf2 hh hma
  obtain ⟨b1, hb1, hs1⟩ := ev_zzFits2 v lock ins outs
  obtain ⟨k1, hk1⟩ := hb1.rounds
  have HK1 := Aside0.mk hk1
  have HS1 := Aside0.mk hs1
  clear hb1 hk1 hs1
  go_enter Try.func5, Try.ntmps5
  go_upto_region 1 with fail
  have HW0 : Aside0 (InW w v lock Ai ins.length ci Ao outs.length co (w.alloc (.cells #[.int .i32 v, .slice Ai ins.length ci, .slice Ao outs.length co, .int .u32 lock] 26))) := ⟨⟨heap_alloc_new _ _, below_alloc (Below.refl _ _) _⟩⟩
  generalize w.alloc (.cells #[.int .i32 v, .slice Ai ins.length ci, .slice Ao outs.length co, .int .u32 lock] 26) = w1 at *
  have kb0 := cell_of HW0.out.box (j := 0) rfl
  have kb1 := cell_of HW0.out.box (j := 1) rfl
  have kb2 := cell_of HW0.out.box (j := 2) rfl
  have kb3 := cell_of HW0.out.box (j := 3) rfl
  cases b1
  · go_wp2_with (go_at_call 6; (with_reducible refine (laws_zzFits2.calls k1 v Ai ci ins Ao co outs lock false w1 (Kd.C_below HI.out HW0.out.low) HCI.out (Kd.C_below HO.out HW0.out.low) HCO.out HK1.out).mono ?_); rintro e w2 ⟨rfl, hb⟩; have HW2 := Aside0.mk (HW0.out.below hb); clear hb)
    go_ret
    exact ⟨rfl, HW2.out.low⟩
  obtain ⟨r, e1, h1⟩ := ev_txSize v lock ins outs (HS1.out rfl)
  obtain ⟨k2, hk2⟩ := e1.rounds
  have HK2 := Aside0.mk hk2
  have HSZ := Aside0.mk h1
  clear e1 hk2 h1
  go_upto_if 20 with (first
    | (go_at_call 6; (with_reducible refine (laws_zzFits2.calls k1 v Ai ci ins Ao co outs lock true w1 (Kd.C_below HI.out HW0.out.low) HCI.out (Kd.C_below HO.out HW0.out.low) HCO.out HK1.out).mono ?_); rintro e w2 ⟨rfl, hb⟩; have HW2 := Aside0.mk (HW0.out.below hb); clear hb)
    | (go_at_call 17; (with_reducible refine (fits12C A c l w2 (Kd.C_below HR.out HW2.out.low)).mono ?_); rintro e w3 ⟨⟨b2, rfl, h2⟩, hb⟩; have H2 := Aside0.mk h2; have HW3 := Aside0.mk (HW2.out.below hb); clear hb h2))
  clear kb0 kb1 kb2 kb3
  cases b2
  · simp only [Bool.not_false]
    go_wp2_with fail
    go_ret
    exact ⟨rfl, HW3.out.low⟩
  simp only [Bool.not_true]
  have kb0 := cell_of HW3.out.box (j := 0) rfl
  have kb1 := cell_of HW3.out.box (j := 1) rfl
  have kb2 := cell_of HW3.out.box (j := 2) rfl
  have kb3 := cell_of HW3.out.box (j := 3) rfl
  by_cases hz0 : r > 100000
  · go_wp2_with (go_at_call 7; (with_reducible refine (laws_txSize.calls k2 v Ai ci ins Ao co outs lock r w3 (Kd.C_below HI.out HW3.out.low) HCI.out (Kd.C_below HO.out HW3.out.low) HCO.out HK2.out).mono ?_); rintro e w4 ⟨rfl, hb⟩; have HW4 := Aside0.mk (HW3.out.below hb); clear hb)
    go_ret
    exact ⟨rfl, HW4.out.low⟩
  have hz1 : ¬ (100000 < r) := by omega
  have HSIZ : Aside0 (sI ins + sO outs ≤ 100000) := ⟨HSZ.out (by omega)⟩
  have HFIT := Aside0.mk (fit_of_size HSIZ.out)
  have HONC : Aside0 (∀ W : World, Kd.C k74 W A l.length l → Calls Try.prog 18 #[.slice A l.length c] W fun e w' => SomeB W (fun b => b = true → Once l) e w') := ⟨fun W hW => onceC A c l W hW HOP.out (fun i h => Nat.le_trans (H2.out (by first | rfl | trivial) i h) (by decide))⟩
  obtain ⟨FL, hFL⟩ : ∃ q, faultsF v lock ins outs = q := ⟨_, rfl⟩
  have HFL := Aside0.mk hFL
  have HTF : Aside0 (∀ W : World, Kd.C k35 W Ai ins.length ins → Kd.C k41 W Ao outs.length outs → Calls Try.prog 16 #[.agg #[.int .i32 v, .slice Ai ins.length ci, .slice Ao outs.length co, .int .u32 lock]] W fun e w' => ∃ v0_ : Value, e = .returned (v0_) ∧ Kd.R (Kd.int .i64) 3 w' W.heap.size (fun _ => True) v0_ FL ∧ Below W.heap.size W w') := ⟨fun W h1 h2 => by rw [← hFL]; exact faultsC v lock Ai ci ins Ao co outs W h1 HCI.out h2 HCO.out HRAW.out HSIZ.out HOK.out⟩
  clear hFL
  by_cases hn : FL = []
  · have HBO : Aside0 (badV 0 outs = false) := ⟨faults_bad (HFL.out.trans hn)⟩
    subst hn
    by_cases hhn : height < 0
    · go_wp2_with (first | (go_at_call 7; (with_reducible refine (laws_txSize.calls k2 v Ai ci ins Ao co outs lock r w3 (Kd.C_below HI.out HW3.out.low) HCI.out (Kd.C_below HO.out HW3.out.low) HCO.out HK2.out).mono ?_); rintro e w4 ⟨rfl, hb⟩; have HW4 := Aside0.mk (HW3.out.below hb); clear hb kb0 kb1 kb2 kb3; have kb0 := cell_of HW4.out.box (j := 0) rfl; have kb1 := cell_of HW4.out.box (j := 1) rfl; have kb2 := cell_of HW4.out.box (j := 2) rfl; have kb3 := cell_of HW4.out.box (j := 3) rfl) | (go_at_call 16; (with_reducible refine (HTF.out w4 (Kd.C_below HI.out HW4.out.low) (Kd.C_below HO.out HW4.out.low)).mono ?_); rintro e w5 ⟨v5, rfl, hr5, hb⟩; (obtain ⟨A5, c5, e5⟩ := Kd.R_slice hr5); subst e5; have HW5 := Aside0.mk (HW4.out.below hb); clear hb hr5))
      go_ret
      exact ⟨rfl, HW5.out.low⟩
    have HHG : Aside0 (0 ≤ height ∧ height ≤ 2147483647) := ⟨by have := HH.out; omega⟩
    go_upto_if 38 with (first | (go_at_call 7; (with_reducible refine (laws_txSize.calls k2 v Ai ci ins Ao co outs lock r w3 (Kd.C_below HI.out HW3.out.low) HCI.out (Kd.C_below HO.out HW3.out.low) HCO.out HK2.out).mono ?_); rintro e w4 ⟨rfl, hb⟩; have HW4 := Aside0.mk (HW3.out.below hb); clear hb kb0 kb1 kb2 kb3; have kb0 := cell_of HW4.out.box (j := 0) rfl; have kb1 := cell_of HW4.out.box (j := 1) rfl; have kb2 := cell_of HW4.out.box (j := 2) rfl; have kb3 := cell_of HW4.out.box (j := 3) rfl) | (go_at_call 16; (with_reducible refine (HTF.out w4 (Kd.C_below HI.out HW4.out.low) (Kd.C_below HO.out HW4.out.low)).mono ?_); rintro e w5 ⟨v5, rfl, hr5, hb⟩; (obtain ⟨A5, c5, e5⟩ := Kd.R_slice hr5); subst e5; have HW5 := Aside0.mk (HW4.out.below hb); clear hb hr5) | (go_at_call 18; (with_reducible refine (HONC.out w5 (Kd.C_below HR.out HW5.out.low)).mono ?_); rintro e w6 ⟨⟨b3, rfl, h3⟩, hb⟩; have H3 := Aside0.mk h3; have HW6 := Aside0.mk (HW5.out.below hb); clear hb h3))
    clear kb0 kb1 kb2 kb3
    have hd1 : decide (100000 < r) = false := decide_eq_false (by omega)
    have hd2 : decide (height < 0) = false := decide_eq_false (by omega)
    cases b3
    · simp only [hd1, hd2, Bool.not_false, Bool.false_or, Bool.or_true, Bool.or_false]
      go_wp2_with fail
      go_ret
      exact ⟨rfl, HW6.out.low⟩
    simp only [hd1, hd2, Bool.not_true, Bool.false_or, Bool.or_false]
    have HON : Aside0 (Once l) := ⟨H3.out (by first | rfl | trivial)⟩
    have HLL : Aside0 (CoinsOk l) := ⟨⟨Nat.le_trans HON.out.few (by decide), HOP.out, fun i h => ⟨HON.out.high i h, HF2.out i h⟩⟩⟩
    have HSMM : Aside0 (∀ i : Nat, i < l.length → (rdC l (i : Int)).f1.f1.length ≤ 1000000) := ⟨fun i h => Nat.le_trans (HON.out.short i h) (by decide)⟩
    have hwm : wrap32 mat = mat := by have := HMA.out; unfold wrap32; omega
    obtain ⟨FF, hFF⟩ : ∃ q, inFaults height mat l ins outs = q := ⟨_, rfl⟩
    obtain ⟨fee, hfee⟩ : ∃ q, inFee l ins outs = q := ⟨_, rfl⟩
    have HLEN : Aside0 (FF.length ≤ 1000) := ⟨by rw [← hFF]; exact inFaults_len _ _ _ _ _⟩
    have HSP : Aside0 (∀ W : World, Below w.heap.size w W → Calls Try.prog 19 #[.agg #[.int .i32 v, .slice Ai ins.length ci, .slice Ao outs.length co, .int .u32 lock], .int .i32 height, .slice A l.length c, .int .i32 mat] W fun e w' => InFP W FF fee e w') := ⟨fun W hW => by rw [← hFF, ← hfee]; exact inputFaultsC v lock Ai ci ins Ao co outs height A c l mat W (Kd.C_below HI.out hW) (Kd.C_below HO.out hW) HFIT.out.n1 HFIT.out.n2 HOK.out (Kd.C_below HR.out hW) HLL.out HBO.out HHG.out⟩
    have HIP : Aside0 (∀ W : World, Below w.heap.size w W → Calls Try.prog 20 #[.agg #[.int .i32 v, .slice Ai ins.length ci, .slice Ao outs.length co, .int .u32 lock], .int .i32 height, .slice A l.length c, .int .u16 mat] W fun e w' => InImp W FF fee e w') := ⟨fun W hW => by rw [← hFF, ← hfee]; exact inputFaultC v lock Ai ci ins Ao co outs height A c l mat W (Kd.C_below HI.out hW) HCI.out (Kd.C_below HO.out hW) HCO.out HFIT.out HOK.out (Kd.C_below HR.out hW) HLL.out (Nat.le_trans HON.out.few (by decide)) HSMM.out HBO.out HHG.out HMA.out⟩
    clear hFF hfee
    have kb0 := cell_of HW6.out.box (j := 0) rfl
    have kb1 := cell_of HW6.out.box (j := 1) rfl
    have kb2 := cell_of HW6.out.box (j := 2) rfl
    have kb3 := cell_of HW6.out.box (j := 3) rfl
    go_upto_region 6 with (go_at_call 19; (with_reducible refine (HSP.out w6 HW6.out.low).mono ?_); rintro e w7 ⟨⟨q1, A7, c7, rfl, hr7, h7⟩, hb⟩; have HR7 := Aside0.mk hr7; have H7 := Aside0.mk h7; have HW7 := Aside0.mk (HW6.out.below hb); clear hb hr7 h7)
    clear kb0 kb1 kb2 kb3
    have kb0 := cell_of HW7.out.box (j := 0) rfl
    have kb1 := cell_of HW7.out.box (j := 1) rfl
    have kb2 := cell_of HW7.out.box (j := 2) rfl
    have kb3 := cell_of HW7.out.box (j := 3) rfl
    go_upto_region 7 with (go_at_call 20; (with_reducible refine (HIP.out w7 HW7.out.low).mono ?_); rintro e w8 ⟨⟨q2, k, rfl, h0, h1⟩, hb⟩; have H0 := Aside0.mk h0; have H1 := Aside0.mk h1; have HR8 := Aside0.mk (Kd.R_below HR7.out hb); have HW8 := Aside0.mk (HW7.out.below hb); clear hb h0 h1)
    clear kb0 kb1 kb2 kb3
    have HAM : Aside0 (amongL k FF = true) := ⟨by
      unfold amongL
      by_cases hF : FF = []
      · rw [if_pos hF]
        by_cases hk : k = 0
        · rw [hk]; rfl
        · have h := H1.out hk
          rw [hF] at h
          cases h
      · rw [if_neg hF]
        exact decide_eq_true (H1.out (fun h => hF (H0.out h).1))⟩
    obtain ⟨k9, hk9⟩ := (ev_among k FF HLEN.out).rounds
    rw [HAM.out] at hk9
    have HK9 := Aside0.mk hk9
    clear hk9
    obtain ⟨A8, c8, e8, hc8, hC8⟩ := Kd.R_reads HR8.out
    have HC8 := Aside0.mk hC8
    have HL8 := Aside0.mk hc8
    injection e8 with e81 e82 e83
    subst e81
    subst e83
    clear hC8 hc8
    by_cases hk : k = 0
    · have hq : q2 = q1 := by
        have h := H0.out hk
        rw [h.2, H7.out h.1]
      subst hk
      subst hq
      go_wp2_with (go_at_call 14; (with_reducible refine (laws_among.calls k9 _ _ _ FF true w8 HC8.out HL8.out HK9.out).mono ?_); rintro e w9 ⟨rfl, hd⟩; have HB9 := Aside0.mk (HW8.out.low.trans (hd.below.mono HW8.out.low.size)); clear hd)
      go_ret
      exact ⟨rfl, HB9.out⟩
    · have hk2 : (k == 0) = false := beq_false_of_ne hk
      go_wp2_with (go_at_call 14; (with_reducible refine (laws_among.calls k9 _ _ _ FF true w8 HC8.out HL8.out HK9.out).mono ?_); rintro e w9 ⟨rfl, hd⟩; have HB9 := Aside0.mk (HW8.out.low.trans (hd.below.mono HW8.out.low.size)); clear hd)
      go_ret
      exact ⟨rfl, HB9.out⟩
  · have hn2 : 0 < (FL.length : Int) := by have := List.length_pos_iff.2 hn; omega
    go_wp2_with (first | (go_at_call 7; (with_reducible refine (laws_txSize.calls k2 v Ai ci ins Ao co outs lock r w3 (Kd.C_below HI.out HW3.out.low) HCI.out (Kd.C_below HO.out HW3.out.low) HCO.out HK2.out).mono ?_); rintro e w4 ⟨rfl, hb⟩; have HW4 := Aside0.mk (HW3.out.below hb); clear hb kb0 kb1 kb2 kb3; have kb0 := cell_of HW4.out.box (j := 0) rfl; have kb1 := cell_of HW4.out.box (j := 1) rfl; have kb2 := cell_of HW4.out.box (j := 2) rfl; have kb3 := cell_of HW4.out.box (j := 3) rfl) | (go_at_call 16; (with_reducible refine (HTF.out w4 (Kd.C_below HI.out HW4.out.low) (Kd.C_below HO.out HW4.out.low)).mono ?_); rintro e w5 ⟨v5, rfl, hr5, hb⟩; (obtain ⟨A5, c5, e5⟩ := Kd.R_slice hr5); subst e5; have HW5 := Aside0.mk (HW4.out.below hb); clear hb hr5))
    go_ret
    exact ⟨rfl, HW5.out.low⟩
end Go.Proofs.Ytdheoajaaofmbaa.QFnScriptPlaces
/- A transaction, and coins, that came in. -/
namespace Go.Proofs.Ytdheoajaaofmbaa.QFnScriptPlaces
open Go.RowKit Go.Proofs.YtdheoajaaofmbaaW.PrintWords Go.Proofs.YtdheoajaaofmbaaW.PrintLast Go.Proofs.YtdheoajaaofmbaaW.PrintMore Go.Proofs.Ytdheoajaaofmbaa.Open
set_option linter.unusedVariables false
theorem opens_bytes : Opens Try.prog 32 (Kd.slice 5 (Kd.int .u8)) (fun l => ∀ x ∈ l, (Lit.int .u8 x).wf = true) :=
  opens_slice Try.underlying32 (by kernel_rfl) (opens_int Try.underlying5)
theorem opens_op : Opens Try.prog 31 k31 (fun x => (x.f0.length = 32 ∧ ∀ y ∈ x.f0, (Lit.int .u8 y).wf = true) ∧ (Lit.int .u32 x.f1).wf = true) :=
  opens_iso (fun x : S31 => (x.f0, x.f1)) (fun p => ⟨p.1, p.2⟩) (fun _ => rfl)
    (opens_struct_2 Try.underlying31 (by kernel_rfl) (by kernel_rfl) (by kernel_rfl) (by kernel_rfl) (by kernel_rfl) (opens_arr Try.underlying29 (by kernel_rfl) (by kernel_rfl) (opens_int Try.underlying5)) (opens_int Try.underlying24))
theorem opens_in : Opens Try.prog 35 k35 (fun x => ((x.f0.f0.length = 32 ∧ ∀ y ∈ x.f0.f0, (Lit.int .u8 y).wf = true) ∧ (Lit.int .u32 x.f0.f1).wf = true) ∧ (∀ y ∈ x.f1, (Lit.int .u8 y).wf = true) ∧ (∀ z ∈ x.f2, ∀ y ∈ z, (Lit.int .u8 y).wf = true) ∧ (Lit.int .u32 x.f3).wf = true) :=
  opens_iso (fun x : S35 => (x.f0, x.f1, x.f2, x.f3)) (fun p => ⟨p.1, p.2.1, p.2.2.1, p.2.2.2⟩) (fun _ => rfl)
    (opens_struct_4 Try.underlying35 (by kernel_rfl) (by kernel_rfl) (by kernel_rfl) (by kernel_rfl) (by kernel_rfl) (by kernel_rfl) (by kernel_rfl) (by kernel_rfl) (by kernel_rfl) opens_op opens_bytes (opens_slice Try.underlying33 (by kernel_rfl) opens_bytes) (opens_int Try.underlying24))
theorem opens_out : Opens Try.prog 41 k41 (fun x => (Lit.int .i64 x.f0).wf = true ∧ ∀ y ∈ x.f1, (Lit.int .u8 y).wf = true) :=
  opens_iso (fun x : S41 => (x.f0, x.f1)) (fun p => ⟨p.1, p.2⟩) (fun _ => rfl)
    (opens_struct_2 Try.underlying41 (by kernel_rfl) (by kernel_rfl) (by kernel_rfl) (by kernel_rfl) (by kernel_rfl) (opens_int Try.underlying2) opens_bytes)
/-- A transaction: version, inputs, outputs, lock; all numbers within their kinds. -/
theorem opens_txA {H : Type} (enc : TypeId × Value → H) (w : World) (base : Nat) (sp : Nat → Bool) (held : Bool) (fuel : Nat) (cs : List Value) (y : DataW H × List MemPlace) (h : DataW.trod enc Try.prog w base sp held fuel 26 cs = some y) :
    ∃ (v lock : Int) (ins : List S35) (outs : List S41) (A1 : Option Addr) (c1 : Nat) (A2 : Option Addr) (c2 : Nat), cs = [.int .i32 v, .slice A1 ins.length c1, .slice A2 outs.length c2, .int .u32 lock] ∧
      (RawT ins lock ∧ (∀ x ∈ ins, OpOk x.f0.f0 x.f0.f1) ∧ (∀ y ∈ outs, -9223372036854775808 ≤ y.f0 ∧ y.f0 ≤ 9223372036854775807)) ∧ ins.length ≤ c1 ∧ Kd.C k35 w A1 ins.length ins ∧ outs.length ≤ c2 ∧ Kd.C k41 w A2 outs.length outs := by
  obtain ⟨⟨v, ins, outs, lock⟩, ⟨_, hi, ho, hl⟩, c0, c1, e0, k0, c2, c3, e1, k1, c4, c5, e2, k2, k3⟩ := opens_struct_4 (d0 := Kd.int .i32) (d1 := Kd.slice 35 k35) (d2 := Kd.slice 41 k41) (d3 := Kd.int .u32) Try.underlying26 (by kernel_rfl) (by kernel_rfl) (by kernel_rfl) (by kernel_rfl) (by kernel_rfl) (by kernel_rfl) (by kernel_rfl) (by kernel_rfl) (by kernel_rfl) (opens_int Try.underlying21) (opens_slice Try.underlying22 (by kernel_rfl) opens_in) (opens_slice Try.underlying23 (by kernel_rfl) opens_out) (opens_int Try.underlying24) enc w base sp held fuel cs y h
  obtain ⟨A1, n1, ei, l1, g1⟩ := k1
  obtain ⟨A2, n2, eo, l2, g2⟩ := k2
  have k0 : c0 = [Value.int .i32 v] := k0
  have k3 : c5 = [Value.int .u32 lock] := k3
  refine ⟨v, lock, ins, outs, A1, n1, A2, n2, ?_, ⟨⟨fun x hx => ?_, ?_⟩, fun x hx => ?_, fun y hy => ?_⟩, l1, g1, l2, g2⟩
  · rw [e0, e1, e2, k0, ei, eo, k3]; rfl
  · obtain ⟨⟨⟨h1, _⟩, h2⟩, _, _, h3⟩ := hi x hx
    have b2 := bounds_u32 h2
    have b3 := bounds_u32 h3
    exact ⟨h1, by omega, by omega⟩
  · have b : 0 ≤ lock ∧ lock ≤ 4294967295 := bounds_u32 hl
    omega
  · obtain ⟨⟨⟨h1, h4⟩, h2⟩, _, _, _⟩ := hi x hx
    exact ⟨h1, h4, h2⟩
  · have b := bounds_i64 (ho y hy).1
    omega
theorem bounds_i32 {x : Int} (h : (Lit.int .i32 x).wf = true) : -2147483648 ≤ x ∧ x ≤ 2147483647 := by
  simp [Lit.wf] at h
  have h1 : IntKind.i32.min = -2147483648 := by rfl
  have h2 : IntKind.i32.max = 2147483647 := by rfl
  omega
theorem bounds_u16 {x : Int} (h : (Lit.int .u16 x).wf = true) : 0 ≤ x ∧ x ≤ 65535 := by
  simp [Lit.wf] at h
  have h1 : IntKind.u16.min = 0 := by rfl
  have h2 : IntKind.u16.max = 65535 := by rfl
  omega
theorem opens_coin : Opens Try.prog 74 k74 (fun x => ((x.f0.f0.length = 32 ∧ ∀ y ∈ x.f0.f0, (Lit.int .u8 y).wf = true) ∧ (Lit.int .u32 x.f0.f1).wf = true) ∧ ((Lit.int .i64 x.f1.f0).wf = true ∧ ∀ y ∈ x.f1.f1, (Lit.int .u8 y).wf = true) ∧ (Lit.int .i32 x.f2).wf = true ∧ True ∧ True) :=
  opens_iso (fun x : S74 => (x.f0, x.f1, x.f2, x.f3, x.f4)) (fun p => ⟨p.1, p.2.1, p.2.2.1, p.2.2.2.1, p.2.2.2.2⟩) (fun _ => rfl)
    (opens_struct_5 Try.underlying74 (by kernel_rfl) (by kernel_rfl) (by kernel_rfl) (by kernel_rfl) (by kernel_rfl) (by kernel_rfl) (by kernel_rfl) (by kernel_rfl) (by kernel_rfl) (by kernel_rfl) (by kernel_rfl) opens_op opens_out (opens_int Try.underlying21) (opens_bool Try.underlying4) (opens_bool Try.underlying4))
theorem opens_coins : Opens Try.prog 44 (Kd.slice 74 k74) (fun l => ∀ x ∈ l, ((x.f0.f0.length = 32 ∧ ∀ y ∈ x.f0.f0, (Lit.int .u8 y).wf = true) ∧ (Lit.int .u32 x.f0.f1).wf = true) ∧ ((Lit.int .i64 x.f1.f0).wf = true ∧ ∀ y ∈ x.f1.f1, (Lit.int .u8 y).wf = true) ∧ (Lit.int .i32 x.f2).wf = true ∧ True ∧ True) :=
  opens_slice Try.underlying44 (by kernel_rfl) opens_coin
theorem walkInputFault (v lock : Int) (ins : List S35) (outs : List S41) (A1 : Option Addr) (c1 : Nat) (A2 : Option Addr) (c2 : Nat) (height : Int) (hh : (Lit.int .i32 height).wf = true) (A : Option Addr) (c : Nat) (l : List S74) (mat : Int) (hm : (Lit.int .u16 mat).wf = true) (w : World) (hR : RawT ins lock ∧ (∀ x ∈ ins, OpOk x.f0.f0 x.f0.f1) ∧ (∀ y ∈ outs, -9223372036854775808 ≤ y.f0 ∧ y.f0 ≤ 9223372036854775807)) (l1 : ins.length ≤ c1) (g1 : Kd.C k35 w A1 ins.length ins) (l2 : outs.length ≤ c2) (g2 : Kd.C k41 w A2 outs.length outs)
    (hV : ∀ x ∈ l, ((x.f0.f0.length = 32 ∧ ∀ y ∈ x.f0.f0, (Lit.int .u8 y).wf = true) ∧ (Lit.int .u32 x.f0.f1).wf = true) ∧ ((Lit.int .i64 x.f1.f0).wf = true ∧ ∀ y ∈ x.f1.f1, (Lit.int .u8 y).wf = true) ∧ (Lit.int .i32 x.f2).wf = true ∧ True ∧ True) (hr : Kd.C k74 w A l.length l) :
    Calls Try.prog 5 #[.agg #[.int .i32 v, .slice A1 ins.length c1, .slice A2 outs.length c2, .int .u32 lock], .int .i32 height, .slice A l.length c, .int .u16 mat] w fun e w' => e = .returned (.bool true) ∧ Below w.heap.size w w' := by
  refine lawInputFault v lock A1 c1 ins A2 c2 outs height A c l mat w g1 l1 g2 l2 hR.1 hR.2.1 hr (fun i hi => ?_) (fun i hi => ?_) (bounds_i32 hh).2 (bounds_u16 hm)
  · rw [rd_coin l i hi]
    obtain ⟨⟨⟨h1, h2⟩, h3⟩, _⟩ := hV _ (List.getElem_mem hi)
    exact ⟨h1, h2, h3⟩
  · rw [rd_coin l i hi]
    exact (bounds_i32 (hV _ (List.getElem_mem hi)).2.2.1).2
end Go.Proofs.Ytdheoajaaofmbaa.QFnScriptPlaces
/- For all transactions, heights, coins and maturities the law FnInputFault (a transaction that is right by itself is refused just if something is wrong with what it spends, and its fee is what is left) returns true; conditions: none beyond the arguments being such. -/
namespace Go.Proofs.Ytdheoajaaofmbaa.fnInputFault
open Go.ChangeShapes Go.WideShapes Go.ChangeAt Go.RowKit Go.Proofs.YtdheoajaaofmbaaW.PrintWords 
open Go.ChangeMaps (open_string shut_string)
set_option linter.unusedVariables false
theorem own : ownKnob Try.prog.godebug = none := by kernel_rfl
theorem laidOut : laidOutB Try.prog = true := by kernel_rfl
def IsRow (k : IntKind) (w : World) (a : Option Addr) (len cap : Nat) (zs : List Int) : Prop :=
  (a = none ∧ len = 0 ∧ cap = 0 ∧ zs = []) ∨
  ∃ x, a = some x ∧ len ≤ cap ∧ cap ≤ maxLen ∧ zs.length = cap ∧ (∀ i, i < zs.length → w.cell? (x.add i) = some (.int k (zs.getD i 0))) ∧ ∀ n ∈ zs, (Lit.int k n).wf = true
set_option maxRecDepth 100000 in
theorem lifted (os : Os) (started : os.Started) (H : Type) (enc : TypeId × Value → H) :
    ReturnsInHanded {} Try.checked os 5 .any (Rows.fnInputFaultSpec.pre6 enc Try.prog Try.f5 Rows.fnInputFaultRow.domain false) (Rows.fnInputFaultSpec.post enc Try.prog Try.f5 false true false false) := by
  refine returnsInHanded_of_change_sized (C := Try.checked) own started (by kernel_rfl) Try.func5
    (ChangeSpec.witness6 (enc := enc) (C := Try.checked) false ⟨#[], #[.agg #[.int .i32 0, .slice none 0 0, .slice none 0 0, .int .u32 0], .int .i32 0, .slice none 0 0, .int .u16 0], []⟩ 8 (by kernel_rfl) (by kernel_rfl) (by kernel_rfl) (by kernel_rfl)) ?_
  intro W base args ds gs before hval0 hW hcnd hsz0 _
  have hsz : (DataW.weightsEach Try.prog (Try.f5.params.toList ++ Rows.fnInputFaultSpec.plain.varTypes Try.prog) (ds ++ gs)).all (· ≤ reachBytes) = true := hsz0
  have hval : ∀ (j : Nat) t v, Try.f5.params[j]? = some t → args[j]? = some v → Value.okWide Try.prog W .any base t v := hval0
  have hW' := hW
  obtain ⟨p, q, hA0, hV, rfl, hfz, hnd⟩ := hW
  have hA : DataW.TrodAll enc Try.prog W 0 (fun _ => true) true Try.f5.params.toList args.toList ds p := hA0
  rw [Try.params5] at hA hval hsz
  obtain ⟨v0, vs0, d0, ds0, p0, q0, hargs, rfl, rfl, h0, r0⟩ := trodAll_cons hA
  obtain ⟨v1, vs1, d1, ds1, p1, q1, rfl, rfl, rfl, h1, r1⟩ := trodAll_cons r0
  obtain ⟨v2, vs2, d2, ds2, p2, q2, rfl, rfl, rfl, h2, r2⟩ := trodAll_cons r1
  obtain ⟨v3, vs3, d3, ds3, p3, q3, rfl, rfl, rfl, h3, r3⟩ := trodAll_cons r2
  obtain ⟨rfl, rfl, rfl⟩ := trodAll_nil r3
  obtain rfl : args = #[v0, v1, v2, v3] := by cases args; simp_all
  obtain ⟨rfl, rfl⟩ := trodVars_none hV
  have k0 := h0
  have lt0 : ∀ x ∈ p0, x.block < W.heap.size := by obtain ⟨m, hm⟩ := k0; exact DataW.trod_lt m _ _ _ hm
  obtain ⟨cs0, rfl, _⟩ := okWide_struct Try.underlying26 (hval 0 26 v0 rfl rfl)
  obtain ⟨fuel0, hf0⟩ := h0
  obtain ⟨v, lock, ins, outs, A1, c1, A2, c2, hcs0, hR, m1, g1, m2, g2⟩ := Go.Proofs.Ytdheoajaaofmbaa.QFnScriptPlaces.opens_txA enc W 0 _ _ fuel0 _ _ hf0
  have hcs9 : cs0.toList = [.int .i32 v, .slice A1 ins.length c1, .slice A2 outs.length c2, .int .u32 lock] := hcs0
  obtain rfl : cs0 = #[.int .i32 v, .slice A1 ins.length c1, .slice A2 outs.length c2, .int .u32 lock] := by rw [← Array.toArray_toList (xs := cs0), hcs9]
  have k1 := h1
  have lt1 : ∀ x ∈ p1, x.block < W.heap.size := by obtain ⟨m, hm⟩ := k1; exact DataW.trod_lt m _ _ _ hm
  obtain ⟨a1, rfl, rfl, rfl, w1⟩ := open_int Try.underlying21 (hval 1 21 v1 rfl rfl) h1
  have k2 := h2
  have lt2 : ∀ x ∈ p2, x.block < W.heap.size := by obtain ⟨m, hm⟩ := k2; exact DataW.trod_lt m _ _ _ hm
  obtain ⟨a2, len2, cap2, rfl⟩ := okWide_slice Try.underlying44 (hval 2 44 v2 rfl rfl)
  obtain ⟨fuel2, hf2⟩ := h2
  obtain ⟨l2, hV2, A2, C2, hcs2, hc2, hr2⟩ := Go.Proofs.Ytdheoajaaofmbaa.QFnScriptPlaces.opens_coins enc W 0 _ _ fuel2 _ _ hf2
  have hcs2 : (Value.slice a2 len2 cap2).cells.toList = [.slice A2 l2.length C2] := hcs2
  simp [Value.cells] at hcs2
  obtain ⟨rfl, rfl, rfl⟩ := hcs2
  have k3 := h3
  have lt3 : ∀ x ∈ p3, x.block < W.heap.size := by obtain ⟨m, hm⟩ := k3; exact DataW.trod_lt m _ _ _ hm
  obtain ⟨a3, rfl, rfl, rfl, w3⟩ := open_int Try.underlying45 (hval 3 45 v3 rfl rfl) h3
  refine (Go.Proofs.Ytdheoajaaofmbaa.QFnScriptPlaces.walkInputFault v lock ins outs A1 c1 A2 c2 a1 w1 _ _ l2 a3 w3 W hR m1 g1 m2 g2 hV2 hr2).mono fun e W' ⟨he, bel⟩ => ?_
  subst he
  exact ⟨_, rfl, _, _, _, [], _, [], hW', trodAll_mk1 (shut_bool Try.underlying4 _), (trodAll_cons_mk (Below.trod laidOut (by kernel_rfl) (of_decide_eq_true (by kernel_rfl)) k0 bel lt0) (trodAll_cons_mk (Below.trod laidOut (by kernel_rfl) (of_decide_eq_true (by kernel_rfl)) k1 bel lt1) (trodAll_cons_mk (Below.trod laidOut (by kernel_rfl) (of_decide_eq_true (by kernel_rfl)) k2 bel lt2) (trodAll_cons_mk (Below.trod laidOut (by kernel_rfl) (of_decide_eq_true (by kernel_rfl)) k3 bel lt3) trodAll_mk0)))), rfl, bel.frame _, fun h => by cases h⟩
theorem over : Rows.fnInputFaultRow.holds Try.pinned (OpenSpec.ofChange Rows.fnInputFaultSpec) :=
  OpenClaim.holds_of_wide 5 Try.f5 rfl rfl rfl rfl rfl rfl rfl ⟨rfl, rfl, rfl, rfl, rfl⟩ rfl rfl rfl rfl rfl (by kernel_rfl) Try.func5 (by kernel_rfl)
    (of_decide_eq_true (by kernel_rfl)) (by unfold Func.isWrapper; first | (rw [if_pos (by decide +kernel)]; kernel_rfl) | (rw [if_neg (by decide +kernel)]; exact ⟨rfl, rfl⟩))
    (fun os started H enc _ => lifted os started H enc)
theorem proved : Rows.FnInputFaultSaid := over
#print axioms proved
end Go.Proofs.Ytdheoajaaofmbaa.fnInputFault
