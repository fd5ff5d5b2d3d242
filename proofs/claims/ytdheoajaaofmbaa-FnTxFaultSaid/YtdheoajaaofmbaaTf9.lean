/- A transaction by itself: the package's check, walked. -/
import Derived.Test.YtdheoajaaofmbaaTf8
import Derived.Maps.OwnSet
import Derived.Carry
namespace Go.Proofs.Ytdheoajaaofmbaa.QFnScriptPlaces
open Go.RowKit Go.Proofs.YtdheoajaaofmbaaW.PrintWords Go.Proofs.YtdheoajaaofmbaaW.PrintLast Go.Proofs.YtdheoajaaofmbaaW.PrintMore
set_option linter.unusedVariables false
set_option linter.unusedSimpArgs false
/-- What the package tells of a transaction. -/
def txFaultI (ins : List S35) (outs : List S41) : Int :=
  if ins.length = 0 then 15 else if outs.length = 0 then 16 else if 1000000 < baseI ins outs then 17 else if badV 0 outs = true then 18 else if sameP ins = true then 19
  else if isCoin ins = true then (if (decide (((scr0 ins).length : Int) < 2) || decide (100 < ((scr0 ins).length : Int))) = true then 31 else 0) else if anyNo ins = true then 20 else 0
theorem badV_drop (s : Int) (l : List S41) (i : Nat) (h : i < l.length) : badV s (l.drop i) = if (l[i]).f0 < 0 then true else if (l[i]).f0 > 2100000000000000 - s then true else badV (s + (l[i]).f0) (l.drop (i + 1)) := by
  rw [List.drop_eq_getElem_cons h]; rfl
theorem zero_unit : ∀ w : World, (zeroValue 120).run Try.prog w = .ok (.agg #[]) w := fun w => by kernel_rfl
set_option maxRecDepth 100000 in
set_option maxHeartbeats 16000000 in
theorem checkC (b g : Nat) (v lock : Int) (ins : List S35) (outs : List S41) (A1 : Option Addr) (c1 : Nat) (A2 : Option Addr) (c2 : Nat) (w : World) (hu : UTx w b g) (hm : Msg w g v lock ins outs A1 c1 A2 c2) (hf : TxFit ins outs) (hok : ∀ x ∈ ins, OpOk x.f0.f0 x.f0.f1) (hv : ∀ y ∈ outs, -9223372036854775808 ≤ y.f0 ∧ y.f0 ≤ 9223372036854775807) :
    Calls Try.prog 33 #[.pointer (some ⟨b, 0, none⟩)] w fun e w' => ∃ v0, e = .returned v0 ∧ ErrV (txFaultI ins outs) v0 ∧ Below w.heap.size w w' := by
  have HU := Aside0.mk hu
  have HM := Aside0.mk hm
  have HF := Aside0.mk hf
  have HOK := Aside0.mk hok
  have HV := Aside0.mk hv
  have kb1 := cell_of hm.blk (j := 1) (v := .slice A1 ins.length c1) rfl
  have kb2 := cell_of hm.blk (j := 2) (v := .slice A2 outs.length c2) rfl
  clear hu hm hf hok hv
  by_cases h1 : ins.length = 0
  · have HE : Aside0 (txFaultI ins outs = 15) := ⟨by unfold txFaultI; rw [if_pos h1]⟩
    rw [h1] at kb1
    clear h1
    go_enter Try.func33, Try.ntmps33
    go_wp2_with (first
      | (go_at_call 52; (with_reducible refine (msgTxC b g w HU.out).mono ?_); rintro e w2 ⟨rfl, rfl⟩)
      | (go_at_call 53; (with_reducible refine (ruleErrC _ _ _).mono ?_); rintro e w2 ⟨rfl, hb⟩; have HB := Aside0.mk hb; clear hb))
    go_ret
    exact ⟨_, rfl, by rw [HE.out]; exact Or.inr ⟨_, rfl⟩, HB.out⟩
  by_cases h2 : outs.length = 0
  · have HE : Aside0 (txFaultI ins outs = 16) := ⟨by unfold txFaultI; rw [if_neg h1, if_pos h2]⟩
    have h1a : ¬ ((ins.length : Int) = 0) := by omega
    have h1b : ((ins.length : Int) == 0) = false := beq_false_of_ne h1a
    rw [h2] at kb2
    clear h1 h2
    go_enter Try.func33, Try.ntmps33
    go_wp2_with (first
      | (go_at_call 52; (with_reducible refine (msgTxC b g w HU.out).mono ?_); rintro e w2 ⟨rfl, rfl⟩)
      | (go_at_call 53; (with_reducible refine (ruleErrC _ _ _).mono ?_); rintro e w2 ⟨rfl, hb⟩; have HB := Aside0.mk hb; clear hb))
    go_ret
    exact ⟨_, rfl, by rw [HE.out]; exact Or.inr ⟨_, rfl⟩, HB.out⟩
  have h1a : ¬ ((ins.length : Int) = 0) := by omega
  have h1b : ((ins.length : Int) == 0) = false := beq_false_of_ne h1a
  have h2a : ¬ ((outs.length : Int) = 0) := by omega
  have h2b : ((outs.length : Int) == 0) = false := beq_false_of_ne h2a
  have HE0 : Aside0 (txFaultI ins outs = if 1000000 < baseI ins outs then 17 else if badV 0 outs = true then 18 else if sameP ins = true then 19
    else if isCoin ins = true then (if (decide (((scr0 ins).length : Int) < 2) || decide (100 < ((scr0 ins).length : Int))) = true then 31 else 0) else if anyNo ins = true then 20 else 0) := ⟨by unfold txFaultI; rw [if_neg h1, if_neg h2]⟩
  obtain ⟨z, hz⟩ : ∃ z, baseI ins outs = z := ⟨_, rfl⟩
  have HZ := Aside0.mk hz
  have HP1 := Aside0.mk h1
  clear hz h1 h2
  by_cases h3 : 1000000 < z
  · have HE : Aside0 (txFaultI ins outs = 17) := ⟨by rw [HE0.out, HZ.out, if_pos h3]⟩
    go_enter Try.func33, Try.ntmps33
    go_wp2_with (first
      | (go_at_call 52; (with_reducible refine (msgTxC b g w HU.out).mono ?_); rintro e w2 ⟨rfl, rfl⟩)
      | (go_at_call 54; (with_reducible refine (strippedC g v lock ins outs A1 c1 A2 c2 w HM.out HF.out).mono ?_); rw [HZ.out]; rintro e w3 ⟨rfl, hb⟩; have HB := Aside0.mk hb; clear hb)
      | (go_at_call 53; (with_reducible refine (ruleErrC _ _ _).mono ?_); rintro e w4 ⟨rfl, hb⟩; have HB2 := Aside0.mk hb; clear hb))
    go_ret
    exact ⟨_, rfl, by rw [HE.out]; exact Or.inr ⟨_, rfl⟩, HB.out.trans (HB2.out.mono HB.out.size)⟩
  have HE1 : Aside0 (txFaultI ins outs = if badV 0 outs = true then 18 else if sameP ins = true then 19
    else if isCoin ins = true then (if (decide (((scr0 ins).length : Int) < 2) || decide (100 < ((scr0 ins).length : Int))) = true then 31 else 0) else if anyNo ins = true then 20 else 0) := ⟨by rw [HE0.out, HZ.out, if_neg h3]⟩
  clear HE0
  have hmm := @run_makeMap Try.prog
  go_enter Try.func33, Try.ntmps33
  go_upto_region 10 with (first
      | (go_at_call 52; (with_reducible refine (msgTxC b g w HU.out).mono ?_); rintro e w2 ⟨rfl, rfl⟩)
      | (go_at_call 54; (with_reducible refine (strippedC g v lock ins outs A1 c1 A2 c2 w HM.out HF.out).mono ?_); rw [HZ.out]; rintro e w3 ⟨rfl, hb⟩; have HB := Aside0.mk hb; clear hb))
  have HM3 := Aside0.mk (HM.out.below HB.out)
  have HU3 := Aside0.mk (HU.out.below HB.out)
  clear kb1 kb2 h1a h1b h2a h2b h3 HZ
  have kb2 := cell_of HM3.out.blk (j := 2) (v := .slice A2 outs.length c2) rfl
  go_wp2_with fail
  go_loopg [6, 54] (outs.length + 1) (fun kq p6 p54 w' => ∃ (i : Nat) (s : Int), p54 = .int .i64 (i : Int) ∧ p6 = .int .i64 s ∧ w' = w3 ∧ Aside0 (i ≤ outs.length ∧ outs.length + 1 ≤ i + kq) ∧ Aside0 (0 ≤ s ∧ s ≤ 2100000000000000) ∧ Aside0 (badV 0 outs = badV s (outs.drop i)))
  case atStart => exact ⟨0, 0, by rfl, by rfl, rfl, ⟨by omega⟩, ⟨by decide⟩, ⟨by rw [List.drop_zero]⟩⟩
  case round =>
    obtain ⟨i, s, rfl, rfl, rfl, HK, HS, HBD⟩ := hrel
    by_cases hlt : i < outs.length
    · have hi1 : (i : Int) < (outs.length : Int) := by omega
      obtain ⟨ad, g0, B1, d1, e1, hx, hx0, hx1, h8, h9⟩ := out_ptr HM3.out.g2 i rfl hlt
      subst e1
      clear hx1 h8 h9
      have HBE := Aside0.mk (badV_drop s outs i hlt)
      have HQ := Aside0.mk (HV.out _ (List.getElem_mem hlt))
      obtain ⟨q, hq⟩ : ∃ q, (outs[i]).f0 = q := ⟨_, rfl⟩
      rw [hq] at hx0 HBE HQ
      have hw1 : wrap64 ((i : Int) + 1) = ((i + 1 : Nat) : Int) := by have := HF.out.n2; unfold wrap64; omega
      have HHI := Aside0.mk hlt
      clear hq hlt
      by_cases c1 : q < 0
      · have HE : Aside0 (txFaultI ins outs = 18) := ⟨by rw [HE1.out, HBD.out, HBE.out, if_pos c1, if_pos rfl]⟩
        go_wp2_with (go_at_call 53; (with_reducible refine (ruleErrC _ _ _).mono ?_); rintro e w4 ⟨rfl, hb⟩; have HB2 := Aside0.mk hb; clear hb)
        go_ret
        exact ⟨_, rfl, by rw [HE.out]; exact Or.inr ⟨_, rfl⟩, HB.out.trans (HB2.out.mono HB.out.size)⟩
      by_cases c2 : q > 2100000000000000
      · have HE : Aside0 (txFaultI ins outs = 18) := ⟨by rw [HE1.out, HBD.out, HBE.out, if_neg c1, if_pos (show q > 2100000000000000 - s by have := HS.out; omega), if_pos rfl]⟩
        go_wp2_with (go_at_call 53; (with_reducible refine (ruleErrC _ _ _).mono ?_); rintro e w4 ⟨rfl, hb⟩; have HB2 := Aside0.mk hb; clear hb)
        go_ret
        exact ⟨_, rfl, by rw [HE.out]; exact Or.inr ⟨_, rfl⟩, HB.out.trans (HB2.out.mono HB.out.size)⟩
      have hq7 : wrap64 (s + q) = s + q := by have := HS.out; unfold wrap64; omega
      have c4 : ¬ (s + q < 0) := by have := HS.out; omega
      by_cases c3 : s + q > 2100000000000000
      · have HE : Aside0 (txFaultI ins outs = 18) := ⟨by rw [HE1.out, HBD.out, HBE.out, if_neg c1, if_pos (show q > 2100000000000000 - s by omega), if_pos rfl]⟩
        go_wp2_with (go_at_call 53; (with_reducible refine (ruleErrC _ _ _).mono ?_); rintro e w4 ⟨rfl, hb⟩; have HB2 := Aside0.mk hb; clear hb)
        go_ret
        exact ⟨_, rfl, by rw [HE.out]; exact Or.inr ⟨_, rfl⟩, HB.out.trans (HB2.out.mono HB.out.size)⟩
      · have HBF : Aside0 (badV 0 outs = badV (s + q) (outs.drop (i + 1))) := ⟨by rw [HBD.out, HBE.out, if_neg c1, if_neg (show ¬ q > 2100000000000000 - s by omega)]⟩
        have HS2 : Aside0 (0 ≤ s + q ∧ s + q ≤ 2100000000000000) := ⟨by omega⟩
        go_wp2_with fail
        go_roundg (gk - 1)
        case measure => exact meas1 HK.out HHI.out
        case rel => exact ⟨i + 1, s + q, by first | rfl | (rw [hw1]; done), by first | rfl | (rw [hq7]; done), rfl, ⟨meas2 HK.out HHI.out⟩, HS2, HBF⟩
    · have hi1 : ¬ (i : Int) < (outs.length : Int) := by omega
      have HE2 : Aside0 (txFaultI ins outs = if sameP ins = true then 19
        else if isCoin ins = true then (if (decide (((scr0 ins).length : Int) < 2) || decide (100 < ((scr0 ins).length : Int))) = true then 31 else 0) else if anyNo ins = true then 20 else 0) := ⟨by
        rw [HE1.out, HBD.out, List.drop_eq_nil_of_le (by omega)]; rfl⟩
      clear HE1 HBD HS HK kb2
      obtain ⟨w4, rfl⟩ : ∃ w4, w4 = wr := ⟨_, rfl⟩
      have kb1 := cell_of HM3.out.blk (j := 1) (v := .slice A1 ins.length c1) rfl
      have HOW := Aside0.mk (World.ownsMap_made (H := Unit) w4 Try.prog 102 unitElem)
      have HBM : Aside0 (Below w4.heap.size w4 (w4.alloc (.map #[] 0))) := ⟨below_alloc (Below.refl _ _) _⟩
      have HBL : Aside0 (w4.heap.size < (w4.alloc (.map #[] 0)).heap.size) := ⟨by simp⟩
      have kb3 := pw_cell_below HBM.out kb1
      go_upto_region 30 with fail
      obtain ⟨mb, hmb⟩ : ∃ n, w4.heap.size = n := ⟨_, rfl⟩
      rw [hmb] at HOW HBL ⊢
      have HMB := Aside0.mk hmb
      clear hmb kb1
      generalize w4.alloc (.map #[] 0) = w5 at *
      go_wp2_with fail
      go_loopg [92] (ins.length + 1) (fun kq p92 w' => ∃ (i : Nat) (D : DataW Unit), p92 = .int .i64 (i : Int) ∧ Aside0 (i ≤ ins.length ∧ ins.length + 1 ≤ i + kq) ∧ Aside0 (Below w4.heap.size w4 w') ∧ Aside0 (w'.ownsMap Try.prog 102 unitElem mb i D) ∧ Aside0 (Maps.IsMap D) ∧ Aside0 (∀ h n, OpOk h n → Maps.has D (opL h n) = decide ((h, n) ∈ (ins.take i).map opOf)) ∧ Aside0 ((ins.take i).map opOf).Nodup)
      case atStart => exact ⟨0, .map [], by rfl, ⟨by omega⟩, HBM, HOW, ⟨Maps.isMap_empty⟩, ⟨fun h n _ => by simp [Maps.has]⟩, ⟨by simp⟩⟩
      case round =>
        clear kb3
        obtain ⟨i, D, rfl, HK, HWB, HO, HIM, HAS, HND⟩ := hrel
        have HM5 := Aside0.mk (HM3.out.below HWB.out)
        by_cases hlt : i < ins.length
        · have hi1 : (i : Int) < (ins.length : Int) := by omega
          obtain ⟨ad, g0, B1, d1, e1, hx, h32, hc, h9⟩ := in_ptrH HM5.out.g1 i rfl hlt
          subst e1
          have k0 := HOK.out _ (List.getElem_mem hlt)
          have HKE := Aside0.mk (keyOf_op2 k0)
          have HKK := Aside0.mk k0
          have HTK : Aside0 ((ins.take (i + 1)).map opOf = (ins.take i).map opOf ++ [((ins[i]).f0.f0, (ins[i]).f0.f1)]) := ⟨by rw [List.take_succ_eq_append_getElem hlt, List.map_append]; rfl⟩
          have HDUP : Aside0 (((ins[i]).f0.f0, (ins[i]).f0.f1) ∈ (ins.take i).map opOf → sameP ins = true) := ⟨fun hm => by
            obtain ⟨y, hy, he⟩ := List.mem_map.1 hm
            obtain ⟨k, hk, hyk⟩ := List.mem_iff_getElem.1 hy
            rw [List.length_take] at hk
            rw [List.getElem_take] at hyk
            exact sameP_true hlt (k := k) (by omega) (by rw [hyk]; exact he.symm)⟩
          have HHA := Aside0.mk (HAS.out _ _ k0)
          have HCL : Aside0 ((opC (ins[i]).f0.f0 (ins[i]).f0.f1).length = 33) := ⟨opC_len k0.l _⟩
          have HCC : Aside0 (∀ j u, (opC (ins[i]).f0.f0 (ins[i]).f0.f1)[j]? = some u → wr.cell? ((⟨g0, 0, none⟩ : Addr).add j) = some u) := ⟨fun j u hj => by rw [add_plain]; exact hc j u hj⟩
          have hw1 : wrap64 ((i : Int) + 1) = ((i + 1 : Nat) : Int) := by have := HF.out.n1; unfold wrap64; omega
          have HHI := Aside0.mk hlt
          have HCS : Aside0 (∀ h n, OpOk h n → Maps.has (D.put (opL (ins[i]).f0.f0 (ins[i]).f0.f1) (.agg [])) (opL h n) = decide ((h, n) ∈ (ins.take (i + 1)).map opOf)) := ⟨fun h n kk => by
            rw [HTK.out]
            by_cases e : opL h n = opL (ins[i]).f0.f0 (ins[i]).f0.f1
            · rw [e, Maps.has_put_same HIM.out (opKeyed.key (keyOf_op2 k0))]
              obtain ⟨e1, e2⟩ := (opL_iff kk k0).1 e
              subst e1 e2
              simp
            · rw [Maps.has_put_other e, HAS.out h n kk]
              have hne : ¬ ((h, n) = ((ins[i]).f0.f0, (ins[i]).f0.f1)) := fun q => e (by rw [Prod.mk.injEq] at q; rw [q.1, q.2])
              simp only [List.mem_append, List.mem_singleton, hne, or_false]⟩
          obtain ⟨ph, hph⟩ : ∃ h, (ins[i]).f0.f0 = h := ⟨_, rfl⟩
          obtain ⟨pn, hpn⟩ : ∃ n, (ins[i]).f0.f1 = n := ⟨_, rfl⟩
          rw [hph, hpn] at HKE HTK HDUP HHA HCL HCC HCS
          clear hc h9 h32 k0 hph hpn hlt HKK
          obtain ⟨ks, hks⟩ : ∃ l, opC ph pn = l := ⟨_, rfl⟩
          rw [hks] at HKE HCL HCC
          clear hks
          obtain ⟨bm, hbm⟩ : ∃ b, decide ((ph, pn) ∈ (ins.take i).map opOf) = b := ⟨_, rfl⟩
          rw [hbm] at HHA
          have HBM2 := Aside0.mk hbm
          clear hbm
          go_upto_if 105 with (first
            | ((with_reducible refine at_dst (N := 101) rfl ?_); refine wpList_load_at rfl 102 (.tmp 100) rfl ⟨g0, 0, none⟩ rfl ks _ HCC.out Try.underlying102 rfl (by rw [HCL.out]; exact sizeOw) ?_)
            | ((with_reducible refine at_dst (N := 102) rfl ?_); refine wpList_lookup_own_unit (H := Unit) _ rfl (.tmp 97) (.tmp 101) 119 rfl 102 120 opKeyed Try.underlying119 (zero_unit _) mb i D rfl HO.out _ _ rfl HKE.out ?_; rw [HHA.out]))
          obtain ⟨w6, hw6⟩ : ∃ x, wr.alloc (.cells #[] 120) = x := ⟨_, rfl⟩
          have HO6 : Aside0 (w6.ownsMap Try.prog 102 unitElem mb i D) := ⟨by rw [← hw6]; exact HO.out.alloc _⟩
          have HB6 : Aside0 (Below w4.heap.size w4 w6) := ⟨by rw [← hw6]; exact HWB.out.trans ((below_alloc (Below.refl _ _) _).mono HWB.out.size)⟩
          have HCC6 : Aside0 (∀ j u, ks[j]? = some u → w6.cell? ((⟨g0, 0, none⟩ : Addr).add j) = some u) := ⟨fun j u hj => by rw [← hw6]; exact pw_cell_below (below_alloc (Below.refl _ _) _) (HCC.out j u hj)⟩
          rw [hw6]
          clear hw6 hx
          cases bm
          · go_wp2_with (first
              | ((with_reducible refine at_dst (N := 112) rfl ?_); refine wpList_load_at rfl 102 (.tmp 111) rfl ⟨g0, 0, none⟩ rfl ks _ HCC6.out Try.underlying102 rfl (by rw [HCL.out]; exact sizeOw) ?_)
              | (at_mapUpdate; refine wpList_mapUpdate_own (H := Unit) _ rfl (.tmp 108) (.tmp 112) (.tmp 113) 119 rfl 102 120 opKeyed Try.underlying119 unitElem mb i D rfl HO6.out ?hn _ _ _ rfl rfl HKE.out (.agg []) [] unitElem_mk ?_; (case hn => have := HF.out.n1; have := HHI.out; unfold maxLen; omega); intro w7 ho hg; have HO7 := Aside0.mk ho; have HB7 := Aside0.mk (HB6.out.grown hg HB6.out.size (fun k hk => by injection hk with hk; have := HMB.out; omega)); clear ho hg))
            go_roundg (gk - 1)
            case measure => exact meas1 HK.out HHI.out
            case rel => exact ⟨i + 1, _, by first | rfl | (rw [hw1]; done), ⟨meas2 HK.out HHI.out⟩, HB7, HO7, ⟨HIM.out.put _ _⟩, HCS, ⟨by rw [HTK.out]; exact List.nodup_append.2 ⟨HND.out, by simp, fun a ha b hb => by rw [List.mem_singleton.1 hb]; intro e; subst e; exact of_decide_eq_false HBM2.out ha⟩⟩⟩
          · have HE : Aside0 (txFaultI ins outs = 19) := ⟨by rw [HE2.out, HDUP.out (of_decide_eq_true HBM2.out), if_pos rfl]⟩
            go_wp2_with (go_at_call 53; (with_reducible refine (ruleErrC _ _ _).mono ?_); rintro e w8 ⟨rfl, hb⟩; have HB2 := Aside0.mk hb; clear hb)
            go_ret
            exact ⟨_, rfl, by rw [HE.out]; exact Or.inr ⟨_, rfl⟩, HB.out.trans ((HB6.out.trans (HB2.out.mono HB6.out.size)).mono HB.out.size)⟩
        · have hi2 : ¬ (i : Int) < (ins.length : Int) := by omega
          have HSP : Aside0 (sameP ins = false) := ⟨by
            have h := HND.out
            rw [List.take_of_length_le (by omega)] at h
            unfold sameP
            rw [decide_eq_true h]; rfl⟩
          have HE3 : Aside0 (txFaultI ins outs = if isCoin ins = true then (if (decide (((scr0 ins).length : Int) < 2) || decide (100 < ((scr0 ins).length : Int))) = true then 31 else 0) else if anyNo ins = true then 20 else 0) := ⟨by
            rw [HE2.out, HSP.out]; rfl⟩
          have HU5 := Aside0.mk (HU3.out.below HWB.out)
          have HB9 : Aside0 (Below w.heap.size w wr) := ⟨HB.out.trans (HWB.out.mono HB.out.size)⟩
          clear HE2 HSP HND HAS HIM HO HOW HBL HBM HK
          obtain ⟨bc, hbc⟩ : ∃ x, isCoin ins = x := ⟨_, rfl⟩
          have HBC := Aside0.mk hbc
          have HIS : Aside0 (Calls Try.prog 55 #[.pointer (some ⟨b, 0, none⟩)] wr fun e w' => e = .returned (.bool bc) ∧ wr = w') := ⟨by rw [← hbc]; exact coinUC b g v lock ins outs A1 c1 A2 c2 wr HU5.out HM5.out HOK.out⟩
          clear hbc
          go_upto_if 116 with (go_at_call 55; (with_reducible refine HIS.out.mono ?_); rintro e w8 ⟨rfl, rfl⟩)
          have kb5 := cell_of HM5.out.blk (j := 1) (v := .slice A1 ins.length c1) rfl
          cases bc
          · have HE4 : Aside0 (txFaultI ins outs = if anyNo ins = true then 20 else 0) := ⟨by rw [HE3.out, HBC.out]; rfl⟩
            clear HE3
            obtain ⟨w9, rfl⟩ : ∃ w9, w9 = wr := ⟨_, rfl⟩
            go_wp2_with fail
            go_loopg [141] (ins.length + 1) (fun kq p141 w' => ∃ i : Nat, p141 = .int .i64 (i : Int) ∧ w' = w9 ∧ Aside0 (i ≤ ins.length ∧ ins.length + 1 ≤ i + kq) ∧ Aside0 (anyNo (ins.take i) = false))
            case atStart => exact ⟨0, by rfl, rfl, ⟨by omega⟩, ⟨rfl⟩⟩
            case round =>
              obtain ⟨i, rfl, rfl, HK, HAN⟩ := hrel
              by_cases hlt : i < ins.length
              · have hi1 : (i : Int) < (ins.length : Int) := by omega
                obtain ⟨ad, g0, B1, d1, e1, hx, h32, hc, h9⟩ := in_ptrH HM5.out.g1 i rfl hlt
                subst e1
                have k0 := HOK.out _ (List.getElem_mem hlt)
                have HSN := Aside0.mk (anyNo_snoc ins i hlt)
                obtain ⟨bn, hbn⟩ : ∃ x, isNo (ins[i]).f0.f0 (ins[i]).f0.f1 = x := ⟨_, rfl⟩
                have HN : Aside0 (Calls Try.prog 56 #[.pointer (some ⟨g0, 0, none⟩)] wr fun e w' => e = .returned (.bool bn) ∧ wr = w') := ⟨by rw [← hbn]; exact isNullC g0 _ _ k0 wr hc⟩
                rw [hbn, HAN.out] at HSN
                have hw1 : wrap64 ((i : Int) + 1) = ((i + 1 : Nat) : Int) := by have := HF.out.n1; unfold wrap64; omega
                have HHI := Aside0.mk hlt
                have HAY : Aside0 (bn = true → anyNo ins = true) := ⟨fun e => by
                  unfold anyNo
                  exact List.any_eq_true.2 ⟨_, List.getElem_mem hlt, by rw [hbn, e]⟩⟩
                clear hc h9 h32 k0 hbn hlt
                cases bn
                · go_wp2_with (go_at_call 56; (with_reducible refine HN.out.mono ?_); rintro e w10 ⟨rfl, rfl⟩)
                  go_roundg (gk - 1)
                  case measure => exact meas1 HK.out HHI.out
                  case rel => exact ⟨i + 1, by first | rfl | (rw [hw1]; done), rfl, ⟨meas2 HK.out HHI.out⟩, ⟨by rw [HSN.out]; rfl⟩⟩
                · have HE : Aside0 (txFaultI ins outs = 20) := ⟨by rw [HE4.out, HAY.out rfl, if_pos rfl]⟩
                  go_wp2_with (first | (go_at_call 56; (with_reducible refine HN.out.mono ?_); rintro e w10 ⟨rfl, rfl⟩) | (go_at_call 53; (with_reducible refine (ruleErrC _ _ _).mono ?_); rintro e w8 ⟨rfl, hb⟩; have HB2 := Aside0.mk hb; clear hb))
                  go_ret
                  exact ⟨_, rfl, by rw [HE.out]; exact Or.inr ⟨_, rfl⟩, HB9.out.trans (HB2.out.mono HB9.out.size)⟩
              · have hi1 : ¬ (i : Int) < (ins.length : Int) := by omega
                have HE : Aside0 (txFaultI ins outs = 0) := ⟨by
                  have h := HAN.out
                  rw [List.take_of_length_le (by omega)] at h
                  rw [HE4.out, h]; rfl⟩
                go_wp2_with fail
                go_ret
                exact ⟨_, rfl, by rw [HE.out]; exact Or.inl ⟨rfl, rfl⟩, HB9.out⟩
          · obtain ⟨x, hx1⟩ := isCoin_one HBC.out
            have hl1 : ins.length = 1 := by rw [hx1]; rfl
            obtain ⟨ad, g0, B1, d1, e1, hx, h32, hc, h33⟩ := in_ptrH HM5.out.g1 0 rfl (by omega)
            subst e1
            have hx0 : wr.cell? ad = some (.pointer (some ⟨g0, 0, none⟩)) := by have h := hx; simpa [Addr.add] using h
            have hsc : (scr0 ins).length = (ins[0]).f1.length := by subst hx1; rfl
            obtain ⟨n, hn⟩ : ∃ n, (ins[0]).f1.length = n := ⟨_, rfl⟩
            have HN9 : Aside0 (n ≤ 1000000) := ⟨by rw [← hn]; exact (HF.out.i1 _ (List.getElem_mem _)).1⟩
            rw [hn] at h33 hsc
            rw [hl1] at kb5
            have HE4 : Aside0 (txFaultI ins outs = if (decide ((n : Int) < 2) || decide (100 < (n : Int))) = true then 31 else 0) := ⟨by rw [HE3.out, HBC.out, hsc]; rfl⟩
            clear hc h32 hx hn hsc hl1 hx1 HE3 HIS hi1 hi2
            by_cases c1 : (n : Int) < 2
            · have HE : Aside0 (txFaultI ins outs = 31) := ⟨by rw [HE4.out]; simp [c1]⟩
              go_wp2_with (go_at_call 53; (with_reducible refine (ruleErrC _ _ _).mono ?_); rintro e w4 ⟨rfl, hb⟩; have HB2 := Aside0.mk hb; clear hb)
              go_ret
              exact ⟨_, rfl, by rw [HE.out]; exact Or.inr ⟨_, rfl⟩, HB9.out.trans (HB2.out.mono HB9.out.size)⟩
            by_cases c2 : 100 < (n : Int)
            · have HE : Aside0 (txFaultI ins outs = 31) := ⟨by rw [HE4.out]; simp [c2]⟩
              go_wp2_with (go_at_call 53; (with_reducible refine (ruleErrC _ _ _).mono ?_); rintro e w4 ⟨rfl, hb⟩; have HB2 := Aside0.mk hb; clear hb)
              go_ret
              exact ⟨_, rfl, by rw [HE.out]; exact Or.inr ⟨_, rfl⟩, HB9.out.trans (HB2.out.mono HB9.out.size)⟩
            · have HE : Aside0 (txFaultI ins outs = 0) := ⟨by rw [HE4.out]; simp [c1, c2]⟩
              go_wp2_with fail
              go_ret
              exact ⟨_, rfl, by rw [HE.out]; exact Or.inl ⟨rfl, rfl⟩, HB9.out⟩
end Go.Proofs.Ytdheoajaaofmbaa.QFnScriptPlaces
