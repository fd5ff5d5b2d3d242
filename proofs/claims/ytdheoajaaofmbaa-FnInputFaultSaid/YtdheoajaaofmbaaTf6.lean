/- spec.TxFaults: the walk. -/
import Derived.Test.YtdheoajaaofmbaaTf5
import Derived.Test.YtdheoajaaofmbaaTxA
namespace Go.Proofs.Ytdheoajaaofmbaa.QFnScriptPlaces
open Go.RowKit Go.Proofs.YtdheoajaaofmbaaW.PrintWords Go.Proofs.YtdheoajaaofmbaaW.PrintLast Go.Proofs.YtdheoajaaofmbaaW.PrintMore
set_option linter.unusedVariables false
set_option linter.unusedSimpArgs false
def badV : Int → List S41 → Bool
  | _, [] => false
  | s, y :: ys => if y.f0 < 0 then true else if y.f0 > 2100000000000000 - s then true else badV (s + y.f0) ys
theorem ev_bad (l : List S41) (hl : l.length ≤ 1000000) : Ev (fun k => spec_badValues.f k l) (badV 0 l) := by
  have key : ∀ d (i : Nat) (s : Int), i + d = l.length → 0 ≤ s → s ≤ 2100000000000000 → Ev (fun k => spec_badValues.l0 k l s (i : Int)) (badV s (l.drop i)) := by
    intro d
    induction d with
    | zero =>
      intro i s hi _ _
      rw [List.drop_eq_nil_of_le (by omega)]
      refine Ev.step (f := fun _ => some false) (fun k => ?_) (Ev.now _)
      rw [spec_badValues.l0, if_neg (by omega)]
    | succ d ih =>
      intro i s hi h0 h1
      have hil : i < l.length := by omega
      rw [List.drop_eq_getElem_cons hil]
      obtain ⟨y, hy⟩ : ∃ y, l[i] = y := ⟨_, rfl⟩
      have hrd := (rd_out i hil).trans hy
      rw [hy]
      unfold badV
      by_cases c1 : y.f0 < 0
      · rw [if_pos c1]
        refine Ev.step (f := fun _ => some true) (fun k => ?_) (Ev.now _)
        rw [spec_badValues.l0, if_pos (by omega), if_pos (by omega), hrd, if_pos c1]
      by_cases c2 : y.f0 > 2100000000000000 - s
      · rw [if_neg c1, if_pos c2]
        refine Ev.step (f := fun _ => some true) (fun k => ?_) (Ev.now _)
        rw [spec_badValues.l0, if_pos (by omega), if_pos (by omega), hrd, if_neg c1, ln64 _ (by omega) (by omega), if_pos c2]
      · rw [if_neg c1, if_neg c2]
        refine Ev.step (fun k => ?_) (ih (i + 1) (s + y.f0) (by omega) (by omega) (by omega))
        rw [spec_badValues.l0, if_pos (by omega), if_pos (by omega), hrd, if_neg c1, ln64 (2100000000000000 - s) (by omega) (by omega), if_neg c2, ln64 _ (by omega) (by omega), ln64 _ (by omega) (by omega)]
        rfl
  have h := key l.length 0 0 (by omega) (by decide) (by decide)
  rw [List.drop_zero] at h
  exact Ev.congr (fun k => by unfold spec_badValues.f; rfl) h
theorem Kept1.below {w0 W W1 : World} {g : Nat} {l : List Int} (h : Kept1 w0 W g l) (hb : Below W.heap.size W W1) : Kept1 w0 W1 g l := by
  obtain ⟨v, hg, hr⟩ := h.row
  exact ⟨⟨v, (hb.block _ (blk_lt' hg)).trans hg, Kd.R_below hr hb⟩, h.low.trans (hb.mono h.low.size), h.lt⟩
def addL (b : Bool) (n : Int) (l : List Int) : List Int := if b = true then l ++ [n] else l
theorem addL_len (b : Bool) (n : Int) (l : List Int) : (addL b n l).length ≤ l.length + 1 := by unfold addL; split <;> simp
def base5 (v lock : Int) (ins : List S35) (outs : List S41) : List Int :=
  addL (sameP ins) 19 (addL (badV 0 outs) 18 (addL (decide (1000000 < ((txB false v lock ins outs).length : Int))) 17 (addL ((outs.length : Int) == 0) 16 (addL ((ins.length : Int) == 0) 15 []))))
def anyNo (ins : List S35) : Bool := ins.any fun x => isNo x.f0.f0 x.f0.f1
theorem anyNo_snoc (l : List S35) (i : Nat) (h : i < l.length) : anyNo (l.take (i + 1)) = (anyNo (l.take i) || isNo l[i].f0.f0 l[i].f0.f1) := by
  unfold anyNo
  rw [List.take_succ_eq_append_getElem h, List.any_append]; simp
def scr0 : List S35 → List Int
  | x :: _ => x.f1
  | [] => []
theorem isCoin_one {ins : List S35} (h : isCoin ins = true) : ∃ x, ins = [x] := by
  match ins, h with
  | [x], _ => exact ⟨x, rfl⟩
  | [], h => cases h
  | _ :: _ :: _, h => cases h
/-- All that is wrong with a transaction. -/
def faultsF (v lock : Int) (ins : List S35) (outs : List S41) : List Int :=
  if isCoin ins = true then addL (decide (((scr0 ins).length : Int) < 2) || decide (100 < ((scr0 ins).length : Int))) 31 (base5 v lock ins outs) else addL (anyNo ins) 20 (base5 v lock ins outs)
set_option maxRecDepth 100000 in
set_option maxHeartbeats 8000000 in
theorem faultsC (v lock : Int) (Ai : Option Addr) (ci : Nat) (ins : List S35) (Ao : Option Addr) (co : Nat) (outs : List S41) (w : World) (hi : Kd.C k35 w Ai ins.length ins) (hci : ins.length ≤ ci) (ho : Kd.C k41 w Ao outs.length outs) (hco : outs.length ≤ co) (hr : RawT ins lock) (hz9 : sI ins + sO outs ≤ 100000) (hok : ∀ x ∈ ins, OpOk x.f0.f0 x.f0.f1) :
    Calls Try.prog 16 #[.agg #[.int .i32 v, .slice Ai ins.length ci, .slice Ao outs.length co, .int .u32 lock]] w fun e w' => ∃ v0_ : Value, e = .returned (v0_) ∧ Kd.R (Kd.int .i64) 3 w' w.heap.size (fun _ => True) v0_ (faultsF v lock ins outs) ∧ Below w.heap.size w w' := by
  have hmf : ∀ (fn : Fn) (first cap : Array Value) (w : World), (Instr.makeFunc fn first cap).run Try.prog w = .ok (.func fn first cap) w := fun _ _ _ _ => rfl
  go_enter Try.func16, Try.ntmps16
  have hz : (w.alloc (.cells #[.int .i32 v, .slice Ai ins.length ci, .slice Ao outs.length co, .int .u32 lock] 26)).heap.size = w.heap.size + 1 := by simp
  have HBX := Aside0.mk (heap_alloc_new w (.cells #[.int .i32 v, .slice Ai ins.length ci, .slice Ao outs.length co, .int .u32 lock] 26))
  have HBW : Aside0 (Below w.heap.size w (w.alloc (.cells #[.int .i32 v, .slice Ai ins.length ci, .slice Ao outs.length co, .int .u32 lock] 26))) := ⟨below_alloc (Below.refl _ _) _⟩
  have HK0 : Aside0 (∀ wb, w.alloc (.cells #[.int .i32 v, .slice Ai ins.length ci, .slice Ao outs.length co, .int .u32 lock] 26) = wb → Kept1 wb (wb.alloc (.cells #[.slice none 0 0] 36)) (w.heap.size + 1) []) := ⟨fun wb hwb => ⟨⟨_, by
      have h := heap_alloc_new wb (.cells #[.slice none 0 0] 36)
      have hs : wb.heap.size = w.heap.size + 1 := by rw [← hwb, hz]
      rw [hs] at h
      exact h, Kd.R_nil _ _ _ _ _⟩, below_alloc (Below.refl _ _) _, by rw [← hwb, hz]; exact Nat.le_refl _⟩⟩
  go_upto_region 3 with fail
  obtain ⟨wb, hwb⟩ : ∃ wb, w.alloc (.cells #[.int .i32 v, .slice Ai ins.length ci, .slice Ao outs.length co, .int .u32 lock] 26) = wb := ⟨_, rfl⟩
  have HK0 := Aside0.mk (HK0.out wb hwb)
  rw [hwb] at HBX HBW hz ⊢
  have hx1 := cell_of ((HK0.out.low.block _ (blk_lt' HBX.out)).trans HBX.out) (j := 1) (v := .slice Ai ins.length ci) rfl
  generalize wb.alloc (.cells #[.slice none 0 0] 36) = w1 at *
  go_upto_region 4 with (go_at_call 35; (with_reducible refine (addC _ 15 (w.heap.size + 1) [] wb _ HK0.out (by decide)).mono ?_); rintro e w2 ⟨rfl, hk⟩; have HK1 := Aside0.mk hk; clear hk)
  obtain ⟨l1, hl1⟩ : ∃ l, (if ((ins.length : Int) == 0) = true then [] ++ [15] else ([] : List Int)) = l := ⟨_, rfl⟩
  have HL1 := Aside0.mk hl1
  have HN1 : Aside0 (l1.length ≤ 1) := ⟨by rw [← hl1]; split <;> decide⟩
  rw [hl1] at HK1
  clear hl1 hx1
  have hx2 := cell_of ((HK1.out.low.block _ (blk_lt' HBX.out)).trans HBX.out) (j := 2) (v := .slice Ao outs.length co) rfl
  go_upto_region 5 with (go_at_call 35; (with_reducible refine (addC _ 16 (w.heap.size + 1) l1 wb _ HK1.out (by have := HN1.out; omega)).mono ?_); rintro e w3 ⟨rfl, hk⟩; have HK2 := Aside0.mk hk; clear hk)
  obtain ⟨l2, hl2⟩ : ∃ l, (if ((outs.length : Int) == 0) = true then l1 ++ [16] else l1) = l := ⟨_, rfl⟩
  have HL2 := Aside0.mk hl2
  have HN2 : Aside0 (l2.length ≤ 2) := ⟨by have := HN1.out; rw [← hl2]; split <;> simp <;> omega⟩
  rw [hl2] at HK2
  clear hl2 hx2
  obtain ⟨kb, hkb⟩ := (ev_txBf v lock ins outs hr hz9).rounds
  have HKB := Aside0.mk hkb
  obtain ⟨tb, htb⟩ : ∃ t, txB false v lock ins outs = t := ⟨_, rfl⟩
  rw [htb] at HKB
  clear hkb
  have hbb := (HK2.out.low.block _ (blk_lt' HBX.out)).trans HBX.out
  have hx0 := cell_of hbb (j := 0) (v := .int .i32 v) rfl
  have hx1 := cell_of hbb (j := 1) (v := .slice Ai ins.length ci) rfl
  have hx2 := cell_of hbb (j := 2) (v := .slice Ao outs.length co) rfl
  have hx3 := cell_of hbb (j := 3) (v := .int .u32 lock) rfl
  clear hbb
  go_upto_region 6 with (first
    | (go_at_call 10; (with_reducible refine (spec_TxBytes.calls kb v Ai ci ins Ao co outs lock false tb _ (Kd.C_below hi (HBW.out.trans (HK2.out.low.mono HBW.out.size))) hci (Kd.C_below ho (HBW.out.trans (HK2.out.low.mono HBW.out.size))) hco HKB.out).mono ?_); rintro e w4 ⟨v4, rfl, hr4, hb4⟩; (obtain ⟨A4, c4, e4⟩ := Kd.R_slice hr4); subst e4; have HK3 := Aside0.mk (HK2.out.below hb4); clear hr4 hb4)
    | (go_at_call 35; (with_reducible refine (addC _ 17 (w.heap.size + 1) l2 wb _ HK3.out (by have := HN2.out; omega)).mono ?_); rintro e w5 ⟨rfl, hk⟩; have HK4 := Aside0.mk hk; clear hk))
  obtain ⟨l3, hl3⟩ : ∃ l, (if decide (1000000 < (tb.length : Int)) = true then l2 ++ [17] else l2) = l := ⟨_, rfl⟩
  have HL3 := Aside0.mk hl3
  have HN3 : Aside0 (l3.length ≤ 3) := ⟨by have := HN2.out; rw [← hl3]; split <;> simp <;> omega⟩
  rw [hl3] at HK4
  clear hl3 hx0 hx1 hx2 hx3
  have hx2 := cell_of ((HK4.out.low.block _ (blk_lt' HBX.out)).trans HBX.out) (j := 2) (v := .slice Ao outs.length co) rfl
  obtain ⟨kv, hkv⟩ := (ev_bad outs (fit_of_size hz9).n2).rounds
  have HKV := Aside0.mk hkv
  obtain ⟨bv, hbv⟩ : ∃ t, badV 0 outs = t := ⟨_, rfl⟩
  rw [hbv] at HKV
  clear hkv
  go_upto_region 7 with (first
    | (go_at_call 36; (with_reducible refine (spec_badValues.calls kv Ao co outs bv _ (Kd.C_below ho (HBW.out.trans (HK4.out.low.mono HBW.out.size))) hco HKV.out).mono ?_); rintro e w6 ⟨rfl, hd⟩; have HK5 := Aside0.mk (HK4.out.below hd.below); clear hd)
    | (go_at_call 35; (with_reducible refine (addC bv 18 (w.heap.size + 1) l3 wb _ HK5.out (by have := HN3.out; omega)).mono ?_); rintro e w7 ⟨rfl, hk⟩; have HK6 := Aside0.mk hk; clear hk))
  obtain ⟨l4, hl4⟩ : ∃ l, (if bv = true then l3 ++ [18] else l3) = l := ⟨_, rfl⟩
  have HL4 := Aside0.mk hl4
  have HN4 : Aside0 (l4.length ≤ 4) := ⟨by have := HN3.out; rw [← hl4]; split <;> simp <;> omega⟩
  rw [hl4] at HK6
  clear hl4 hx2
  have hx1 := cell_of ((HK6.out.low.block _ (blk_lt' HBX.out)).trans HBX.out) (j := 1) (v := .slice Ai ins.length ci) rfl
  go_upto_region 8 with (first
    | (go_at_call 37; (with_reducible refine (sameInC Ai ci ins _ (Kd.C_below hi (HBW.out.trans (HK6.out.low.mono HBW.out.size))) (fit_of_size hz9).n1 hok).mono ?_); rintro e w8 ⟨rfl, hd⟩; have HK7 := Aside0.mk (HK6.out.below hd); clear hd)
    | (go_at_call 35; (with_reducible refine (addC (sameP ins) 19 (w.heap.size + 1) l4 wb _ HK7.out (by have := HN4.out; omega)).mono ?_); rintro e w9 ⟨rfl, hk⟩; have HK8 := Aside0.mk hk; clear hk))
  obtain ⟨l5, hl5⟩ : ∃ l, (if sameP ins = true then l4 ++ [19] else l4) = l := ⟨_, rfl⟩
  have HL5 := Aside0.mk hl5
  have HN5 : Aside0 (l5.length ≤ 5) := ⟨by have := HN4.out; rw [← hl5]; split <;> simp <;> omega⟩
  rw [hl5] at HK8
  clear hl5 hx1
  have hbb := (HK8.out.low.block _ (blk_lt' HBX.out)).trans HBX.out
  have hx0 := cell_of hbb (j := 0) (v := .int .i32 v) rfl
  have hx1 := cell_of hbb (j := 1) (v := .slice Ai ins.length ci) rfl
  have hx2 := cell_of hbb (j := 2) (v := .slice Ao outs.length co) rfl
  have hx3 := cell_of hbb (j := 3) (v := .int .u32 lock) rfl
  clear hbb
  have HBASE : Aside0 (l5 = base5 v lock ins outs) := ⟨by rw [← HL5.out, ← HL4.out, ← HL3.out, ← HL2.out, ← HL1.out, ← hbv, ← htb]; rfl⟩
  obtain ⟨bc, hbc⟩ : ∃ b, isCoin ins = b := ⟨_, rfl⟩
  have HBC := Aside0.mk hbc
  have HIS : Aside0 (∀ W, Kd.C k35 W Ai ins.length ins → Calls Try.prog 38 #[.agg #[.int .i32 v, .slice Ai ins.length ci, .slice Ao outs.length co, .int .u32 lock]] W fun e w' => e = .returned (.bool bc) ∧ Below W.heap.size W w') := ⟨fun W hW => by rw [← hbc]; exact isCoinC v lock Ai ci ins Ao co outs W hW hok⟩
  have HHI := Aside0.mk hi
  have HOK := Aside0.mk hok
  have HNI := Aside0.mk (fit_of_size hz9).n1
  clear hbv htb hbc hi ho hok hr hz9 hwb HL1 HL2 HL3 HL4 HL5 HKV HKB
  cases bc
  · go_upto_region 12 with (go_at_call 38; (with_reducible refine (HIS.out _ (Kd.C_below HHI.out (HBW.out.trans (HK8.out.low.mono HBW.out.size)))).mono ?_); rintro e w10 ⟨rfl, hd⟩; have HK9 := Aside0.mk (HK8.out.below hd); clear hd)
    clear hx0 hx1 hx2 hx3 HK0 HK1 HK2 HK3 HK4 HK5 HK6 HK7 HK8
    have HWW : Aside0 (w10 = w10) := ⟨rfl⟩
    go_wp2_with fail
    go_loopg [6, 7] (ins.length + 1) (fun kq p6 p7 w' => ∃ i : Nat, p6 = .bool (anyNo (ins.take i)) ∧ p7 = .int .i64 (i : Int) ∧ Aside0 (i ≤ ins.length ∧ ins.length + 1 ≤ i + kq) ∧ Aside0 (Kept1 wb w' (w.heap.size + 1) l5))
    case atStart => exact ⟨0, by rfl, by rfl, ⟨by omega⟩, HK9⟩
    case round =>
      obtain ⟨i, rfl, rfl, HK, HKW⟩ := hrel
      have hx1 := cell_of ((HKW.out.low.block _ (blk_lt' HBX.out)).trans HBX.out) (j := 1) (v := .slice Ai ins.length ci) rfl
      by_cases hlt : i < ins.length
      · have hi1 : (i : Int) < (ins.length : Int) := by omega
        have hw1 : wrap64 ((i : Int) + 1) = ((i + 1 : Nat) : Int) := by rw [ln64 _ (by omega) (by have := HNI.out; omega)]; rfl
        have HI9 := Aside0.mk hlt
        have HSN := Aside0.mk (anyNo_snoc ins i hlt)
        obtain ⟨ad, cs, A1, c1, A2, c2, e2, hI, hcc⟩ := cells_at (Kd.C_below HHI.out (HBW.out.trans (HKW.out.low.mono HBW.out.size))) (i : Int) (by omega) hi1
        subst e2
        rw [rd_in35 ins i hlt] at hI
        obtain ⟨hx, hhx⟩ : ∃ l, cs.take 33 = l := ⟨_, rfl⟩
        have okx : OpOk ins[i].f0.f0 ins[i].f0.f1 := HOK.out _ (List.getElem_mem hlt)
        have hxe : hx = opC ins[i].f0.f0 ins[i].f0.f1 := by rw [← hhx]; exact take33 hI
        have HXL : Aside0 (hx.length = 33) := ⟨by rw [hxe]; exact opC_len okx.l _⟩
        have HCC : Aside0 (∀ j u, hx[j]? = some u → wr.cell? ((ad.add (i * 36)).add j) = some u) := ⟨fun j u hj => by
          rw [← hhx, List.getElem?_take] at hj
          split at hj
          · exact hcc j u hj
          · cases hj⟩
        obtain ⟨bn, hbn⟩ : ∃ b, isNo ins[i].f0.f0 ins[i].f0.f1 = b := ⟨_, rfl⟩
        have HN : Aside0 (∀ W : World, Calls Try.prog 39 #[.agg hx.toArray] W fun e w' => e = .returned (.bool bn) ∧ Below W.heap.size W w') := ⟨fun W => by rw [hxe, ← hbn]; exact isNoneC _ _ okx W⟩
        rw [hbn] at HSN
        clear hcc hI hhx hxe hbn okx hlt
        obtain ⟨ba, hba⟩ : ∃ b, anyNo (ins.take i) = b := ⟨_, rfl⟩
        rw [hba] at HSN ⊢
        clear hba
        cases ba
        · go_wp2_with (first
            | ((with_reducible refine at_dst (N := 68) rfl ?_); refine wpList_runw (by rfl) _ (run_load_at 31 (.tmp 67) rfl (ad.add (i * 36)) rfl hx _ HCC.out Try.underlying31 rfl (by rw [HXL.out]; exact sizeIp)) ?_)
            | (go_at_call 39; (with_reducible refine (HN.out _).mono ?_); rintro e w3 ⟨rfl, hb⟩; have HKX := Aside0.mk (HKW.out.below hb); clear hb))
          go_roundg (gk - 1)
          case measure => exact meas1 HK.out HI9.out
          case rel => exact ⟨i + 1, by rw [HSN.out]; rfl, by first | rfl | (rw [hw1]; done), ⟨meas2 HK.out HI9.out⟩, HKX⟩
        · go_wp2_with fail
          go_roundg (gk - 1)
          case measure => exact meas1 HK.out HI9.out
          case rel => exact ⟨i + 1, by rw [HSN.out]; rfl, by first | rfl | (rw [hw1]; done), ⟨meas2 HK.out HI9.out⟩, HKW⟩
      · have hi1 : ¬ (i : Int) < (ins.length : Int) := by omega
        rw [List.take_of_length_le (by omega)]
        obtain ⟨ba, hba⟩ : ∃ b, anyNo ins = b := ⟨_, rfl⟩
        have HBA := Aside0.mk hba
        rw [hba]
        clear hba
        go_upto_region 18 with (go_at_call 35; (with_reducible refine (addC ba 20 (w.heap.size + 1) l5 wb _ HKW.out (by have := HN5.out; omega)).mono ?_); rintro e w12 ⟨rfl, hk⟩; have HKY := Aside0.mk hk; clear hk)
        obtain ⟨l6, hl6⟩ : ∃ l, addL ba 20 l5 = l := ⟨_, rfl⟩
        have HL6 := Aside0.mk hl6
        unfold addL at hl6
        rw [hl6] at HKY
        clear hl6
        obtain ⟨v9, hg9, hr9⟩ := HKY.out.row
        obtain ⟨A9, c9, e9⟩ := Kd.R_slice hr9
        subst e9
        have HR9 := Aside0.mk (Kd.R_mono (Kd.R_lower hr9 (by omega : w.heap.size ≤ wb.heap.size)) (fun _ _ => trivial))
        have hx9 := cell_of hg9 (j := 0) (v := _) rfl
        clear hg9 hr9
        go_wp2_with fail
        go_ret
        refine ⟨.slice A9 _ c9, by rfl, ?_, HBW.out.trans (HKY.out.low.mono HBW.out.size)⟩
        unfold faultsF
        rw [HBC.out, ← HBASE.out, HBA.out, HL6.out]
        exact HR9.out
  · go_upto_region 9 with (go_at_call 38; (with_reducible refine (HIS.out _ (Kd.C_below HHI.out (HBW.out.trans (HK8.out.low.mono HBW.out.size)))).mono ?_); rintro e w10 ⟨rfl, hd⟩; have HK9 := Aside0.mk (HK8.out.below hd); clear hd)
    clear hx0 hx1 hx2 hx3
    have hx1 := cell_of ((HK9.out.low.block _ (blk_lt' HBX.out)).trans HBX.out) (j := 1) (v := .slice Ai ins.length ci) rfl
    obtain ⟨x, rfl⟩ := isCoin_one HBC.out
    · skip
      obtain ⟨ad, cs, A1, c1, A2, c2, e2, hI, hcc⟩ := cells_at (Kd.C_below HHI.out (HBW.out.trans (HK9.out.low.mono HBW.out.size))) 0 (by decide) (by simp)
      subst e2
      have hxx : rd_T35 [x] 0 = x := rfl
      rw [hxx] at hI
      have hx33 := hcc 33 _ hI.scr
      rw [Addr.add_add, show (0 : Int).toNat * 36 + 33 = 33 from rfl, add_off _ _ (by decide)] at hx33
      have hn9 := hI.g1.2.1
      obtain ⟨n, hn⟩ : ∃ n, x.f1.length = n := ⟨_, rfl⟩
      rw [hn] at hx33 hn9
      have e1 : [x].length = 1 := rfl
      rw [e1] at hx1 ⊢
      have HNN := Aside0.mk hn
      have hfin : ∀ (b : Bool) (w12 : World), (decide ((n : Int) < 2) || decide (100 < (n : Int))) = b → Kept1 wb w12 (w.heap.size + 1) (if b = true then l5 ++ [31] else l5) → ∃ A9 n9 c9, w12.cell? ⟨w.heap.size + 1, 0, none⟩ = some (.slice A9 n9 c9) ∧ Kd.R (Kd.int .i64) 3 w12 w.heap.size (fun _ => True) (.slice A9 n9 c9) (faultsF v lock [x] outs) ∧ Below w.heap.size w w12 := fun b w12 hb hk => by
        obtain ⟨v9, hg9, hr9⟩ := hk.row
        obtain ⟨A9, c9, e9⟩ := Kd.R_slice hr9
        subst e9
        refine ⟨A9, _, c9, cell_of hg9 (j := 0) (v := _) rfl, ?_, HBW.out.trans (hk.low.mono HBW.out.size)⟩
        unfold faultsF
        rw [HBC.out, ← HBASE.out, show scr0 [x] = x.f1 from rfl, HNN.out, hb]
        exact Kd.R_mono (Kd.R_lower hr9 (by omega : w.heap.size ≤ wb.heap.size)) (fun _ _ => trivial)
      have HFIN := Aside0.mk hfin
      clear hI hcc hxx e1 hn hfin HK0 HK1 HK2 HK3 HK4 HK5 HK6 HK7 HK8 HBC HBASE HIS
      by_cases c1 : (n : Int) < 2
      · have HC : Aside0 ((decide ((n : Int) < 2) || decide (100 < (n : Int))) = true) := ⟨by simp [c1]⟩
        go_upto_region 11 with (go_at_call 35; (with_reducible refine (addC true 31 (w.heap.size + 1) l5 wb _ HK9.out (by have := HN5.out; omega)).mono ?_); rintro e w12 ⟨rfl, hk⟩; have HKY := Aside0.mk hk; clear hk)
        obtain ⟨A9, n9, c9, hx9, hr9, hb9⟩ := HFIN.out true _ HC.out HKY.out
        have HR9 := Aside0.mk hr9
        have HB9 := Aside0.mk hb9
        clear hr9 hb9
        go_wp2_with fail
        go_ret
        exact ⟨.slice A9 n9 c9, by rfl, HR9.out, HB9.out⟩
      by_cases c2 : 100 < (n : Int)
      · have HC : Aside0 ((decide ((n : Int) < 2) || decide (100 < (n : Int))) = true) := ⟨by simp [c2]⟩
        go_upto_region 11 with (go_at_call 35; (with_reducible refine (addC true 31 (w.heap.size + 1) l5 wb _ HK9.out (by have := HN5.out; omega)).mono ?_); rintro e w12 ⟨rfl, hk⟩; have HKY := Aside0.mk hk; clear hk)
        obtain ⟨A9, n9, c9, hx9, hr9, hb9⟩ := HFIN.out true _ HC.out HKY.out
        have HR9 := Aside0.mk hr9
        have HB9 := Aside0.mk hb9
        clear hr9 hb9
        go_wp2_with fail
        go_ret
        exact ⟨.slice A9 n9 c9, by rfl, HR9.out, HB9.out⟩
      · have HC : Aside0 ((decide ((n : Int) < 2) || decide (100 < (n : Int))) = false) := ⟨by simp [c1, c2]⟩
        go_upto_region 11 with (go_at_call 35; (with_reducible refine (addC false 31 (w.heap.size + 1) l5 wb _ HK9.out (by have := HN5.out; omega)).mono ?_); rintro e w12 ⟨rfl, hk⟩; have HKY := Aside0.mk hk; clear hk)
        obtain ⟨A9, n9, c9, hx9, hr9, hb9⟩ := HFIN.out false _ HC.out HKY.out
        have HR9 := Aside0.mk hr9
        have HB9 := Aside0.mk hb9
        clear hr9 hb9
        go_wp2_with fail
        go_ret
        exact ⟨.slice A9 n9 c9, by rfl, HR9.out, HB9.out⟩
end Go.Proofs.Ytdheoajaaofmbaa.QFnScriptPlaces
