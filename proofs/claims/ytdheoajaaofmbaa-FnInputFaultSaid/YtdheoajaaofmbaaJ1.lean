/- spec.InputFaults: the walk. -/
import Derived.Test.YtdheoajaaofmbaaTf8
import Derived.Maps.OwnOps
import Derived.Maps.OwnSet
import Derived.Test.YtdheoajaaofmbaaTx5
import Derived.Test.YtdheoajaaofmbaaJ0
namespace Go.Proofs.Ytdheoajaaofmbaa.QFnScriptPlaces
open Go.RowKit Go.Proofs.YtdheoajaaofmbaaW.PrintWords Go.Proofs.YtdheoajaaofmbaaW.PrintLast Go.Proofs.YtdheoajaaofmbaaW.PrintMore
set_option linter.unusedVariables false
set_option linter.unusedSimpArgs false
/-- What the walk keeps: the argument's box. -/
structure InW (w : World) (v lock : Int) (Ai : Option Addr) (n1 ci : Nat) (Ao : Option Addr) (n2 co : Nat) (W : World) : Prop where
  box : W.heap[w.heap.size]? = some (.cells #[.int .i32 v, .slice Ai n1 ci, .slice Ao n2 co, .int .u32 lock] 26 (0, 0))
  low : Below w.heap.size w W
theorem InW.below {w : World} {v lock : Int} {Ai Ao : Option Addr} {n1 ci n2 co : Nat} {W W1 : World} (h : InW w v lock Ai n1 ci Ao n2 co W) (hb : Below W.heap.size W W1) : InW w v lock Ai n1 ci Ao n2 co W1 :=
  ⟨(hb.block _ (blk_lt' h.box)).trans h.box, h.low.trans (hb.mono h.low.size)⟩
theorem InW.grown {w : World} {v lock : Int} {Ai Ao : Option Addr} {n1 ci n2 co : Nat} {W W1 : World} (h : InW w v lock Ai n1 ci Ao n2 co W) {row : Option Nat} (hg : W.grownBy W1 row) (hb : Below w.heap.size w W1) (h0 : some w.heap.size ≠ row) : InW w v lock Ai n1 ci Ao n2 co W1 :=
  ⟨(hg.block _ (blk_lt' h.box) h0).trans h.box, hb⟩
/-- What is known of the coins ahead of the walk. -/
structure CoinsOk (l : List S74) : Prop where
  few : l.length ≤ 1000000
  op : ∀ i : Nat, i < l.length → OpOk (rdC l (i : Int)).f0.f0 (rdC l (i : Int)).f0.f1
  high : ∀ i : Nat, i < l.length → 0 ≤ (rdC l (i : Int)).f2 ∧ (rdC l (i : Int)).f2 ≤ 2147483647
theorem lastC_mem {l : List S74} {p : List Int × Int} : ∀ {n : Nat} {c : S74}, lastC l p n = some c → ∃ i : Nat, i < n ∧ rdC l (i : Int) = c
  | 0, _, h => by cases h
  | n + 1, c, h => by
    unfold lastC at h
    split at h
    · exact ⟨n, by omega, Option.some.inj h⟩
    · obtain ⟨i, hi, e⟩ := lastC_mem h
      exact ⟨i, by omega, e⟩
structure InFP (w : World) (F : List Int) (fee : Int) (e : Ending) (w' : World) : Prop where
  ex : ∃ (q : Int) (A : Option Addr) (c : Nat), e = .returned (.tuple #[.int .i64 q, .slice A F.length c]) ∧ Kd.R (Kd.int .i64) 3 w' w.heap.size (fun _ => True) (.slice A F.length c) F ∧ (F = [] → q = fee)
  low : Below w.heap.size w w'
theorem info_out : (Try.prog.info? 41).map (fun i => (i.zero, i.size, i.bytes)) = some (some (.agg #[.int .i64 0, .slice none 0 0]), 2, 32) := by kernel_rfl
theorem R_C {α : Type} {d : Kd α} {e : Nat} {w : World} {base : Nat} {ok : Nat → Prop} {A : Option Addr} {n c : Nat} {xs : List α} (h : d.R e w base ok (.slice A n c) xs) : d.C w A xs.length xs := by
  obtain ⟨A', c', e', _, hC⟩ := Kd.R_reads h
  injection e' with e1 e2 e3
  rw [e1]
  exact hC
theorem out_val {w : World} {A : Option Addr} {n : Nat} {xs : List S41} (h : Kd.C k41 w A n xs) (i : Int) (h0 : 0 ≤ i) (h1 : i < n) : ∃ ad, A = some ad ∧ w.cell? (ad.add (i.toNat * 2)) = some (.int .i64 (rd_T41 xs i).f0) := by
  obtain ⟨ad, c, rfl, hcl, hK, hcc⟩ := Kd.C_get h z41 i h0 h1
  obtain ⟨B, m, e, _, _⟩ := k41_open hK
  subst e
  exact ⟨ad, rfl, hcc 0 _ rfl⟩
theorem badV_eq : ∀ (l : List S41) (s : Int), badV s l = badW s (l.map fun y => y.f0)
  | [], _ => rfl
  | y :: ys, s => by rw [List.map_cons, badV, badW, badV_eq ys]
theorem wrap32_in (a b : Int) (h0 : 0 ≤ a) (h1 : a ≤ 2147483647) (h2 : 0 ≤ b) (h3 : b ≤ 2147483647) : IntKind.i32.wrap (a - b) = a - b := by
  rw [i32_w]; unfold wrap32; omega
set_option maxRecDepth 100000 in
set_option maxHeartbeats 16000000 in
theorem inputFaultsC (v lock : Int) (Ai : Option Addr) (ci : Nat) (ins : List S35) (Ao : Option Addr) (co : Nat) (outs : List S41) (height : Int) (A : Option Addr) (c : Nat) (l : List S74) (mat : Int) (w : World) (hi : Kd.C k35 w Ai ins.length ins) (ho : Kd.C k41 w Ao outs.length outs) (hn1 : ins.length ≤ 1000000) (hn2 : outs.length ≤ 1000000) (hok : ∀ x ∈ ins, OpOk x.f0.f0 x.f0.f1)
    (hr : Kd.C k74 w A l.length l) (hl : CoinsOk l) (hbo : badV 0 outs = false) (hh : 0 ≤ height ∧ height ≤ 2147483647) :
    Calls Try.prog 19 #[.agg #[.int .i32 v, .slice Ai ins.length ci, .slice Ao outs.length co, .int .u32 lock], .int .i32 height, .slice A l.length c, .int .i32 mat] w fun e w' => InFP w (inFaults height mat l ins outs) (inFee l ins outs) e w' := by
  have HI := Aside0.mk hi
  have HO := Aside0.mk ho
  have HN1 := Aside0.mk hn1
  have HN2 := Aside0.mk hn2
  have HOK := Aside0.mk hok
  have HR := Aside0.mk hr
  have HL := Aside0.mk hl
  have HBO := Aside0.mk hbo
  have HH := Aside0.mk hh
  have HIS : Aside0 (∀ W, Kd.C k35 W Ai ins.length ins → Calls Try.prog 38 #[.agg #[.int .i32 v, .slice Ai ins.length ci, .slice Ao outs.length co, .int .u32 lock]] W fun e w' => e = .returned (.bool (isCoin ins)) ∧ Below W.heap.size W w') := ⟨fun W hW => isCoinC v lock Ai ci ins Ao co outs W hW hok⟩
  obtain ⟨bc, hbc⟩ : ∃ b, isCoin ins = b := ⟨_, rfl⟩
  have HBC := Aside0.mk hbc
  obtain ⟨FF, hFF⟩ : ∃ q, inFaults height mat l ins outs = q := ⟨_, rfl⟩
  obtain ⟨fee, hfee⟩ : ∃ q, inFee l ins outs = q := ⟨_, rfl⟩
  have HFF := Aside0.mk hFF
  have HFE := Aside0.mk hfee
  rw [hbc] at HIS
  rw [hFF, hfee]
  clear hi ho hn1 hn2 hok hr hl hbo hh hbc hFF hfee
  go_enter Try.func19, Try.ntmps19
  go_upto_region 1 with fail
  have HW0 : Aside0 (InW w v lock Ai ins.length ci Ao outs.length co (w.alloc (.cells #[.int .i32 v, .slice Ai ins.length ci, .slice Ao outs.length co, .int .u32 lock] 26))) := ⟨⟨heap_alloc_new _ _, below_alloc (Below.refl _ _) _⟩⟩
  generalize w.alloc (.cells #[.int .i32 v, .slice Ai ins.length ci, .slice Ao outs.length co, .int .u32 lock] 26) = w1 at *
  have kb0 := cell_of HW0.out.box (j := 0) rfl
  have kb1 := cell_of HW0.out.box (j := 1) rfl
  have kb2 := cell_of HW0.out.box (j := 2) rfl
  have kb3 := cell_of HW0.out.box (j := 3) rfl
  cases bc
  · go_upto_region 3 with (go_at_call 38; (with_reducible refine (HIS.out _ (Kd.C_below HI.out HW0.out.low)).mono ?_); rintro e w2 ⟨rfl, hd⟩; have HW1 := Aside0.mk (HW0.out.below hd); clear hd)
    clear kb0 kb1 kb2 kb3
    obtain ⟨w3, hw3⟩ : ∃ w3, w3 = w2 := ⟨_, rfl⟩
    go_wp2_with fail
    go_loopg [10, 11, 12, 13] (ins.length + 1) (fun kq p10 p11 p12 p13 w' => ∃ (A9 : Option Addr) (c9 i : Nat), p10 = .slice A9 (valsC l (ins.take i)).length c9 ∧ p11 = .bool (noC l (ins.take i)) ∧ p12 = .bool (youngC height mat l (ins.take i)) ∧ p13 = .int .i64 (i : Int) ∧ Aside0 (i ≤ ins.length ∧ ins.length + 1 ≤ i + kq) ∧ Aside0 (InW w v lock Ai ins.length ci Ao outs.length co w') ∧ Aside0 (Kd.R kVal 41 w' w.heap.size (fun _ => True) (.slice A9 (valsC l (ins.take i)).length c9) (valsC l (ins.take i))))
    case atStart => exact ⟨none, 0, 0, by rfl, by rfl, by rfl, by rfl, ⟨by omega⟩, HW1, ⟨Kd.R_nil _ _ _ _ _⟩⟩
    case round =>
      obtain ⟨A9, c9, i, rfl, rfl, rfl, rfl, HK, HW, HV⟩ := hrel
      have kb1 := cell_of HW.out.box (j := 1) rfl
      obtain ⟨vs, hvs⟩ : ∃ q, valsC l (ins.take i) = q := ⟨_, rfl⟩
      obtain ⟨bn, hbn⟩ : ∃ q, noC l (ins.take i) = q := ⟨_, rfl⟩
      obtain ⟨yb, hyb⟩ : ∃ q, youngC height mat l (ins.take i) = q := ⟨_, rfl⟩
      rw [hvs] at HV
      rw [hvs, hbn, hyb]
      have HVS := Aside0.mk hvs
      have HBN := Aside0.mk hbn
      have HYB := Aside0.mk hyb
      have HVL : Aside0 (vs.length ≤ 1000000) := ⟨by rw [← hvs]; have h1 := valsC_len l (ins.take i); rw [List.length_take] at h1; have := HN1.out; omega⟩
      clear hvs hbn hyb
      by_cases hlt : i < ins.length
      · have hi1 : (i : Int) < (ins.length : Int) := by omega
        have hw1 : wrap64 ((i : Int) + 1) = ((i + 1 : Nat) : Int) := by rw [ln64 _ (by omega) (by have := HN1.out; omega)]; rfl
        have HI9 := Aside0.mk hlt
        have HTK : Aside0 (ins.take (i + 1) = ins.take i ++ [ins[i]]) := ⟨take_snoc ins i hlt⟩
        obtain ⟨ad, cs, A1, c1, A2, c2, e2, hI, hcc⟩ := cells_at (Kd.C_below HI.out HW.out.low) (i : Int) (by omega) hi1
        subst e2
        rw [rd_in35 ins i hlt] at hI
        have okx : OpOk ins[i].f0.f0 ins[i].f0.f1 := HOK.out _ (List.getElem_mem hlt)
        obtain ⟨x, hx9⟩ : ∃ x, ins[i] = x := ⟨_, rfl⟩
        rw [hx9] at hI okx HTK
        obtain ⟨hx, hhx⟩ : ∃ q, cs.take 33 = q := ⟨_, rfl⟩
        have hxe : hx = opC x.f0.f0 x.f0.f1 := by rw [← hhx]; exact take33 hI
        have HXL : Aside0 (hx.length = 33) := ⟨by rw [hxe]; exact opC_len okx.l _⟩
        have HCC : Aside0 (∀ j u, hx[j]? = some u → wr.cell? ((ad.add (i * 36)).add j) = some u) := ⟨by rw [← hhx]; exact cells_sub hcc⟩
        obtain ⟨LL, hLL⟩ : ∃ q, lastC l (opOf x) l.length = q := ⟨_, rfl⟩
        have HCA : Aside0 (∀ W : World, Kd.C k74 W A l.length l → Calls Try.prog 41 #[.slice A l.length c, .agg hx.toArray] W fun e w' => CoinAtP W LL e w') := ⟨fun W hW => by
          rw [hxe, ← hLL]
          exact coinAtC A c l x.f0.f0 x.f0.f1 W hW HL.out.few HL.out.op okx⟩
        have HLL := Aside0.mk hLL
        clear hI hcc okx hx9 hhx hxe hLL hlt
        go_upto_region 9 with (first
          | ((with_reducible refine at_dst (N := 36) rfl ?_); refine wpList_runw (by rfl) _ (run_load_at 31 (.tmp 35) rfl (ad.add (i * 36)) rfl hx _ HCC.out Try.underlying31 rfl (by rw [HXL.out]; exact sizeIp)) ?_)
          | (go_at_call 41; (with_reducible refine (HCA.out _ (Kd.C_below HR.out HW.out.low)).mono ?_); rintro e w4 ⟨⟨xs, b, rfl, hxs, hL1, hL2⟩, hd⟩; have HW4 := Aside0.mk (HW.out.below hd); have HV4 := Aside0.mk (Kd.R_below HV.out hd); have HXS := Aside0.mk hxs; have HL1 := Aside0.mk hL1; have HL2 := Aside0.mk hL2; have HB4 := Aside0.mk hd; clear hd hxs hL1 hL2)
          | ((with_reducible refine at_none rfl ?_); refine wpList_store_whole rfl 74 (.tmp 14) (.tmp 38) rfl w4.heap.size xs.toArray ?a1 ?a2 74 _ (heap_alloc_new w4 _) ?a3 ?a4 HXS.out.2 (w0 := w4) (B := w4.heap.size) (below_alloc (Below.refl _ _) _) (Nat.le_refl _) ?_; (case a1 => rfl); (case a2 => rfl); (case a3 => rw [List.size_toArray, HXS.out.1]; exact size_coin); (case a4 => show 38 = xs.toArray.size; rw [List.size_toArray]; exact HXS.out.1.symm); intro w5 hg5 hb5 hk5 hz5; have HG5 := Aside0.mk hg5; have HW5 := Aside0.mk (HW4.out.below hb5); have HV5 := Aside0.mk (Kd.R_below HV4.out hb5); clear hg5 hb5 hk5 hz5))
        cases b
        · have HFN : Aside0 (fnd l x = none) := ⟨by
            unfold fnd
            rw [HLL.out]
            cases hq : LL with
            | none => rfl
            | some cc =>
              have h := (HL1.out cc hq).1
              have h4 : cc.f4 = true := by revert h; cases cc.f4 <;> simp
              simp [h4]⟩
          have HSN : Aside0 (noC l (ins.take (i + 1)) = true ∧ youngC height mat l (ins.take (i + 1)) = yb ∧ valsC l (ins.take (i + 1)) = vs) := ⟨by
            rw [HTK.out, ← HYB.out, ← HVS.out]
            exact snoc_none HFN.out⟩
          go_wp2_with fail
          go_roundg (gk - 1)
          case measure => exact meas1 HK.out HI9.out
          case rel => exact ⟨A9, c9, i + 1, by rw [HSN.out.2.2], by rw [HSN.out.1], by rw [HSN.out.2.1], by first | rfl | (rw [hw1]; done), ⟨meas2 HK.out HI9.out⟩, HW5, by rw [HSN.out.2.2]; exact HV5⟩
        · obtain ⟨cc, hcc9⟩ : ∃ cc, LL = some cc := by
            cases hq : LL with
            | none => have h := HL2.out hq; cases h
            | some cc => exact ⟨cc, rfl⟩
          have h4 := (HL1.out cc hcc9).1
          obtain ⟨⟨B1, d1, exs, _, _⟩, hcl⟩ := (HL1.out cc hcc9).2
          have exs : xs.toArray = (coinC cc B1 d1).toArray := by injection exs
          have HFN : Aside0 (fnd l x = some cc) := ⟨by
            unfold fnd
            rw [HLL.out, hcc9]
            have h4 : cc.f4 = false := by revert h4; cases cc.f4 <;> simp
            simp [h4]⟩
          have HCR : Aside0 (0 ≤ cc.f2 ∧ cc.f2 ≤ 2147483647) := ⟨by
            obtain ⟨ii, hii, e⟩ := lastC_mem (HLL.out.trans hcc9)
            rw [← e]
            exact HL.out.high ii hii⟩
          have HSN : Aside0 (noC l (ins.take (i + 1)) = bn ∧ youngC height mat l (ins.take (i + 1)) = (yb || yng height mat cc) ∧ valsC l (ins.take (i + 1)) = vs ++ [cc.f1.f0]) := ⟨by
            rw [HTK.out, ← HYB.out, ← HVS.out, ← HBN.out]
            exact snoc_some HFN.out⟩
          have hg9 := HG5.out
          rw [exs] at hg9
          have k33 := cell_of hg9 (j := 33) (v := .int .i64 cc.f1.f0) (by simpa using coinC_at hcl B1 d1 1)
          have k34 := cell_of hg9 (j := 34) (v := .slice B1 cc.f1.f1.length d1) (by simpa using coinC_at hcl B1 d1 2)
          have k35 := cell_of hg9 (j := 35) (v := .int .i32 cc.f2) (by simpa using coinC_at hcl B1 d1 3)
          have k36 := cell_of hg9 (j := 36) (v := .bool cc.f3) (by simpa using coinC_at hcl B1 d1 4)
          have hw32 : wrap32 (height - cc.f2) = height - cc.f2 := by have := HH.out; have := HCR.out; unfold wrap32; omega
          have HYN : Aside0 (yng height mat cc = (cc.f3 && decide (height - cc.f2 < mat))) := ⟨rfl⟩
          obtain ⟨cb, hcb⟩ : ∃ q, cc.f3 = q := ⟨_, rfl⟩
          obtain ⟨cv, hcv⟩ : ∃ q, cc.f1.f0 = q := ⟨_, rfl⟩
          obtain ⟨nn, hnn⟩ : ∃ q, cc.f1.f1.length = q := ⟨_, rfl⟩
          obtain ⟨hgt, hhg⟩ : ∃ q, cc.f2 = q := ⟨_, rfl⟩
          rw [hcb] at k36 HYN
          rw [hcv] at k33 HSN
          rw [hnn] at k34
          rw [hhg] at k35 hw32 HYN HCR
          clear hg9 exs hcc9 h4 hcl hcb hcv hnn hhg HL1 HL2 HLL HFN
          cases yb
          · cases cb
            · skip
              go_wp2_with ((with_reducible refine at_dst (N := 59) rfl ?_); refine Kd.R_append kVal (w0 := w) w.heap.size rfl (.tmp 55) (.tmp 58) 23 41 (.agg #[.int .i64 0, .slice none 0 0]) 32 rfl Try.underlying23 info_out rfl (by decide) (by decide) (.slice A9 vs.length c9) vs cv [.int .i64 cv, .slice B1 nn d1] (fun _ => True) (fun _ => False) rfl rfl ⟨_, _, _, rfl⟩ (fun _ hk => hk.elim) (fun _ _ => trivial) HV5.out HW5.out.low ?aS ?aL ?_; (case aS => exact HW5.out.low.size); (case aL => have := HVL.out; omega); intro v1 w8 ho hb hg9 hat; (obtain ⟨A7, c7, e7⟩ := Kd.R_slice ho); subst e7; have HW8 := Aside0.mk (HW5.out.grown hg9 hb (Kd.R_ne HV5.out HW5.out.box (by decide))); have HV8 := Aside0.mk ho; clear ho hb hg9 hat)
              go_roundg (gk - 1)
              case measure => exact meas1 HK.out HI9.out
              case rel => exact ⟨A7, c7, i + 1, by rw [HSN.out.2.2, List.length_append]; rfl, by rw [HSN.out.1], by rw [HSN.out.2.1, HYN.out]; rfl, by first | rfl | (rw [hw1]; done), ⟨meas2 HK.out HI9.out⟩, HW8, by rw [HSN.out.2.2]; exact HV8⟩
            · by_cases hy : height - hgt < mat
              · have HDY : Aside0 (decide (height - hgt < mat) = true) := ⟨decide_eq_true hy⟩
                go_wp2_with ((with_reducible refine at_dst (N := 59) rfl ?_); refine Kd.R_append kVal (w0 := w) w.heap.size rfl (.tmp 55) (.tmp 58) 23 41 (.agg #[.int .i64 0, .slice none 0 0]) 32 rfl Try.underlying23 info_out rfl (by decide) (by decide) (.slice A9 vs.length c9) vs cv [.int .i64 cv, .slice B1 nn d1] (fun _ => True) (fun _ => False) rfl rfl ⟨_, _, _, rfl⟩ (fun _ hk => hk.elim) (fun _ _ => trivial) HV5.out HW5.out.low ?aS ?aL ?_; (case aS => exact HW5.out.low.size); (case aL => have := HVL.out; omega); intro v1 w8 ho hb hg9 hat; (obtain ⟨A7, c7, e7⟩ := Kd.R_slice ho); subst e7; have HW8 := Aside0.mk (HW5.out.grown hg9 hb (Kd.R_ne HV5.out HW5.out.box (by decide))); have HV8 := Aside0.mk ho; clear ho hb hg9 hat)
                go_roundg (gk - 1)
                case measure => exact meas1 HK.out HI9.out
                case rel => exact ⟨A7, c7, i + 1, by rw [HSN.out.2.2, List.length_append]; rfl, by rw [HSN.out.1], by rw [HSN.out.2.1, HYN.out]; rw [HDY.out]; rfl, by first | rfl | (rw [hw1]; done), ⟨meas2 HK.out HI9.out⟩, HW8, by rw [HSN.out.2.2]; exact HV8⟩
              · have HDY : Aside0 (decide (height - hgt < mat) = false) := ⟨decide_eq_false hy⟩
                go_wp2_with ((with_reducible refine at_dst (N := 59) rfl ?_); refine Kd.R_append kVal (w0 := w) w.heap.size rfl (.tmp 55) (.tmp 58) 23 41 (.agg #[.int .i64 0, .slice none 0 0]) 32 rfl Try.underlying23 info_out rfl (by decide) (by decide) (.slice A9 vs.length c9) vs cv [.int .i64 cv, .slice B1 nn d1] (fun _ => True) (fun _ => False) rfl rfl ⟨_, _, _, rfl⟩ (fun _ hk => hk.elim) (fun _ _ => trivial) HV5.out HW5.out.low ?aS ?aL ?_; (case aS => exact HW5.out.low.size); (case aL => have := HVL.out; omega); intro v1 w8 ho hb hg9 hat; (obtain ⟨A7, c7, e7⟩ := Kd.R_slice ho); subst e7; have HW8 := Aside0.mk (HW5.out.grown hg9 hb (Kd.R_ne HV5.out HW5.out.box (by decide))); have HV8 := Aside0.mk ho; clear ho hb hg9 hat)
                go_roundg (gk - 1)
                case measure => exact meas1 HK.out HI9.out
                case rel => exact ⟨A7, c7, i + 1, by rw [HSN.out.2.2, List.length_append]; rfl, by rw [HSN.out.1], by rw [HSN.out.2.1, HYN.out]; rw [HDY.out]; rfl, by first | rfl | (rw [hw1]; done), ⟨meas2 HK.out HI9.out⟩, HW8, by rw [HSN.out.2.2]; exact HV8⟩
          · cases cb
            · skip
              go_wp2_with ((with_reducible refine at_dst (N := 59) rfl ?_); refine Kd.R_append kVal (w0 := w) w.heap.size rfl (.tmp 55) (.tmp 58) 23 41 (.agg #[.int .i64 0, .slice none 0 0]) 32 rfl Try.underlying23 info_out rfl (by decide) (by decide) (.slice A9 vs.length c9) vs cv [.int .i64 cv, .slice B1 nn d1] (fun _ => True) (fun _ => False) rfl rfl ⟨_, _, _, rfl⟩ (fun _ hk => hk.elim) (fun _ _ => trivial) HV5.out HW5.out.low ?aS ?aL ?_; (case aS => exact HW5.out.low.size); (case aL => have := HVL.out; omega); intro v1 w8 ho hb hg9 hat; (obtain ⟨A7, c7, e7⟩ := Kd.R_slice ho); subst e7; have HW8 := Aside0.mk (HW5.out.grown hg9 hb (Kd.R_ne HV5.out HW5.out.box (by decide))); have HV8 := Aside0.mk ho; clear ho hb hg9 hat)
              go_roundg (gk - 1)
              case measure => exact meas1 HK.out HI9.out
              case rel => exact ⟨A7, c7, i + 1, by rw [HSN.out.2.2, List.length_append]; rfl, by rw [HSN.out.1], by rw [HSN.out.2.1, HYN.out]; rfl, by first | rfl | (rw [hw1]; done), ⟨meas2 HK.out HI9.out⟩, HW8, by rw [HSN.out.2.2]; exact HV8⟩
            · by_cases hy : height - hgt < mat
              · skip
                go_wp2_with ((with_reducible refine at_dst (N := 59) rfl ?_); refine Kd.R_append kVal (w0 := w) w.heap.size rfl (.tmp 55) (.tmp 58) 23 41 (.agg #[.int .i64 0, .slice none 0 0]) 32 rfl Try.underlying23 info_out rfl (by decide) (by decide) (.slice A9 vs.length c9) vs cv [.int .i64 cv, .slice B1 nn d1] (fun _ => True) (fun _ => False) rfl rfl ⟨_, _, _, rfl⟩ (fun _ hk => hk.elim) (fun _ _ => trivial) HV5.out HW5.out.low ?aS ?aL ?_; (case aS => exact HW5.out.low.size); (case aL => have := HVL.out; omega); intro v1 w8 ho hb hg9 hat; (obtain ⟨A7, c7, e7⟩ := Kd.R_slice ho); subst e7; have HW8 := Aside0.mk (HW5.out.grown hg9 hb (Kd.R_ne HV5.out HW5.out.box (by decide))); have HV8 := Aside0.mk ho; clear ho hb hg9 hat)
                go_roundg (gk - 1)
                case measure => exact meas1 HK.out HI9.out
                case rel => exact ⟨A7, c7, i + 1, by rw [HSN.out.2.2, List.length_append]; rfl, by rw [HSN.out.1], by rw [HSN.out.2.1, HYN.out]; rfl, by first | rfl | (rw [hw1]; done), ⟨meas2 HK.out HI9.out⟩, HW8, by rw [HSN.out.2.2]; exact HV8⟩
              · skip
                go_wp2_with ((with_reducible refine at_dst (N := 59) rfl ?_); refine Kd.R_append kVal (w0 := w) w.heap.size rfl (.tmp 55) (.tmp 58) 23 41 (.agg #[.int .i64 0, .slice none 0 0]) 32 rfl Try.underlying23 info_out rfl (by decide) (by decide) (.slice A9 vs.length c9) vs cv [.int .i64 cv, .slice B1 nn d1] (fun _ => True) (fun _ => False) rfl rfl ⟨_, _, _, rfl⟩ (fun _ hk => hk.elim) (fun _ _ => trivial) HV5.out HW5.out.low ?aS ?aL ?_; (case aS => exact HW5.out.low.size); (case aL => have := HVL.out; omega); intro v1 w8 ho hb hg9 hat; (obtain ⟨A7, c7, e7⟩ := Kd.R_slice ho); subst e7; have HW8 := Aside0.mk (HW5.out.grown hg9 hb (Kd.R_ne HV5.out HW5.out.box (by decide))); have HV8 := Aside0.mk ho; clear ho hb hg9 hat)
                go_roundg (gk - 1)
                case measure => exact meas1 HK.out HI9.out
                case rel => exact ⟨A7, c7, i + 1, by rw [HSN.out.2.2, List.length_append]; rfl, by rw [HSN.out.1], by rw [HSN.out.2.1, HYN.out]; rfl, by first | rfl | (rw [hw1]; done), ⟨meas2 HK.out HI9.out⟩, HW8, by rw [HSN.out.2.2]; exact HV8⟩
      · have hi1 : ¬ (i : Int) < (ins.length : Int) := by omega
        have htk : ins.take i = ins := List.take_of_length_le (by omega)
        have HBO2 : Aside0 (badW 0 (outs.map fun y => y.f0) = false) := ⟨by rw [← badV_eq]; exact HBO.out⟩
        have hvs := HVS.out
        have hbn := HBN.out
        have hyb := HYB.out
        rw [htk] at hvs hbn hyb
        obtain ⟨bb, hbb⟩ : ∃ q, badW 0 vs = q := ⟨_, rfl⟩
        have HBB := Aside0.mk hbb
        have HBV : Aside0 (∀ W : World, Kd.C kVal W A9 vs.length vs → Calls Try.prog 36 #[.slice A9 vs.length c9] W fun e w' => e = .returned (.bool bb) ∧ Below W.heap.size W w') := ⟨fun W hW => by rw [← hbb]; exact badWC A9 c9 vs W hW HVL.out⟩
        obtain ⟨si, hsi⟩ : ∃ q, sumW vs = q := ⟨_, rfl⟩
        obtain ⟨so, hso⟩ : ∃ q, sumW (outs.map fun y => y.f0) = q := ⟨_, rfl⟩
        have HSIE := Aside0.mk hsi
        have HSOE := Aside0.mk hso
        have HSI : Aside0 (bb = false → 0 ≤ si ∧ si ≤ 2100000000000000) := ⟨fun h => by
          have h9 := badW_sum vs 0 (by decide) (by decide) (hbb.trans h) vs.length
          rw [List.take_of_length_le (Nat.le_refl _), hsi] at h9
          omega⟩
        have HSO : Aside0 (0 ≤ so ∧ so ≤ 2100000000000000) := ⟨by
          have h9 := badW_sum _ 0 (by decide) (by decide) HBO2.out (outs.map fun y => y.f0).length
          rw [List.take_of_length_le (Nat.le_refl _), hso] at h9
          omega⟩
        have HFD : Aside0 (FF = if bb = true then addL yb 25 (addL bn 21 []) ++ [18] else addL (decide (si < so)) 26 (addL yb 25 (addL bn 21 []))) := ⟨by
          rw [← HFF.out, ← hbb, ← hsi, ← hso, ← hyb, ← hbn, ← hvs]
          unfold inFaults
          rw [if_neg (by rw [HBC.out]; decide)]⟩
        have HFE2 : Aside0 (si - so = fee) := ⟨by
          rw [← HFE.out, ← hsi, ← hso, ← hvs]
          unfold inFee
          rw [if_neg (by rw [HBC.out]; decide)]⟩
        clear hbb hsi hso hvs hbn hyb htk HVS HBN HYB HFF HFE
        have HFE := HFE2
        clear HFE2
        have HF0 : Aside0 (Kd.R (Kd.int .i64) 3 wr w.heap.size (fun _ => True) (.slice none 0 0) []) := ⟨Kd.R_nil _ _ _ _ _⟩
        cases bn
        · go_upto_region 15 with fail
          cases yb
          · go_upto_region 17 with fail
            cases bb
            · skip
              go_wp2_with (go_at_call 36; (with_reducible refine (HBV.out _ (R_C HV.out)).mono ?_); rintro e w9 ⟨rfl, hd⟩; have HWb := Aside0.mk (HW.out.below hd); have HVb := Aside0.mk (Kd.R_below HV.out hd); have HFb := Aside0.mk (Kd.R_below HF0.out hd); clear hd)
              go_loopg [16, 18] (vs.length + 1) (fun kq p16 p18 w' => ∃ i2 : Nat, p16 = .int .i64 (sumW (vs.take i2)) ∧ p18 = .int .i64 (i2 : Int) ∧ Aside0 (i2 ≤ vs.length ∧ vs.length + 1 ≤ i2 + kq) ∧ Aside0 (InW w v lock Ai ins.length ci Ao outs.length co w') ∧ Aside0 (Kd.R kVal 41 w' w.heap.size (fun _ => True) (.slice A9 vs.length c9) vs) ∧ Aside0 (Kd.R (Kd.int .i64) 3 w' w.heap.size (fun _ => True) (.slice none 0 0) []))
              case atStart => exact ⟨0, by rfl, by rfl, ⟨by omega⟩, HWb, HVb, HFb⟩
              case round =>
                obtain ⟨i2, rfl, rfl, HK2, HW4, HV4, HF4⟩ := hrel
                by_cases hlt2 : i2 < vs.length
                · have hi2 : (i2 : Int) < (vs.length : Int) := by omega
                  have hw2 : wrap64 ((i2 : Int) + 1) = ((i2 + 1 : Nat) : Int) := by rw [ln64 _ (by omega) (by have := HVL.out; omega)]; rfl
                  have HI2 := Aside0.mk hlt2
                  obtain ⟨ad2, e2, hv2⟩ := val_at (R_C HV4.out) (i2 : Int) (by omega) hi2
                  subst e2
                  rw [rd_v vs i2 hlt2, Int.toNat_natCast] at hv2
                  have hst := sumW_take vs i2 hlt2
                  have hb2 := badW_sum vs 0 (by decide) (by decide) HBB.out (i2 + 1)
                  rw [Int.zero_add] at hb2
                  have hws : wrap64 (sumW (vs.take i2) + vs[i2]) = sumW (vs.take (i2 + 1)) := by rw [← hst, ln64 _ hb2.1 (by omega)]
                  obtain ⟨y2, hy2⟩ : ∃ y, vs[i2] = y := ⟨_, rfl⟩
                  obtain ⟨s2, hs2⟩ : ∃ y, sumW (vs.take i2) = y := ⟨_, rfl⟩
                  rw [hy2] at hv2 hws
                  rw [hs2] at hws ⊢
                  clear hst hb2 hlt2 hy2 hs2
                  have HWS := Aside0.mk hws
                  clear hws
                  go_wp2_with fail
                  go_roundg (gk - 1)
                  case measure => exact meas1 HK2.out HI2.out
                  case rel => exact ⟨i2 + 1, by rw [← HWS.out], by first | rfl | (rw [hw2]; done), ⟨meas2 HK2.out HI2.out⟩, HW4, HV4, HF4⟩
                · have hi2 : ¬ (i2 : Int) < (vs.length : Int) := by omega
                  rw [List.take_of_length_le (by omega), HSIE.out]
                  go_wp2_with fail
                  go_loopg [17, 19] (outs.length + 1) (fun kq p17 p19 w' => ∃ i3 : Nat, p17 = .int .i64 (sumW ((outs.map fun y => y.f0).take i3)) ∧ p19 = .int .i64 (i3 : Int) ∧ Aside0 (i3 ≤ outs.length ∧ outs.length + 1 ≤ i3 + kq) ∧ Aside0 (InW w v lock Ai ins.length ci Ao outs.length co w') ∧ Aside0 (Kd.R (Kd.int .i64) 3 w' w.heap.size (fun _ => True) (.slice none 0 0) []))
                  case atStart => exact ⟨0, by rfl, by rfl, ⟨by omega⟩, HW4, HF4⟩
                  case round =>
                    obtain ⟨i3, rfl, rfl, HK3, HW5, HF5⟩ := hrel
                    have kb2 := cell_of HW5.out.box (j := 2) rfl
                    by_cases hlt3 : i3 < outs.length
                    · have hi3 : (i3 : Int) < (outs.length : Int) := by omega
                      have hw3 : wrap64 ((i3 : Int) + 1) = ((i3 + 1 : Nat) : Int) := by rw [ln64 _ (by omega) (by have := HN2.out; omega)]; rfl
                      have HI3 := Aside0.mk hlt3
                      obtain ⟨ad3, e3, hv3⟩ := out_val (Kd.C_below HO.out HW5.out.low) (i3 : Int) (by omega) hi3
                      subst e3
                      rw [rd_out i3 hlt3, Int.toNat_natCast] at hv3
                      have hst := sumW_take (outs.map fun y => y.f0) i3 (by rw [List.length_map]; exact hlt3)
                      rw [List.getElem_map] at hst
                      have hb3 := (badW_sum (outs.map fun y => y.f0) 0 (by decide) (by decide) HBO2.out (i3 + 1))
                      rw [Int.zero_add] at hb3
                      have hws : wrap64 (sumW ((outs.map fun y => y.f0).take i3) + outs[i3].f0) = sumW ((outs.map fun y => y.f0).take (i3 + 1)) := by rw [← hst, ln64 _ hb3.1 (by omega)]
                      have HWS := Aside0.mk hws
                      obtain ⟨y3, hy3⟩ : ∃ y, outs[i3].f0 = y := ⟨_, rfl⟩
                      obtain ⟨s3, hs3⟩ : ∃ y, sumW ((outs.map fun y => y.f0).take i3) = y := ⟨_, rfl⟩
                      rw [hy3] at hv3 hws
                      rw [hs3] at hws ⊢
                      clear hst hb3 hlt3 HWS hy3 hs3
                      have HWS := Aside0.mk hws
                      clear hws
                      go_wp2_with fail
                      go_roundg (gk - 1)
                      case measure => exact meas1 HK3.out HI3.out
                      case rel => exact ⟨i3 + 1, by rw [← HWS.out], by first | rfl | (rw [hw3]; done), ⟨meas2 HK3.out HI3.out⟩, HW5, HF5⟩
                    · have hi3 : ¬ (i3 : Int) < (outs.length : Int) := by omega
                      have hso := List.take_of_length_le (l := outs.map fun y => y.f0) (i := i3) (by rw [List.length_map]; omega)
                      rw [hso, HSOE.out]
                      by_cases hlt9 : si < so
                      · obtain rfl : FF = [26] := by rw [HFD.out, decide_eq_true hlt9]; rfl
                        go_wp2_with (((with_reducible refine at_dst (N := 107) rfl ?_); refine Kd.R_append (Kd.int .i64) (w0 := w) w.heap.size rfl (.tmp 105) (.tmp 106) 36 3 (.int .i64 0) 8 rfl Try.underlying36 info3 rfl (by decide) (by decide) (.slice none 0 0) [] 26 [.int .i64 26] (fun _ => True) (fun _ => False) rfl rfl rfl (fun _ hk => hk.elim) (fun _ _ => trivial) HF5.out HW5.out.low ?aS ?aL ?_; (case aS => exact HW5.out.low.size); (case aL => decide); intro v1 w30 ho hb hg9 hat; (obtain ⟨A30, c30, e7⟩ := Kd.R_slice ho); (have e7 : v1 = (.slice A30 1 c30) := e7); subst e7; have HW30 := Aside0.mk (HW5.out.grown hg9 hb (Kd.R_ne HF5.out HW5.out.box (by decide))); have HF30 : Aside0 (Kd.R (Kd.int .i64) 3 w30 w.heap.size (fun _ => True) (.slice A30 1 c30) [26]) := Aside0.mk ho; clear ho hb hg9 hat))
                        go_ret2
                        exact ⟨⟨0, A30, c30, rfl, HF30.out, fun h => by cases h⟩, HW30.out.low⟩
                      · have hws : wrap64 (si - so) = si - so := by rw [ln64 _ (by omega) (by have := HSI.out (by first | rfl | trivial); have := HSO.out; omega)]
                        obtain rfl : FF = [] := by rw [HFD.out, decide_eq_false hlt9]; rfl
                        go_wp2_with fail
                        go_ret2
                        refine ⟨⟨si - so, none, 0, ?_, Kd.R_nil _ _ _ _ _, fun _ => HFE.out⟩, HW5.out.low⟩
                        first | rfl | (rw [hws]; rfl)
            · obtain rfl : FF = [18] := HFD.out
              go_wp2_with (first | (go_at_call 36; (with_reducible refine (HBV.out _ (R_C HV.out)).mono ?_); rintro e w9 ⟨rfl, hd⟩; have HWb := Aside0.mk (HW.out.below hd); have HVb := Aside0.mk (Kd.R_below HV.out hd); have HFb := Aside0.mk (Kd.R_below HF0.out hd); clear hd) | ((with_reducible refine at_dst (N := 72) rfl ?_); refine Kd.R_append (Kd.int .i64) (w0 := w) w.heap.size rfl (.tmp 70) (.tmp 71) 36 3 (.int .i64 0) 8 rfl Try.underlying36 info3 rfl (by decide) (by decide) (.slice none 0 0) [] 18 [.int .i64 18] (fun _ => True) (fun _ => False) rfl rfl rfl (fun _ hk => hk.elim) (fun _ _ => trivial) HFb.out HWb.out.low ?aS ?aL ?_; (case aS => exact HWb.out.low.size); (case aL => decide); intro v1 w18 ho hb hg9 hat; (obtain ⟨A18, c18, e7⟩ := Kd.R_slice ho); (have e7 : v1 = (.slice A18 1 c18) := e7); subst e7; have HW18 := Aside0.mk (HWb.out.grown hg9 hb (Kd.R_ne HFb.out HWb.out.box (by decide))); have HV18 := Aside0.mk (Kd.R_over HVb.out HFb.out (by decide) hg9); have HF18 : Aside0 (Kd.R (Kd.int .i64) 3 w18 w.heap.size (fun _ => True) (.slice A18 1 c18) [18]) := Aside0.mk ho; clear ho hb hg9 hat))
              go_ret2
              exact ⟨⟨0, A18, c18, rfl, HF18.out, fun h => by cases h⟩, HW18.out.low⟩
          · go_upto_region 17 with ((with_reducible refine at_dst (N := 67) rfl ?_); refine Kd.R_append (Kd.int .i64) (w0 := w) w.heap.size rfl (.tmp 65) (.tmp 66) 36 3 (.int .i64 0) 8 rfl Try.underlying36 info3 rfl (by decide) (by decide) (.slice none 0 0) [] 25 [.int .i64 25] (fun _ => True) (fun _ => False) rfl rfl rfl (fun _ hk => hk.elim) (fun _ _ => trivial) HF0.out HW.out.low ?aS ?aL ?_; (case aS => exact HW.out.low.size); (case aL => decide); intro v1 w16 ho hb hg9 hat; (obtain ⟨A16, c16, e7⟩ := Kd.R_slice ho); (have e7 : v1 = (.slice A16 1 c16) := e7); subst e7; have HW16 := Aside0.mk (HW.out.grown hg9 hb (Kd.R_ne HF0.out HW.out.box (by decide))); have HV16 := Aside0.mk (Kd.R_over HV.out HF0.out (by decide) hg9); have HF16 : Aside0 (Kd.R (Kd.int .i64) 3 w16 w.heap.size (fun _ => True) (.slice A16 1 c16) [25]) := Aside0.mk ho; clear ho hb hg9 hat)
            cases bb
            · skip
              go_wp2_with (go_at_call 36; (with_reducible refine (HBV.out _ (R_C HV16.out)).mono ?_); rintro e w9 ⟨rfl, hd⟩; have HWb := Aside0.mk (HW16.out.below hd); have HVb := Aside0.mk (Kd.R_below HV16.out hd); have HFb := Aside0.mk (Kd.R_below HF16.out hd); clear hd)
              go_loopg [16, 18] (vs.length + 1) (fun kq p16 p18 w' => ∃ i2 : Nat, p16 = .int .i64 (sumW (vs.take i2)) ∧ p18 = .int .i64 (i2 : Int) ∧ Aside0 (i2 ≤ vs.length ∧ vs.length + 1 ≤ i2 + kq) ∧ Aside0 (InW w v lock Ai ins.length ci Ao outs.length co w') ∧ Aside0 (Kd.R kVal 41 w' w.heap.size (fun _ => True) (.slice A9 vs.length c9) vs) ∧ Aside0 (Kd.R (Kd.int .i64) 3 w' w.heap.size (fun _ => True) (.slice A16 1 c16) [25]))
              case atStart => exact ⟨0, by rfl, by rfl, ⟨by omega⟩, HWb, HVb, HFb⟩
              case round =>
                obtain ⟨i2, rfl, rfl, HK2, HW4, HV4, HF4⟩ := hrel
                by_cases hlt2 : i2 < vs.length
                · have hi2 : (i2 : Int) < (vs.length : Int) := by omega
                  have hw2 : wrap64 ((i2 : Int) + 1) = ((i2 + 1 : Nat) : Int) := by rw [ln64 _ (by omega) (by have := HVL.out; omega)]; rfl
                  have HI2 := Aside0.mk hlt2
                  obtain ⟨ad2, e2, hv2⟩ := val_at (R_C HV4.out) (i2 : Int) (by omega) hi2
                  subst e2
                  rw [rd_v vs i2 hlt2, Int.toNat_natCast] at hv2
                  have hst := sumW_take vs i2 hlt2
                  have hb2 := badW_sum vs 0 (by decide) (by decide) HBB.out (i2 + 1)
                  rw [Int.zero_add] at hb2
                  have hws : wrap64 (sumW (vs.take i2) + vs[i2]) = sumW (vs.take (i2 + 1)) := by rw [← hst, ln64 _ hb2.1 (by omega)]
                  obtain ⟨y2, hy2⟩ : ∃ y, vs[i2] = y := ⟨_, rfl⟩
                  obtain ⟨s2, hs2⟩ : ∃ y, sumW (vs.take i2) = y := ⟨_, rfl⟩
                  rw [hy2] at hv2 hws
                  rw [hs2] at hws ⊢
                  clear hst hb2 hlt2 hy2 hs2
                  have HWS := Aside0.mk hws
                  clear hws
                  go_wp2_with fail
                  go_roundg (gk - 1)
                  case measure => exact meas1 HK2.out HI2.out
                  case rel => exact ⟨i2 + 1, by rw [← HWS.out], by first | rfl | (rw [hw2]; done), ⟨meas2 HK2.out HI2.out⟩, HW4, HV4, HF4⟩
                · have hi2 : ¬ (i2 : Int) < (vs.length : Int) := by omega
                  rw [List.take_of_length_le (by omega), HSIE.out]
                  go_wp2_with fail
                  go_loopg [17, 19] (outs.length + 1) (fun kq p17 p19 w' => ∃ i3 : Nat, p17 = .int .i64 (sumW ((outs.map fun y => y.f0).take i3)) ∧ p19 = .int .i64 (i3 : Int) ∧ Aside0 (i3 ≤ outs.length ∧ outs.length + 1 ≤ i3 + kq) ∧ Aside0 (InW w v lock Ai ins.length ci Ao outs.length co w') ∧ Aside0 (Kd.R (Kd.int .i64) 3 w' w.heap.size (fun _ => True) (.slice A16 1 c16) [25]))
                  case atStart => exact ⟨0, by rfl, by rfl, ⟨by omega⟩, HW4, HF4⟩
                  case round =>
                    obtain ⟨i3, rfl, rfl, HK3, HW5, HF5⟩ := hrel
                    have kb2 := cell_of HW5.out.box (j := 2) rfl
                    by_cases hlt3 : i3 < outs.length
                    · have hi3 : (i3 : Int) < (outs.length : Int) := by omega
                      have hw3 : wrap64 ((i3 : Int) + 1) = ((i3 + 1 : Nat) : Int) := by rw [ln64 _ (by omega) (by have := HN2.out; omega)]; rfl
                      have HI3 := Aside0.mk hlt3
                      obtain ⟨ad3, e3, hv3⟩ := out_val (Kd.C_below HO.out HW5.out.low) (i3 : Int) (by omega) hi3
                      subst e3
                      rw [rd_out i3 hlt3, Int.toNat_natCast] at hv3
                      have hst := sumW_take (outs.map fun y => y.f0) i3 (by rw [List.length_map]; exact hlt3)
                      rw [List.getElem_map] at hst
                      have hb3 := (badW_sum (outs.map fun y => y.f0) 0 (by decide) (by decide) HBO2.out (i3 + 1))
                      rw [Int.zero_add] at hb3
                      have hws : wrap64 (sumW ((outs.map fun y => y.f0).take i3) + outs[i3].f0) = sumW ((outs.map fun y => y.f0).take (i3 + 1)) := by rw [← hst, ln64 _ hb3.1 (by omega)]
                      have HWS := Aside0.mk hws
                      obtain ⟨y3, hy3⟩ : ∃ y, outs[i3].f0 = y := ⟨_, rfl⟩
                      obtain ⟨s3, hs3⟩ : ∃ y, sumW ((outs.map fun y => y.f0).take i3) = y := ⟨_, rfl⟩
                      rw [hy3] at hv3 hws
                      rw [hs3] at hws ⊢
                      clear hst hb3 hlt3 HWS hy3 hs3
                      have HWS := Aside0.mk hws
                      clear hws
                      go_wp2_with fail
                      go_roundg (gk - 1)
                      case measure => exact meas1 HK3.out HI3.out
                      case rel => exact ⟨i3 + 1, by rw [← HWS.out], by first | rfl | (rw [hw3]; done), ⟨meas2 HK3.out HI3.out⟩, HW5, HF5⟩
                    · have hi3 : ¬ (i3 : Int) < (outs.length : Int) := by omega
                      have hso := List.take_of_length_le (l := outs.map fun y => y.f0) (i := i3) (by rw [List.length_map]; omega)
                      rw [hso, HSOE.out]
                      by_cases hlt9 : si < so
                      · obtain rfl : FF = [25, 26] := by rw [HFD.out, decide_eq_true hlt9]; rfl
                        go_wp2_with (((with_reducible refine at_dst (N := 107) rfl ?_); refine Kd.R_append (Kd.int .i64) (w0 := w) w.heap.size rfl (.tmp 105) (.tmp 106) 36 3 (.int .i64 0) 8 rfl Try.underlying36 info3 rfl (by decide) (by decide) (.slice A16 1 c16) [25] 26 [.int .i64 26] (fun _ => True) (fun _ => False) rfl rfl rfl (fun _ hk => hk.elim) (fun _ _ => trivial) HF5.out HW5.out.low ?aS ?aL ?_; (case aS => exact HW5.out.low.size); (case aL => decide); intro v1 w30 ho hb hg9 hat; (obtain ⟨A30, c30, e7⟩ := Kd.R_slice ho); (have e7 : v1 = (.slice A30 2 c30) := e7); subst e7; have HW30 := Aside0.mk (HW5.out.grown hg9 hb (Kd.R_ne HF5.out HW5.out.box (by decide))); have HF30 : Aside0 (Kd.R (Kd.int .i64) 3 w30 w.heap.size (fun _ => True) (.slice A30 2 c30) [25, 26]) := Aside0.mk ho; clear ho hb hg9 hat))
                        go_ret2
                        exact ⟨⟨0, A30, c30, rfl, HF30.out, fun h => by cases h⟩, HW30.out.low⟩
                      · skip
                        obtain rfl : FF = [25] := by rw [HFD.out, decide_eq_false hlt9]; rfl
                        go_wp2_with fail
                        go_ret2
                        exact ⟨⟨0, _, _, rfl, HF5.out, fun h => by cases h⟩, HW5.out.low⟩
            · obtain rfl : FF = [25, 18] := HFD.out
              go_wp2_with (first | (go_at_call 36; (with_reducible refine (HBV.out _ (R_C HV16.out)).mono ?_); rintro e w9 ⟨rfl, hd⟩; have HWb := Aside0.mk (HW16.out.below hd); have HVb := Aside0.mk (Kd.R_below HV16.out hd); have HFb := Aside0.mk (Kd.R_below HF16.out hd); clear hd) | ((with_reducible refine at_dst (N := 72) rfl ?_); refine Kd.R_append (Kd.int .i64) (w0 := w) w.heap.size rfl (.tmp 70) (.tmp 71) 36 3 (.int .i64 0) 8 rfl Try.underlying36 info3 rfl (by decide) (by decide) (.slice A16 1 c16) [25] 18 [.int .i64 18] (fun _ => True) (fun _ => False) rfl rfl rfl (fun _ hk => hk.elim) (fun _ _ => trivial) HFb.out HWb.out.low ?aS ?aL ?_; (case aS => exact HWb.out.low.size); (case aL => decide); intro v1 w18 ho hb hg9 hat; (obtain ⟨A18, c18, e7⟩ := Kd.R_slice ho); (have e7 : v1 = (.slice A18 2 c18) := e7); subst e7; have HW18 := Aside0.mk (HWb.out.grown hg9 hb (Kd.R_ne HFb.out HWb.out.box (by decide))); have HV18 := Aside0.mk (Kd.R_over HVb.out HFb.out (by decide) hg9); have HF18 : Aside0 (Kd.R (Kd.int .i64) 3 w18 w.heap.size (fun _ => True) (.slice A18 2 c18) [25, 18]) := Aside0.mk ho; clear ho hb hg9 hat))
              go_ret2
              exact ⟨⟨0, A18, c18, rfl, HF18.out, fun h => by cases h⟩, HW18.out.low⟩
        · go_upto_region 15 with ((with_reducible refine at_dst (N := 63) rfl ?_); refine Kd.R_append (Kd.int .i64) (w0 := w) w.heap.size rfl (.tmp 61) (.tmp 62) 36 3 (.int .i64 0) 8 rfl Try.underlying36 info3 rfl (by decide) (by decide) (.slice none 0 0) [] 21 [.int .i64 21] (fun _ => True) (fun _ => False) rfl rfl rfl (fun _ hk => hk.elim) (fun _ _ => trivial) HF0.out HW.out.low ?aS ?aL ?_; (case aS => exact HW.out.low.size); (case aL => decide); intro v1 w14 ho hb hg9 hat; (obtain ⟨A14, c14, e7⟩ := Kd.R_slice ho); (have e7 : v1 = (.slice A14 1 c14) := e7); subst e7; have HW14 := Aside0.mk (HW.out.grown hg9 hb (Kd.R_ne HF0.out HW.out.box (by decide))); have HV14 := Aside0.mk (Kd.R_over HV.out HF0.out (by decide) hg9); have HF14 : Aside0 (Kd.R (Kd.int .i64) 3 w14 w.heap.size (fun _ => True) (.slice A14 1 c14) [21]) := Aside0.mk ho; clear ho hb hg9 hat)
          cases yb
          · go_upto_region 17 with fail
            cases bb
            · skip
              go_wp2_with (go_at_call 36; (with_reducible refine (HBV.out _ (R_C HV14.out)).mono ?_); rintro e w9 ⟨rfl, hd⟩; have HWb := Aside0.mk (HW14.out.below hd); have HVb := Aside0.mk (Kd.R_below HV14.out hd); have HFb := Aside0.mk (Kd.R_below HF14.out hd); clear hd)
              go_loopg [16, 18] (vs.length + 1) (fun kq p16 p18 w' => ∃ i2 : Nat, p16 = .int .i64 (sumW (vs.take i2)) ∧ p18 = .int .i64 (i2 : Int) ∧ Aside0 (i2 ≤ vs.length ∧ vs.length + 1 ≤ i2 + kq) ∧ Aside0 (InW w v lock Ai ins.length ci Ao outs.length co w') ∧ Aside0 (Kd.R kVal 41 w' w.heap.size (fun _ => True) (.slice A9 vs.length c9) vs) ∧ Aside0 (Kd.R (Kd.int .i64) 3 w' w.heap.size (fun _ => True) (.slice A14 1 c14) [21]))
              case atStart => exact ⟨0, by rfl, by rfl, ⟨by omega⟩, HWb, HVb, HFb⟩
              case round =>
                obtain ⟨i2, rfl, rfl, HK2, HW4, HV4, HF4⟩ := hrel
                by_cases hlt2 : i2 < vs.length
                · have hi2 : (i2 : Int) < (vs.length : Int) := by omega
                  have hw2 : wrap64 ((i2 : Int) + 1) = ((i2 + 1 : Nat) : Int) := by rw [ln64 _ (by omega) (by have := HVL.out; omega)]; rfl
                  have HI2 := Aside0.mk hlt2
                  obtain ⟨ad2, e2, hv2⟩ := val_at (R_C HV4.out) (i2 : Int) (by omega) hi2
                  subst e2
                  rw [rd_v vs i2 hlt2, Int.toNat_natCast] at hv2
                  have hst := sumW_take vs i2 hlt2
                  have hb2 := badW_sum vs 0 (by decide) (by decide) HBB.out (i2 + 1)
                  rw [Int.zero_add] at hb2
                  have hws : wrap64 (sumW (vs.take i2) + vs[i2]) = sumW (vs.take (i2 + 1)) := by rw [← hst, ln64 _ hb2.1 (by omega)]
                  obtain ⟨y2, hy2⟩ : ∃ y, vs[i2] = y := ⟨_, rfl⟩
                  obtain ⟨s2, hs2⟩ : ∃ y, sumW (vs.take i2) = y := ⟨_, rfl⟩
                  rw [hy2] at hv2 hws
                  rw [hs2] at hws ⊢
                  clear hst hb2 hlt2 hy2 hs2
                  have HWS := Aside0.mk hws
                  clear hws
                  go_wp2_with fail
                  go_roundg (gk - 1)
                  case measure => exact meas1 HK2.out HI2.out
                  case rel => exact ⟨i2 + 1, by rw [← HWS.out], by first | rfl | (rw [hw2]; done), ⟨meas2 HK2.out HI2.out⟩, HW4, HV4, HF4⟩
                · have hi2 : ¬ (i2 : Int) < (vs.length : Int) := by omega
                  rw [List.take_of_length_le (by omega), HSIE.out]
                  go_wp2_with fail
                  go_loopg [17, 19] (outs.length + 1) (fun kq p17 p19 w' => ∃ i3 : Nat, p17 = .int .i64 (sumW ((outs.map fun y => y.f0).take i3)) ∧ p19 = .int .i64 (i3 : Int) ∧ Aside0 (i3 ≤ outs.length ∧ outs.length + 1 ≤ i3 + kq) ∧ Aside0 (InW w v lock Ai ins.length ci Ao outs.length co w') ∧ Aside0 (Kd.R (Kd.int .i64) 3 w' w.heap.size (fun _ => True) (.slice A14 1 c14) [21]))
                  case atStart => exact ⟨0, by rfl, by rfl, ⟨by omega⟩, HW4, HF4⟩
                  case round =>
                    obtain ⟨i3, rfl, rfl, HK3, HW5, HF5⟩ := hrel
                    have kb2 := cell_of HW5.out.box (j := 2) rfl
                    by_cases hlt3 : i3 < outs.length
                    · have hi3 : (i3 : Int) < (outs.length : Int) := by omega
                      have hw3 : wrap64 ((i3 : Int) + 1) = ((i3 + 1 : Nat) : Int) := by rw [ln64 _ (by omega) (by have := HN2.out; omega)]; rfl
                      have HI3 := Aside0.mk hlt3
                      obtain ⟨ad3, e3, hv3⟩ := out_val (Kd.C_below HO.out HW5.out.low) (i3 : Int) (by omega) hi3
                      subst e3
                      rw [rd_out i3 hlt3, Int.toNat_natCast] at hv3
                      have hst := sumW_take (outs.map fun y => y.f0) i3 (by rw [List.length_map]; exact hlt3)
                      rw [List.getElem_map] at hst
                      have hb3 := (badW_sum (outs.map fun y => y.f0) 0 (by decide) (by decide) HBO2.out (i3 + 1))
                      rw [Int.zero_add] at hb3
                      have hws : wrap64 (sumW ((outs.map fun y => y.f0).take i3) + outs[i3].f0) = sumW ((outs.map fun y => y.f0).take (i3 + 1)) := by rw [← hst, ln64 _ hb3.1 (by omega)]
                      have HWS := Aside0.mk hws
                      obtain ⟨y3, hy3⟩ : ∃ y, outs[i3].f0 = y := ⟨_, rfl⟩
                      obtain ⟨s3, hs3⟩ : ∃ y, sumW ((outs.map fun y => y.f0).take i3) = y := ⟨_, rfl⟩
                      rw [hy3] at hv3 hws
                      rw [hs3] at hws ⊢
                      clear hst hb3 hlt3 HWS hy3 hs3
                      have HWS := Aside0.mk hws
                      clear hws
                      go_wp2_with fail
                      go_roundg (gk - 1)
                      case measure => exact meas1 HK3.out HI3.out
                      case rel => exact ⟨i3 + 1, by rw [← HWS.out], by first | rfl | (rw [hw3]; done), ⟨meas2 HK3.out HI3.out⟩, HW5, HF5⟩
                    · have hi3 : ¬ (i3 : Int) < (outs.length : Int) := by omega
                      have hso := List.take_of_length_le (l := outs.map fun y => y.f0) (i := i3) (by rw [List.length_map]; omega)
                      rw [hso, HSOE.out]
                      by_cases hlt9 : si < so
                      · obtain rfl : FF = [21, 26] := by rw [HFD.out, decide_eq_true hlt9]; rfl
                        go_wp2_with (((with_reducible refine at_dst (N := 107) rfl ?_); refine Kd.R_append (Kd.int .i64) (w0 := w) w.heap.size rfl (.tmp 105) (.tmp 106) 36 3 (.int .i64 0) 8 rfl Try.underlying36 info3 rfl (by decide) (by decide) (.slice A14 1 c14) [21] 26 [.int .i64 26] (fun _ => True) (fun _ => False) rfl rfl rfl (fun _ hk => hk.elim) (fun _ _ => trivial) HF5.out HW5.out.low ?aS ?aL ?_; (case aS => exact HW5.out.low.size); (case aL => decide); intro v1 w30 ho hb hg9 hat; (obtain ⟨A30, c30, e7⟩ := Kd.R_slice ho); (have e7 : v1 = (.slice A30 2 c30) := e7); subst e7; have HW30 := Aside0.mk (HW5.out.grown hg9 hb (Kd.R_ne HF5.out HW5.out.box (by decide))); have HF30 : Aside0 (Kd.R (Kd.int .i64) 3 w30 w.heap.size (fun _ => True) (.slice A30 2 c30) [21, 26]) := Aside0.mk ho; clear ho hb hg9 hat))
                        go_ret2
                        exact ⟨⟨0, A30, c30, rfl, HF30.out, fun h => by cases h⟩, HW30.out.low⟩
                      · skip
                        obtain rfl : FF = [21] := by rw [HFD.out, decide_eq_false hlt9]; rfl
                        go_wp2_with fail
                        go_ret2
                        exact ⟨⟨0, _, _, rfl, HF5.out, fun h => by cases h⟩, HW5.out.low⟩
            · obtain rfl : FF = [21, 18] := HFD.out
              go_wp2_with (first | (go_at_call 36; (with_reducible refine (HBV.out _ (R_C HV14.out)).mono ?_); rintro e w9 ⟨rfl, hd⟩; have HWb := Aside0.mk (HW14.out.below hd); have HVb := Aside0.mk (Kd.R_below HV14.out hd); have HFb := Aside0.mk (Kd.R_below HF14.out hd); clear hd) | ((with_reducible refine at_dst (N := 72) rfl ?_); refine Kd.R_append (Kd.int .i64) (w0 := w) w.heap.size rfl (.tmp 70) (.tmp 71) 36 3 (.int .i64 0) 8 rfl Try.underlying36 info3 rfl (by decide) (by decide) (.slice A14 1 c14) [21] 18 [.int .i64 18] (fun _ => True) (fun _ => False) rfl rfl rfl (fun _ hk => hk.elim) (fun _ _ => trivial) HFb.out HWb.out.low ?aS ?aL ?_; (case aS => exact HWb.out.low.size); (case aL => decide); intro v1 w18 ho hb hg9 hat; (obtain ⟨A18, c18, e7⟩ := Kd.R_slice ho); (have e7 : v1 = (.slice A18 2 c18) := e7); subst e7; have HW18 := Aside0.mk (HWb.out.grown hg9 hb (Kd.R_ne HFb.out HWb.out.box (by decide))); have HV18 := Aside0.mk (Kd.R_over HVb.out HFb.out (by decide) hg9); have HF18 : Aside0 (Kd.R (Kd.int .i64) 3 w18 w.heap.size (fun _ => True) (.slice A18 2 c18) [21, 18]) := Aside0.mk ho; clear ho hb hg9 hat))
              go_ret2
              exact ⟨⟨0, A18, c18, rfl, HF18.out, fun h => by cases h⟩, HW18.out.low⟩
          · go_upto_region 17 with ((with_reducible refine at_dst (N := 67) rfl ?_); refine Kd.R_append (Kd.int .i64) (w0 := w) w.heap.size rfl (.tmp 65) (.tmp 66) 36 3 (.int .i64 0) 8 rfl Try.underlying36 info3 rfl (by decide) (by decide) (.slice A14 1 c14) [21] 25 [.int .i64 25] (fun _ => True) (fun _ => False) rfl rfl rfl (fun _ hk => hk.elim) (fun _ _ => trivial) HF14.out HW14.out.low ?aS ?aL ?_; (case aS => exact HW14.out.low.size); (case aL => decide); intro v1 w16 ho hb hg9 hat; (obtain ⟨A16, c16, e7⟩ := Kd.R_slice ho); (have e7 : v1 = (.slice A16 2 c16) := e7); subst e7; have HW16 := Aside0.mk (HW14.out.grown hg9 hb (Kd.R_ne HF14.out HW14.out.box (by decide))); have HV16 := Aside0.mk (Kd.R_over HV14.out HF14.out (by decide) hg9); have HF16 : Aside0 (Kd.R (Kd.int .i64) 3 w16 w.heap.size (fun _ => True) (.slice A16 2 c16) [21, 25]) := Aside0.mk ho; clear ho hb hg9 hat)
            cases bb
            · skip
              go_wp2_with (go_at_call 36; (with_reducible refine (HBV.out _ (R_C HV16.out)).mono ?_); rintro e w9 ⟨rfl, hd⟩; have HWb := Aside0.mk (HW16.out.below hd); have HVb := Aside0.mk (Kd.R_below HV16.out hd); have HFb := Aside0.mk (Kd.R_below HF16.out hd); clear hd)
              go_loopg [16, 18] (vs.length + 1) (fun kq p16 p18 w' => ∃ i2 : Nat, p16 = .int .i64 (sumW (vs.take i2)) ∧ p18 = .int .i64 (i2 : Int) ∧ Aside0 (i2 ≤ vs.length ∧ vs.length + 1 ≤ i2 + kq) ∧ Aside0 (InW w v lock Ai ins.length ci Ao outs.length co w') ∧ Aside0 (Kd.R kVal 41 w' w.heap.size (fun _ => True) (.slice A9 vs.length c9) vs) ∧ Aside0 (Kd.R (Kd.int .i64) 3 w' w.heap.size (fun _ => True) (.slice A16 2 c16) [21, 25]))
              case atStart => exact ⟨0, by rfl, by rfl, ⟨by omega⟩, HWb, HVb, HFb⟩
              case round =>
                obtain ⟨i2, rfl, rfl, HK2, HW4, HV4, HF4⟩ := hrel
                by_cases hlt2 : i2 < vs.length
                · have hi2 : (i2 : Int) < (vs.length : Int) := by omega
                  have hw2 : wrap64 ((i2 : Int) + 1) = ((i2 + 1 : Nat) : Int) := by rw [ln64 _ (by omega) (by have := HVL.out; omega)]; rfl
                  have HI2 := Aside0.mk hlt2
                  obtain ⟨ad2, e2, hv2⟩ := val_at (R_C HV4.out) (i2 : Int) (by omega) hi2
                  subst e2
                  rw [rd_v vs i2 hlt2, Int.toNat_natCast] at hv2
                  have hst := sumW_take vs i2 hlt2
                  have hb2 := badW_sum vs 0 (by decide) (by decide) HBB.out (i2 + 1)
                  rw [Int.zero_add] at hb2
                  have hws : wrap64 (sumW (vs.take i2) + vs[i2]) = sumW (vs.take (i2 + 1)) := by rw [← hst, ln64 _ hb2.1 (by omega)]
                  obtain ⟨y2, hy2⟩ : ∃ y, vs[i2] = y := ⟨_, rfl⟩
                  obtain ⟨s2, hs2⟩ : ∃ y, sumW (vs.take i2) = y := ⟨_, rfl⟩
                  rw [hy2] at hv2 hws
                  rw [hs2] at hws ⊢
                  clear hst hb2 hlt2 hy2 hs2
                  have HWS := Aside0.mk hws
                  clear hws
                  go_wp2_with fail
                  go_roundg (gk - 1)
                  case measure => exact meas1 HK2.out HI2.out
                  case rel => exact ⟨i2 + 1, by rw [← HWS.out], by first | rfl | (rw [hw2]; done), ⟨meas2 HK2.out HI2.out⟩, HW4, HV4, HF4⟩
                · have hi2 : ¬ (i2 : Int) < (vs.length : Int) := by omega
                  rw [List.take_of_length_le (by omega), HSIE.out]
                  go_wp2_with fail
                  go_loopg [17, 19] (outs.length + 1) (fun kq p17 p19 w' => ∃ i3 : Nat, p17 = .int .i64 (sumW ((outs.map fun y => y.f0).take i3)) ∧ p19 = .int .i64 (i3 : Int) ∧ Aside0 (i3 ≤ outs.length ∧ outs.length + 1 ≤ i3 + kq) ∧ Aside0 (InW w v lock Ai ins.length ci Ao outs.length co w') ∧ Aside0 (Kd.R (Kd.int .i64) 3 w' w.heap.size (fun _ => True) (.slice A16 2 c16) [21, 25]))
                  case atStart => exact ⟨0, by rfl, by rfl, ⟨by omega⟩, HW4, HF4⟩
                  case round =>
                    obtain ⟨i3, rfl, rfl, HK3, HW5, HF5⟩ := hrel
                    have kb2 := cell_of HW5.out.box (j := 2) rfl
                    by_cases hlt3 : i3 < outs.length
                    · have hi3 : (i3 : Int) < (outs.length : Int) := by omega
                      have hw3 : wrap64 ((i3 : Int) + 1) = ((i3 + 1 : Nat) : Int) := by rw [ln64 _ (by omega) (by have := HN2.out; omega)]; rfl
                      have HI3 := Aside0.mk hlt3
                      obtain ⟨ad3, e3, hv3⟩ := out_val (Kd.C_below HO.out HW5.out.low) (i3 : Int) (by omega) hi3
                      subst e3
                      rw [rd_out i3 hlt3, Int.toNat_natCast] at hv3
                      have hst := sumW_take (outs.map fun y => y.f0) i3 (by rw [List.length_map]; exact hlt3)
                      rw [List.getElem_map] at hst
                      have hb3 := (badW_sum (outs.map fun y => y.f0) 0 (by decide) (by decide) HBO2.out (i3 + 1))
                      rw [Int.zero_add] at hb3
                      have hws : wrap64 (sumW ((outs.map fun y => y.f0).take i3) + outs[i3].f0) = sumW ((outs.map fun y => y.f0).take (i3 + 1)) := by rw [← hst, ln64 _ hb3.1 (by omega)]
                      have HWS := Aside0.mk hws
                      obtain ⟨y3, hy3⟩ : ∃ y, outs[i3].f0 = y := ⟨_, rfl⟩
                      obtain ⟨s3, hs3⟩ : ∃ y, sumW ((outs.map fun y => y.f0).take i3) = y := ⟨_, rfl⟩
                      rw [hy3] at hv3 hws
                      rw [hs3] at hws ⊢
                      clear hst hb3 hlt3 HWS hy3 hs3
                      have HWS := Aside0.mk hws
                      clear hws
                      go_wp2_with fail
                      go_roundg (gk - 1)
                      case measure => exact meas1 HK3.out HI3.out
                      case rel => exact ⟨i3 + 1, by rw [← HWS.out], by first | rfl | (rw [hw3]; done), ⟨meas2 HK3.out HI3.out⟩, HW5, HF5⟩
                    · have hi3 : ¬ (i3 : Int) < (outs.length : Int) := by omega
                      have hso := List.take_of_length_le (l := outs.map fun y => y.f0) (i := i3) (by rw [List.length_map]; omega)
                      rw [hso, HSOE.out]
                      by_cases hlt9 : si < so
                      · obtain rfl : FF = [21, 25, 26] := by rw [HFD.out, decide_eq_true hlt9]; rfl
                        go_wp2_with (((with_reducible refine at_dst (N := 107) rfl ?_); refine Kd.R_append (Kd.int .i64) (w0 := w) w.heap.size rfl (.tmp 105) (.tmp 106) 36 3 (.int .i64 0) 8 rfl Try.underlying36 info3 rfl (by decide) (by decide) (.slice A16 2 c16) [21, 25] 26 [.int .i64 26] (fun _ => True) (fun _ => False) rfl rfl rfl (fun _ hk => hk.elim) (fun _ _ => trivial) HF5.out HW5.out.low ?aS ?aL ?_; (case aS => exact HW5.out.low.size); (case aL => decide); intro v1 w30 ho hb hg9 hat; (obtain ⟨A30, c30, e7⟩ := Kd.R_slice ho); (have e7 : v1 = (.slice A30 3 c30) := e7); subst e7; have HW30 := Aside0.mk (HW5.out.grown hg9 hb (Kd.R_ne HF5.out HW5.out.box (by decide))); have HF30 : Aside0 (Kd.R (Kd.int .i64) 3 w30 w.heap.size (fun _ => True) (.slice A30 3 c30) [21, 25, 26]) := Aside0.mk ho; clear ho hb hg9 hat))
                        go_ret2
                        exact ⟨⟨0, A30, c30, rfl, HF30.out, fun h => by cases h⟩, HW30.out.low⟩
                      · skip
                        obtain rfl : FF = [21, 25] := by rw [HFD.out, decide_eq_false hlt9]; rfl
                        go_wp2_with fail
                        go_ret2
                        exact ⟨⟨0, _, _, rfl, HF5.out, fun h => by cases h⟩, HW5.out.low⟩
            · obtain rfl : FF = [21, 25, 18] := HFD.out
              go_wp2_with (first | (go_at_call 36; (with_reducible refine (HBV.out _ (R_C HV16.out)).mono ?_); rintro e w9 ⟨rfl, hd⟩; have HWb := Aside0.mk (HW16.out.below hd); have HVb := Aside0.mk (Kd.R_below HV16.out hd); have HFb := Aside0.mk (Kd.R_below HF16.out hd); clear hd) | ((with_reducible refine at_dst (N := 72) rfl ?_); refine Kd.R_append (Kd.int .i64) (w0 := w) w.heap.size rfl (.tmp 70) (.tmp 71) 36 3 (.int .i64 0) 8 rfl Try.underlying36 info3 rfl (by decide) (by decide) (.slice A16 2 c16) [21, 25] 18 [.int .i64 18] (fun _ => True) (fun _ => False) rfl rfl rfl (fun _ hk => hk.elim) (fun _ _ => trivial) HFb.out HWb.out.low ?aS ?aL ?_; (case aS => exact HWb.out.low.size); (case aL => decide); intro v1 w18 ho hb hg9 hat; (obtain ⟨A18, c18, e7⟩ := Kd.R_slice ho); (have e7 : v1 = (.slice A18 3 c18) := e7); subst e7; have HW18 := Aside0.mk (HWb.out.grown hg9 hb (Kd.R_ne HFb.out HWb.out.box (by decide))); have HV18 := Aside0.mk (Kd.R_over HVb.out HFb.out (by decide) hg9); have HF18 : Aside0 (Kd.R (Kd.int .i64) 3 w18 w.heap.size (fun _ => True) (.slice A18 3 c18) [21, 25, 18]) := Aside0.mk ho; clear ho hb hg9 hat))
              go_ret2
              exact ⟨⟨0, A18, c18, rfl, HF18.out, fun h => by cases h⟩, HW18.out.low⟩
  · go_wp2_with (go_at_call 38; (with_reducible refine (HIS.out _ (Kd.C_below HI.out HW0.out.low)).mono ?_); rintro e w2 ⟨rfl, hd⟩; have HW1 := Aside0.mk (HW0.out.below hd); clear hd)
    go_ret2
    refine ⟨⟨0, none, 0, ?_, ?_, fun _ => ?_⟩, HW1.out.low⟩
    · rw [← HFF.out]; unfold inFaults; rw [if_pos HBC.out]; rfl
    · rw [← HFF.out]; unfold inFaults; rw [if_pos HBC.out]; exact Kd.R_nil _ _ _ _ _
    · rw [← HFE.out]; unfold inFee; rw [if_pos HBC.out]
end Go.Proofs.Ytdheoajaaofmbaa.QFnScriptPlaces
/- An entry of the view: made, spent, read. -/
namespace Go.Proofs.Ytdheoajaaofmbaa.QFnScriptPlaces
open Go.RowKit Go.Proofs.YtdheoajaaofmbaaW.PrintWords Go.Proofs.YtdheoajaaofmbaaW.PrintLast Go.Proofs.YtdheoajaaofmbaaW.PrintMore
set_option linter.unusedVariables false
set_option linter.unusedSimpArgs false
def flg (cb sp : Bool) : Int := (if cb = true then 1 else 0) + (if sp = true then 6 else 0)
/-- Block g holds an entry. -/
structure EntW (W : World) (g : Nat) (a h : Int) (cb sp : Bool) : Prop where
  ex : ∃ (A : Option Addr) (n c : Nat), W.heap[g]? = some (.cells #[.int .i64 a, .slice A n c, .int .i32 h, .int .u8 (flg cb sp)] 144 (0, 0))
theorem EntW.below {W W1 : World} {g : Nat} {a h : Int} {cb sp : Bool} (e : EntW W g a h cb sp) (hb : Below W.heap.size W W1) : EntW W1 g a h cb sp := by
  obtain ⟨A, n, c, hg⟩ := e.ex
  exact ⟨⟨A, n, c, (hb.block _ (blk_lt' hg)).trans hg⟩⟩
theorem EntW.lt {W : World} {g : Nat} {a h : Int} {cb sp : Bool} (e : EntW W g a h cb sp) : g < W.heap.size := by
  obtain ⟨A, n, c, hg⟩ := e.ex
  exact blk_lt' hg
theorem isSpentC (g : Nat) (a h : Int) (cb sp : Bool) (w : World) (e : EntW w g a h cb sp) : Calls Try.prog 59 #[.pointer (some ⟨g, 0, none⟩)] w fun e w' => e = .returned (.bool sp) ∧ w = w' := by
  obtain ⟨A, n, c, hg⟩ := e.ex
  have k3 := cell_of hg (j := 3) rfl
  clear hg e
  go_enter Try.func59, Try.ntmps59
  cases cb <;> cases sp
  all_goals
    go_wp2_with fail
    go_ret
    exact ⟨by first | rfl | decide, rfl⟩
theorem isCbC (g : Nat) (a h : Int) (cb sp : Bool) (w : World) (e : EntW w g a h cb sp) : Calls Try.prog 60 #[.pointer (some ⟨g, 0, none⟩)] w fun e w' => e = .returned (.bool cb) ∧ w = w' := by
  obtain ⟨A, n, c, hg⟩ := e.ex
  have k3 := cell_of hg (j := 3) rfl
  clear hg e
  go_enter Try.func60, Try.ntmps60
  cases cb <;> cases sp
  all_goals
    go_wp2_with fail
    go_ret
    exact ⟨by first | rfl | decide, rfl⟩
theorem heightC (g : Nat) (a h : Int) (cb sp : Bool) (w : World) (e : EntW w g a h cb sp) : Calls Try.prog 61 #[.pointer (some ⟨g, 0, none⟩)] w fun e w' => e = .returned (.int .i32 h) ∧ w = w' := by
  obtain ⟨A, n, c, hg⟩ := e.ex
  have k2 := cell_of hg (j := 2) rfl
  clear hg e
  go_enter Try.func61, Try.ntmps61
  go_wp2_with fail
  go_ret
  exact ⟨rfl, rfl⟩
theorem amountC (g : Nat) (a h : Int) (cb sp : Bool) (w : World) (e : EntW w g a h cb sp) : Calls Try.prog 62 #[.pointer (some ⟨g, 0, none⟩)] w fun e w' => e = .returned (.int .i64 a) ∧ w = w' := by
  obtain ⟨A, n, c, hg⟩ := e.ex
  have k0 := cell_of hg (j := 0) rfl
  clear hg e
  go_enter Try.func62, Try.ntmps62
  go_wp2_with fail
  go_ret
  exact ⟨rfl, rfl⟩
/-- Spend: the flags are set; nothing else turns. -/
theorem spendC (g : Nat) (a h : Int) (cb : Bool) (w w0 : World) (B : Nat) (e : EntW w g a h cb false) (hb : Below B w0 w) (hB : B ≤ g) : Calls Try.prog 65 #[.pointer (some ⟨g, 0, none⟩)] w fun e w' => e = .returned (.tuple #[]) ∧ EntW w' g a h cb true ∧ Below B w0 w' ∧ w.grownBy w' (some g) := by
  have HE := Aside0.mk e
  have HB := Aside0.mk hb
  obtain ⟨A, n, c, hg⟩ := e.ex
  have HG := Aside0.mk hg
  have k3 := cell_of hg (j := 3) rfl
  have hf := frozen_of hg 3
  clear hg e hb
  go_enter Try.func65, Try.ntmps65
  go_upto_region 1 with (go_at_call 59; (with_reducible refine (isSpentC g a h cb false w HE.out).mono ?_); rintro e w2 ⟨rfl, rfl⟩)
  cases cb
  all_goals
    go_wp2_with fail
    go_end0
    refine ⟨rfl, ⟨⟨A, n, c, ?_⟩⟩, below_setOld HB.out hB _ _, ?_⟩
    · exact heap_set_same HG.out (j := 3) _
    · exact ⟨rfl, rfl, rfl, by simp [World.setCell], fun i _ hi => Below.heap_setCell w ⟨g, 3, none⟩ _ i (fun e => hi (by rw [e]))⟩
end Go.Proofs.Ytdheoajaaofmbaa.QFnScriptPlaces
/- The view of what may be spent: its functions. -/
namespace Go.Proofs.Ytdheoajaaofmbaa.QFnScriptPlaces
open Go.RowKit Go.Proofs.YtdheoajaaofmbaaW.PrintWords Go.Proofs.YtdheoajaaofmbaaW.PrintLast Go.Proofs.YtdheoajaaofmbaaW.PrintMore
set_option linter.unusedVariables false
set_option linter.unusedSimpArgs false
theorem run_lookup_own {P : Program} {o : Oper} {ρ : Operand → Value} {w : World} (t : TypeId) (m x : Operand) (ho : o.op = .lookup t m x false) (b : Nat) (hm : ρ m = .map (some b)) (key : Value) (hx : ρ x = key) {v : Value} (h : (Instr.lookup t (.map (some b)) key false).run P w = .ok v w) : (execOp ρ o).run P w = .ok (.value v) w := by
  unfold execOp
  simp [ho, hm, hx, h, Result.andThen]
/-- A pointer as a map's element. -/
def ptrElem : Value → Option (DataW Unit × List MemPlace)
  | .pointer (some ⟨g, 0, none⟩) => some (.lit (.int .i64 (g : Int)), [])
  | .pointer none => some (.lit (.int .i64 (-1)), [])
  | _ => none
theorem ptrElem_mk (g : Nat) : ptrElem (.pointer (some ⟨g, 0, none⟩)) = some (.lit (.int .i64 (g : Int)), []) := rfl
theorem ptrElem_nil : ptrElem (.pointer none) = some (.lit (.int .i64 (-1)), []) := rfl
theorem ptrElem_at {v : Value} {g : Nat} {ps : List MemPlace} (h : ptrElem v = some (.lit (.int .i64 (g : Int)), ps)) : v = .pointer (some ⟨g, 0, none⟩) := by
  unfold ptrElem at h
  split at h
  · simp only [Option.some.injEq, Prod.mk.injEq, DataW.lit.injEq, Lit.int.injEq, true_and] at h
    have : _ = g := Int.ofNat.inj h.1
    rw [this]
  · simp only [Option.some.injEq, Prod.mk.injEq, DataW.lit.injEq, Lit.int.injEq, true_and] at h
    omega
  · cases h
theorem ptrElem_none {v : Value} {ps : List MemPlace} (h : ptrElem v = some (.lit (.int .i64 (-1)), ps)) : v = .pointer none := by
  unfold ptrElem at h
  split at h
  · simp only [Option.some.injEq, Prod.mk.injEq, DataW.lit.injEq, Lit.int.injEq, true_and] at h
    omega
  · rfl
  · cases h
theorem zero_ptr : ∀ w : World, (zeroValue 126).run Try.prog w = .ok (.pointer none) w := fun w => by kernel_rfl
set_option maxRecDepth 100000 in
set_option maxHeartbeats 8000000 in
theorem newEntryC (gt : Nat) (a h : Int) (cb : Bool) (A : Option Addr) (n c : Nat) (w : World) (hg : w.heap[gt]? = some (.cells #[.int .i64 a, .slice A n c] 111 (0, 0))) :
    Calls Try.prog 64 #[.pointer (some ⟨gt, 0, none⟩), .int .i32 h, .bool cb] w fun e w' => ∃ g, e = .returned (.pointer (some ⟨g, 0, none⟩)) ∧ w.heap.size ≤ g ∧ EntW w' g a h cb false ∧ Below w.heap.size w w' := by
  have k0 := cell_of hg (j := 0) (v := .int .i64 a) rfl
  have k1 := cell_of hg (j := 1) (v := .slice A n c) rfl
  have HS : Aside0 (w.drew.cell? ⟨gt, 0, none⟩ = some (.int .i64 a) ∧ w.drew.cell? ⟨gt, 1, none⟩ = some (.slice A n c)) := ⟨k0, k1⟩
  clear hg k0 k1
  go_enter Try.func64, Try.ntmps64
  cases cb
  · go_upto_region 4 with fail
    refine start_ (n := 13) (S := fun w' => w'.cell? ⟨gt, 0, none⟩ = some (.int .i64 a) ∧ w'.cell? ⟨gt, 1, none⟩ = some (.slice A n c)) (ds := []) #[false, false, false, false, false, false, false, false, false, false, false, false, false] (by kernel_rfl) rfl rfl HS.out (fun hHeld => ?_)
    refine pure_ (i := 0) (N := some 11) (v := ?_) (a' := ?_) #[true, false, false, false, false, false, false, false, false, false, false, false, false] rfl rfl (by kernel_rfl) (fun _ _ _ h => h) (Or.inl ⟨by rfl, ?_⟩) ?_ ?_
    rotate_left
    · intro w'
      go_simp
      with_reducible rfl
    rotate_left
    · simp only [Act.put, List.setIfInBounds_toArray, List.set_cons_zero, List.set_cons_succ, i64_w, i32_w]
      rfl
    refine pure_ (i := 1) (N := some 12) (v := ?_) (a' := ?_) #[true, true, false, false, false, false, false, false, false, false, false, false, false] rfl rfl (by kernel_rfl) (fun _ _ _ h => h) (Or.inl ⟨by rfl, ?_⟩) ?_ ?_
    rotate_left
    · intro w'
      go_simp
      with_reducible rfl
    rotate_left
    · simp only [Act.put, List.setIfInBounds_toArray, List.set_cons_zero, List.set_cons_succ, i64_w, i32_w]
      rfl
    refine pure_ (i := 2) (N := some 13) (v := ?_) (a' := ?_) #[true, true, true, false, false, false, false, false, false, false, false, false, false] rfl rfl (by kernel_rfl) (fun _ _ _ h => h) (Or.inl ⟨by rfl, ?_⟩) ?_ ?_
    rotate_left
    · intro w'
      go_simp
      with_reducible rfl
    rotate_left
    · simp only [Act.put, List.setIfInBounds_toArray, List.set_cons_zero, List.set_cons_succ, i64_w, i32_w]
      rfl
    refine take_ (i := 3) (N := some 14) (v := ?_) (a' := ?_) #[true, true, true, true, false, false, false, false, false, false, false, false, false] rfl rfl (by kernel_rfl) (fun _ _ _ h => h) (Or.inl ⟨by rfl, ?_⟩) hHeld ?_ ?_
    rotate_left
    · rintro w' ⟨s0, s1⟩
      go_simp
      with_reducible rfl
    rotate_left
    · simp only [Act.put, List.setIfInBounds_toArray, List.set_cons_zero, List.set_cons_succ, i64_w, i32_w]
      rfl
    refine pure_ (i := 4) (N := some 15) (v := ?_) (a' := ?_) #[true, true, true, true, true, false, false, false, false, false, false, false, false] rfl rfl (by kernel_rfl) (fun _ _ _ h => h) (Or.inl ⟨by rfl, ?_⟩) ?_ ?_
    rotate_left
    · intro w'
      go_simp
      with_reducible rfl
    rotate_left
    · simp only [Act.put, List.setIfInBounds_toArray, List.set_cons_zero, List.set_cons_succ, i64_w, i32_w]
      rfl
    refine pure_ (i := 5) (N := some 16) (v := ?_) (a' := ?_) #[true, true, true, true, true, true, false, false, false, false, false, false, false] rfl rfl (by kernel_rfl) (fun _ _ _ h => h) (Or.inl ⟨by rfl, ?_⟩) ?_ ?_
    rotate_left
    · intro w'
      go_simp
      with_reducible rfl
    rotate_left
    · simp only [Act.put, List.setIfInBounds_toArray, List.set_cons_zero, List.set_cons_succ, i64_w, i32_w]
      rfl
    refine pure_ (i := 6) (N := some 17) (v := ?_) (a' := ?_) #[true, true, true, true, true, true, true, false, false, false, false, false, false] rfl rfl (by kernel_rfl) (fun _ _ _ h => h) (Or.inl ⟨by rfl, ?_⟩) ?_ ?_
    rotate_left
    · intro w'
      go_simp
      with_reducible rfl
    rotate_left
    · simp only [Act.put, List.setIfInBounds_toArray, List.set_cons_zero, List.set_cons_succ, i64_w, i32_w]
      rfl
    refine take_ (i := 7) (N := some 18) (v := ?_) (a' := ?_) #[true, true, true, true, true, true, true, true, false, false, false, false, false] rfl rfl (by kernel_rfl) (fun _ _ _ h => h) (Or.inl ⟨by rfl, ?_⟩) hHeld ?_ ?_
    rotate_left
    · rintro w' ⟨s0, s1⟩
      go_simp
      with_reducible rfl
    rotate_left
    · simp only [Act.put, List.setIfInBounds_toArray, List.set_cons_zero, List.set_cons_succ, i64_w, i32_w]
      rfl
    refine pure_ (i := 8) (N := some 19) (v := ?_) (a' := ?_) #[true, true, true, true, true, true, true, true, true, false, false, false, false] rfl rfl (by kernel_rfl) (fun _ _ _ h => h) (Or.inl ⟨by rfl, ?_⟩) ?_ ?_
    rotate_left
    · intro w'
      go_simp
      with_reducible rfl
    rotate_left
    · simp only [Act.put, List.setIfInBounds_toArray, List.set_cons_zero, List.set_cons_succ, i64_w, i32_w]
      rfl
    refine pure_ (i := 9) (N := some 20) (v := ?_) (a' := ?_) #[true, true, true, true, true, true, true, true, true, true, false, false, false] rfl rfl (by kernel_rfl) (fun _ _ _ h => h) (Or.inl ⟨by rfl, ?_⟩) ?_ ?_
    rotate_left
    · intro w'
      go_simp
      with_reducible rfl
    rotate_left
    · simp only [Act.put, List.setIfInBounds_toArray, List.set_cons_zero, List.set_cons_succ, i64_w, i32_w]
      rfl
    refine pure_ (i := 10) (N := some 21) (v := ?_) (a' := ?_) #[true, true, true, true, true, true, true, true, true, true, true, false, false] rfl rfl (by kernel_rfl) (fun _ _ _ h => h) (Or.inl ⟨by rfl, ?_⟩) ?_ ?_
    rotate_left
    · intro w'
      go_simp
      with_reducible rfl
    rotate_left
    · simp only [Act.put, List.setIfInBounds_toArray, List.set_cons_zero, List.set_cons_succ, i64_w, i32_w]
      rfl
    refine one_ (i := 11) (N := some 22) #[true, true, true, true, true, true, true, true, true, true, true, true, false] rfl rfl (by kernel_rfl) (by decide) (fun K hK => ?_)
    refine event_step (v := .pointer (some ⟨w.drew.heap.size, 0, none⟩)) (w1 := w.drew.alloc (.cells #[Value.int .i64 a, Value.slice A n c, Value.int .i32 h, Value.int .u8 0] 144)) (by rfl) ?hr11 ?_
    case hr11 => first | (go_simp; done) | (go_simp; rfl)
    have hB5 := Aside0.mk (below_alloc (Below.refl w.drew.heap.size w.drew) (.cells #[Value.int .i64 a, Value.slice A n c, Value.int .i32 h, Value.int .u8 0] 144))
    have HG5 := Aside0.mk (heap_alloc_new w.drew (.cells #[Value.int .i64 a, Value.slice A n c, Value.int .i32 h, Value.int .u8 0] 144))
    refine hK.out _ _ ⟨pw_cell_below hB5.out hHeld.1, pw_cell_below hB5.out hHeld.2⟩ (fun hHeld => ?_)
    clear hK K
    refine norm_ (a' := ?_) ?_ ?_
    rotate_left
    · show Act.put _ (some 22) _ = _
      simp only [Act.put, List.setIfInBounds_toArray, List.set_cons_zero, List.set_cons_succ, i64_w, i32_w]
      rfl
    refine pure_ (i := 12) (N := some 6) (v := ?_) (a' := ?_) #[true, true, true, true, true, true, true, true, true, true, true, true, true] rfl rfl (by kernel_rfl) (fun _ _ _ h => h) (Or.inl ⟨by rfl, ?_⟩) ?_ ?_
    rotate_left
    · intro w'
      go_simp
      with_reducible rfl
    rotate_left
    · simp only [Act.put, List.setIfInBounds_toArray, List.set_cons_zero, List.set_cons_succ, i64_w, i32_w]
      rfl
    refine done_ (by kernel_rfl) ?_
    go_wp2_with fail
    go_ret
    exact ⟨_, rfl, Nat.le_refl _, ⟨⟨A, n, c, HG5.out⟩⟩, (below_drew (Below.refl _ _)).trans (hB5.out)⟩
  · go_upto_region 4 with fail
    refine start_ (n := 13) (S := fun w' => w'.cell? ⟨gt, 0, none⟩ = some (.int .i64 a) ∧ w'.cell? ⟨gt, 1, none⟩ = some (.slice A n c)) (ds := []) #[false, false, false, false, false, false, false, false, false, false, false, false, false] (by kernel_rfl) rfl rfl HS.out (fun hHeld => ?_)
    refine pure_ (i := 0) (N := some 11) (v := ?_) (a' := ?_) #[true, false, false, false, false, false, false, false, false, false, false, false, false] rfl rfl (by kernel_rfl) (fun _ _ _ h => h) (Or.inl ⟨by rfl, ?_⟩) ?_ ?_
    rotate_left
    · intro w'
      go_simp
      with_reducible rfl
    rotate_left
    · simp only [Act.put, List.setIfInBounds_toArray, List.set_cons_zero, List.set_cons_succ, i64_w, i32_w]
      rfl
    refine pure_ (i := 1) (N := some 12) (v := ?_) (a' := ?_) #[true, true, false, false, false, false, false, false, false, false, false, false, false] rfl rfl (by kernel_rfl) (fun _ _ _ h => h) (Or.inl ⟨by rfl, ?_⟩) ?_ ?_
    rotate_left
    · intro w'
      go_simp
      with_reducible rfl
    rotate_left
    · simp only [Act.put, List.setIfInBounds_toArray, List.set_cons_zero, List.set_cons_succ, i64_w, i32_w]
      rfl
    refine pure_ (i := 2) (N := some 13) (v := ?_) (a' := ?_) #[true, true, true, false, false, false, false, false, false, false, false, false, false] rfl rfl (by kernel_rfl) (fun _ _ _ h => h) (Or.inl ⟨by rfl, ?_⟩) ?_ ?_
    rotate_left
    · intro w'
      go_simp
      with_reducible rfl
    rotate_left
    · simp only [Act.put, List.setIfInBounds_toArray, List.set_cons_zero, List.set_cons_succ, i64_w, i32_w]
      rfl
    refine take_ (i := 3) (N := some 14) (v := ?_) (a' := ?_) #[true, true, true, true, false, false, false, false, false, false, false, false, false] rfl rfl (by kernel_rfl) (fun _ _ _ h => h) (Or.inl ⟨by rfl, ?_⟩) hHeld ?_ ?_
    rotate_left
    · rintro w' ⟨s0, s1⟩
      go_simp
      with_reducible rfl
    rotate_left
    · simp only [Act.put, List.setIfInBounds_toArray, List.set_cons_zero, List.set_cons_succ, i64_w, i32_w]
      rfl
    refine pure_ (i := 4) (N := some 15) (v := ?_) (a' := ?_) #[true, true, true, true, true, false, false, false, false, false, false, false, false] rfl rfl (by kernel_rfl) (fun _ _ _ h => h) (Or.inl ⟨by rfl, ?_⟩) ?_ ?_
    rotate_left
    · intro w'
      go_simp
      with_reducible rfl
    rotate_left
    · simp only [Act.put, List.setIfInBounds_toArray, List.set_cons_zero, List.set_cons_succ, i64_w, i32_w]
      rfl
    refine pure_ (i := 5) (N := some 16) (v := ?_) (a' := ?_) #[true, true, true, true, true, true, false, false, false, false, false, false, false] rfl rfl (by kernel_rfl) (fun _ _ _ h => h) (Or.inl ⟨by rfl, ?_⟩) ?_ ?_
    rotate_left
    · intro w'
      go_simp
      with_reducible rfl
    rotate_left
    · simp only [Act.put, List.setIfInBounds_toArray, List.set_cons_zero, List.set_cons_succ, i64_w, i32_w]
      rfl
    refine pure_ (i := 6) (N := some 17) (v := ?_) (a' := ?_) #[true, true, true, true, true, true, true, false, false, false, false, false, false] rfl rfl (by kernel_rfl) (fun _ _ _ h => h) (Or.inl ⟨by rfl, ?_⟩) ?_ ?_
    rotate_left
    · intro w'
      go_simp
      with_reducible rfl
    rotate_left
    · simp only [Act.put, List.setIfInBounds_toArray, List.set_cons_zero, List.set_cons_succ, i64_w, i32_w]
      rfl
    refine take_ (i := 7) (N := some 18) (v := ?_) (a' := ?_) #[true, true, true, true, true, true, true, true, false, false, false, false, false] rfl rfl (by kernel_rfl) (fun _ _ _ h => h) (Or.inl ⟨by rfl, ?_⟩) hHeld ?_ ?_
    rotate_left
    · rintro w' ⟨s0, s1⟩
      go_simp
      with_reducible rfl
    rotate_left
    · simp only [Act.put, List.setIfInBounds_toArray, List.set_cons_zero, List.set_cons_succ, i64_w, i32_w]
      rfl
    refine pure_ (i := 8) (N := some 19) (v := ?_) (a' := ?_) #[true, true, true, true, true, true, true, true, true, false, false, false, false] rfl rfl (by kernel_rfl) (fun _ _ _ h => h) (Or.inl ⟨by rfl, ?_⟩) ?_ ?_
    rotate_left
    · intro w'
      go_simp
      with_reducible rfl
    rotate_left
    · simp only [Act.put, List.setIfInBounds_toArray, List.set_cons_zero, List.set_cons_succ, i64_w, i32_w]
      rfl
    refine pure_ (i := 9) (N := some 20) (v := ?_) (a' := ?_) #[true, true, true, true, true, true, true, true, true, true, false, false, false] rfl rfl (by kernel_rfl) (fun _ _ _ h => h) (Or.inl ⟨by rfl, ?_⟩) ?_ ?_
    rotate_left
    · intro w'
      go_simp
      with_reducible rfl
    rotate_left
    · simp only [Act.put, List.setIfInBounds_toArray, List.set_cons_zero, List.set_cons_succ, i64_w, i32_w]
      rfl
    refine pure_ (i := 10) (N := some 21) (v := ?_) (a' := ?_) #[true, true, true, true, true, true, true, true, true, true, true, false, false] rfl rfl (by kernel_rfl) (fun _ _ _ h => h) (Or.inl ⟨by rfl, ?_⟩) ?_ ?_
    rotate_left
    · intro w'
      go_simp
      with_reducible rfl
    rotate_left
    · simp only [Act.put, List.setIfInBounds_toArray, List.set_cons_zero, List.set_cons_succ, i64_w, i32_w]
      rfl
    refine one_ (i := 11) (N := some 22) #[true, true, true, true, true, true, true, true, true, true, true, true, false] rfl rfl (by kernel_rfl) (by decide) (fun K hK => ?_)
    refine event_step (v := .pointer (some ⟨w.drew.heap.size, 0, none⟩)) (w1 := w.drew.alloc (.cells #[Value.int .i64 a, Value.slice A n c, Value.int .i32 h, Value.int .u8 1] 144)) (by rfl) ?hr11 ?_
    case hr11 => first | (go_simp; done) | (go_simp; rfl)
    have hB5 := Aside0.mk (below_alloc (Below.refl w.drew.heap.size w.drew) (.cells #[Value.int .i64 a, Value.slice A n c, Value.int .i32 h, Value.int .u8 1] 144))
    have HG5 := Aside0.mk (heap_alloc_new w.drew (.cells #[Value.int .i64 a, Value.slice A n c, Value.int .i32 h, Value.int .u8 1] 144))
    refine hK.out _ _ ⟨pw_cell_below hB5.out hHeld.1, pw_cell_below hB5.out hHeld.2⟩ (fun hHeld => ?_)
    clear hK K
    refine norm_ (a' := ?_) ?_ ?_
    rotate_left
    · show Act.put _ (some 22) _ = _
      simp only [Act.put, List.setIfInBounds_toArray, List.set_cons_zero, List.set_cons_succ, i64_w, i32_w]
      rfl
    refine pure_ (i := 12) (N := some 6) (v := ?_) (a' := ?_) #[true, true, true, true, true, true, true, true, true, true, true, true, true] rfl rfl (by kernel_rfl) (fun _ _ _ h => h) (Or.inl ⟨by rfl, ?_⟩) ?_ ?_
    rotate_left
    · intro w'
      go_simp
      with_reducible rfl
    rotate_left
    · simp only [Act.put, List.setIfInBounds_toArray, List.set_cons_zero, List.set_cons_succ, i64_w, i32_w]
      rfl
    refine done_ (by kernel_rfl) ?_
    go_wp2_with fail
    go_ret
    exact ⟨_, rfl, Nat.le_refl _, ⟨⟨A, n, c, HG5.out⟩⟩, (below_drew (Below.refl _ _)).trans (hB5.out)⟩
/-- Block vp holds a view over map mb. -/
structure VwW (W : World) (vp mb : Nat) : Prop where
  c0 : W.cell? ⟨vp, 0, none⟩ = some (.map (some mb))
theorem VwW.below {W W1 : World} {vp mb : Nat} (h : VwW W vp mb) (hb : Below W.heap.size W W1) : VwW W1 vp mb := ⟨pw_cell_below hb h.c0⟩
theorem newViewC (w : World) : Calls Try.prog 63 #[] w fun e w' => e = .returned (.pointer (some ⟨w.heap.size + 1, 0, none⟩)) ∧ VwW w' (w.heap.size + 1) w.heap.size ∧ w'.ownsMap (H := Unit) Try.prog 102 ptrElem w.heap.size 0 (.map []) ∧ Below w.heap.size w w' := by
  have hmm := @run_makeMap Try.prog
  go_enter Try.func63, Try.ntmps63
  go_wp2_with fail
  go_ret
  have hz : (w.alloc (.map #[] 0)).heap.size = w.heap.size + 1 := by simp
  refine ⟨by first | rfl | (rw [hz]; rfl), ⟨?_⟩, (World.ownsMap_made (H := Unit) w Try.prog 102 ptrElem).alloc _, below_alloc (below_alloc (Below.refl _ _) _) _⟩
  rw [← hz]
  exact cell_of (heap_alloc_new _ _) (j := 0) rfl
theorem entriesC (vp mb : Nat) (w : World) (h : VwW w vp mb) : Calls Try.prog 66 #[.pointer (some ⟨vp, 0, none⟩)] w fun e w' => e = .returned (.map (some mb)) ∧ w = w' := by
  have k0 := h.c0
  go_enter Try.func66, Try.ntmps66
  go_wp2_with fail
  go_ret
  exact ⟨rfl, rfl⟩
/-- What the view holds of the first coins. -/
structure Holds (W : World) (mb nn : Nat) (DD : DataW Unit) (l : List S74) (k : Nat) : Prop where
  own : W.ownsMap (H := Unit) Try.prog 102 ptrElem mb nn DD
  im : Maps.IsMap DD
  no : ∀ h n, OpOk h n → lastC l (h, n) k = none → DD.atKey (opL h n) (.lit (.int .i64 (-1))) = .lit (.int .i64 (-1))
  at' : ∀ h n x, OpOk h n → lastC l (h, n) k = some x → ∃ g : Nat, DD.atKey (opL h n) (.lit (.int .i64 (-1))) = .lit (.int .i64 (g : Int)) ∧ EntW W g x.f1.f0 x.f2 x.f3 x.f4
theorem Holds.below {W W1 : World} {mb nn : Nat} {DD : DataW Unit} {l : List S74} {k : Nat} (h : Holds W mb nn DD l k) (hb : Below W.heap.size W W1) : Holds W1 mb nn DD l k :=
  ⟨h.own.kept (grown_of_below hb none) (by simp), h.im, h.no, fun a b x k1 k2 => by
    obtain ⟨g, h1, h2⟩ := h.at' a b x k1 k2
    exact ⟨g, h1, h2.below hb⟩⟩
set_option maxRecDepth 100000 in
set_option maxHeartbeats 8000000 in
/-- LookupEntry: nil, or the entry of the last coin at the place. -/
theorem lookC (vp mb nn : Nat) (DD : DataW Unit) (l : List S74) (k : Nat) (h : List Int) (n : Int) (hk : OpOk h n) (w : World) (hv : VwW w vp mb) (hh : Holds w mb nn DD l k) :
    Calls Try.prog 58 #[.pointer (some ⟨vp, 0, none⟩), .agg (opC h n).toArray] w fun e w' => ∃ v, e = .returned v ∧ (lastC l (h, n) k = none → v = .pointer none) ∧ (∀ x, lastC l (h, n) k = some x → ∃ g, v = .pointer (some ⟨g, 0, none⟩) ∧ EntW w g x.f1.f0 x.f2 x.f3 x.f4) ∧ Below w.heap.size w w' := by
  have hlk : ∃ v, (∀ W : World, W.ownsMap (H := Unit) Try.prog 102 ptrElem mb nn DD → (Instr.lookup 133 (.map (some mb)) (.agg (opC h n).toArray) false).run Try.prog W = .ok v W) ∧ (lastC l (h, n) k = none → v = .pointer none) ∧ (∀ x, lastC l (h, n) k = some x → ∃ g, v = .pointer (some ⟨g, 0, none⟩) ∧ EntW w g x.f1.f0 x.f2 x.f3 x.f4) := by
    cases hq : lastC l (h, n) k with
    | none =>
      refine ⟨.pointer none, fun W hW => ?_, fun _ => rfl, fun x e => by cases e⟩
      obtain ⟨v, ps, hrun, he⟩ := hW.lookup opKeyed Try.underlying133 (zero_ptr W) ptrElem_nil (keyOf_op2 hk)
      rw [hh.no h n hk hq] at he
      rw [hrun, ptrElem_none he]
    | some x =>
      obtain ⟨g, hat, hent⟩ := hh.at' h n x hk hq
      refine ⟨.pointer (some ⟨g, 0, none⟩), fun W hW => ?_, fun e => (by cases e), fun x' e => ?_⟩
      · obtain ⟨v, ps, hrun, he⟩ := hW.lookup opKeyed Try.underlying133 (zero_ptr W) ptrElem_nil (keyOf_op2 hk)
        rw [hat] at he
        rw [hrun, ptrElem_at he]
      · obtain rfl := Option.some.inj e
        exact ⟨g, rfl, hent⟩
  obtain ⟨v, hlk, hv0, hv1⟩ := hlk
  have HLK := Aside0.mk hlk
  have HV0 := Aside0.mk hv0
  have HV1 := Aside0.mk hv1
  have HKL : Aside0 ((opC h n).length = 33) := ⟨opC_len hk.l _⟩
  obtain ⟨ks, hks⟩ : ∃ q, opC h n = q := ⟨_, rfl⟩
  rw [hks] at HLK HKL
  rw [hks]
  have HB1 : Aside0 (Below w.heap.size w (w.alloc (.cells ks.toArray 102))) := ⟨below_alloc (Below.refl _ _) _⟩
  have HS : Aside0 ((w.alloc (.cells ks.toArray 102)).drew.cell? ⟨vp, 0, none⟩ = some (.map (some mb)) ∧ (∀ j u, ks[j]? = some u → (w.alloc (.cells ks.toArray 102)).drew.cell? ((⟨w.heap.size, 0, none⟩ : Addr).add j) = some u) ∧ (w.alloc (.cells ks.toArray 102)).drew.ownsMap (H := Unit) Try.prog 102 ptrElem mb nn DD) := ⟨pw_cell_below HB1.out hv.c0, told_of_block (heap_alloc_new w _), hh.own.alloc _⟩
  clear hlk hv0 hv1 hks hk hv hh
  go_enter Try.func58, Try.ntmps58
  go_upto_region 1 with fail
  refine start_ (n := 7) (S := fun w' => w'.cell? ⟨vp, 0, none⟩ = some (.map (some mb)) ∧ (∀ j u, ks[j]? = some u → w'.cell? ((⟨w.heap.size, 0, none⟩ : Addr).add j) = some u) ∧ w'.ownsMap Try.prog 102 ptrElem mb nn DD) (ds := []) #[false, false, false, false, false, false, false] (by kernel_rfl) rfl rfl HS.out (fun hHeld => ?_)
  refine pure_ (i := 0) (N := some 5) (v := ?_) (a' := ?_) #[true, false, false, false, false, false, false] rfl rfl (by kernel_rfl) (fun _ _ _ h => h) (Or.inl ⟨by rfl, ?_⟩) ?_ ?_
  rotate_left
  · intro w'
    go_simp
    with_reducible rfl
  rotate_left
  · simp only [Act.put, List.setIfInBounds_toArray, List.set_cons_zero, List.set_cons_succ, i64_w, i32_w]
    rfl
  refine pure_ (i := 1) (N := some 6) (v := ?_) (a' := ?_) #[true, true, false, false, false, false, false] rfl rfl (by kernel_rfl) (fun _ _ _ h => h) (Or.inl ⟨by rfl, ?_⟩) ?_ ?_
  rotate_left
  · intro w'
    go_simp
    with_reducible rfl
  rotate_left
  · simp only [Act.put, List.setIfInBounds_toArray, List.set_cons_zero, List.set_cons_succ, i64_w, i32_w]
    rfl
  refine pure_ (i := 2) (N := some 7) (v := ?_) (a' := ?_) #[true, true, true, false, false, false, false] rfl rfl (by kernel_rfl) (fun _ _ _ h => h) (Or.inl ⟨by rfl, ?_⟩) ?_ ?_
  rotate_left
  · intro w'
    go_simp
    with_reducible rfl
  rotate_left
  · simp only [Act.put, List.setIfInBounds_toArray, List.set_cons_zero, List.set_cons_succ, i64_w, i32_w]
    rfl
  refine take_ (i := 3) (N := some 8) (v := ?_) (a' := ?_) #[true, true, true, true, false, false, false] rfl rfl (by kernel_rfl) (fun _ _ _ h => h) (Or.inl ⟨by rfl, ?_⟩) hHeld ?_ ?_
  rotate_left
  · rintro w' ⟨s0, s1, s2⟩
    go_simp
    with_reducible rfl
  rotate_left
  · simp only [Act.put, List.setIfInBounds_toArray, List.set_cons_zero, List.set_cons_succ, i64_w, i32_w]
    rfl
  refine take_ (i := 4) (N := some 9) (v := ?_) (a' := ?_) #[true, true, true, true, true, false, false] rfl rfl (by kernel_rfl) (fun _ _ _ h => h) (Or.inl ⟨by rfl, ?_⟩) hHeld ?_ ?_
  rotate_left
  · rintro w' ⟨s0, s1, s2⟩
    refine run_load_at 102 (.tmp 3) ?_ _ ?_ ks _ s1 Try.underlying102 rfl (by rw [HKL.out]; exact sizeOw)
    · rfl
    · rfl
  rotate_left
  · simp only [Act.put, List.setIfInBounds_toArray, List.set_cons_zero, List.set_cons_succ, i64_w, i32_w]
    rfl
  refine take_ (i := 5) (N := some 10) (v := ?_) (a' := ?_) #[true, true, true, true, true, true, false] rfl rfl (by kernel_rfl) (fun _ _ _ h => h) (Or.inl ⟨by rfl, ?_⟩) hHeld ?_ ?_
  rotate_left
  · rintro w' ⟨s0, s1, s2⟩
    refine run_lookup_own (v := v) 133 (.tmp 8) (.tmp 9) ?_ mb ?_ (.agg ks.toArray) ?_ (HLK.out w' s2)
    · rfl
    · rfl
    · rfl
  rotate_left
  · simp only [Act.put, List.setIfInBounds_toArray, List.set_cons_zero, List.set_cons_succ, i64_w, i32_w]
    rfl
  refine pure_ (i := 6) (N := some 4) (v := ?_) (a' := ?_) #[true, true, true, true, true, true, true] rfl rfl (by kernel_rfl) (fun _ _ _ h => h) (Or.inl ⟨by rfl, ?_⟩) ?_ ?_
  rotate_left
  · intro w'
    go_simp
    with_reducible rfl
  rotate_left
  · simp only [Act.put, List.setIfInBounds_toArray, List.set_cons_zero, List.set_cons_succ, i64_w, i32_w]
    rfl
  refine done_ (by kernel_rfl) ?_
  go_wp2_with fail
  go_ret
  exact ⟨_, rfl, HV0.out, HV1.out, HB1.out.trans ((below_drew (Below.refl _ _)).mono HB1.out.size)⟩
end Go.Proofs.Ytdheoajaaofmbaa.QFnScriptPlaces
/- impl.viewOf: the walk. -/
namespace Go.Proofs.Ytdheoajaaofmbaa.QFnScriptPlaces
open Go.RowKit Go.Proofs.YtdheoajaaofmbaaW.PrintWords Go.Proofs.YtdheoajaaofmbaaW.PrintLast Go.Proofs.YtdheoajaaofmbaaW.PrintMore
set_option linter.unusedVariables false
set_option linter.unusedSimpArgs false
theorem run_update_own {P : Program} {o : Oper} {ρ : Operand → Value} {w w' : World} (t : TypeId) (m x v : Operand) (ho : o.op = .mapUpdate t m x v) (b : Nat) (hm : ρ m = .map (some b)) (key : Value) (hx : ρ x = key) (val : Value) (hv : ρ v = val) (h : (Instr.mapUpdate t (.map (some b)) key val).run P w = .ok () w') : (execOp ρ o).run P w = .ok .skip w' := by
  unfold execOp
  simp [ho, hm, hx, hv, h, Result.andThen]
theorem EntW.grown {W W1 : World} {g mb : Nat} {a h : Int} {cb sp : Bool} (e : EntW W g a h cb sp) (hg : W.grownBy W1 (some mb)) (hne : g ≠ mb) : EntW W1 g a h cb sp := by
  obtain ⟨A, n, c, hb⟩ := e.ex
  exact ⟨⟨A, n, c, (hg.block _ (blk_lt' hb) (fun e => hne (by injection e))).trans hb⟩⟩
theorem Holds.ne {W : World} {mb nn : Nat} {DD : DataW Unit} {l : List S74} {k g : Nat} {a h : Int} {cb sp : Bool} (hh : Holds W mb nn DD l k) (e : EntW W g a h cb sp) : g ≠ mb := by
  obtain ⟨es, clock, hb, _⟩ := hh.own
  obtain ⟨A, n, c, hg⟩ := e.ex
  rintro rfl
  rw [hb] at hg
  cases hg
theorem Holds.step {W W1 : World} {mb nn : Nat} {DD : DataW Unit} {l : List S74} {k g : Nat} {x : S74} (hh : Holds W mb nn DD l k) (hok : OpOk x.f0.f0 x.f0.f1) (ho : W1.ownsMap (H := Unit) Try.prog 102 ptrElem mb (nn + 1) (DD.put (opL x.f0.f0 x.f0.f1) (.lit (.int .i64 (g : Int))))) (hg : W.grownBy W1 (some mb)) (hx : rdC l (k : Int) = x) (he : EntW W g x.f1.f0 x.f2 x.f3 x.f4) :
    Holds W1 mb (nn + 1) (DD.put (opL x.f0.f0 x.f0.f1) (.lit (.int .i64 (g : Int)))) l (k + 1) := by
  have hlast : ∀ p, lastC l p (k + 1) = if plOf x = p then some x else lastC l p k := fun p => by rw [← hx]; rfl
  refine ⟨ho, hh.im.put _ _, fun h n kk hq => ?_, fun h n y kk hq => ?_⟩
  · rw [hlast] at hq
    split at hq
    · cases hq
    · rename_i hne
      rw [Maps.atKey_put_other (fun e => hne (by obtain ⟨e1, e2⟩ := (opL_iff kk hok).1 e; unfold plOf; rw [e1, e2]))]
      exact hh.no h n kk hq
  · rw [hlast] at hq
    split at hq
    · rename_i heq
      obtain rfl := Option.some.inj hq
      unfold plOf at heq
      rw [Prod.mk.injEq] at heq
      refine ⟨g, ?_, he.grown hg (hh.ne he)⟩
      rw [← heq.1, ← heq.2]
      exact Maps.atKey_put_same hh.im (opKeyed.key (keyOf_op2 hok)) _ _
    · rename_i hne
      obtain ⟨g', h1, h2⟩ := hh.at' h n y kk hq
      refine ⟨g', ?_, h2.grown hg (hh.ne h2)⟩
      rw [Maps.atKey_put_other (fun e => hne (by obtain ⟨e1, e2⟩ := (opL_iff kk hok).1 e; unfold plOf; rw [e1, e2]))]
      exact h1
structure ViewP (w : World) (l : List S74) (e : Ending) (w' : World) : Prop where
  ex : ∃ vp mb nn DD, e = .returned (.pointer (some ⟨vp, 0, none⟩)) ∧ VwW w' vp mb ∧ Holds w' mb nn DD l l.length
  low : Below w.heap.size w w'
set_option maxRecDepth 100000 in
set_option maxHeartbeats 16000000 in
theorem viewOfC (A : Option Addr) (c : Nat) (l : List S74) (w : World) (hr : Kd.C k74 w A l.length l) (hl : l.length ≤ 1000) (hok : ∀ i : Nat, i < l.length → OpOk (rdC l (i : Int)).f0.f0 (rdC l (i : Int)).f0.f1) (hsm : ∀ i : Nat, i < l.length → (rdC l (i : Int)).f1.f1.length ≤ 1000000) :
    Calls Try.prog 43 #[.slice A l.length c] w fun e w' => ViewP w l e w' := by
  have HR := Aside0.mk hr
  have HLN := Aside0.mk hl
  have HOKS := Aside0.mk hok
  have HSM := Aside0.mk hsm
  clear hr hl hok hsm
  go_enter Try.func43, Try.ntmps43
  go_upto_region 2 with (go_at_call 63; (with_reducible refine (newViewC _).mono ?_); rintro e w2 ⟨rfl, hv, ho, hb⟩; have HV2 := Aside0.mk hv; have HO2 := Aside0.mk ho; have HB2 := Aside0.mk hb; clear hv ho hb)
  obtain ⟨mb, hmb⟩ : ∃ q, w.heap.size = q := ⟨_, rfl⟩
  obtain ⟨vp, hvp⟩ : ∃ q, w.heap.size + 1 = q := ⟨_, rfl⟩
  rw [hvp] at HV2 ⊢
  have HVP : Aside0 (vp ≠ mb) := ⟨by omega⟩
  have HH2 : Aside0 (Holds w2 mb 0 (.map []) l 0) := ⟨⟨by rw [← hmb]; exact HO2.out, Maps.isMap_empty, fun h n _ _ => rfl, fun h n x _ e => by cases e⟩⟩
  have HV2 : Aside0 (VwW w2 vp mb) := ⟨by rw [← hmb]; exact HV2.out⟩
  have HMB := Aside0.mk hmb
  clear hmb hvp HO2
  go_wp2_with fail
  go_loopg [4] (l.length + 1) (fun kq p4 w' => ∃ (i : Nat) (DD : DataW Unit), p4 = .int .i64 (i : Int) ∧ Aside0 (i ≤ l.length ∧ l.length + 1 ≤ i + kq) ∧ Aside0 (Below w.heap.size w w') ∧ Aside0 (VwW w' vp mb) ∧ Aside0 (Holds w' mb i DD l i))
  case atStart => exact ⟨0, _, by rfl, ⟨by omega⟩, HB2, HV2, HH2⟩
  case round =>
    obtain ⟨i, DD, rfl, HK, HB, HVW, HHO⟩ := hrel
    by_cases hlt : i < l.length
    · have hi1 : (i : Int) < (l.length : Int) := by omega
      have hw1 : wrap64 ((i : Int) + 1) = ((i + 1 : Nat) : Int) := by rw [ln64 _ (by omega) (by have := HLN.out; omega)]; rfl
      have HI9 := Aside0.mk hlt
      obtain ⟨ad, A1, c1, e2, hxl, hc1, hsc, hcc⟩ := coin_at (Kd.C_below HR.out HB.out) (i : Int) (by omega) hi1
      subst e2
      rw [Int.toNat_natCast] at hcc
      have okx := HOKS.out i hlt
      have hsm := HSM.out i hlt
      obtain ⟨x, hx9⟩ : ∃ x, rdC l (i : Int) = x := ⟨_, rfl⟩
      rw [hx9] at hcc hsc hc1 hxl okx hsm
      have HXP := Aside0.mk hx9
      have HOK := Aside0.mk okx
      have HKE := Aside0.mk (keyOf_op2 okx)
      have HNL : Aside0 (i < maxLen) := ⟨by have := HLN.out; unfold maxLen; omega⟩
      obtain ⟨cs, hcs⟩ : ∃ q, coinC x A1 c1 = q := ⟨_, rfl⟩
      have HCL : Aside0 (cs.length = 38) := ⟨by rw [← hcs]; exact coinC_len hxl _ _⟩
      have HC1 : Aside0 (cs.toArray.all (·.oneCell') = true) := ⟨by rw [← hcs]; exact coinC_one _ _ _⟩
      have hat := fun j => coinC_at hxl A1 c1 j
      rw [hcs] at hcc hat
      have HAT := Aside0.mk hat
      have HCC := Aside0.mk hcc
      obtain ⟨hx, hhx⟩ : ∃ q, cs.take 33 = q := ⟨_, rfl⟩
      have hxe : hx = opC x.f0.f0 x.f0.f1 := by rw [← hhx, ← hcs]; exact coinC_take hxl A1 c1
      have HXL : Aside0 (hx.length = 33) := ⟨by rw [hxe]; exact opC_len okx.l _⟩
      have HOP : Aside0 (∀ W : World, Calls Try.prog 46 #[.agg hx.toArray] W fun e w' => e = .returned (.agg hx.toArray) ∧ Below W.heap.size W w') := ⟨fun W => by rw [hxe]; exact outPointC x.f0.f0 x.f0.f1 okx.l W⟩
      rw [← hxe] at HKE
      have HTK : Aside0 (cs.take 33 = hx) := ⟨hhx⟩
      have HSZ : Aside0 ((Try.prog.info? 74).map (·.size) = some cs.length) := ⟨by rw [HCL.out]; exact size_coin⟩
      obtain ⟨sc, hsc9⟩ : ∃ q, x.f1.f1 = q := ⟨_, rfl⟩
      obtain ⟨va, hva⟩ : ∃ q, x.f1.f0 = q := ⟨_, rfl⟩
      obtain ⟨hh9, hhh⟩ : ∃ q, x.f2 = q := ⟨_, rfl⟩
      obtain ⟨cb, hcb⟩ : ∃ q, x.f3 = q := ⟨_, rfl⟩
      obtain ⟨sp, hsp⟩ : ∃ q, x.f4 = q := ⟨_, rfl⟩
      have HFE : Aside0 (x.f1.f0 = va ∧ x.f2 = hh9 ∧ x.f3 = cb ∧ x.f4 = sp) := ⟨hva, hhh, hcb, hsp⟩
      rw [hsc9, hva, hhh, hcb, hsp] at HAT
      rw [hsc9] at hsc hc1 hsm
      have HCP : Aside0 (impl_copied.f sc = some sc) := ⟨copied_any sc hsm⟩
      have HSC0 := Aside0.mk hsc
      have HLC := Aside0.mk hc1
      clear hcc hsc hc1 hxl hcs hx9 hat hhx hxe okx hsm hsc9 hva hhh hcb hsp hlt
      go_upto_region 6 with (first
        | ((with_reducible refine at_dst (N := 17) rfl ?_); refine wpList_load_at rfl 74 (.tmp 16) rfl _ rfl cs _ HCC.out Try.underlying74 rfl HSZ.out ?_)
        | ((with_reducible refine at_none rfl ?_); refine wpList_store_whole rfl 74 (.tmp 5) (.tmp 17) rfl wr.heap.size cs.toArray rfl rfl 74 _ (heap_alloc_new wr _) ?hi ?ho HC1.out (w0 := wr) (B := wr.heap.size) (below_alloc (Below.refl _ _) _) (Nat.le_refl _) ?_; (case hi => rw [List.size_toArray]; exact HSZ.out); (case ho => show 38 = cs.toArray.size; rw [List.size_toArray]; exact HCL.out.symm); intro W1 hg1 hb1 hk1 hz1; have HG1 := Aside0.mk hg1; have HB1 := Aside0.mk hb1; clear hg1 hb1 hk1 hz1))
      obtain ⟨gb, hgb⟩ : ∃ q, wr.heap.size = q := ⟨_, rfl⟩
      rw [hgb] at HG1 ⊢
      have HGB := Aside0.mk hgb
      clear hgb
      have HSC := Aside0.mk (Kd.C_below HSC0.out HB1.out)
      have HS6 : Aside0 (W1.drew.cell? ⟨gb, 33, none⟩ = some (.int .i64 va) ∧ W1.drew.cell? ⟨gb, 34, none⟩ = some (.slice A1 sc.length c1) ∧ W1.drew.cell? ⟨gb, 35, none⟩ = some (.int .i32 hh9) ∧ W1.drew.cell? ⟨gb, 36, none⟩ = some (.bool cb)) := ⟨cell_of HG1.out (by simpa using HAT.out 1), cell_of HG1.out (by simpa using HAT.out 2), cell_of HG1.out (by simpa using HAT.out 3), cell_of HG1.out (by simpa using HAT.out 4)⟩
      have HSC := Aside0.mk (show (Kd.int .u8).C W1.drew A1 sc.length sc from HSC.out)
      refine start_ (n := 15) (S := fun w' => w'.cell? ⟨gb, 33, none⟩ = some (.int .i64 va) ∧ w'.cell? ⟨gb, 34, none⟩ = some (.slice A1 sc.length c1) ∧ w'.cell? ⟨gb, 35, none⟩ = some (.int .i32 hh9) ∧ w'.cell? ⟨gb, 36, none⟩ = some (.bool cb)) (ds := []) #[false, false, false, false, false, false, false, false, false, false, false, false, false, false, false] (by kernel_rfl) rfl rfl HS6.out (fun hHeld => ?_)
      refine pure_ (i := 0) (N := some 18) (v := ?_) (a' := ?_) #[true, false, false, false, false, false, false, false, false, false, false, false, false, false, false] rfl rfl (by kernel_rfl) (fun _ _ _ h => h) (Or.inl ⟨by rfl, ?_⟩) ?_ ?_
      rotate_left
      · intro w'
        go_simp
        with_reducible rfl
      rotate_left
      · simp only [Act.put, List.setIfInBounds_toArray, List.set_cons_zero, List.set_cons_succ, i64_w, i32_w]
        rfl
      refine pure_ (i := 1) (N := some 19) (v := ?_) (a' := ?_) #[true, true, false, false, false, false, false, false, false, false, false, false, false, false, false] rfl rfl (by kernel_rfl) (fun _ _ _ h => h) (Or.inl ⟨by rfl, ?_⟩) ?_ ?_
      rotate_left
      · intro w'
        go_simp
        with_reducible rfl
      rotate_left
      · simp only [Act.put, List.setIfInBounds_toArray, List.set_cons_zero, List.set_cons_succ, i64_w, i32_w]
        rfl
      refine take_ (i := 2) (N := some 20) (v := ?_) (a' := ?_) #[true, true, true, false, false, false, false, false, false, false, false, false, false, false, false] rfl rfl (by kernel_rfl) (fun _ _ _ h => h) (Or.inl ⟨by rfl, ?_⟩) hHeld ?_ ?_
      rotate_left
      · rintro w' ⟨s0, s1, s2, s3⟩
        go_simp
        with_reducible rfl
      rotate_left
      · simp only [Act.put, List.setIfInBounds_toArray, List.set_cons_zero, List.set_cons_succ, i64_w, i32_w]
        rfl
      refine pure_ (i := 3) (N := some 21) (v := ?_) (a' := ?_) #[true, true, true, true, false, false, false, false, false, false, false, false, false, false, false] rfl rfl (by kernel_rfl) (fun _ _ _ h => h) (Or.inl ⟨by rfl, ?_⟩) ?_ ?_
      rotate_left
      · intro w'
        go_simp
        with_reducible rfl
      rotate_left
      · simp only [Act.put, List.setIfInBounds_toArray, List.set_cons_zero, List.set_cons_succ, i64_w, i32_w]
        rfl
      refine pure_ (i := 4) (N := some 22) (v := ?_) (a' := ?_) #[true, true, true, true, true, false, false, false, false, false, false, false, false, false, false] rfl rfl (by kernel_rfl) (fun _ _ _ h => h) (Or.inl ⟨by rfl, ?_⟩) ?_ ?_
      rotate_left
      · intro w'
        go_simp
        with_reducible rfl
      rotate_left
      · simp only [Act.put, List.setIfInBounds_toArray, List.set_cons_zero, List.set_cons_succ, i64_w, i32_w]
        rfl
      refine take_ (i := 5) (N := some 23) (v := ?_) (a' := ?_) #[true, true, true, true, true, true, false, false, false, false, false, false, false, false, false] rfl rfl (by kernel_rfl) (fun _ _ _ h => h) (Or.inl ⟨by rfl, ?_⟩) hHeld ?_ ?_
      rotate_left
      · rintro w' ⟨s0, s1, s2, s3⟩
        go_simp
        with_reducible rfl
      rotate_left
      · simp only [Act.put, List.setIfInBounds_toArray, List.set_cons_zero, List.set_cons_succ, i64_w, i32_w]
        rfl
      refine pure_ (i := 9) (N := some 27) (v := ?_) (a' := ?_) #[true, true, true, true, true, true, false, false, false, true, false, false, false, false, false] rfl rfl (by kernel_rfl) (fun _ _ _ h => h) (Or.inl ⟨by rfl, ?_⟩) ?_ ?_
      rotate_left
      · intro w'
        go_simp
        with_reducible rfl
      rotate_left
      · simp only [Act.put, List.setIfInBounds_toArray, List.set_cons_zero, List.set_cons_succ, i64_w, i32_w]
        rfl
      refine take_ (i := 10) (N := some 28) (v := ?_) (a' := ?_) #[true, true, true, true, true, true, false, false, false, true, true, false, false, false, false] rfl rfl (by kernel_rfl) (fun _ _ _ h => h) (Or.inl ⟨by rfl, ?_⟩) hHeld ?_ ?_
      rotate_left
      · rintro w' ⟨s0, s1, s2, s3⟩
        go_simp
        with_reducible rfl
      rotate_left
      · simp only [Act.put, List.setIfInBounds_toArray, List.set_cons_zero, List.set_cons_succ, i64_w, i32_w]
        rfl
      refine pure_ (i := 11) (N := some 29) (v := ?_) (a' := ?_) #[true, true, true, true, true, true, false, false, false, true, true, true, false, false, false] rfl rfl (by kernel_rfl) (fun _ _ _ h => h) (Or.inl ⟨by rfl, ?_⟩) ?_ ?_
      rotate_left
      · intro w'
        go_simp
        with_reducible rfl
      rotate_left
      · simp only [Act.put, List.setIfInBounds_toArray, List.set_cons_zero, List.set_cons_succ, i64_w, i32_w]
        rfl
      refine take_ (i := 12) (N := some 30) (v := ?_) (a' := ?_) #[true, true, true, true, true, true, false, false, false, true, true, true, true, false, false] rfl rfl (by kernel_rfl) (fun _ _ _ h => h) (Or.inl ⟨by rfl, ?_⟩) hHeld ?_ ?_
      rotate_left
      · rintro w' ⟨s0, s1, s2, s3⟩
        go_simp
        with_reducible rfl
      rotate_left
      · simp only [Act.put, List.setIfInBounds_toArray, List.set_cons_zero, List.set_cons_succ, i64_w, i32_w]
        rfl
      refine one_ (i := 6) (N := some 24) #[true, true, true, true, true, true, true, false, false, true, true, true, true, false, false] rfl rfl (by kernel_rfl) (by decide) (fun K hK => ?_)
      refine goes_ Try.func47 (by kernel_rfl) rfl #[.slice A1 sc.length c1] (by rfl) rfl rfl (by (try simp only [List.map_toArray, List.map_cons, List.map_nil]); first | done | rfl | (simp only [List.length_drop, List.length_take]; rfl)) ?_
      with_reducible refine (impl_copied.calls A1 c1 sc sc _ HSC.out HLC.out HCP.out).mono ?_
      rintro e w3 ⟨v5, rfl, hr, hb⟩
      refine ⟨_, rfl, ?_⟩
      have HB3 := Aside0.mk (HB1.out.trans (((below_drew (Below.refl _ _)).trans hb).mono HB1.out.size))
      (obtain ⟨A5, c5, e5⟩ := Kd.R_slice hr)
      subst e5
      have hB3 := Aside0.mk hb
      have HBa : Aside0 (Below W1.heap.size W1 w3) := ⟨(below_drew (Below.refl _ _)).trans hb⟩
      clear hb hr
      refine hK.out _ _ ⟨pw_cell_below hB3.out hHeld.1, pw_cell_below hB3.out hHeld.2.1, pw_cell_below hB3.out hHeld.2.2.1, pw_cell_below hB3.out hHeld.2.2.2⟩ (fun hHeld => ?_)
      clear hK K
      refine norm_ (a' := ?_) ?_ ?_
      rotate_left
      · show Act.put _ (some 24) _ = _
        simp only [Act.put, List.setIfInBounds_toArray, List.set_cons_zero, List.set_cons_succ, i64_w, i32_w]
        rfl
      refine pure_ (i := 7) (N := some 25) (v := ?_) (a' := ?_) #[true, true, true, true, true, true, true, true, false, true, true, true, true, false, false] rfl rfl (by kernel_rfl) (fun _ _ _ h => h) (Or.inl ⟨by rfl, ?_⟩) ?_ ?_
      rotate_left
      · intro w'
        go_simp
        with_reducible rfl
      rotate_left
      · simp only [Act.put, List.setIfInBounds_toArray, List.set_cons_zero, List.set_cons_succ, i64_w, i32_w]
        rfl
      refine one_ (i := 8) (N := some 26) #[true, true, true, true, true, true, true, true, true, true, true, true, true, false, false] rfl rfl (by kernel_rfl) (by decide) (fun K hK => ?_)
      refine event_step (v := .pointer (some ⟨w3.heap.size, 0, none⟩)) (w1 := w3.alloc (.cells #[Value.int .i64 va, Value.slice A5 sc.length c5] 111)) (by rfl) ?hr8 ?_
      case hr8 => first | (go_simp; done) | (go_simp; rfl)
      have hB4 := Aside0.mk (below_alloc (Below.refl w3.heap.size w3) (.cells #[Value.int .i64 va, Value.slice A5 sc.length c5] 111))
      have HG4 := Aside0.mk (heap_alloc_new w3 (.cells #[Value.int .i64 va, Value.slice A5 sc.length c5] 111))
      refine hK.out _ _ ⟨pw_cell_below hB4.out hHeld.1, pw_cell_below hB4.out hHeld.2.1, pw_cell_below hB4.out hHeld.2.2.1, pw_cell_below hB4.out hHeld.2.2.2⟩ (fun hHeld => ?_)
      clear hK K
      refine norm_ (a' := ?_) ?_ ?_
      rotate_left
      · show Act.put _ (some 26) _ = _
        simp only [Act.put, List.setIfInBounds_toArray, List.set_cons_zero, List.set_cons_succ, i64_w, i32_w]
        rfl
      refine one_ (i := 13) (N := some 31) #[true, true, true, true, true, true, true, true, true, true, true, true, true, true, false] rfl rfl (by kernel_rfl) (by decide) (fun K hK => ?_)
      obtain ⟨w4, hw4⟩ : ∃ w4, w3.alloc (.cells #[Value.int .i64 va, Value.slice A5 sc.length c5] 111) = w4 := ⟨_, rfl⟩
      rw [hw4] at hB4 HG4 hHeld ⊢
      clear hw4
      have HBb : Aside0 (Below W1.heap.size W1 w4) := ⟨HBa.out.trans (hB4.out.mono HBa.out.size)⟩
      have HB4 := Aside0.mk (HB3.out.trans (hB4.out.mono HB3.out.size))
      have hHeld6 := hHeld
      refine goes_ Try.func64 (by kernel_rfl) rfl #[.pointer (some ⟨w3.heap.size, 0, none⟩), .int .i32 hh9, .bool cb] (by rfl) rfl rfl (by (try simp only [List.map_toArray, List.map_cons, List.map_nil]); first | done | rfl | (simp only [List.length_drop, List.length_take]; rfl)) ?_
      with_reducible refine (newEntryC w3.heap.size va hh9 cb A5 sc.length c5 _ HG4.out).mono ?_
      rintro e w5 ⟨ge, rfl, hge, hen, hb⟩
      refine ⟨_, rfl, ?_⟩
      have HB5 := Aside0.mk (HB4.out.trans (hb.mono HB4.out.size))
      have HEN := Aside0.mk hen
      have HGE : Aside0 (wr.heap.size ≤ ge) := ⟨Nat.le_trans HB4.out.size hge⟩
      have hB5 := Aside0.mk hb
      have HB5w : Aside0 (Below W1.heap.size W1 w5) := ⟨HBb.out.trans (hb.mono HBb.out.size)⟩
      have HGL : Aside0 (gb < ge) := ⟨Nat.lt_of_lt_of_le (blk_lt' HG1.out) (Nat.le_trans HBb.out.size hge)⟩
      clear hb hen hge
      refine hK.out _ _ ⟨pw_cell_below hB5.out hHeld6.1, pw_cell_below hB5.out hHeld6.2.1, pw_cell_below hB5.out hHeld6.2.2.1, pw_cell_below hB5.out hHeld6.2.2.2⟩ (fun hHeld => ?_)
      clear hK K
      refine norm_ (a' := ?_) ?_ ?_
      rotate_left
      · show Act.put _ (some 31) _ = _
        simp only [Act.put, List.setIfInBounds_toArray, List.set_cons_zero, List.set_cons_succ, i64_w, i32_w]
        rfl
      refine pure_ (i := 14) (N := some 6) (v := ?_) (a' := ?_) #[true, true, true, true, true, true, true, true, true, true, true, true, true, true, true] rfl rfl (by kernel_rfl) (fun _ _ _ h => h) (Or.inl ⟨by rfl, ?_⟩) ?_ ?_
      rotate_left
      · intro w'
        go_simp
        with_reducible rfl
      rotate_left
      · simp only [Act.put, List.setIfInBounds_toArray, List.set_cons_zero, List.set_cons_succ, i64_w, i32_w]
        rfl
      refine done_ (by kernel_rfl) ?_
      have HG5 := Aside0.mk ((HB5w.out.block _ (blk_lt' HG1.out)).trans HG1.out)
      have k37 := cell_of HG5.out (j := 37) (v := .bool sp) (by simpa using HAT.out 5)
      have HHO5 := Aside0.mk (HHO.out.below HB5.out)
      have HVW5 := Aside0.mk (HVW.out.below HB5.out)
      cases sp
      · go_upto_region 9 with fail
        obtain ⟨w6, hw6⟩ : ∃ q, w5 = q := ⟨_, rfl⟩
        have HEN6 : Aside0 (EntW w6 ge va hh9 cb false) := ⟨by rw [← hw6]; exact HEN.out⟩
        have HB6 : Aside0 (Below wr.heap.size wr w6) := ⟨by rw [← hw6]; exact HB5.out⟩
        have HG6 : Aside0 (w6.heap[gb]? = some (.cells cs.toArray 74 (0, 0))) := ⟨by rw [← hw6]; exact HG5.out⟩
        have HHO6 : Aside0 (Holds w6 mb i DD l i) := ⟨by rw [← hw6]; exact HHO5.out⟩
        have HVW6 : Aside0 (VwW w6 vp mb) := ⟨by rw [← hw6]; exact HVW5.out⟩
        clear k37
        rw [hw6]
        clear hw6
        have HEN6 : Aside0 (EntW w6 ge x.f1.f0 x.f2 x.f3 x.f4) := ⟨by rw [HFE.out.1, HFE.out.2.1, HFE.out.2.2.1, HFE.out.2.2.2]; exact HEN6.out⟩
        have HVD : Aside0 (VwW w6.drew vp mb) := ⟨⟨HVW6.out.c0⟩⟩
        have HS9 : Aside0 (w6.drew.cell? ⟨vp, 0, none⟩ = some (.map (some mb)) ∧ (∀ j u, hx[j]? = some u → w6.drew.cell? ((⟨gb, 0, none⟩ : Addr).add j) = some u)) := ⟨HVW6.out.c0, by rw [← HTK.out]; exact cells_sub (told_of_block HG6.out)⟩
        refine start_ (n := 7) (S := fun w' => w'.cell? ⟨vp, 0, none⟩ = some (.map (some mb)) ∧ (∀ j u, hx[j]? = some u → w'.cell? ((⟨gb, 0, none⟩ : Addr).add j) = some u)) (ds := [6]) #[false, false, false, false, false, false, false] (by kernel_rfl) rfl rfl HS9.out (fun hHeld => ?_)
        refine pure_ (i := 0) (N := some 36) (v := ?_) (a' := ?_) #[true, false, false, false, false, false, false] rfl rfl (by kernel_rfl) (fun _ _ _ h => h) (Or.inl ⟨by rfl, ?_⟩) ?_ ?_
        rotate_left
        · intro w'
          go_simp
          with_reducible rfl
        rotate_left
        · simp only [Act.put, List.setIfInBounds_toArray, List.set_cons_zero, List.set_cons_succ, i64_w, i32_w]
          rfl
        refine pure_ (i := 2) (N := some 38) (v := ?_) (a' := ?_) #[true, false, true, false, false, false, false] rfl rfl (by kernel_rfl) (fun _ _ _ h => h) (Or.inl ⟨by rfl, ?_⟩) ?_ ?_
        rotate_left
        · intro w'
          go_simp
          with_reducible rfl
        rotate_left
        · simp only [Act.put, List.setIfInBounds_toArray, List.set_cons_zero, List.set_cons_succ, i64_w, i32_w]
          rfl
        refine take_ (i := 3) (N := some 39) (v := ?_) (a' := ?_) #[true, false, true, true, false, false, false] rfl rfl (by kernel_rfl) (fun _ _ _ h => h) (Or.inl ⟨by rfl, ?_⟩) hHeld ?_ ?_
        rotate_left
        · rintro w' ⟨s0, s1⟩
          refine run_load_at 31 (.tmp 38) ?_ ⟨gb, 0, none⟩ ?_ hx _ s1 Try.underlying31 rfl (by rw [HXL.out]; exact sizeIp)
          · rfl
          · rfl
        rotate_left
        · simp only [Act.put, List.setIfInBounds_toArray, List.set_cons_zero, List.set_cons_succ, i64_w, i32_w]
          rfl
        refine pure_ (i := 5) (N := some 41) (v := ?_) (a' := ?_) #[true, false, true, true, false, true, false] rfl rfl (by kernel_rfl) (fun _ _ _ h => h) (Or.inl ⟨by rfl, ?_⟩) ?_ ?_
        rotate_left
        · intro w'
          go_simp
          with_reducible rfl
        rotate_left
        · simp only [Act.put, List.setIfInBounds_toArray, List.set_cons_zero, List.set_cons_succ, i64_w, i32_w]
          rfl
        refine one_ (i := 1) (N := some 37) #[true, true, true, true, false, true, false] rfl rfl (by kernel_rfl) (by decide) (fun K hK => ?_)
        refine goes_ Try.func66 (by kernel_rfl) rfl #[.pointer (some ⟨vp, 0, none⟩)] (by rfl) rfl rfl (by (try simp only [List.map_toArray, List.map_cons, List.map_nil]); first | done | rfl | (simp only [List.length_drop, List.length_take]; rfl)) ?_
        with_reducible refine (entriesC vp mb _ ⟨HVD.out.c0⟩).mono ?_
        rintro e w7 ⟨rfl, rfl⟩
        refine ⟨_, rfl, ?_⟩
        refine hK.out _ _ hHeld (fun hHeld => ?_)
        clear hK K
        refine norm_ (a' := ?_) ?_ ?_
        rotate_left
        · show Act.put _ (some 37) _ = _
          simp only [Act.put, List.setIfInBounds_toArray, List.set_cons_zero, List.set_cons_succ, i64_w, i32_w]
          rfl
        refine one_ (i := 4) (N := some 40) #[true, true, true, true, true, true, false] rfl rfl (by kernel_rfl) (by decide) (fun K hK => ?_)
        have hHeld9 := hHeld
        refine goes_ Try.func46 (by kernel_rfl) rfl #[.agg hx.toArray] (by rfl) rfl rfl (by (try simp only [List.map_toArray, List.map_cons, List.map_nil]); first | done | rfl | (simp only [List.length_drop, List.length_take]; rfl)) ?_
        with_reducible refine (HOP.out _).mono ?_
        rintro e w7 ⟨rfl, hb⟩
        refine ⟨_, rfl, ?_⟩
        have HHO7 := Aside0.mk (HHO6.out.below ((below_drew (Below.refl _ _)).trans hb))
        have HVW7 := Aside0.mk (HVD.out.below hb)
        have HEN7 := Aside0.mk (HEN6.out.below ((below_drew (Below.refl _ _)).trans hb))
        have HB7 := Aside0.mk (HB6.out.trans (((below_drew (Below.refl _ _)).trans hb).mono HB6.out.size))
        have hB7 := Aside0.mk hb
        clear hb
        refine hK.out _ _ ⟨pw_cell_below hB7.out hHeld9.1, fun j u hj => pw_cell_below hB7.out (hHeld9.2 j u hj)⟩ (fun hHeld => ?_)
        clear hK K
        refine norm_ (a' := ?_) ?_ ?_
        rotate_left
        · show Act.put _ (some 40) _ = _
          simp only [Act.put, List.setIfInBounds_toArray, List.set_cons_zero, List.set_cons_succ, i64_w, i32_w]
          rfl
        refine last_ (i := 6) (N := none) #[true, true, true, true, true, true, true] rfl rfl (by kernel_rfl) (by decide) (fun K hK => ?_)
        obtain ⟨w8, hrun, ho8, hg8⟩ := HHO7.out.own.update opKeyed Try.underlying133 HNL.out HKE.out (ptrElem_mk ge)
        refine skip_ (w1 := w8) (by rfl) rfl (run_update_own 133 (.tmp 37) (.tmp 40) (.tmp 41) rfl mb rfl _ rfl _ rfl hrun) ?_
        have HHO8 := Aside0.mk (HHO7.out.step HOK.out ho8 hg8 HXP.out HEN7.out)
        have HVW8 : Aside0 (VwW w8 vp mb) := ⟨⟨(World.cell?_of_block (w := w7) (hg8.block _ (World.block_lt_of_cell? w7 _ HVW7.out.c0) (fun e => by injection e with e; exact HVP.out e))).trans HVW7.out.c0⟩⟩
        have HB70 : Aside0 (Below w.heap.size w w7) := ⟨HB.out.trans (HB7.out.mono HB.out.size)⟩
        have HB8 := Aside0.mk (HB70.out.grown hg8 HB70.out.size (fun k hk => by injection hk with hk; have := HMB.out; omega))
        clear hrun ho8 hg8
        refine hK.out _ _ ?_
        clear hK K
        refine norm_ (a' := ?_) ?_ ?_
        rotate_left
        · rfl
        refine done_ (by kernel_rfl) ?_
        go_wp2_with fail
        go_roundg (gk - 1)
        case measure => exact meas1 HK.out HI9.out
        case rel => exact ⟨i + 1, _, by first | rfl | (rw [hw1]; done), ⟨meas2 HK.out HI9.out⟩, HB8, HVW8, HHO8⟩
      · go_upto_region 9 with (go_at_call 65; (with_reducible refine (spendC ge va hh9 cb w5 wr wr.heap.size HEN.out HB5.out HGE.out).mono ?_); rintro e w6 ⟨rfl, hen, hb, hg⟩; have HEN6 := Aside0.mk hen; have HB6 := Aside0.mk hb; have HG6 := Aside0.mk ((hg.block _ (blk_lt' HG5.out) (fun e => by injection e with e; have := HGL.out; omega)).trans HG5.out); have HHO6 := Aside0.mk (HHO.out.below hb); have HVW6 := Aside0.mk (HVW.out.below hb); clear hen hb hg)
        have HEN6 : Aside0 (EntW w6 ge x.f1.f0 x.f2 x.f3 x.f4) := ⟨by rw [HFE.out.1, HFE.out.2.1, HFE.out.2.2.1, HFE.out.2.2.2]; exact HEN6.out⟩
        have HVD : Aside0 (VwW w6.drew vp mb) := ⟨⟨HVW6.out.c0⟩⟩
        have HS9 : Aside0 (w6.drew.cell? ⟨vp, 0, none⟩ = some (.map (some mb)) ∧ (∀ j u, hx[j]? = some u → w6.drew.cell? ((⟨gb, 0, none⟩ : Addr).add j) = some u)) := ⟨HVW6.out.c0, by rw [← HTK.out]; exact cells_sub (told_of_block HG6.out)⟩
        refine start_ (n := 7) (S := fun w' => w'.cell? ⟨vp, 0, none⟩ = some (.map (some mb)) ∧ (∀ j u, hx[j]? = some u → w'.cell? ((⟨gb, 0, none⟩ : Addr).add j) = some u)) (ds := [6]) #[false, false, false, false, false, false, false] (by kernel_rfl) rfl rfl HS9.out (fun hHeld => ?_)
        refine pure_ (i := 0) (N := some 36) (v := ?_) (a' := ?_) #[true, false, false, false, false, false, false] rfl rfl (by kernel_rfl) (fun _ _ _ h => h) (Or.inl ⟨by rfl, ?_⟩) ?_ ?_
        rotate_left
        · intro w'
          go_simp
          with_reducible rfl
        rotate_left
        · simp only [Act.put, List.setIfInBounds_toArray, List.set_cons_zero, List.set_cons_succ, i64_w, i32_w]
          rfl
        refine pure_ (i := 2) (N := some 38) (v := ?_) (a' := ?_) #[true, false, true, false, false, false, false] rfl rfl (by kernel_rfl) (fun _ _ _ h => h) (Or.inl ⟨by rfl, ?_⟩) ?_ ?_
        rotate_left
        · intro w'
          go_simp
          with_reducible rfl
        rotate_left
        · simp only [Act.put, List.setIfInBounds_toArray, List.set_cons_zero, List.set_cons_succ, i64_w, i32_w]
          rfl
        refine take_ (i := 3) (N := some 39) (v := ?_) (a' := ?_) #[true, false, true, true, false, false, false] rfl rfl (by kernel_rfl) (fun _ _ _ h => h) (Or.inl ⟨by rfl, ?_⟩) hHeld ?_ ?_
        rotate_left
        · rintro w' ⟨s0, s1⟩
          refine run_load_at 31 (.tmp 38) ?_ ⟨gb, 0, none⟩ ?_ hx _ s1 Try.underlying31 rfl (by rw [HXL.out]; exact sizeIp)
          · rfl
          · rfl
        rotate_left
        · simp only [Act.put, List.setIfInBounds_toArray, List.set_cons_zero, List.set_cons_succ, i64_w, i32_w]
          rfl
        refine pure_ (i := 5) (N := some 41) (v := ?_) (a' := ?_) #[true, false, true, true, false, true, false] rfl rfl (by kernel_rfl) (fun _ _ _ h => h) (Or.inl ⟨by rfl, ?_⟩) ?_ ?_
        rotate_left
        · intro w'
          go_simp
          with_reducible rfl
        rotate_left
        · simp only [Act.put, List.setIfInBounds_toArray, List.set_cons_zero, List.set_cons_succ, i64_w, i32_w]
          rfl
        refine one_ (i := 1) (N := some 37) #[true, true, true, true, false, true, false] rfl rfl (by kernel_rfl) (by decide) (fun K hK => ?_)
        refine goes_ Try.func66 (by kernel_rfl) rfl #[.pointer (some ⟨vp, 0, none⟩)] (by rfl) rfl rfl (by (try simp only [List.map_toArray, List.map_cons, List.map_nil]); first | done | rfl | (simp only [List.length_drop, List.length_take]; rfl)) ?_
        with_reducible refine (entriesC vp mb _ ⟨HVD.out.c0⟩).mono ?_
        rintro e w7 ⟨rfl, rfl⟩
        refine ⟨_, rfl, ?_⟩
        refine hK.out _ _ hHeld (fun hHeld => ?_)
        clear hK K
        refine norm_ (a' := ?_) ?_ ?_
        rotate_left
        · show Act.put _ (some 37) _ = _
          simp only [Act.put, List.setIfInBounds_toArray, List.set_cons_zero, List.set_cons_succ, i64_w, i32_w]
          rfl
        refine one_ (i := 4) (N := some 40) #[true, true, true, true, true, true, false] rfl rfl (by kernel_rfl) (by decide) (fun K hK => ?_)
        have hHeld9 := hHeld
        refine goes_ Try.func46 (by kernel_rfl) rfl #[.agg hx.toArray] (by rfl) rfl rfl (by (try simp only [List.map_toArray, List.map_cons, List.map_nil]); first | done | rfl | (simp only [List.length_drop, List.length_take]; rfl)) ?_
        with_reducible refine (HOP.out _).mono ?_
        rintro e w7 ⟨rfl, hb⟩
        refine ⟨_, rfl, ?_⟩
        have HHO7 := Aside0.mk (HHO6.out.below ((below_drew (Below.refl _ _)).trans hb))
        have HVW7 := Aside0.mk (HVD.out.below hb)
        have HEN7 := Aside0.mk (HEN6.out.below ((below_drew (Below.refl _ _)).trans hb))
        have HB7 := Aside0.mk (HB6.out.trans (((below_drew (Below.refl _ _)).trans hb).mono HB6.out.size))
        have hB7 := Aside0.mk hb
        clear hb
        refine hK.out _ _ ⟨pw_cell_below hB7.out hHeld9.1, fun j u hj => pw_cell_below hB7.out (hHeld9.2 j u hj)⟩ (fun hHeld => ?_)
        clear hK K
        refine norm_ (a' := ?_) ?_ ?_
        rotate_left
        · show Act.put _ (some 40) _ = _
          simp only [Act.put, List.setIfInBounds_toArray, List.set_cons_zero, List.set_cons_succ, i64_w, i32_w]
          rfl
        refine last_ (i := 6) (N := none) #[true, true, true, true, true, true, true] rfl rfl (by kernel_rfl) (by decide) (fun K hK => ?_)
        obtain ⟨w8, hrun, ho8, hg8⟩ := HHO7.out.own.update opKeyed Try.underlying133 HNL.out HKE.out (ptrElem_mk ge)
        refine skip_ (w1 := w8) (by rfl) rfl (run_update_own 133 (.tmp 37) (.tmp 40) (.tmp 41) rfl mb rfl _ rfl _ rfl hrun) ?_
        have HHO8 := Aside0.mk (HHO7.out.step HOK.out ho8 hg8 HXP.out HEN7.out)
        have HVW8 : Aside0 (VwW w8 vp mb) := ⟨⟨(World.cell?_of_block (w := w7) (hg8.block _ (World.block_lt_of_cell? w7 _ HVW7.out.c0) (fun e => by injection e with e; exact HVP.out e))).trans HVW7.out.c0⟩⟩
        have HB70 : Aside0 (Below w.heap.size w w7) := ⟨HB.out.trans (HB7.out.mono HB.out.size)⟩
        have HB8 := Aside0.mk (HB70.out.grown hg8 HB70.out.size (fun k hk => by injection hk with hk; have := HMB.out; omega))
        clear hrun ho8 hg8
        refine hK.out _ _ ?_
        clear hK K
        refine norm_ (a' := ?_) ?_ ?_
        rotate_left
        · rfl
        refine done_ (by kernel_rfl) ?_
        go_wp2_with fail
        go_roundg (gk - 1)
        case measure => exact meas1 HK.out HI9.out
        case rel => exact ⟨i + 1, _, by first | rfl | (rw [hw1]; done), ⟨meas2 HK.out HI9.out⟩, HB8, HVW8, HHO8⟩
    · have hi1 : ¬ (i : Int) < (l.length : Int) := by omega
      have HII : Aside0 (i = l.length) := ⟨by have := HK.out; omega⟩
      go_wp2_with fail
      go_ret
      exact ⟨⟨vp, mb, i, DD, rfl, HVW.out, by have h := HHO.out; rw [HII.out] at h; rw [HII.out]; exact h⟩, HB.out⟩
end Go.Proofs.Ytdheoajaaofmbaa.QFnScriptPlaces
