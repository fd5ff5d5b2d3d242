/- impl.txOf: the message of a transaction. -/
import Derived.Test.YtdheoajaaofmbaaTx4
namespace Go.Proofs.Ytdheoajaaofmbaa.QFnScriptPlaces
open Go.RowKit Go.Proofs.YtdheoajaaofmbaaW.PrintWords Go.Proofs.YtdheoajaaofmbaaW.PrintLast Go.Proofs.YtdheoajaaofmbaaW.PrintMore
set_option linter.unusedVariables false
set_option linter.unusedSimpArgs false
theorem below_setOld {w0 W : World} {B : Nat} (h : Below B w0 W) {g : Nat} (hg : B ≤ g) (j : Nat) (u : Value) : Below B w0 (W.setCell ⟨g, j, none⟩ u) :=
  ⟨h.os, h.tape, h.output, by simpa [World.setCell] using h.size, fun k hk => (Below.heap_setCell W ⟨g, j, none⟩ u k (show k ≠ g by omega)).trans (h.block k hk)⟩
theorem pIn_types : ∀ q, q ∈ 99 :: pIn.E → q ≠ 98 := by decide
theorem pOut_types : ∀ q, q ∈ 109 :: pOut.E → q ≠ 98 := by decide
/-- An input laid as the text's own: its block, and what it leads to. -/
theorem made_in {W : World} {base gp : Nat} {x : S35} {v5 : Value} {A6 : Option Addr} {c6 : Nat} (hl : x.f0.f0.length = 32)
    (hb : W.heap[gp]? = some (.cells (hashC x.f0.f0 ++ [.int .u32 x.f0.f1, v5, .slice A6 x.f2.length c6, .int .u32 x.f3]).toArray 108 (0, 0))) (okp : Nat → Prop) (hgp : okp gp) (hbase : base ≤ gp)
    (r5 : Kd.R (Kd.int .u8) 5 W base (fun k => okp k ∧ k ≠ gp) v5 x.f1) (r6 : Kd.R (Kd.slice 5 (Kd.int .u8)) 32 W base (fun k => okp k ∧ k ≠ gp) (.slice A6 x.f2.length c6) x.f2) (hn : x.f2 = [] → A6 = none ∧ c6 = 0) : pIn.M W base okp x [.pointer (some ⟨gp, 0, none⟩)] := by
  refine ⟨gp, _, rfl, hb, hgp, hbase, ?_, fun h => ?_⟩
  · exact k35_mkM W base _ x hl r5 r6
  · obtain ⟨rfl, rfl⟩ := hn h
    rw [h]
    show (hashC x.f0.f0 ++ [.int .u32 x.f0.f1, v5, .slice none 0 0, .int .u32 x.f3])[34]? = _
    rw [List.getElem?_append_right (by rw [hashC_len hl]; decide), hashC_len hl]; rfl
theorem made_out {W : World} {base gp : Nat} {y : S41} {v5 : Value} (hb : W.heap[gp]? = some (.cells #[.int .i64 y.f0, v5] 111 (0, 0))) (okp : Nat → Prop) (hgp : okp gp) (hbase : base ≤ gp)
    (r5 : Kd.R (Kd.int .u8) 5 W base (fun k => okp k ∧ k ≠ gp) v5 y.f1) : pOut.M W base okp y [.pointer (some ⟨gp, 0, none⟩)] :=
  ⟨gp, _, rfl, hb, hgp, hbase, k41_mkM W base _ y r5⟩
/-- What the loops keep: the argument's box, the message's block. -/
structure TxW (w : World) (ins : List S35) (outs : List S41) (v lock : Int) (Ai : Option Addr) (ci : Nat) (Ao : Option Addr) (co : Nat) (W : World) (n1 n2 : Nat) (A1 : Option Addr) (c1 : Nat) (A2 : Option Addr) (c2 : Nat) : Prop where
  box : W.heap[w.heap.size]? = some (.cells #[.int .i32 v, .slice Ai ins.length ci, .slice Ao outs.length co, .int .u32 lock] 26 (0, 0))
  msg : W.heap[w.heap.size + 1]? = some (.cells #[.int .i32 v, .slice A1 n1 c1, .slice A2 n2 c2, .int .u32 lock] 98 (0, 0))
  low : Below w.heap.size w W
theorem TxW.below {w : World} {ins : List S35} {outs : List S41} {v lock : Int} {Ai Ao A1 A2 : Option Addr} {ci co c1 c2 n1 n2 : Nat} {W W1 : World} (h : TxW w ins outs v lock Ai ci Ao co W n1 n2 A1 c1 A2 c2) (hb : Below W.heap.size W W1) : TxW w ins outs v lock Ai ci Ao co W1 n1 n2 A1 c1 A2 c2 :=
  ⟨(hb.block _ (blk_lt' h.box)).trans h.box, (hb.block _ (blk_lt' h.msg)).trans h.msg, h.low.trans (hb.mono h.low.size)⟩
theorem TxW.grown {w : World} {ins : List S35} {outs : List S41} {v lock : Int} {Ai Ao A1 A2 : Option Addr} {ci co c1 c2 n1 n2 : Nat} {W W1 : World} (h : TxW w ins outs v lock Ai ci Ao co W n1 n2 A1 c1 A2 c2) {row : Option Nat} (hg : W.grownBy W1 row) (hb : Below w.heap.size w W1) (h0 : some w.heap.size ≠ row) (h1 : some (w.heap.size + 1) ≠ row) : TxW w ins outs v lock Ai ci Ao co W1 n1 n2 A1 c1 A2 c2 :=
  ⟨(hg.block _ (blk_lt' h.box) h0).trans h.box, (hg.block _ (blk_lt' h.msg) h1).trans h.msg, hb⟩
theorem rd_out {outs : List S41} (i : Nat) (h : i < outs.length) : rd_T41 outs (i : Int) = outs[i] := by
  show outs.getD (i : Int).toNat _ = _
  rw [Int.toNat_natCast, List.getD_eq_getElem?_getD, List.getElem?_eq_getElem h]; rfl
set_option maxRecDepth 100000 in
set_option maxHeartbeats 16000000 in
theorem txOfC (v lock : Int) (Ai : Option Addr) (ci : Nat) (ins : List S35) (Ao : Option Addr) (co : Nat) (outs : List S41) (w : World) (hi : Kd.C k35 w Ai ins.length ins) (hci : ins.length ≤ ci) (ho : Kd.C k41 w Ao outs.length outs) (hco : outs.length ≤ co) (hf : TxFit ins outs) :
    Calls Try.prog 24 #[.agg #[.int .i32 v, .slice Ai ins.length ci, .slice Ao outs.length co, .int .u32 lock]] w fun e w' => ∃ g A1 c1 A2 c2, e = .returned (.pointer (some ⟨g, 0, none⟩)) ∧ Msg w' g v lock ins outs A1 c1 A2 c2 ∧ w.heap.size ≤ g ∧ Below w.heap.size w w' := by
  have HCI := Aside0.mk hi
  have HCO := Aside0.mk ho
  have HLI0 := Aside0.mk hci
  have HLO0 := Aside0.mk hco
  have HF := Aside0.mk hf
  have HW0 : Aside0 (TxW w ins outs v lock Ai ci Ao co ((w.alloc (.cells #[.int .i32 v, .slice Ai ins.length ci, .slice Ao outs.length co, .int .u32 lock] 26)).alloc (.cells #[.int .i32 v, .slice none 0 0, .slice none 0 0, .int .u32 lock] 98)) 0 0 none 0 none 0) := ⟨⟨by
      rw [Below.heap_alloc _ _ _ (by simp)]; exact heap_alloc_new _ _, by
      have h := heap_alloc_new (w.alloc (.cells #[.int .i32 v, .slice Ai ins.length ci, .slice Ao outs.length co, .int .u32 lock] 26)) (.cells #[.int .i32 v, .slice none 0 0, .slice none 0 0, .int .u32 lock] 98)
      rwa [show (w.alloc (.cells #[.int .i32 v, .slice Ai ins.length ci, .slice Ao outs.length co, .int .u32 lock] 26)).heap.size = w.heap.size + 1 by simp] at h, below_alloc (below_alloc (Below.refl _ _) _) _⟩⟩
  clear hi ho hci hco hf
  go_enter Try.func24, Try.ntmps24
  go_wp2_with fail
  go_loopg [4] (ins.length + 1) (fun kq p4 w' => ∃ i : Nat, p4 = .int .i64 (i : Int) ∧ Aside0 (i ≤ ins.length ∧ ins.length + 1 ≤ i + kq) ∧ ∃ A1 c1, Aside0 (TxW w ins outs v lock Ai ci Ao co w' i 0 A1 c1 none 0 ∧ Kd.R pIn 99 w' w.heap.size (fun _ => True) (.slice A1 i c1) (ins.take i)))
  case atStart => exact ⟨0, by rfl, ⟨by omega⟩, none, 0, ⟨HW0.out, by rw [List.take_zero]; exact Kd.R_nil _ _ _ _ _⟩⟩
  case round =>
    clear HW0
    obtain ⟨i, rfl, HK, Am, cm, HX⟩ := hrel
    have HT0 := Aside0.mk HX.out.1
    have HRI := Aside0.mk HX.out.2
    clear HX
    have kb1 := cell_of HT0.out.box (j := 1) rfl
    have kb2 := cell_of HT0.out.box (j := 2) rfl
    by_cases hlt : i < ins.length
    · have hi1 : (i : Int) < (ins.length : Int) := by omega
      obtain ⟨ad, cs, A1, c1, A2, c2, e2, hI, hcc⟩ := cells_at (Kd.C_below HCI.out HT0.out.low) (i : Int) (by omega) hi1
      subst e2
      rw [rd_in35 ins i hlt] at hI
      have hw1 : wrap64 ((i : Int) + 1) = ((i + 1 : Nat) : Int) := by have := HF.out.n1; unfold wrap64; omega
      have hw2 : IntKind.i64.wrap ((i : Int) + 1) = ((i + 1 : Nat) : Int) := (i64_w _).trans hw1
      obtain ⟨x, hxx⟩ : ∃ x, ins[i] = x := ⟨_, rfl⟩
      have HFX := Aside0.mk (HF.out.i1 _ (List.getElem_mem hlt))
      have HTK : Aside0 (ins.take (i + 1) = ins.take i ++ [x]) := ⟨by rw [List.take_succ_eq_append_getElem hlt, hxx]⟩
      rw [hxx] at hI HFX
      have HI := Aside0.mk hI
      have HCC := Aside0.mk hcc
      have HSZ : Aside0 ((Try.prog.info? 35).map (·.size) = some cs.length) := ⟨by rw [hI.len]; exact size35⟩
      have HHI := Aside0.mk hlt
      clear hI hcc hxx hlt
      go_upto_region 6 with (first
        | ((with_reducible refine at_dst (N := 24) rfl ?_); refine wpList_load_at rfl 35 (.tmp 23) rfl _ rfl cs _ HCC.out Try.underlying35 rfl HSZ.out ?_)
        | ((with_reducible refine at_none rfl ?_); refine wpList_store_whole rfl 35 (.tmp 5) (.tmp 24) rfl wr.heap.size cs.toArray rfl rfl 35 _ (heap_alloc_new wr _) ?hi ?ho HI.out.one (w0 := wr) (B := wr.heap.size) (below_alloc (Below.refl _ _) _) (Nat.le_refl _) ?_; (case hi => rw [List.size_toArray]; exact HSZ.out); (case ho => show 36 = cs.toArray.size; rw [List.size_toArray]; exact HI.out.len.symm); intro W1 hg1 hb1 hk1 hz1; have HGB := Aside0.mk hg1; have HB1 := Aside0.mk hb1; have HZ1 := Aside0.mk hz1; clear hg1 hb1 hk1 hz1))
      have HT := Aside0.mk (HT0.out.below HB1.out)
      have HR1 := Aside0.mk (Kd.R_below HRI.out HB1.out)
      have HI1 := Aside0.mk (HI.out.below HB1.out)
      obtain ⟨gb, hgb⟩ : ∃ gb, wr.heap.size = gb := ⟨_, rfl⟩
      have HGB0 := Aside0.mk hgb
      rw [hgb] at HGB ⊢
      clear hgb kb1 kb2 HT0 HRI HI HCC
      obtain ⟨sc, hsc⟩ : ∃ l, x.f1 = l := ⟨_, rfl⟩
      obtain ⟨wi, hwi⟩ : ∃ l, x.f2 = l := ⟨_, rfl⟩
      obtain ⟨sq, hsq⟩ : ∃ l, x.f3 = l := ⟨_, rfl⟩
      obtain ⟨hx, hhx⟩ : ∃ l, cs.take 33 = l := ⟨_, rfl⟩
      obtain ⟨li, hli⟩ : ∃ l, ins.take i = l := ⟨_, rfl⟩
      obtain ⟨lx, hlx⟩ : ∃ l, l = li ++ [x] := ⟨_, rfl⟩
      have HHL := Aside0.mk HI1.out.hl
      have HXL : Aside0 (hx.length = 33) := ⟨by rw [← hhx, List.length_take, HI1.out.len]; rfl⟩
      have HXE : Aside0 (hx = hashC x.f0.f0 ++ [Value.int .u32 x.f0.f1]) := ⟨by rw [← hhx]; exact take33 HI1.out⟩
      have HOP : Aside0 (∀ W : World, Calls Try.prog 46 #[.agg hx.toArray] W fun e w' => e = .returned (.agg hx.toArray) ∧ Below W.heap.size W w') := ⟨fun W => by rw [HXE.out]; exact outPointC x.f0.f0 x.f0.f1 HHL.out W⟩
      have HS : Aside0 (W1.drew.cell? ⟨w.heap.size + 1, 1, none⟩ = some (.slice Am i cm) ∧ W1.drew.cell? ⟨gb, 33, none⟩ = some (.slice A1 sc.length c1) ∧ W1.drew.cell? ⟨gb, 34, none⟩ = some (.slice A2 wi.length c2) ∧ W1.drew.cell? ⟨gb, 35, none⟩ = some (.int .u32 sq) ∧ (∀ j u, hx[j]? = some u → W1.drew.cell? ((⟨gb, 0, none⟩ : Addr).add j) = some u)) :=
        ⟨cell_of HT.out.msg (j := 1) rfl, cell_of HGB.out (j := 33) (by rw [List.getElem?_toArray, ← hsc]; exact HI1.out.scr), cell_of HGB.out (j := 34) (by rw [List.getElem?_toArray, ← hwi]; exact HI1.out.wit), cell_of HGB.out (j := 35) (by rw [List.getElem?_toArray, ← hsq]; exact HI1.out.seq), fun j u hj => by
          rw [add_plain]
          refine cell_of HGB.out (j := j) ?_
          rw [List.getElem?_toArray]
          rw [← hhx, List.getElem?_take] at hj
          split at hj
          · exact hj
          · cases hj⟩
      have HSC := Aside0.mk hsc
      have HWI := Aside0.mk hwi
      have HSQ := Aside0.mk hsq
      have HLX := Aside0.mk hlx
      have HLXT : Aside0 (ins.take (i + 1) = lx) := ⟨by rw [HTK.out, hlx, hli]⟩
      have HLB : Aside0 ((li.length + 1) * 8 ≤ 140737488355328) := ⟨by rw [← hli, List.length_take]; have := HF.out.n1; omega⟩
      have HLX1 : Aside0 (lx.length = i + 1) := ⟨by rw [hlx, ← hli]; have := HHI.out; simp; omega⟩
      have HR : Aside0 (Kd.R pIn 99 W1.drew w.heap.size (fun _ => True) (.slice Am i cm) li) := ⟨by rw [← hli]; exact Kd.R_below HR1.out (below_drew (Below.refl _ _))⟩
      have HT := Aside0.mk (HT.out.below (below_drew (Below.refl _ _)))
      have HG1 : Aside0 (Kd.C (Kd.int .u8) W1.drew A1 sc.length sc) := ⟨by rw [← hsc]; exact Kd.C_below HI1.out.g1 (below_drew (Below.refl _ _))⟩
      have HG2 : Aside0 (Kd.C (Kd.slice 5 (Kd.int .u8)) W1.drew A2 wi.length wi) := ⟨by rw [← hwi]; exact Kd.C_below HI1.out.g2 (below_drew (Below.refl _ _))⟩
      have HL1 : Aside0 (sc.length ≤ c1) := ⟨by rw [← hsc]; exact HI1.out.l1⟩
      have HL2 : Aside0 (wi.length ≤ c2) := ⟨by rw [← hwi]; exact HI1.out.l2⟩
      have HCP : Aside0 (impl_copied.f sc = some sc) := ⟨copied_any sc (by rw [← hsc]; exact HFX.out.1)⟩
      have HFW : Aside0 (wi.length ≤ 1000000 ∧ ∀ s ∈ wi, s.length ≤ 1000000) := ⟨by rw [← hwi]; exact HFX.out.2⟩
      have HRB : Aside0 (∀ k, (Value.slice Am i cm).ownBlock = some k → k < W1.heap.size) := ⟨Kd.R_lt HR1.out⟩
      have HRN : Aside0 (∀ g, g = w.heap.size ∨ g = w.heap.size + 1 → some g ≠ (Value.slice Am i cm).ownBlock) := ⟨fun g hg => by
        rcases hg with rfl | rfl
        · exact Kd.R_ne HR.out HT.out.box (by decide)
        · exact Kd.R_ne HR.out HT.out.msg (by decide)⟩
      have HRG : Aside0 (some gb ≠ (Value.slice Am i cm).ownBlock) := ⟨Kd.R_ne HR1.out HGB.out (by decide)⟩
      have HCE : Aside0 (∀ (A5 : Option Addr) (c5 : Nat) (A6 : Option Addr) (c6 : Nat), hx ++ [Value.slice A5 sc.length c5, .slice A6 wi.length c6, .int .u32 sq] = hashC x.f0.f0 ++ [.int .u32 x.f0.f1, .slice A5 sc.length c5, .slice A6 x.f2.length c6, .int .u32 x.f3]) := ⟨fun A5 c5 A6 c6 => by rw [HXE.out, hwi, hsq, List.append_assoc]; rfl⟩
      clear hsc hwi hsq hhx hli hlx HR1 HTK HI1
      refine start_ (n := 23) (S := fun w' => w'.cell? ⟨w.heap.size + 1, 1, none⟩ = some (.slice Am i cm) ∧ w'.cell? ⟨gb, 33, none⟩ = some (.slice A1 sc.length c1) ∧ w'.cell? ⟨gb, 34, none⟩ = some (.slice A2 wi.length c2) ∧ w'.cell? ⟨gb, 35, none⟩ = some (.int .u32 sq) ∧ (∀ j u, hx[j]? = some u → w'.cell? ((⟨gb, 0, none⟩ : Addr).add j) = some u)) (ds := [22]) #[false, false, false, false, false, false, false, false, false, false, false, false, false, false, false, false, false, false, false, false, false, false, false] (by kernel_rfl) rfl rfl HS.out (fun hHeld => ?_)
      refine pure_ (i := 0) (N := some 25) (v := ?_) (a' := ?_) #[true, false, false, false, false, false, false, false, false, false, false, false, false, false, false, false, false, false, false, false, false, false, false] rfl rfl (by kernel_rfl) (fun _ _ _ h => h) (Or.inl ⟨by rfl, ?_⟩) ?_ ?_
      rotate_left
      · intro w'
        go_simp
        with_reducible rfl
      rotate_left
      · simp only [Act.put, List.setIfInBounds_toArray, List.set_cons_zero, List.set_cons_succ, i64_w, i32_w]
        rfl
      refine pure_ (i := 1) (N := some 26) (v := ?_) (a' := ?_) #[true, true, false, false, false, false, false, false, false, false, false, false, false, false, false, false, false, false, false, false, false, false, false] rfl rfl (by kernel_rfl) (fun _ _ _ h => h) (Or.inl ⟨by rfl, ?_⟩) ?_ ?_
      rotate_left
      · intro w'
        go_simp
        with_reducible rfl
      rotate_left
      · simp only [Act.put, List.setIfInBounds_toArray, List.set_cons_zero, List.set_cons_succ, i64_w, i32_w]
        rfl
      refine pure_ (i := 2) (N := some 27) (v := ?_) (a' := ?_) #[true, true, true, false, false, false, false, false, false, false, false, false, false, false, false, false, false, false, false, false, false, false, false] rfl rfl (by kernel_rfl) (fun _ _ _ h => h) (Or.inl ⟨by rfl, ?_⟩) ?_ ?_
      rotate_left
      · intro w'
        go_simp
        with_reducible rfl
      rotate_left
      · simp only [Act.put, List.setIfInBounds_toArray, List.set_cons_zero, List.set_cons_succ, i64_w, i32_w]
        rfl
      refine pure_ (i := 3) (N := some 28) (v := ?_) (a' := ?_) #[true, true, true, true, false, false, false, false, false, false, false, false, false, false, false, false, false, false, false, false, false, false, false] rfl rfl (by kernel_rfl) (fun _ _ _ h => h) (Or.inl ⟨by rfl, ?_⟩) ?_ ?_
      rotate_left
      · intro w'
        go_simp
        with_reducible rfl
      rotate_left
      · simp only [Act.put, List.setIfInBounds_toArray, List.set_cons_zero, List.set_cons_succ, i64_w, i32_w]
        rfl
      refine take_ (i := 4) (N := some 29) (v := ?_) (a' := ?_) #[true, true, true, true, true, false, false, false, false, false, false, false, false, false, false, false, false, false, false, false, false, false, false] rfl rfl (by kernel_rfl) (fun _ _ _ h => h) (Or.inl ⟨by rfl, ?_⟩) hHeld ?_ ?_
      rotate_left
      · rintro w' ⟨s0, s1, s2, s3, s4⟩
        go_simp
        with_reducible rfl
      rotate_left
      · simp only [Act.put, List.setIfInBounds_toArray, List.set_cons_zero, List.set_cons_succ, i64_w, i32_w]
        rfl
      refine pure_ (i := 5) (N := some 30) (v := ?_) (a' := ?_) #[true, true, true, true, true, true, false, false, false, false, false, false, false, false, false, false, false, false, false, false, false, false, false] rfl rfl (by kernel_rfl) (fun _ _ _ h => h) (Or.inl ⟨by rfl, ?_⟩) ?_ ?_
      rotate_left
      · intro w'
        go_simp
        with_reducible rfl
      rotate_left
      · simp only [Act.put, List.setIfInBounds_toArray, List.set_cons_zero, List.set_cons_succ, i64_w, i32_w]
        rfl
      refine take_ (i := 6) (N := some 31) (v := ?_) (a' := ?_) #[true, true, true, true, true, true, true, false, false, false, false, false, false, false, false, false, false, false, false, false, false, false, false] rfl rfl (by kernel_rfl) (fun _ _ _ h => h) (Or.inl ⟨by rfl, ?_⟩) hHeld ?_ ?_
      rotate_left
      · rintro w' ⟨s0, s1, s2, s3, s4⟩
        refine run_load_at 31 (.tmp 30) ?_ ⟨gb, 0, none⟩ ?_ hx _ s4 Try.underlying31 rfl (by rw [HXL.out]; exact sizeIp) <;> rfl
      rotate_left
      · simp only [Act.put, List.setIfInBounds_toArray, List.set_cons_zero, List.set_cons_succ, i64_w, i32_w]
        rfl
      refine pure_ (i := 8) (N := some 33) (v := ?_) (a' := ?_) #[true, true, true, true, true, true, true, false, true, false, false, false, false, false, false, false, false, false, false, false, false, false, false] rfl rfl (by kernel_rfl) (fun _ _ _ h => h) (Or.inl ⟨by rfl, ?_⟩) ?_ ?_
      rotate_left
      · intro w'
        go_simp
        with_reducible rfl
      rotate_left
      · simp only [Act.put, List.setIfInBounds_toArray, List.set_cons_zero, List.set_cons_succ, i64_w, i32_w]
        rfl
      refine take_ (i := 9) (N := some 34) (v := ?_) (a' := ?_) #[true, true, true, true, true, true, true, false, true, true, false, false, false, false, false, false, false, false, false, false, false, false, false] rfl rfl (by kernel_rfl) (fun _ _ _ h => h) (Or.inl ⟨by rfl, ?_⟩) hHeld ?_ ?_
      rotate_left
      · rintro w' ⟨s0, s1, s2, s3, s4⟩
        go_simp
        with_reducible rfl
      rotate_left
      · simp only [Act.put, List.setIfInBounds_toArray, List.set_cons_zero, List.set_cons_succ, i64_w, i32_w]
        rfl
      refine pure_ (i := 11) (N := some 36) (v := ?_) (a' := ?_) #[true, true, true, true, true, true, true, false, true, true, false, true, false, false, false, false, false, false, false, false, false, false, false] rfl rfl (by kernel_rfl) (fun _ _ _ h => h) (Or.inl ⟨by rfl, ?_⟩) ?_ ?_
      rotate_left
      · intro w'
        go_simp
        with_reducible rfl
      rotate_left
      · simp only [Act.put, List.setIfInBounds_toArray, List.set_cons_zero, List.set_cons_succ, i64_w, i32_w]
        rfl
      refine take_ (i := 12) (N := some 37) (v := ?_) (a' := ?_) #[true, true, true, true, true, true, true, false, true, true, false, true, true, false, false, false, false, false, false, false, false, false, false] rfl rfl (by kernel_rfl) (fun _ _ _ h => h) (Or.inl ⟨by rfl, ?_⟩) hHeld ?_ ?_
      rotate_left
      · rintro w' ⟨s0, s1, s2, s3, s4⟩
        go_simp
        with_reducible rfl
      rotate_left
      · simp only [Act.put, List.setIfInBounds_toArray, List.set_cons_zero, List.set_cons_succ, i64_w, i32_w]
        rfl
      refine pure_ (i := 14) (N := some 39) (v := ?_) (a' := ?_) #[true, true, true, true, true, true, true, false, true, true, false, true, true, false, true, false, false, false, false, false, false, false, false] rfl rfl (by kernel_rfl) (fun _ _ _ h => h) (Or.inl ⟨by rfl, ?_⟩) ?_ ?_
      rotate_left
      · intro w'
        go_simp
        with_reducible rfl
      rotate_left
      · simp only [Act.put, List.setIfInBounds_toArray, List.set_cons_zero, List.set_cons_succ, i64_w, i32_w]
        rfl
      refine take_ (i := 15) (N := some 40) (v := ?_) (a' := ?_) #[true, true, true, true, true, true, true, false, true, true, false, true, true, false, true, true, false, false, false, false, false, false, false] rfl rfl (by kernel_rfl) (fun _ _ _ h => h) (Or.inl ⟨by rfl, ?_⟩) hHeld ?_ ?_
      rotate_left
      · rintro w' ⟨s0, s1, s2, s3, s4⟩
        go_simp
        with_reducible rfl
      rotate_left
      · simp only [Act.put, List.setIfInBounds_toArray, List.set_cons_zero, List.set_cons_succ, i64_w, i32_w]
        rfl
      refine one_ (i := 7) (N := some 32) #[true, true, true, true, true, true, true, true, true, true, false, true, true, false, true, true, false, false, false, false, false, false, false] rfl rfl (by kernel_rfl) (by decide) (fun K hK => ?_)
      refine goes_ Try.func46 (by kernel_rfl) rfl #[.agg hx.toArray] (by rfl) rfl rfl (by (try simp only [List.map_toArray, List.map_cons, List.map_nil]); first | done | rfl | (simp only [List.length_drop, List.length_take]; rfl)) ?_
      with_reducible refine ((HOP.out _)).mono ?_
      rintro e w2 ⟨rfl, hb⟩
      refine ⟨_, rfl, ?_⟩
      have HT2 := Aside0.mk (HT.out.below hb)
      have HR2 := Aside0.mk (Kd.R_below HR.out hb)
      have HZ2 := Aside0.mk hb.size
      have HC1 := Aside0.mk (Kd.C_below HG1.out hb)
      have HC2 := Aside0.mk (Kd.C_below HG2.out hb)
      have hS := hHeld
      have hB2 := Aside0.mk hb
      clear hb
      refine hK.out _ _ ⟨pw_cell_below hB2.out hHeld.1, pw_cell_below hB2.out hHeld.2.1, pw_cell_below hB2.out hHeld.2.2.1, pw_cell_below hB2.out hHeld.2.2.2.1, fun j u hj => pw_cell_below hB2.out (hHeld.2.2.2.2 j u hj)⟩ (fun hHeld => ?_)
      clear hK K
      refine norm_ (a' := ?_) ?_ ?_
      rotate_left
      · show Act.put _ (some 32) _ = _
        simp only [Act.put, List.setIfInBounds_toArray, List.set_cons_zero, List.set_cons_succ, i64_w, i32_w]
        rfl
      refine one_ (i := 10) (N := some 35) #[true, true, true, true, true, true, true, true, true, true, true, true, true, false, true, true, false, false, false, false, false, false, false] rfl rfl (by kernel_rfl) (by decide) (fun K hK => ?_)
      refine goes_ Try.func47 (by kernel_rfl) rfl #[.slice A1 sc.length c1] (by rfl) rfl rfl (by (try simp only [List.map_toArray, List.map_cons, List.map_nil]); first | done | rfl | (simp only [List.length_drop, List.length_take]; rfl)) ?_
      with_reducible refine (impl_copied.calls A1 c1 sc sc _ HC1.out HL1.out HCP.out).mono ?_
      rintro e w3 ⟨v5, rfl, hr, hb⟩
      refine ⟨_, rfl, ?_⟩
      have HT3 := Aside0.mk (HT2.out.below hb)
      have HR3 := Aside0.mk (Kd.R_below HR2.out hb)
      have HZ3 := Aside0.mk (Nat.le_trans HZ2.out hb.size)
      have HC3 := Aside0.mk (Kd.C_below HC2.out hb)
      have HV5 := Aside0.mk (Kd.R_bound hr)
      have hB3 := Aside0.mk hb
      (obtain ⟨A5, c5, e5⟩ := Kd.R_slice hr)
      subst e5
      clear hb hr
      refine hK.out _ _ ⟨pw_cell_below hB3.out hHeld.1, pw_cell_below hB3.out hHeld.2.1, pw_cell_below hB3.out hHeld.2.2.1, pw_cell_below hB3.out hHeld.2.2.2.1, fun j u hj => pw_cell_below hB3.out (hHeld.2.2.2.2 j u hj)⟩ (fun hHeld => ?_)
      clear hK K
      refine norm_ (a' := ?_) ?_ ?_
      rotate_left
      · show Act.put _ (some 35) _ = _
        simp only [Act.put, List.setIfInBounds_toArray, List.set_cons_zero, List.set_cons_succ, i64_w, i32_w]
        rfl
      refine one_ (i := 13) (N := some 38) #[true, true, true, true, true, true, true, true, true, true, true, true, true, true, true, true, false, false, false, false, false, false, false] rfl rfl (by kernel_rfl) (by decide) (fun K hK => ?_)
      refine goes_ Try.func48 (by kernel_rfl) rfl #[.slice A2 wi.length c2] (by rfl) rfl rfl (by (try simp only [List.map_toArray, List.map_cons, List.map_nil]); first | done | rfl | (simp only [List.length_drop, List.length_take]; rfl)) ?_
      with_reducible refine (copiesC A2 c2 wi _ HC3.out HL2.out HFW.out.1 HFW.out.2).mono ?_
      rintro e w4 ⟨A6, c6, rfl, hr, hn, hb⟩
      refine ⟨_, rfl, ?_⟩
      have HT4 := Aside0.mk (HT3.out.below hb)
      have HR4 := Aside0.mk (Kd.R_below HR3.out hb)
      have HZ4 := Aside0.mk (Nat.le_trans HZ3.out hb.size)
      have HV6 := Aside0.mk (Kd.R_bound hr)
      have HN6 := Aside0.mk hn
      have HV5b := Aside0.mk (Kd.R_below HV5.out hb)
      have HZ5 := Aside0.mk hb.size
      have hB4 := Aside0.mk hb
      clear hb hr hn
      refine hK.out _ _ ⟨pw_cell_below hB4.out hHeld.1, pw_cell_below hB4.out hHeld.2.1, pw_cell_below hB4.out hHeld.2.2.1, pw_cell_below hB4.out hHeld.2.2.2.1, fun j u hj => pw_cell_below hB4.out (hHeld.2.2.2.2 j u hj)⟩ (fun hHeld => ?_)
      clear hK K
      refine norm_ (a' := ?_) ?_ ?_
      rotate_left
      · show Act.put _ (some 38) _ = _
        simp only [Act.put, List.setIfInBounds_toArray, List.set_cons_zero, List.set_cons_succ, i64_w, i32_w]
        rfl
      refine pure_ (i := 16) (N := some 41) (v := ?_) (a' := ?_) #[true, true, true, true, true, true, true, true, true, true, true, true, true, true, true, true, true, false, false, false, false, false, false] rfl rfl (by kernel_rfl) (fun _ _ _ h => h) (Or.inl ⟨by rfl, ?_⟩) ?_ ?_
      rotate_left
      · intro w'
        refine run_built 108 #[(0, .tmp 32), (1, .tmp 35), (2, .tmp 38), (3, .tmp 40)] ?_ [(0, .agg hx.toArray), (1, .slice A5 sc.length c5), (2, .slice A6 wi.length c6), (3, .int .u32 sq)] ?_ _ (builtIn hx HXL.out A5 sc.length c5 A6 wi.length c6 sq)
        · rfl
        · (try simp only [List.map_toArray, List.map_cons, List.map_nil]); rfl
      rotate_left
      · simp only [Act.put, List.setIfInBounds_toArray, List.set_cons_zero, List.set_cons_succ, i64_w, i32_w]
        rfl
      refine one_ (i := 17) (N := some 42) #[true, true, true, true, true, true, true, true, true, true, true, true, true, true, true, true, true, true, false, false, false, false, false] rfl rfl (by kernel_rfl) (by decide) (fun K hK => ?_)
      refine event_step (v := .pointer (some ⟨w4.heap.size, 0, none⟩)) (w1 := w4.alloc (.cells (hx ++ [Value.slice A5 sc.length c5, Value.slice A6 wi.length c6, Value.int .u32 sq]).toArray 108)) (by rfl) ?hr17 ?_
      case hr17 => first | (go_simp; done) | (go_simp; rfl)
      have hB5 := Aside0.mk (below_alloc (Below.refl w4.heap.size w4) (.cells (hx ++ [Value.slice A5 sc.length c5, Value.slice A6 wi.length c6, Value.int .u32 sq]).toArray 108))
      have HG5 := Aside0.mk (heap_alloc_new w4 (.cells (hx ++ [Value.slice A5 sc.length c5, Value.slice A6 wi.length c6, Value.int .u32 sq]).toArray 108))
      refine hK.out _ _ ⟨pw_cell_below hB5.out hHeld.1, pw_cell_below hB5.out hHeld.2.1, pw_cell_below hB5.out hHeld.2.2.1, pw_cell_below hB5.out hHeld.2.2.2.1, fun j u hj => pw_cell_below hB5.out (hHeld.2.2.2.2 j u hj)⟩ (fun hHeld => ?_)
      clear hK K
      refine norm_ (a' := ?_) ?_ ?_
      rotate_left
      · show Act.put _ (some 42) _ = _
        simp only [Act.put, List.setIfInBounds_toArray, List.set_cons_zero, List.set_cons_succ, i64_w, i32_w]
        rfl
      refine one_ (i := 18) (N := some 43) #[true, true, true, true, true, true, true, true, true, true, true, true, true, true, true, true, true, true, true, false, false, false, false] rfl rfl (by kernel_rfl) (by decide) (fun K hK => ?_)
      obtain ⟨w5, hw5⟩ : ∃ w5, w4.alloc (.cells (hx ++ [Value.slice A5 sc.length c5, Value.slice A6 wi.length c6, Value.int .u32 sq]).toArray 108) = w5 := ⟨_, rfl⟩
      have hHeld6 := hHeld
      rw [hw5] at hB5 HG5 hHeld hHeld6 ⊢
      have HT5 := Aside0.mk (HT4.out.below hB5.out)
      have HR5 := Aside0.mk (Kd.R_below HR4.out hB5.out)
      have h5a := Kd.R_lower (Kd.R_below HV5b.out hB5.out) HT2.out.low.size
      have h6a := Kd.R_lower (Kd.R_below HV6.out hB5.out) HT3.out.low.size
      have h5b : Kd.R (Kd.int .u8) 5 w5 w.heap.size (fun k => W1.heap.size ≤ k ∧ k ≠ w4.heap.size) (.slice A5 sc.length c5) sc := Kd.R_mono h5a (fun k hk => ⟨Nat.le_trans (show W1.heap.size ≤ w2.heap.size from HZ2.out) hk.2.1, fun e => by have h1 := hk.2.2.1; have h2 := HZ5.out; omega⟩)
      have h6b : Kd.R (Kd.slice 5 (Kd.int .u8)) 32 w5 w.heap.size (fun k => W1.heap.size ≤ k ∧ k ≠ w4.heap.size) (.slice A6 wi.length c6) wi := Kd.R_mono h6a (fun k hk => ⟨Nat.le_trans (show W1.heap.size ≤ w3.heap.size from HZ3.out) hk.2.1, fun e => by have h1 := hk.2.2.1; omega⟩)
      have HM5 : Aside0 (pIn.M w5 w.heap.size (fun k => W1.heap.size ≤ k) x [.pointer (some ⟨w4.heap.size, 0, none⟩)]) := ⟨made_in (v5 := .slice A5 sc.length c5) (A6 := A6) (c6 := c6) HHL.out (by rw [← HCE.out]; exact HG5.out) (fun k => W1.heap.size ≤ k) (show W1.heap.size ≤ w4.heap.size from HZ4.out) HT4.out.low.size (by rw [HSC.out]; exact h5b) (by rw [HWI.out]; exact h6b) (by rw [HWI.out]; exact HN6.out)⟩
      clear h5a h6a h5b h6b
      clear hw5
      refine event_step (v := .slice (some ⟨w5.heap.size, 0, none⟩) 1 1) (w1 := w5.alloc (.cells #[.pointer (some ⟨w4.heap.size, 0, none⟩)] 99)) (by rfl) ?hr18 ?_
      case hr18 => first | (go_simp; done) | (go_simp; exact ⟨rfl, rfl⟩) | (go_simp; rfl)
      have hB6 := Aside0.mk (below_alloc (Below.refl w5.heap.size w5) (.cells #[.pointer (some ⟨w4.heap.size, 0, none⟩)] 99))
      refine hK.out _ _ ⟨pw_cell_below hB6.out hHeld.1, pw_cell_below hB6.out hHeld.2.1, pw_cell_below hB6.out hHeld.2.2.1, pw_cell_below hB6.out hHeld.2.2.2.1, fun j u hj => pw_cell_below hB6.out (hHeld.2.2.2.2 j u hj)⟩ (fun hHeld => ?_)
      clear hK K
      refine norm_ (a' := ?_) ?_ ?_
      rotate_left
      · show Act.put _ (some 43) _ = _
        simp only [Act.put, List.setIfInBounds_toArray, List.set_cons_zero, List.set_cons_succ, i64_w, i32_w]
        rfl
      refine one_ (i := 19) (N := some 44) #[true, true, true, true, true, true, true, true, true, true, true, true, true, true, true, true, true, true, true, true, false, false, false] rfl rfl (by kernel_rfl) (by decide) (fun K hK => ?_)
      refine Kd.R_append_step pIn (w0 := w) w.heap.size (by rfl) (.tmp 29) (.tmp 43) 95 99 (.pointer none) 8 rfl Try.underlying95 infoPI rfl (by decide) (by decide) (.slice Am i cm) li x [.pointer (some ⟨w4.heap.size, 0, none⟩)] (fun _ => True) (fun k => W1.heap.size ≤ k) rfl rfl HM5.out (fun k hk => ⟨trivial, fun e => by have h1 := HRB.out k e.symm; omega⟩) (fun _ _ => trivial) HR5.out HT5.out.low HT5.out.low.size ?aL ?_
      case aL => have := HLB.out; omega
      intro v7 w7 ho hb hg hat
      rw [← HLX.out] at ho
      (obtain ⟨A7, c7, e7⟩ := Kd.R_slice ho)
      subst e7
      have hne : ∀ g, g < W1.heap.size → g = w.heap.size ∨ g = w.heap.size + 1 → some g ≠ (Value.slice Am i cm).ownBlock := fun g hg1 hg2 => HRN.out g hg2
      have HT7 := Aside0.mk (HT5.out.grown hg hb (HRN.out _ (Or.inl rfl)) (HRN.out _ (Or.inr rfl)))
      have HR7 := Aside0.mk ho
      have hf7 := frozen_of HT7.out.msg 1
      have hS7 : ∀ b o u, b = w.heap.size + 1 ∨ b = gb → w5.cell? ⟨b, o, none⟩ = some u → w7.cell? ⟨b, o, none⟩ = some u := fun b o u hb9 hu => by have hbl := World.block_lt_of_cell? w5 _ hu; exact (World.cell?_of_block (w := w5) (hg.block b hbl (by rcases hb9 with rfl | rfl; exact HRN.out _ (Or.inr rfl); exact HRG.out))).trans hu
      clear ho hb hg hat hne
      refine hK.out _ _ ⟨hS7 _ _ _ (Or.inl rfl) hHeld6.1, hS7 _ _ _ (Or.inr rfl) hHeld6.2.1, hS7 _ _ _ (Or.inr rfl) hHeld6.2.2.1, hS7 _ _ _ (Or.inr rfl) hHeld6.2.2.2.1, fun j u hj => by have h := hHeld6.2.2.2.2 j u hj; rw [add_plain] at h ⊢; exact hS7 _ _ _ (Or.inr rfl) h⟩ (fun hHeld => ?_)
      clear hK K
      refine norm_ (a' := ?_) ?_ ?_
      rotate_left
      · show Act.put _ (some 44) _ = _
        simp only [Act.put, List.setIfInBounds_toArray, List.set_cons_zero, List.set_cons_succ, i64_w, i32_w]
        rfl
      refine pure_ (i := 20) (N := some 45) (v := ?_) (a' := ?_) #[true, true, true, true, true, true, true, true, true, true, true, true, true, true, true, true, true, true, true, true, true, false, false] rfl rfl (by kernel_rfl) (fun _ _ _ h => h) (Or.inl ⟨by rfl, ?_⟩) ?_ ?_
      rotate_left
      · intro w'
        go_simp
        with_reducible rfl
      rotate_left
      · simp only [Act.put, List.setIfInBounds_toArray, List.set_cons_zero, List.set_cons_succ, i64_w, i32_w]
        rfl
      refine pure_ (i := 21) (N := some 46) (v := ?_) (a' := ?_) #[true, true, true, true, true, true, true, true, true, true, true, true, true, true, true, true, true, true, true, true, true, true, false] rfl rfl (by kernel_rfl) (fun _ _ _ h => h) (Or.inl ⟨by rfl, ?_⟩) ?_ ?_
      rotate_left
      · intro w'
        go_simp
        with_reducible rfl
      rotate_left
      · simp only [Act.put, List.setIfInBounds_toArray, List.set_cons_zero, List.set_cons_succ, i64_w, i32_w]
        rfl
      refine last_ (i := 22) (N := none) #[true, true, true, true, true, true, true, true, true, true, true, true, true, true, true, true, true, true, true, true, true, true, true] rfl rfl (by kernel_rfl) (by decide) (fun K hK => ?_)
      refine skip_ (w1 := ?_) (by rfl) rfl ?_ ?_
      rotate_left
      · go_simp
        rfl
      refine hK.out _ _ ?_
      clear hK K
      refine norm_ (a' := ?_) ?_ ?_
      rotate_left
      · rfl
      refine done_ (by kernel_rfl) ?_
      go_wp2_with fail
      go_roundg (gk - 1)
      case measure => have := HK.out; have := HHI.out; omega
      case rel => exact ⟨i + 1, by first | rfl | (rw [hw2]; done) | (rw [hw2]; rfl), ⟨by have := HK.out; have := HHI.out; omega⟩, A7, c7, ⟨⟨(Below.heap_setCell _ _ _ _ (show w.heap.size ≠ w.heap.size + 1 by omega)).trans HT7.out.box, by have h := heap_set_same HT7.out.msg (j := 1) (.slice A7 lx.length c7); rw [HLX1.out] at h ⊢; exact h, below_setOld HT7.out.low (by omega) _ _⟩, by rw [HLXT.out]; have h := Kd.R_set HR7.out HT7.out.msg pIn_types 1 (.slice A7 lx.length c7); rw [HLX1.out] at h ⊢; exact h⟩⟩
    · have hi1 : ¬ (i : Int) < (ins.length : Int) := by omega
      have hii : i = ins.length := by have := HK.out; omega
      subst hii
      go_wp2_with fail
      have HTI := Aside0.mk HT0.out
      have HRI1 : Aside0 (Kd.R pIn 99 wr w.heap.size (fun _ => True) (.slice Am ins.length cm) ins) := ⟨by have h := HRI.out; rwa [List.take_length] at h⟩
      clear HRI HK hi1 kb1 kb2
      go_loopg [6] (outs.length + 1) (fun kq p6 w' => ∃ i : Nat, p6 = .int .i64 (i : Int) ∧ Aside0 (i ≤ outs.length ∧ outs.length + 1 ≤ i + kq) ∧ ∃ A2 c2, Aside0 (TxW w ins outs v lock Ai ci Ao co w' ins.length i Am cm A2 c2 ∧ Kd.R pIn 99 w' w.heap.size (fun _ => True) (.slice Am ins.length cm) ins ∧ Kd.R pOut 109 w' w.heap.size (fun _ => True) (.slice A2 i c2) (outs.take i)))
      case atStart => exact ⟨0, by rfl, ⟨by omega⟩, none, 0, ⟨HTI.out, HRI1.out, by rw [List.take_zero]; exact Kd.R_nil _ _ _ _ _⟩⟩
      case round =>
        clear HTI HRI1 HT0
        obtain ⟨i, rfl, HK, Ap, cp, HX⟩ := hrel
        have HT0 := Aside0.mk HX.out.1
        have HRI := Aside0.mk HX.out.2.1
        have HRO := Aside0.mk HX.out.2.2
        clear HX
        have kb2 := cell_of HT0.out.box (j := 2) rfl
        by_cases hlt : i < outs.length
        · have hi1 : (i : Int) < (outs.length : Int) := by omega
          obtain ⟨ad, A1, c1, e2, hx0, hx1, hl1, hg1⟩ := at_T41 HCO.out (i : Int) (by omega) hi1
          subst e2
          rw [rd_out i hlt] at hx0 hx1 hl1 hg1; rw [Int.toNat_natCast] at hx0 hx1
          have hw1 : wrap64 ((i : Int) + 1) = ((i + 1 : Nat) : Int) := by have := HF.out.n2; unfold wrap64; omega
          have hw2 : IntKind.i64.wrap ((i : Int) + 1) = ((i + 1 : Nat) : Int) := (i64_w _).trans hw1
          obtain ⟨y, hyy⟩ : ∃ y, outs[i] = y := ⟨_, rfl⟩
          have HFX := Aside0.mk (HF.out.o1 _ (List.getElem_mem hlt))
          have HTK : Aside0 (outs.take (i + 1) = outs.take i ++ [y]) := ⟨by rw [List.take_succ_eq_append_getElem hlt, hyy]⟩
          rw [hyy] at hx0 hx1 hl1 hg1 HFX
          have HHI := Aside0.mk hlt
          have HBK : Aside0 ((ad.add (i * 2)).block < w.heap.size) := ⟨World.block_lt_of_cell? w _ hx0⟩
          have hy0 := pw_cell_below HT0.out.low hx0
          have hy1 := pw_cell_below HT0.out.low hx1
          have HL1 := Aside0.mk hl1
          have HG0 := Aside0.mk hg1
          clear hx0 hx1 hl1 hg1 hlt hyy
          go_upto_region 10 with fail
          obtain ⟨sc, hsc⟩ : ∃ l, y.f1 = l := ⟨_, rfl⟩
          obtain ⟨vv, hvv⟩ : ∃ l, y.f0 = l := ⟨_, rfl⟩
          obtain ⟨lo, hlo⟩ : ∃ l, outs.take i = l := ⟨_, rfl⟩
          obtain ⟨lx, hlx⟩ : ∃ l, l = lo ++ [y] := ⟨_, rfl⟩
          rw [hvv] at hy0
          rw [hsc] at hy1
          have HS : Aside0 (wr.drew.cell? ⟨w.heap.size + 1, 2, none⟩ = some (.slice Ap i cp) ∧ wr.drew.cell? ⟨w.heap.size, 2, none⟩ = some (.slice (some ad) outs.length co) ∧ wr.drew.cell? (ad.add (i * 2)) = some (.int .i64 vv) ∧ wr.drew.cell? ⟨(ad.add (i * 2)).block, (ad.add (i * 2)).off + 1, none⟩ = some (.slice A1 sc.length c1)) := ⟨cell_of HT0.out.msg (j := 2) rfl, kb2, hy0, hy1⟩
          have HSC := Aside0.mk hsc
          have HVV := Aside0.mk hvv
          have HLX := Aside0.mk hlx
          have HLXT : Aside0 (outs.take (i + 1) = lx) := ⟨by rw [HTK.out, hlx, hlo]⟩
          have HLB : Aside0 ((lo.length + 1) * 8 ≤ 140737488355328) := ⟨by rw [← hlo, List.length_take]; have := HF.out.n2; omega⟩
          have HLX1 : Aside0 (lx.length = i + 1) := ⟨by rw [hlx, ← hlo]; have := HHI.out; simp; omega⟩
          have HT := Aside0.mk (HT0.out.below (below_drew (Below.refl _ _)))
          have HR : Aside0 (Kd.R pOut 109 wr.drew w.heap.size (fun _ => True) (.slice Ap i cp) lo) := ⟨by rw [← hlo]; exact Kd.R_below HRO.out (below_drew (Below.refl _ _))⟩
          have HI := Aside0.mk (Kd.R_below HRI.out (below_drew (Below.refl _ _)))
          have HG1 : Aside0 (Kd.C (Kd.int .u8) wr.drew A1 sc.length sc) := ⟨by rw [← hsc]; exact Kd.C_below HG0.out HT.out.low⟩
          have HCP : Aside0 (impl_copied.f sc = some sc) := ⟨copied_any sc (by rw [← hsc]; exact HFX.out)⟩
          have HL2 : Aside0 (sc.length ≤ c1) := ⟨by rw [← hsc]; exact HL1.out⟩
          have HRB : Aside0 (∀ k, (Value.slice Ap i cp).ownBlock = some k → k < wr.heap.size) := ⟨Kd.R_lt HRO.out⟩
          have HRW : Aside0 (∀ k, (Value.slice Ap i cp).ownBlock = some k → w.heap.size ≤ k) := ⟨Kd.R_base HRO.out⟩
          clear hsc hvv hlo hlx HTK HT0 HRO HRI HG0 HL1 hy0 hy1 kb2
          refine start_ (n := 25) (S := fun w' => w'.cell? ⟨w.heap.size + 1, 2, none⟩ = some (.slice Ap i cp) ∧ w'.cell? ⟨w.heap.size, 2, none⟩ = some (.slice (some ad) outs.length co) ∧ w'.cell? (ad.add (i * 2)) = some (.int .i64 vv) ∧ w'.cell? ⟨(ad.add (i * 2)).block, (ad.add (i * 2)).off + 1, none⟩ = some (.slice A1 sc.length c1)) (ds := [24]) #[false, false, false, false, false, false, false, false, false, false, false, false, false, false, false, false, false, false, false, false, false, false, false, false, false] (by kernel_rfl) rfl rfl HS.out (fun hHeld => ?_)
          refine pure_ (i := 0) (N := some 54) (v := ?_) (a' := ?_) #[true, false, false, false, false, false, false, false, false, false, false, false, false, false, false, false, false, false, false, false, false, false, false, false, false] rfl rfl (by kernel_rfl) (fun _ _ _ h => h) (Or.inl ⟨by rfl, ?_⟩) ?_ ?_
          rotate_left
          · intro w'
            go_simp
            with_reducible rfl
          rotate_left
          · simp only [Act.put, List.setIfInBounds_toArray, List.set_cons_zero, List.set_cons_succ, i64_w, i32_w]
            rfl
          refine pure_ (i := 1) (N := some 55) (v := ?_) (a' := ?_) #[true, true, false, false, false, false, false, false, false, false, false, false, false, false, false, false, false, false, false, false, false, false, false, false, false] rfl rfl (by kernel_rfl) (fun _ _ _ h => h) (Or.inl ⟨by rfl, ?_⟩) ?_ ?_
          rotate_left
          · intro w'
            go_simp
            with_reducible rfl
          rotate_left
          · simp only [Act.put, List.setIfInBounds_toArray, List.set_cons_zero, List.set_cons_succ, i64_w, i32_w]
            rfl
          refine pure_ (i := 2) (N := some 56) (v := ?_) (a' := ?_) #[true, true, true, false, false, false, false, false, false, false, false, false, false, false, false, false, false, false, false, false, false, false, false, false, false] rfl rfl (by kernel_rfl) (fun _ _ _ h => h) (Or.inl ⟨by rfl, ?_⟩) ?_ ?_
          rotate_left
          · intro w'
            go_simp
            with_reducible rfl
          rotate_left
          · simp only [Act.put, List.setIfInBounds_toArray, List.set_cons_zero, List.set_cons_succ, i64_w, i32_w]
            rfl
          refine pure_ (i := 3) (N := some 57) (v := ?_) (a' := ?_) #[true, true, true, true, false, false, false, false, false, false, false, false, false, false, false, false, false, false, false, false, false, false, false, false, false] rfl rfl (by kernel_rfl) (fun _ _ _ h => h) (Or.inl ⟨by rfl, ?_⟩) ?_ ?_
          rotate_left
          · intro w'
            go_simp
            with_reducible rfl
          rotate_left
          · simp only [Act.put, List.setIfInBounds_toArray, List.set_cons_zero, List.set_cons_succ, i64_w, i32_w]
            rfl
          refine take_ (i := 4) (N := some 58) (v := ?_) (a' := ?_) #[true, true, true, true, true, false, false, false, false, false, false, false, false, false, false, false, false, false, false, false, false, false, false, false, false] rfl rfl (by kernel_rfl) (fun _ _ _ h => h) (Or.inl ⟨by rfl, ?_⟩) hHeld ?_ ?_
          rotate_left
          · rintro w' ⟨s0, s1, s2, s3⟩
            go_simp
            with_reducible rfl
          rotate_left
          · simp only [Act.put, List.setIfInBounds_toArray, List.set_cons_zero, List.set_cons_succ, i64_w, i32_w]
            rfl
          refine pure_ (i := 5) (N := some 59) (v := ?_) (a' := ?_) #[true, true, true, true, true, true, false, false, false, false, false, false, false, false, false, false, false, false, false, false, false, false, false, false, false] rfl rfl (by kernel_rfl) (fun _ _ _ h => h) (Or.inl ⟨by rfl, ?_⟩) ?_ ?_
          rotate_left
          · intro w'
            go_simp
            with_reducible rfl
          rotate_left
          · simp only [Act.put, List.setIfInBounds_toArray, List.set_cons_zero, List.set_cons_succ, i64_w, i32_w]
            rfl
          refine take_ (i := 6) (N := some 60) (v := ?_) (a' := ?_) #[true, true, true, true, true, true, true, false, false, false, false, false, false, false, false, false, false, false, false, false, false, false, false, false, false] rfl rfl (by kernel_rfl) (fun _ _ _ h => h) (Or.inl ⟨by rfl, ?_⟩) hHeld ?_ ?_
          rotate_left
          · rintro w' ⟨s0, s1, s2, s3⟩
            go_simp
            with_reducible rfl
          rotate_left
          · simp only [Act.put, List.setIfInBounds_toArray, List.set_cons_zero, List.set_cons_succ, i64_w, i32_w]
            rfl
          refine pure_ (i := 7) (N := some 61) (v := ?_) (a' := ?_) #[true, true, true, true, true, true, true, true, false, false, false, false, false, false, false, false, false, false, false, false, false, false, false, false, false] rfl rfl (by kernel_rfl) (fun _ _ _ h => h) (Or.inl ⟨by rfl, ?_⟩) ?_ ?_
          rotate_left
          · intro w'
            go_simp
            with_reducible rfl
          rotate_left
          · simp only [Act.put, List.setIfInBounds_toArray, List.set_cons_zero, List.set_cons_succ, i64_w, i32_w]
            rfl
          refine pure_ (i := 8) (N := some 62) (v := ?_) (a' := ?_) #[true, true, true, true, true, true, true, true, true, false, false, false, false, false, false, false, false, false, false, false, false, false, false, false, false] rfl rfl (by kernel_rfl) (fun _ _ _ h => h) (Or.inl ⟨by rfl, ?_⟩) ?_ ?_
          rotate_left
          · intro w'
            go_simp
            with_reducible rfl
          rotate_left
          · simp only [Act.put, List.setIfInBounds_toArray, List.set_cons_zero, List.set_cons_succ, i64_w, i32_w]
            rfl
          refine pure_ (i := 9) (N := some 63) (v := ?_) (a' := ?_) #[true, true, true, true, true, true, true, true, true, true, false, false, false, false, false, false, false, false, false, false, false, false, false, false, false] rfl rfl (by kernel_rfl) (fun _ _ _ h => h) (Or.inl ⟨by rfl, ?_⟩) ?_ ?_
          rotate_left
          · intro w'
            go_simp
            with_reducible rfl
          rotate_left
          · simp only [Act.put, List.setIfInBounds_toArray, List.set_cons_zero, List.set_cons_succ, i64_w, i32_w]
            rfl
          refine take_ (i := 10) (N := some 64) (v := ?_) (a' := ?_) #[true, true, true, true, true, true, true, true, true, true, true, false, false, false, false, false, false, false, false, false, false, false, false, false, false] rfl rfl (by kernel_rfl) (fun _ _ _ h => h) (Or.inl ⟨by rfl, ?_⟩) hHeld ?_ ?_
          rotate_left
          · rintro w' ⟨s0, s1, s2, s3⟩
            go_simp
            with_reducible rfl
          rotate_left
          · simp only [Act.put, List.setIfInBounds_toArray, List.set_cons_zero, List.set_cons_succ, i64_w, i32_w]
            rfl
          refine pure_ (i := 11) (N := some 65) (v := ?_) (a' := ?_) #[true, true, true, true, true, true, true, true, true, true, true, true, false, false, false, false, false, false, false, false, false, false, false, false, false] rfl rfl (by kernel_rfl) (fun _ _ _ h => h) (Or.inl ⟨by rfl, ?_⟩) ?_ ?_
          rotate_left
          · intro w'
            go_simp
            with_reducible rfl
          rotate_left
          · simp only [Act.put, List.setIfInBounds_toArray, List.set_cons_zero, List.set_cons_succ, i64_w, i32_w]
            rfl
          refine take_ (i := 12) (N := some 66) (v := ?_) (a' := ?_) #[true, true, true, true, true, true, true, true, true, true, true, true, true, false, false, false, false, false, false, false, false, false, false, false, false] rfl rfl (by kernel_rfl) (fun _ _ _ h => h) (Or.inl ⟨by rfl, ?_⟩) hHeld ?_ ?_
          rotate_left
          · rintro w' ⟨s0, s1, s2, s3⟩
            go_simp
            with_reducible rfl
          rotate_left
          · simp only [Act.put, List.setIfInBounds_toArray, List.set_cons_zero, List.set_cons_succ, i64_w, i32_w]
            rfl
          refine pure_ (i := 13) (N := some 67) (v := ?_) (a' := ?_) #[true, true, true, true, true, true, true, true, true, true, true, true, true, true, false, false, false, false, false, false, false, false, false, false, false] rfl rfl (by kernel_rfl) (fun _ _ _ h => h) (Or.inl ⟨by rfl, ?_⟩) ?_ ?_
          rotate_left
          · intro w'
            go_simp
            with_reducible rfl
          rotate_left
          · simp only [Act.put, List.setIfInBounds_toArray, List.set_cons_zero, List.set_cons_succ, i64_w, i32_w]
            rfl
          refine pure_ (i := 14) (N := some 68) (v := ?_) (a' := ?_) #[true, true, true, true, true, true, true, true, true, true, true, true, true, true, true, false, false, false, false, false, false, false, false, false, false] rfl rfl (by kernel_rfl) (fun _ _ _ h => h) (Or.inl ⟨by rfl, ?_⟩) ?_ ?_
          rotate_left
          · intro w'
            go_simp
            with_reducible rfl
          rotate_left
          · simp only [Act.put, List.setIfInBounds_toArray, List.set_cons_zero, List.set_cons_succ, i64_w, i32_w]
            rfl
          refine pure_ (i := 15) (N := some 69) (v := ?_) (a' := ?_) #[true, true, true, true, true, true, true, true, true, true, true, true, true, true, true, true, false, false, false, false, false, false, false, false, false] rfl rfl (by kernel_rfl) (fun _ _ _ h => h) (Or.inl ⟨by rfl, ?_⟩) ?_ ?_
          rotate_left
          · intro w'
            go_simp
            with_reducible rfl
          rotate_left
          · simp only [Act.put, List.setIfInBounds_toArray, List.set_cons_zero, List.set_cons_succ, i64_w, i32_w]
            rfl
          refine take_ (i := 16) (N := some 70) (v := ?_) (a' := ?_) #[true, true, true, true, true, true, true, true, true, true, true, true, true, true, true, true, true, false, false, false, false, false, false, false, false] rfl rfl (by kernel_rfl) (fun _ _ _ h => h) (Or.inl ⟨by rfl, ?_⟩) hHeld ?_ ?_
          rotate_left
          · rintro w' ⟨s0, s1, s2, s3⟩
            go_simp
            with_reducible rfl
          rotate_left
          · simp only [Act.put, List.setIfInBounds_toArray, List.set_cons_zero, List.set_cons_succ, i64_w, i32_w]
            rfl
          refine one_ (i := 17) (N := some 71) #[true, true, true, true, true, true, true, true, true, true, true, true, true, true, true, true, true, true, false, false, false, false, false, false, false] rfl rfl (by kernel_rfl) (by decide) (fun K hK => ?_)
          refine goes_ Try.func47 (by kernel_rfl) rfl #[.slice A1 sc.length c1] (by rfl) rfl rfl (by (try simp only [List.map_toArray, List.map_cons, List.map_nil]); first | done | rfl | (simp only [List.length_drop, List.length_take]; rfl)) ?_
          with_reducible refine (impl_copied.calls A1 c1 sc sc _ HG1.out HL2.out HCP.out).mono ?_
          rintro e w3 ⟨v5, rfl, hr, hb⟩
          refine ⟨_, rfl, ?_⟩
          have HT3 := Aside0.mk (HT.out.below hb)
          have HR3 := Aside0.mk (Kd.R_below HR.out hb)
          have HI3 := Aside0.mk (Kd.R_below HI.out hb)
          have HZ3 := Aside0.mk hb.size
          have HV5 := Aside0.mk (Kd.R_bound hr)
          have hB3 := Aside0.mk hb
          (obtain ⟨A5, c5, e5⟩ := Kd.R_slice hr)
          subst e5
          clear hb hr
          refine hK.out _ _ ⟨pw_cell_below hB3.out hHeld.1, pw_cell_below hB3.out hHeld.2.1, pw_cell_below hB3.out hHeld.2.2.1, pw_cell_below hB3.out hHeld.2.2.2⟩ (fun hHeld => ?_)
          clear hK K
          refine norm_ (a' := ?_) ?_ ?_
          rotate_left
          · show Act.put _ (some 71) _ = _
            simp only [Act.put, List.setIfInBounds_toArray, List.set_cons_zero, List.set_cons_succ, i64_w, i32_w]
            rfl
          refine pure_ (i := 18) (N := some 72) (v := ?_) (a' := ?_) #[true, true, true, true, true, true, true, true, true, true, true, true, true, true, true, true, true, true, true, false, false, false, false, false, false] rfl rfl (by kernel_rfl) (fun _ _ _ h => h) (Or.inl ⟨by rfl, ?_⟩) ?_ ?_
          rotate_left
          · intro w'
            go_simp
            with_reducible rfl
          rotate_left
          · simp only [Act.put, List.setIfInBounds_toArray, List.set_cons_zero, List.set_cons_succ, i64_w, i32_w]
            rfl
          refine one_ (i := 19) (N := some 73) #[true, true, true, true, true, true, true, true, true, true, true, true, true, true, true, true, true, true, true, true, false, false, false, false, false] rfl rfl (by kernel_rfl) (by decide) (fun K hK => ?_)
          refine event_step (v := .pointer (some ⟨w3.heap.size, 0, none⟩)) (w1 := w3.alloc (.cells #[Value.int .i64 vv, Value.slice A5 sc.length c5] 111)) (by rfl) ?hr19 ?_
          case hr19 => first | (go_simp; done) | (go_simp; rfl)
          have hB4 := Aside0.mk (below_alloc (Below.refl w3.heap.size w3) (.cells #[Value.int .i64 vv, Value.slice A5 sc.length c5] 111))
          have HG4 := Aside0.mk (heap_alloc_new w3 (.cells #[Value.int .i64 vv, Value.slice A5 sc.length c5] 111))
          refine hK.out _ _ ⟨pw_cell_below hB4.out hHeld.1, pw_cell_below hB4.out hHeld.2.1, pw_cell_below hB4.out hHeld.2.2.1, pw_cell_below hB4.out hHeld.2.2.2⟩ (fun hHeld => ?_)
          clear hK K
          refine norm_ (a' := ?_) ?_ ?_
          rotate_left
          · show Act.put _ (some 73) _ = _
            simp only [Act.put, List.setIfInBounds_toArray, List.set_cons_zero, List.set_cons_succ, i64_w, i32_w]
            rfl
          refine one_ (i := 20) (N := some 74) #[true, true, true, true, true, true, true, true, true, true, true, true, true, true, true, true, true, true, true, true, true, false, false, false, false] rfl rfl (by kernel_rfl) (by decide) (fun K hK => ?_)
          have hHeld6 := hHeld
          obtain ⟨w4, hw4⟩ : ∃ w4, w3.alloc (.cells #[Value.int .i64 vv, Value.slice A5 sc.length c5] 111) = w4 := ⟨_, rfl⟩
          rw [hw4] at hB4 HG4 hHeld hHeld6 ⊢
          have HT4 := Aside0.mk (HT3.out.below hB4.out)
          have HR4 := Aside0.mk (Kd.R_below HR3.out hB4.out)
          have HI4 := Aside0.mk (Kd.R_below HI3.out hB4.out)
          have h5a := Kd.R_lower (Kd.R_below HV5.out hB4.out) HT.out.low.size
          have h5b : Kd.R (Kd.int .u8) 5 w4 w.heap.size (fun k => wr.heap.size ≤ k ∧ k ≠ w3.heap.size) (.slice A5 sc.length c5) sc := Kd.R_mono h5a (fun k hk => ⟨hk.2.1, fun e => by have h1 := hk.2.2.1; omega⟩)
          have HM4 : Aside0 (pOut.M w4 w.heap.size (fun k => wr.heap.size ≤ k) y [.pointer (some ⟨w3.heap.size, 0, none⟩)]) := ⟨made_out (v5 := .slice A5 sc.length c5) (by rw [HVV.out]; exact HG4.out) (fun k => wr.heap.size ≤ k) (show wr.heap.size ≤ w3.heap.size from HZ3.out) HT3.out.low.size (by rw [HSC.out]; exact h5b)⟩
          clear h5a h5b hw4
          refine event_step (v := .slice (some ⟨w4.heap.size, 0, none⟩) 1 1) (w1 := w4.alloc (.cells #[.pointer (some ⟨w3.heap.size, 0, none⟩)] 109)) (by rfl) ?hr20 ?_
          case hr20 => first | (go_simp; done) | (go_simp; exact ⟨rfl, rfl⟩) | (go_simp; rfl)
          have hB5 := Aside0.mk (below_alloc (Below.refl w4.heap.size w4) (.cells #[.pointer (some ⟨w3.heap.size, 0, none⟩)] 109))
          refine hK.out _ _ ⟨pw_cell_below hB5.out hHeld.1, pw_cell_below hB5.out hHeld.2.1, pw_cell_below hB5.out hHeld.2.2.1, pw_cell_below hB5.out hHeld.2.2.2⟩ (fun hHeld => ?_)
          clear hK K
          refine norm_ (a' := ?_) ?_ ?_
          rotate_left
          · show Act.put _ (some 74) _ = _
            simp only [Act.put, List.setIfInBounds_toArray, List.set_cons_zero, List.set_cons_succ, i64_w, i32_w]
            rfl
          refine one_ (i := 21) (N := some 75) #[true, true, true, true, true, true, true, true, true, true, true, true, true, true, true, true, true, true, true, true, true, true, false, false, false] rfl rfl (by kernel_rfl) (by decide) (fun K hK => ?_)
          refine Kd.R_append_step pOut (w0 := w) w.heap.size (by rfl) (.tmp 58) (.tmp 74) 96 109 (.pointer none) 8 rfl Try.underlying96 infoPO rfl (by decide) (by decide) (.slice Ap i cp) lo y [.pointer (some ⟨w3.heap.size, 0, none⟩)] (fun _ => True) (fun k => wr.heap.size ≤ k) rfl rfl HM4.out (fun k hk => ⟨trivial, fun e => by have h1 := HRB.out k e.symm; omega⟩) (fun _ _ => trivial) HR4.out HT4.out.low HT4.out.low.size ?aL ?_
          case aL => have := HLB.out; omega
          intro v7 w7 ho hb hg hat
          rw [← HLX.out] at ho
          (obtain ⟨A7, c7, e7⟩ := Kd.R_slice ho)
          subst e7
          have HT7 := Aside0.mk (HT4.out.grown hg hb (Kd.R_ne HR4.out HT4.out.box (by decide)) (Kd.R_ne HR4.out HT4.out.msg (by decide)))
          have HR7 := Aside0.mk ho
          have HI7 := Aside0.mk (Kd.R_over HI4.out HR4.out (by decide) hg)
          have hf7 := frozen_of HT7.out.msg 2
          have hS7 : ∀ (a : Addr) u, some a.block ≠ (Value.slice Ap i cp).ownBlock → w4.cell? a = some u → w7.cell? a = some u := fun a u hne hu => World.cell?_of_block (hg.block _ (World.block_lt_of_cell? w4 _ hu) hne) |>.trans hu
          have hne0 : some w.heap.size ≠ (Value.slice Ap i cp).ownBlock := Kd.R_ne HR4.out HT4.out.box (by decide)
          have hne1 : some (w.heap.size + 1) ≠ (Value.slice Ap i cp).ownBlock := Kd.R_ne HR4.out HT4.out.msg (by decide)
          have hne2 : some (ad.add (i * 2)).block ≠ (Value.slice Ap i cp).ownBlock := fun e => by have h1 := HRW.out _ e.symm; have h2 := HBK.out; omega
          clear ho hb hg hat
          refine hK.out _ _ ⟨hS7 _ _ hne1 hHeld6.1, hS7 _ _ hne0 hHeld6.2.1, hS7 _ _ hne2 hHeld6.2.2.1, hS7 _ _ hne2 hHeld6.2.2.2⟩ (fun hHeld => ?_)
          clear hK K
          refine norm_ (a' := ?_) ?_ ?_
          rotate_left
          · show Act.put _ (some 75) _ = _
            simp only [Act.put, List.setIfInBounds_toArray, List.set_cons_zero, List.set_cons_succ, i64_w, i32_w]
            rfl
          refine pure_ (i := 22) (N := some 76) (v := ?_) (a' := ?_) #[true, true, true, true, true, true, true, true, true, true, true, true, true, true, true, true, true, true, true, true, true, true, true, false, false] rfl rfl (by kernel_rfl) (fun _ _ _ h => h) (Or.inl ⟨by rfl, ?_⟩) ?_ ?_
          rotate_left
          · intro w'
            go_simp
            with_reducible rfl
          rotate_left
          · simp only [Act.put, List.setIfInBounds_toArray, List.set_cons_zero, List.set_cons_succ, i64_w, i32_w]
            rfl
          refine pure_ (i := 23) (N := some 77) (v := ?_) (a' := ?_) #[true, true, true, true, true, true, true, true, true, true, true, true, true, true, true, true, true, true, true, true, true, true, true, true, false] rfl rfl (by kernel_rfl) (fun _ _ _ h => h) (Or.inl ⟨by rfl, ?_⟩) ?_ ?_
          rotate_left
          · intro w'
            go_simp
            with_reducible rfl
          rotate_left
          · simp only [Act.put, List.setIfInBounds_toArray, List.set_cons_zero, List.set_cons_succ, i64_w, i32_w]
            rfl
          refine last_ (i := 24) (N := none) #[true, true, true, true, true, true, true, true, true, true, true, true, true, true, true, true, true, true, true, true, true, true, true, true, true] rfl rfl (by kernel_rfl) (by decide) (fun K hK => ?_)
          refine skip_ (w1 := ?_) (by rfl) rfl ?_ ?_
          rotate_left
          · go_simp
            rfl
          refine hK.out _ _ ?_
          clear hK K
          refine norm_ (a' := ?_) ?_ ?_
          rotate_left
          · rfl
          refine done_ (by kernel_rfl) ?_
          go_wp2_with fail
          go_roundg (gk - 1)
          case measure => have := HK.out; have := HHI.out; omega
          case rel => exact ⟨i + 1, by first | rfl | (rw [hw2]; done) | (rw [hw2]; rfl), ⟨by have := HK.out; have := HHI.out; omega⟩, A7, c7, ⟨⟨(Below.heap_setCell _ _ _ _ (show w.heap.size ≠ w.heap.size + 1 by omega)).trans HT7.out.box, by have h := heap_set_same HT7.out.msg (j := 2) (.slice A7 lx.length c7); rw [HLX1.out] at h ⊢; exact h, below_setOld HT7.out.low (by omega) _ _⟩, Kd.R_set HI7.out HT7.out.msg pIn_types 2 _, by rw [HLXT.out]; have h := Kd.R_set HR7.out HT7.out.msg pOut_types 2 (.slice A7 lx.length c7); rw [HLX1.out] at h ⊢; exact h⟩⟩
        · have hi1 : ¬ (i : Int) < (outs.length : Int) := by omega
          have hii : i = outs.length := by have := HK.out; omega
          subst hii
          have HRO1 : Aside0 (Kd.R pOut 109 wr w.heap.size (fun _ => True) (.slice Ap outs.length cp) outs) := ⟨by have h := HRO.out; rwa [List.take_length] at h⟩
          go_wp2_with fail
          obtain ⟨_, l1, g1⟩ := Kd.R_reads' HRI.out
          obtain ⟨_, l2, g2⟩ := Kd.R_reads' HRO1.out
          go_ret
          exact ⟨_, rfl, ⟨_, _, _, _, ⟨HT0.out.msg, l1, l2, g1, g2⟩⟩, by omega, HT0.out.low⟩
end Go.Proofs.Ytdheoajaaofmbaa.QFnScriptPlaces
