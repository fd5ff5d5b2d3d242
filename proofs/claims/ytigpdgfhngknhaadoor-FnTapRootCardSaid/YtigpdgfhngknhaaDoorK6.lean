/- FnTapRoot: the root to which a proof leads from a leaf is that of the reference, for every version, script and proof; where bytes.ErrTooLarge reads as the program's text lays it (the card ties it). -/
import Derived.SizedLaws
import Derived.ShapedOpen
import Derived.ProofKit
import Derived.LaidLaws
import Derived.Test.YtigpdgfhngknhaaDoorRows
import Derived.Test.YtigpdgfhngknhaaDoorTie
import Derived.Test.YtigpdgfhngknhaaDoorCards
import Derived.LaidMore
import Derived.LaidHandle
import Derived.SevenTiedAt
import Derived.WalkKit
import Derived.OpenShut
import Derived.ShutString
import Derived.ChangeOld
import Derived.Below
import Derived.Test.YtigpdgfhngknhaaDoorWSized
import Derived.Test.YtigpdgfhngknhaaDoorK0
import Derived.Test.YtigpdgfhngknhaaDoorK5
/- The root, as the law says it. -/
namespace Go.Proofs.YtigpdgfhngknhaaDoor.Snk
open Go.RowKit Go.Proofs.YtigpdgfhngknhaaDoorW.PrintWords Go.Proofs.YtigpdgfhngknhaaDoorW.PrintLast Go.Proofs.YtigpdgfhngknhaaDoorW.PrintMore Go.Proofs.YtigpdgfhngknhaaDoor.QFnTapRoot
set_option linter.unusedVariables false
set_option linter.unusedSimpArgs false
theorem cells_row {w : World} {g o : Nat} {cs : List Value} {T : TypeId} {r : List Value} (hb : w.heap[g]? = some (.cells (r).toArray T (0, 0))) (hc : ∀ j, j < cs.length → r[o + j]? = cs[j]?) : ∀ j v, cs[j]? = some v → w.cell? ((⟨g, o, none⟩ : Addr).add j) = some v := fun j v hv => by
  have e : (⟨g, o, none⟩ : Addr).add j = ⟨g, o + j, none⟩ := by
    unfold Addr.add
    by_cases h0 : j = 0
    · subst h0; simp
    · simp [h0]
  rw [e]
  exact cell_of hb (by rw [List.getElem?_toArray, hc j (List.getElem?_eq_some_iff.1 hv).1]; exact hv)
theorem cells_reads {w : World} {ad : Addr} {m j : Nat} {pr : List Int} (h : ReadsInt w .u8 (some ad) m pr) (hj : j + 32 ≤ m) : ∀ t v, (byteC ((pr.drop j).take 32))[t]? = some v → w.cell? ((ad.add j).add t) = some v := by
  intro t v hv
  obtain ⟨hl, _, hcell⟩ := h
  obtain ⟨ad2, hA, hc⟩ := hcell (by omega)
  obtain rfl := Option.some.inj hA
  have ht : t < ((pr.drop j).take 32).length := by
    have := (List.getElem?_eq_some_iff.1 hv).1
    rwa [byteC_len] at this
  have ht2 : t < 32 := by rw [List.length_take] at ht; omega
  rw [byteC_at ht] at hv
  rw [← hv, add_two, hc (j + t) (by omega), List.getD_eq_getElem?_getD, List.getD_eq_getElem?_getD, List.getElem?_take_of_lt ht2, List.getElem?_drop]
theorem arrP (p : Addr) (c : Nat) (w : World) : (Instr.arrayAt 22 (.slice (some p) 32 c)).run Tryd.prog w = .ok (.pointer (some p)) w := by kernel_rfl
set_option maxRecDepth 100000 in
set_option maxHeartbeats 8000000 in
theorem rootSpecC (ver : Int) (A Ap : Option Addr) (n c cp k : Nat) (p pr kl : List Int) (w : World) (hr : ReadsInt w .u8 A n p) (hc : n ≤ c) (hn : n ≤ 100000000) (hrp : ReadsInt w .u8 Ap (32 * k) pr) (hcp : 32 * k ≤ cp) (hk : k ≤ 1000000) (hkr : Sha.KRow w kl) :
    Calls Tryd.prog 12 #[shaF, .int .u8 ver, .slice A n c, .slice Ap (32 * k) cp] w fun e w' => e = .returned (.agg (byteC (climb kl pr (Sha.tagL kl tLeaf ([ver] ++ (viB n ++ p))) k)).toArray) ∧ Below w.heap.size w w' := by
  have HLF := Aside0.mk (fun w1 (h : Below w.heap.size w w1) => leafSpecC ver A n c p kl w1 (hr.below h) hc hn (hkr.below h))
  have hl1 := Sha.tagL_len kl tLeaf ([ver] ++ (viB n ++ p))
  obtain ⟨h1, hh1⟩ : ∃ x, Sha.tagL kl tLeaf ([ver] ++ (viB n ++ p)) = x := ⟨_, rfl⟩
  rw [hh1] at HLF hl1 ⊢
  have HBS : Aside0 (∀ i (w1 : World), Below w.heap.size w w1 → i < k → Calls Tryd.prog 25 #[shaF, .agg (byteC (climb kl pr h1 i)).toArray, .agg (byteC ((pr.drop (32 * i)).take 32)).toArray] w1 fun e w' => e = .returned (.agg (byteC (climb kl pr h1 (i + 1))).toArray) ∧ Below w1.heap.size w1 w') := ⟨fun i w1 h hi => branchSpecC _ _ kl w1 (climb_len kl pr h1 hl1 i) (by rw [List.length_take, List.length_drop, hrp.1]; omega) (hkr.below h)⟩
  obtain ⟨m, hm⟩ : ∃ m, 32 * k = m := ⟨_, rfl⟩
  have HM := Aside0.mk hm
  rw [hm] at hrp hcp ⊢
  have HRP := Aside0.mk hrp
  have HCP := Aside0.mk hcp
  have HKK := Aside0.mk hk
  have HL1 := Aside0.mk hl1
  clear hr hc hn hrp hcp hk hkr hl1 hh1 hm
  unfold shaF at *
  go_enter Tryd.func12, Tryd.ntmps12
  go_upto_region 1 with fail
  obtain ⟨r0, hr0⟩ : ∃ r, w.heap.size = r := ⟨_, rfl⟩
  have HR0 := Aside0.mk hr0
  rw [hr0]
  generalize hw1 : World.alloc _ _ = w1
  have HB1 : Aside0 (Below w.heap.size w w1) := ⟨by rw [← hw1]; exact below_alloc (Below.refl _ _) _⟩
  have HR1 : Aside0 (w1.heap[r0]? = some (.cells (byteC (List.replicate 32 0)).toArray 22 (0, 0))) := ⟨by rw [← hw1, ← HR0.out]; exact Sha.row_alloc w _⟩
  clear hw1 hr0
  go_upto_region 2 with (first
    | (go_at_call 24; (with_reducible refine (HLF.out w1 HB1.out).mono ?_); rintro e w2 ⟨rfl, k1⟩; have HB2 := Aside0.mk k1; clear k1)
    | (refine wpList_store_row rfl 22 (.tmp 9) (.tmp 14) rfl w2.heap.size (byteC h1).toArray rfl rfl 22 _ (Sha.row_alloc w2 _) (Sha.row32_info _ HL1.out) (Sha.row_size _ HL1.out) (Sha.byteC_one _) ?_))
  obtain ⟨r, hr⟩ : ∃ g, w2.heap.size = g := ⟨_, rfl⟩
  have HR := Aside0.mk hr
  rw [hr]
  generalize hw3 : World.setRow _ _ _ = w3
  have HBa := Aside0.mk (Sha.below_tr HB1.out HB2.out)
  have HBq : Aside0 (Below w2.heap.size w2 w3) := ⟨by rw [← hw3, ← hr]; exact Sha.below_setRow _ (below_alloc (Below.refl _ _) _) (Nat.le_refl _)⟩
  have HG3 : Aside0 (w3.heap[r]? = some (.cells (byteC h1).toArray 22 (0, 0))) := ⟨by rw [← hw3, ← hr]; exact setRow_heap _ _ _ _ _ _ (Sha.row_alloc w2 _)⟩
  have HZ2 := Aside0.mk ((HB2.out.block _ (blk_lt' HR1.out)).trans HR1.out)
  have HZ3 := Aside0.mk ((HBq.out.block _ (blk_lt' HZ2.out)).trans HZ2.out)
  have HB3 := Aside0.mk (Sha.below_tr HBa.out HBq.out)
  have HRR : Aside0 (w.heap.size ≤ r ∧ r0 < r) := ⟨by have h1 := blk_lt' HZ2.out; rw [← hr]; exact ⟨HBa.out.size, h1⟩⟩
  clear hr hw3
  go_upto_region 3 with fail
  go_loopw [10] (fun v10 wr => ∃ i : Nat, i ≤ k ∧ v10 = .int .i64 ((32 * i : Nat) : Int) ∧ Aside0 (wr.heap[r]? = some (.cells (byteC (climb kl pr h1 i)).toArray 22 (0, 0))) ∧ Aside0 (wr.heap[r0]? = some (.cells (byteC (List.replicate 32 0)).toArray 22 (0, 0))) ∧ Aside0 (Below w.heap.size w wr)) (fun v10 _ => 32 * k + 32 - (intOf v10).toNat)
  case atStart => exact ⟨0, Nat.zero_le _, rfl, HG3, HZ3, HB3⟩
  case round =>
    clear HG3 HZ3 HB3 HBa HB2 HB1 HBq HZ2 HR1 HLF
    obtain ⟨i, hi, rfl, HGi, HZi, HBi⟩ := hrel
    have HI := Aside0.mk hi
    by_cases hlt : i < k
    · obtain ⟨j, hj⟩ : ∃ j, 32 * i = j := ⟨_, rfl⟩
      have HLT := Aside0.mk hlt
      have hjm : j + 32 ≤ m := by have := HM.out; omega
      have HJM := Aside0.mk hjm
      have HCL := Aside0.mk (climb_len kl pr h1 HL1.out i)
      have HCL2 := Aside0.mk (climb_len kl pr h1 HL1.out (i + 1))
      have HPL : Aside0 (((pr.drop j).take 32).length = 32) := ⟨by rw [List.length_take, List.length_drop, HRP.out.1]; omega⟩
      have HBR := Aside0.mk (HBS.out i wr.drew (below_drew HBi.out) hlt)
      have HJ := Aside0.mk hj
      rw [hj] at HBR ⊢
      obtain ⟨ad, hAd, _⟩ := HRP.out.2.2 (by omega)
      subst hAd
      have HRPd : Aside0 (ReadsInt wr.drew .u8 (some ad) m pr) := ⟨HRP.out.below (below_drew HBi.out)⟩
      have HGd : Aside0 (wr.drew.heap[r]? = some (.cells (byteC (climb kl pr h1 i)).toArray 22 (0, 0))) := ⟨HGi.out⟩
      have HZd : Aside0 (wr.drew.heap[r0]? = some (.cells (byteC (List.replicate 32 0)).toArray 22 (0, 0))) := ⟨HZi.out⟩
      have HDR : Aside0 (Below wr.heap.size wr wr.drew) := ⟨below_drew (Below.refl _ _)⟩
      have hcp := HCP.out
      have hjm2 : (j : Int) + 32 ≤ (m : Int) := by omega
      have hjc : (j : Int) + 32 ≤ (cp : Int) := by omega
      have hmk : (m : Int) ≤ 32000000 := by have := HM.out; have := HKK.out; omega
      have hw : wrap64 ((j : Int) + 32) = (j : Int) + 32 := by unfold wrap64; omega
      have hj0 : (0 : Int) ≤ (j : Int) := by omega
      have hcj : ¬ cp = j := by omega
      have h32 : ((j : Int) + 32).toNat - j = 32 := by omega
      have hjj : (j : Int) ≤ (j : Int) + 32 := by omega
      have harr := arrP (ad.add j) (cp - j)
      clear hlt hj hi hjm
      go_upto_region 5 with fail
      refine start_ (n := 11) (S := fun w' => w'.heap[r]? = some (.cells (byteC (climb kl pr h1 i)).toArray 22 (0, 0)) ∧ ReadsInt w' .u8 (some ad) m pr) (ds := [10]) #[false, false, false, false, false, false, false, false, false, false, false] (by kernel_rfl) rfl rfl ⟨HGd.out, HRPd.out⟩ (fun hHeld => ?_)
      refine pure_ (i := 0) (N := some 22) (v := ?_) (a' := ?_) #[true, false, false, false, false, false, false, false, false, false, false] rfl rfl (by kernel_rfl) (fun _ _ _ h => h) (Or.inl ⟨by rfl, ?_⟩) ?_ ?_
      rotate_left
      · intro w'
        go_simp
        with_reducible rfl
      rotate_left
      · simp only [Act.put, List.setIfInBounds_toArray, List.set_cons_zero, List.set_cons_succ, i64_w, i32_w]
        rfl
      refine take_ (i := 1) (N := some 23) (v := ?_) (a' := ?_) #[true, true, false, false, false, false, false, false, false, false, false] rfl rfl (by kernel_rfl) (fun _ _ _ h => h) (Or.inl ⟨by rfl, ?_⟩) hHeld ?_ ?_
      rotate_left
      · rintro w' ⟨s0, s1⟩
        refine run_load_at 22 (.tmp 9) ?_ ⟨r, 0, none⟩ ?_ (byteC (climb kl pr h1 i)) _ (cells_row (o := 0) s0 (fun j hj => by rw [Nat.zero_add])) Tryd.underlying22 rfl (by rw [byteC_len, HCL.out]; exact (by kernel_rfl : (Tryd.prog.info? 22).map (·.size) = some 32))
        · rfl
        · rfl
      rotate_left
      · simp only [Act.put, List.setIfInBounds_toArray, List.set_cons_zero, List.set_cons_succ, i64_w, i32_w]
        rfl
      refine pure_ (i := 2) (N := some 24) (v := ?_) (a' := ?_) #[true, true, true, false, false, false, false, false, false, false, false] rfl rfl (by kernel_rfl) (fun _ _ _ h => h) (Or.inl ⟨by rfl, ?_⟩) ?_ ?_
      rotate_left
      · intro w'
        go_simp
        with_reducible rfl
      rotate_left
      · simp only [Act.put, List.setIfInBounds_toArray, List.set_cons_zero, List.set_cons_succ, i64_w, i32_w]
        rfl
      refine pure_ (i := 3) (N := some 25) (v := ?_) (a' := ?_) #[true, true, true, true, false, false, false, false, false, false, false] rfl rfl (by kernel_rfl) (fun _ _ _ h => h) (Or.inl ⟨by rfl, ?_⟩) ?_ ?_
      rotate_left
      · intro w'
        go_simp
        with_reducible rfl
      rotate_left
      · simp only [Act.put, List.setIfInBounds_toArray, List.set_cons_zero, List.set_cons_succ, i64_w, i32_w]
        rfl
      refine pure_ (i := 4) (N := some 26) (v := ?_) (a' := ?_) #[true, true, true, true, true, false, false, false, false, false, false] rfl rfl (by kernel_rfl) (fun _ _ _ h => h) (Or.inl ⟨by rfl, ?_⟩) ?_ ?_
      rotate_left
      · intro w'
        go_simp
        with_reducible rfl
      rotate_left
      · simp only [Act.put, List.setIfInBounds_toArray, List.set_cons_zero, List.set_cons_succ, i64_w, i32_w]
        rfl
      refine pure_ (i := 5) (N := some 27) (v := ?_) (a' := ?_) #[true, true, true, true, true, true, false, false, false, false, false] rfl rfl (by kernel_rfl) (fun _ _ _ h => h) (Or.inl ⟨by rfl, ?_⟩) ?_ ?_
      rotate_left
      · intro w'
        go_simp
        with_reducible rfl
      rotate_left
      · simp only [Act.put, List.setIfInBounds_toArray, List.set_cons_zero, List.set_cons_succ, i64_w, i32_w]
        rfl
      refine pure_ (i := 6) (N := some 28) (v := ?_) (a' := ?_) #[true, true, true, true, true, true, true, false, false, false, false] rfl rfl (by kernel_rfl) (fun _ _ _ h => h) (Or.inl ⟨by rfl, ?_⟩) ?_ ?_
      rotate_left
      · intro w'
        go_simp
        with_reducible rfl
      rotate_left
      · simp only [Act.put, List.setIfInBounds_toArray, List.set_cons_zero, List.set_cons_succ, i64_w, i32_w]
        rfl
      refine pure_ (i := 7) (N := some 29) (v := ?_) (a' := ?_) #[true, true, true, true, true, true, true, true, false, false, false] rfl rfl (by kernel_rfl) (fun _ _ _ h => h) (Or.inl ⟨by rfl, ?_⟩) ?_ ?_
      rotate_left
      · intro w'
        go_simp
        with_reducible rfl
      rotate_left
      · simp only [Act.put, List.setIfInBounds_toArray, List.set_cons_zero, List.set_cons_succ, i64_w, i32_w]
        rfl
      refine take_ (i := 8) (N := some 30) (v := ?_) (a' := ?_) #[true, true, true, true, true, true, true, true, true, false, false] rfl rfl (by kernel_rfl) (fun _ _ _ h => h) (Or.inl ⟨by rfl, ?_⟩) hHeld ?_ ?_
      rotate_left
      · rintro w' ⟨s0, s1⟩
        refine run_load_at 22 (.tmp 29) ?_ (ad.add j) ?_ (byteC ((pr.drop j).take 32)) _ (cells_reads s1 (by have := HJM.out; omega)) Tryd.underlying22 rfl (by rw [byteC_len, HPL.out]; exact (by kernel_rfl : (Tryd.prog.info? 22).map (·.size) = some 32))
        · rfl
        · rfl
      rotate_left
      · simp only [Act.put, List.setIfInBounds_toArray, List.set_cons_zero, List.set_cons_succ, i64_w, i32_w]
        rfl
      refine one_ (i := 9) (N := some 31) #[true, true, true, true, true, true, true, true, true, true, false] rfl rfl (by kernel_rfl) (by decide) (fun K hK => ?_)
      refine goes_ Tryd.func25 (by kernel_rfl) rfl #[.func (.func 13) #[] #[], .agg (byteC (climb kl pr h1 i)).toArray, .agg (byteC ((pr.drop j).take 32)).toArray] (by rfl) rfl rfl (by (try simp only [List.map_toArray, List.map_cons, List.map_nil]); first | done | rfl | (simp only [List.length_drop, List.length_take]; rfl)) ?_
      with_reducible refine (HBR.out).mono ?_
      rintro e w6 ⟨rfl, k1⟩
      refine ⟨_, rfl, ?_⟩
      have HB6 := Aside0.mk (Sha.below_tr HBi.out (Sha.below_tr HDR.out k1))
      have HG6 := Aside0.mk ((k1.block _ (blk_lt' HGd.out)).trans HGd.out)
      have HZ6 := Aside0.mk ((k1.block _ (blk_lt' HZd.out)).trans HZd.out)
      have HR6 := Aside0.mk (HRPd.out.below k1)
      clear k1
      refine hK.out _ _ ⟨HG6.out, HR6.out⟩ (fun hHeld => ?_)
      clear hK K
      refine norm_ (a' := ?_) ?_ ?_
      rotate_left
      · show Act.put _ (some 31) _ = _
        simp only [Act.put, List.setIfInBounds_toArray, List.set_cons_zero, List.set_cons_succ, i64_w, i32_w]
        rfl
      refine last_ (i := 10) (N := none) #[true, true, true, true, true, true, true, true, true, true, true] rfl rfl (by kernel_rfl) (by decide) (fun K hK => ?_)
      rw [if_pos (show Region.wanted _ _ = true by rfl)]
      refine wp_store_row 22 (.tmp 9) (.tmp 31) rfl r (byteC (climb kl pr h1 (i + 1))).toArray rfl rfl 22 _ HG6.out (Sha.row32_info _ HCL2.out) (by simp only [List.size_toArray, byteC_len, HCL.out, HCL2.out]) (Sha.byteC_one _) ?_
      refine hK.out _ _ ?_
      clear hK K
      refine norm_ (a' := ?_) ?_ ?_
      rotate_left
      · rfl
      refine done_ (by kernel_rfl) ?_
      go_wp2_with fail
      go_roundw
      case rel => exact ⟨i + 1, by have := HLT.out; omega, by have := HJ.out; go_num, ⟨setRow_heap _ _ _ _ _ _ HG6.out⟩, ⟨(setRow_other _ r r0 _ (by have := HRR.out; omega)).trans HZ6.out⟩, ⟨Sha.below_setRow _ HB6.out (by have := HRR.out; omega)⟩⟩
      case measure => simp [intOf]; have := HLT.out; have := HJ.out; omega
    · obtain rfl : i = k := by omega
      have hki := HKK.out
      have HCL := Aside0.mk (climb_len kl pr h1 HL1.out i)
      obtain ⟨j, hj⟩ : ∃ j, 32 * i = j := ⟨_, rfl⟩
      have hjm : j = m := by have := HM.out; omega
      subst hjm
      have hw : wrap64 ((j : Int) + 32) = (j : Int) + 32 := by unfold wrap64; omega
      have hge : ¬ (j : Int) + 32 ≤ (j : Int) := by omega
      rw [hj]
      go_wp2_with (first
        | ((with_reducible refine at_dst (N := 32) rfl ?_); refine wpList_load_row rfl 22 (.tmp 9) rfl r rfl 22 _ (0, 0) _ HGi.out Tryd.underlying22 rfl (Sha.row32_info _ HCL.out) ?_)
        | (refine wpList_store_row rfl 22 (.tmp 8) (.tmp 32) rfl r0 (byteC (climb kl pr h1 i)).toArray rfl rfl 22 _ HZi.out (Sha.row32_info _ HCL.out) (Sha.row_size _ HCL.out) (Sha.byteC_one _) ?_))
      refine bodyPost_ret_by (results_cell_row rfl _ _ r0 22 _ (0, 0) _ (by rfl) (setRow_heap _ _ _ _ _ _ HZi.out) Tryd.underlying22 rfl (Sha.row32_info _ HCL.out)) rfl ⟨rfl, Sha.below_setRow _ HBi.out (by have := HR0.out; omega)⟩
end Go.Proofs.YtigpdgfhngknhaaDoor.Snk
/- The law FnTapRoot: its walk. -/
namespace Go.Proofs.YtigpdgfhngknhaaDoor.Snk
open Go.RowKit Go.Proofs.YtigpdgfhngknhaaDoorW.PrintWords Go.Proofs.YtigpdgfhngknhaaDoorW.PrintLast Go.Proofs.YtigpdgfhngknhaaDoorW.PrintMore Go.Proofs.YtigpdgfhngknhaaDoor.QFnTapRoot
set_option linter.unusedVariables false
set_option linter.unusedSimpArgs false
theorem ev_same (l : List Int) (hl : l.length ≤ 1000000) : Ev (fun k => laws_same.f k l l) true := by
  have w64 : ∀ x : Int, 0 ≤ x → x ≤ 9223372036854775807 → wrap64 x = x := fun x h0 h1 => by unfold wrap64; omega
  have key : ∀ d (i : Nat), i + d = l.length → Ev (fun k => laws_same.l0 k l l i) true := by
    intro d
    induction d with
    | zero =>
      intro i hi
      refine Ev.step (fun k => ?_) (Ev.now _)
      rw [laws_same.l0, if_neg (by omega)]
    | succ d ih =>
      intro i hi
      refine Ev.step (fun k => ?_) (ih (i + 1) (by omega))
      rw [laws_same.l0, if_pos (by omega), if_pos (by omega), if_pos (by omega), if_pos rfl, w64 _ (by omega) (by omega)]
      rfl
  refine Ev.congr (fun k => ?_) (key l.length 0 (by omega))
  unfold laws_same.f
  rw [if_pos rfl]; rfl
set_option maxRecDepth 100000 in
theorem early_p0 (ver : Int) (A Ap : Option Addr) (c cp : Nat) (p pr : List Int) (w : World) (h : 2147483647 < p.length) : Calls Tryd.prog 4 #[.int .u8 ver, .slice A p.length c, .slice Ap pr.length cp] w fun e w' => e = .returned (.bool true) ∧ Below w.heap.size w w' := by
  have b1_2147483647 : (2147483647 : Int) < (p.length : Int) := by omega
  go_enter Tryd.func4, Tryd.ntmps4
  go_wp2
  go_ret
  exact ⟨rfl, Below.refl _ _⟩
set_option maxRecDepth 100000 in
theorem early_q0 (ver : Int) (A Ap : Option Addr) (c cp : Nat) (p pr : List Int) (w : World) (h1 : p.length ≤ 2147483647) (h : 2147483647 < pr.length) : Calls Tryd.prog 4 #[.int .u8 ver, .slice A p.length c, .slice Ap pr.length cp] w fun e w' => e = .returned (.bool true) ∧ Below w.heap.size w w' := by
  have b1_2147483647 : ¬ (2147483647 : Int) < (p.length : Int) := by omega
  have d1_2147483647 : decide ((2147483647 : Int) < (p.length : Int)) = false := decide_eq_false b1_2147483647
  have n1_2147483647 : ¬ 2147483647 < p.length := by omega
  have b2_2147483647 : (2147483647 : Int) < (pr.length : Int) := by omega
  go_enter Tryd.func4, Tryd.ntmps4
  go_wp2
  go_ret
  exact ⟨rfl, Below.refl _ _⟩
set_option maxRecDepth 100000 in
theorem early_p1 (ver : Int) (A Ap : Option Addr) (c cp : Nat) (p pr : List Int) (w : World) (h1 : p.length ≤ 2147483647) (h2 : pr.length ≤ 2147483647) (h : 100000 < p.length) : Calls Tryd.prog 4 #[.int .u8 ver, .slice A p.length c, .slice Ap pr.length cp] w fun e w' => e = .returned (.bool true) ∧ Below w.heap.size w w' := by
  have b1_2147483647 : ¬ (2147483647 : Int) < (p.length : Int) := by omega
  have d1_2147483647 : decide ((2147483647 : Int) < (p.length : Int)) = false := decide_eq_false b1_2147483647
  have n1_2147483647 : ¬ 2147483647 < p.length := by omega
  have b2_2147483647 : ¬ (2147483647 : Int) < (pr.length : Int) := by omega
  have d2_2147483647 : decide ((2147483647 : Int) < (pr.length : Int)) = false := decide_eq_false b2_2147483647
  have n2_2147483647 : ¬ 2147483647 < pr.length := by omega
  have b1_100000 : (100000 : Int) < (p.length : Int) := by omega
  go_enter Tryd.func4, Tryd.ntmps4
  go_wp2
  go_ret
  exact ⟨rfl, Below.refl _ _⟩
set_option maxRecDepth 100000 in
theorem early_q1 (ver : Int) (A Ap : Option Addr) (c cp : Nat) (p pr : List Int) (w : World) (h1 : p.length ≤ 100000) (h2 : pr.length ≤ 2147483647) (h : 4096 < pr.length) : Calls Tryd.prog 4 #[.int .u8 ver, .slice A p.length c, .slice Ap pr.length cp] w fun e w' => e = .returned (.bool true) ∧ Below w.heap.size w w' := by
  have b1_2147483647 : ¬ (2147483647 : Int) < (p.length : Int) := by omega
  have d1_2147483647 : decide ((2147483647 : Int) < (p.length : Int)) = false := decide_eq_false b1_2147483647
  have n1_2147483647 : ¬ 2147483647 < p.length := by omega
  have b2_2147483647 : ¬ (2147483647 : Int) < (pr.length : Int) := by omega
  have d2_2147483647 : decide ((2147483647 : Int) < (pr.length : Int)) = false := decide_eq_false b2_2147483647
  have n2_2147483647 : ¬ 2147483647 < pr.length := by omega
  have b1_100000 : ¬ (100000 : Int) < (p.length : Int) := by omega
  have d1_100000 : decide ((100000 : Int) < (p.length : Int)) = false := decide_eq_false b1_100000
  have n1_100000 : ¬ 100000 < p.length := by omega
  have b2_4096 : (4096 : Int) < (pr.length : Int) := by omega
  go_enter Tryd.func4, Tryd.ntmps4
  go_wp2
  go_ret
  exact ⟨rfl, Below.refl _ _⟩
set_option maxRecDepth 100000 in
theorem early_r1 (ver : Int) (A Ap : Option Addr) (c cp : Nat) (p pr : List Int) (w : World) (h1 : p.length ≤ 100000) (h2 : pr.length ≤ 4096) (h : pr.length % 32 ≠ 0) : Calls Tryd.prog 4 #[.int .u8 ver, .slice A p.length c, .slice Ap pr.length cp] w fun e w' => e = .returned (.bool true) ∧ Below w.heap.size w w' := by
  have b1_2147483647 : ¬ (2147483647 : Int) < (p.length : Int) := by omega
  have d1_2147483647 : decide ((2147483647 : Int) < (p.length : Int)) = false := decide_eq_false b1_2147483647
  have n1_2147483647 : ¬ 2147483647 < p.length := by omega
  have b2_2147483647 : ¬ (2147483647 : Int) < (pr.length : Int) := by omega
  have d2_2147483647 : decide ((2147483647 : Int) < (pr.length : Int)) = false := decide_eq_false b2_2147483647
  have n2_2147483647 : ¬ 2147483647 < pr.length := by omega
  have b1_100000 : ¬ (100000 : Int) < (p.length : Int) := by omega
  have d1_100000 : decide ((100000 : Int) < (p.length : Int)) = false := decide_eq_false b1_100000
  have n1_100000 : ¬ 100000 < p.length := by omega
  have b2_4096 : ¬ (4096 : Int) < (pr.length : Int) := by omega
  have d2_4096 : decide ((4096 : Int) < (pr.length : Int)) = false := decide_eq_false b2_4096
  have n2_4096 : ¬ 4096 < pr.length := by omega
  have hrem : wrap64 ((pr.length : Int) % 32) = ((pr.length % 32 : Nat) : Int) := by unfold wrap64; omega
  have hr0 : ¬ ((pr.length : Int) % 32 = 0) := by omega
  go_enter Tryd.func4, Tryd.ntmps4
  go_wp2
  go_ret
  exact ⟨rfl, Below.refl _ _⟩
set_option maxRecDepth 100000 in
set_option maxHeartbeats 4000000 in
theorem mainTap (ver : Int) (A Ap : Option Addr) (c cp : Nat) (p pr : List Int) (w : World) (k : Nat) (kl : List Int) (h1 : p.length ≤ 100000) (h2 : pr.length ≤ 4096) (h3 : 32 * k = pr.length) (hkr : Sha.KRow w kl) (hr : ReadsInt w .u8 A p.length p) (hc : p.length ≤ c) (hrp : ReadsInt w .u8 Ap pr.length pr) (hcp : pr.length ≤ cp) : Calls Tryd.prog 4 #[.int .u8 ver, .slice A p.length c, .slice Ap pr.length cp] w fun e w' => e = .returned (.bool true) ∧ Below w.heap.size w w' := by
  have hs0 := rootSpecC ver A Ap p.length c cp k p pr kl w hr hc (by omega) (by rw [h3]; exact hrp) (by rw [h3]; exact hcp) (by omega) hkr
  rw [h3] at hs0
  unfold shaF at hs0
  have HIR : Aside0 (∀ w1, Below w.heap.size w w1 → Calls Tryd.prog 14 #[.int .u8 ver, .slice A p.length c, .slice Ap pr.length cp] w1 fun e w' => ∃ v0, e = .returned v0 ∧ Kd.R (Kd.int .u8) 5 w' w1.heap.size (fun _ => True) v0 (climb kl pr (Sha.tagL kl tLeaf ([ver] ++ (viB p.length ++ p))) k) ∧ Below w1.heap.size w1 w') := ⟨fun w1 h => by
    have hs1 := implRootC ver A Ap p.length c cp k p pr kl w1 (hr.below h) hc (by omega) (by rw [h3]; exact hrp.below h) (by rw [h3]; exact hcp) (by omega) (hkr.below h)
    rw [h3] at hs1
    exact hs1⟩
  have hl := climb_len kl pr (Sha.tagL kl tLeaf ([ver] ++ (viB p.length ++ p))) (Sha.tagL_len _ _ _) k
  obtain ⟨hh, hhh⟩ : ∃ x, climb kl pr (Sha.tagL kl tLeaf ([ver] ++ (viB p.length ++ p))) k = x := ⟨_, rfl⟩
  rw [hhh] at hs0 HIR hl
  have HSR := Aside0.mk hs0
  have HL := Aside0.mk hl
  have HSM : Aside0 (∀ (w1 : World) (B : Nat) v0 r, Kd.R (Kd.int .u8) 5 w1 B (fun _ => True) v0 hh → w1.heap[r]? = some (.cells (byteC hh).toArray 22 (0, 0)) → Calls Tryd.prog 7 #[v0, .slice (some ⟨r, 0, none⟩) 32 32] w1 fun e w' => e = .returned (.bool true) ∧ Below w1.heap.size w1 w') := ⟨fun w1 B v0 r hv hrow => by
    obtain ⟨A1, c1, rfl, hc1, hC1⟩ := Kd.R_reads hv
    obtain ⟨ks, hks⟩ := (ev_same hh (by omega)).rounds
    have h := laws_same.calls ks A1 c1 hh (some ⟨r, 0, none⟩) 32 hh true w1 hC1 hc1 (by have h5 := rdC (Sha.reads_row hrow hl (by decide)); rw [hl]; exact h5) (by omega) hks
    rw [show (Value.slice (some ⟨r, 0, none⟩) hh.length 32) = Value.slice (some ⟨r, 0, none⟩) 32 32 by rw [hl]] at h
    exact h.mono fun e w' ⟨h6, h7⟩ => by
      obtain ⟨nd, rfl⟩ := h7
      exact ⟨h6, pw_below_drewN (Below.refl _ _) nd⟩⟩
  have b1_2147483647 : ¬ (2147483647 : Int) < (p.length : Int) := by omega
  have d1_2147483647 : decide ((2147483647 : Int) < (p.length : Int)) = false := decide_eq_false b1_2147483647
  have n1_2147483647 : ¬ 2147483647 < p.length := by omega
  have b2_2147483647 : ¬ (2147483647 : Int) < (pr.length : Int) := by omega
  have d2_2147483647 : decide ((2147483647 : Int) < (pr.length : Int)) = false := decide_eq_false b2_2147483647
  have n2_2147483647 : ¬ 2147483647 < pr.length := by omega
  have b1_100000 : ¬ (100000 : Int) < (p.length : Int) := by omega
  have d1_100000 : decide ((100000 : Int) < (p.length : Int)) = false := decide_eq_false b1_100000
  have n1_100000 : ¬ 100000 < p.length := by omega
  have b2_4096 : ¬ (4096 : Int) < (pr.length : Int) := by omega
  have d2_4096 : decide ((4096 : Int) < (pr.length : Int)) = false := decide_eq_false b2_4096
  have n2_4096 : ¬ 4096 < pr.length := by omega
  have hrem : wrap64 ((pr.length : Int) % 32) = ((pr.length % 32 : Nat) : Int) := by unfold wrap64; omega
  have hr0 : (pr.length : Int) % 32 = 0 := by omega
  clear hr hc hrp hcp hkr hl hs0 hhh h1 h2 h3
  go_enter Tryd.func4, Tryd.ntmps4
  go_upto_region 6 with (first
    | (go_at_call 12; (with_reducible refine HSR.out.mono ?_); rintro e w2 ⟨rfl, k1⟩; have HB2 := Aside0.mk k1; clear k1)
    | (refine wpList_store_row rfl 22 (.tmp 7) (.tmp 33) rfl w2.heap.size (byteC hh).toArray rfl rfl 22 _ (Sha.row_alloc w2 _) (Sha.row32_info _ HL.out) (Sha.row_size _ HL.out) (Sha.byteC_one _) ?_))
  obtain ⟨r, hr⟩ : ∃ g, w2.heap.size = g := ⟨_, rfl⟩
  have HR := Aside0.mk hr
  rw [hr]
  generalize hw3 : World.setRow _ _ _ = w3
  have HB3 : Aside0 (Below w.heap.size w w3) := ⟨Sha.below_tr HB2.out (by rw [← hw3, ← hr]; exact Sha.below_setRow _ (below_alloc (Below.refl _ _) _) (Nat.le_refl _))⟩
  have HG3 : Aside0 (w3.heap[r]? = some (.cells (byteC hh).toArray 22 (0, 0))) := ⟨by rw [← hw3, ← hr]; exact setRow_heap _ _ _ _ _ _ (Sha.row_alloc w2 _)⟩
  clear hr hw3
  have hsl := Sha.slice_32 r
  refine start_ (n := 7) (S := fun w' => True) (ds := []) #[false, false, false, false, false, false, false] (by kernel_rfl) rfl rfl trivial (fun hHeld => ?_)
  generalize hu0 : World.drew w3 = u0
  have U0 : Aside0 (Below w.heap.size w u0) := ⟨by rw [← hu0]; exact below_drew HB3.out⟩
  have G0 : Aside0 (u0.heap[r]? = some (.cells (byteC hh).toArray 22 (0, 0))) := ⟨by rw [← hu0]; exact HG3.out⟩
  clear hu0
  refine pure_ (i := 0) (N := some 34) (v := ?_) (a' := ?_) #[true, false, false, false, false, false, false] rfl rfl (by kernel_rfl) (fun _ _ _ h => h) (Or.inl ⟨by rfl, ?_⟩) ?_ ?_
  rotate_left
  · intro w'
    go_simp
    with_reducible rfl
  rotate_left
  · simp only [Act.put, List.setIfInBounds_toArray, List.set_cons_zero, List.set_cons_succ, i64_w, i32_w]
    rfl
  refine pure_ (i := 1) (N := some 35) (v := ?_) (a' := ?_) #[true, true, false, false, false, false, false] rfl rfl (by kernel_rfl) (fun _ _ _ h => h) (Or.inl ⟨by rfl, ?_⟩) ?_ ?_
  rotate_left
  · intro w'
    go_simp
    with_reducible rfl
  rotate_left
  · simp only [Act.put, List.setIfInBounds_toArray, List.set_cons_zero, List.set_cons_succ, i64_w, i32_w]
    rfl
  refine pure_ (i := 2) (N := some 36) (v := ?_) (a' := ?_) #[true, true, true, false, false, false, false] rfl rfl (by kernel_rfl) (fun _ _ _ h => h) (Or.inl ⟨by rfl, ?_⟩) ?_ ?_
  rotate_left
  · intro w'
    go_simp
    with_reducible rfl
  rotate_left
  · simp only [Act.put, List.setIfInBounds_toArray, List.set_cons_zero, List.set_cons_succ, i64_w, i32_w]
    rfl
  refine pure_ (i := 4) (N := some 38) (v := ?_) (a' := ?_) #[true, true, true, false, true, false, false] rfl rfl (by kernel_rfl) (fun _ _ _ h => h) (Or.inl ⟨by rfl, ?_⟩) ?_ ?_
  rotate_left
  · intro w'
    go_simp
    with_reducible rfl
  rotate_left
  · simp only [Act.put, List.setIfInBounds_toArray, List.set_cons_zero, List.set_cons_succ, i64_w, i32_w]
    rfl
  refine one_ (i := 3) (N := some 37) #[true, true, true, true, true, false, false] rfl rfl (by kernel_rfl) (by decide) (fun K hK => ?_)
  refine goes_ Tryd.func14 (by kernel_rfl) rfl #[.int .u8 ver, .slice A p.length c, .slice Ap pr.length cp] (by rfl) rfl rfl (by (try simp only [List.map_toArray, List.map_cons, List.map_nil]); first | done | rfl | (simp only [List.length_drop, List.length_take]; rfl)) ?_
  with_reducible refine (HIR.out u0 U0.out).mono ?_
  rintro e u4 ⟨v0, rfl, k0, k1⟩
  refine ⟨_, rfl, ?_⟩
  have HV4 := Aside0.mk k0
  have HG4 := Aside0.mk ((k1.block _ (blk_lt' G0.out)).trans G0.out)
  have HB4 := Aside0.mk (Sha.below_tr U0.out k1)
  clear k0 k1
  refine hK.out _ _ trivial (fun hHeld => ?_)
  clear hK K
  refine norm_ (a' := ?_) ?_ ?_
  rotate_left
  · show Act.put _ (some 37) _ = _
    simp only [Act.put, List.setIfInBounds_toArray, List.set_cons_zero, List.set_cons_succ, i64_w, i32_w]
    rfl
  refine one_ (i := 5) (N := some 39) #[true, true, true, true, true, true, false] rfl rfl (by kernel_rfl) (by decide) (fun K hK => ?_)
  refine goes_ Tryd.func7 (by kernel_rfl) rfl #[v0, .slice (some ⟨r, 0, none⟩) 32 32] (by rfl) rfl rfl (by (try simp only [List.map_toArray, List.map_cons, List.map_nil]); first | done | rfl | (simp only [List.length_drop, List.length_take]; rfl)) ?_
  with_reducible refine (HSM.out u4 _ v0 r HV4.out HG4.out).mono ?_
  rintro e u5 ⟨rfl, k1⟩
  refine ⟨_, rfl, ?_⟩
  have HB5 := Aside0.mk (Sha.below_tr HB4.out k1)
  clear k1
  refine hK.out _ _ trivial (fun hHeld => ?_)
  clear hK K
  refine norm_ (a' := ?_) ?_ ?_
  rotate_left
  · show Act.put _ (some 39) _ = _
    simp only [Act.put, List.setIfInBounds_toArray, List.set_cons_zero, List.set_cons_succ, i64_w, i32_w]
    rfl
  refine pure_ (i := 6) (N := some 6) (v := ?_) (a' := ?_) #[true, true, true, true, true, true, true] rfl rfl (by kernel_rfl) (fun _ _ _ h => h) (Or.inl ⟨by rfl, ?_⟩) ?_ ?_
  rotate_left
  · intro w'
    go_simp
    with_reducible rfl
  rotate_left
  · simp only [Act.put, List.setIfInBounds_toArray, List.set_cons_zero, List.set_cons_succ, i64_w, i32_w]
    rfl
  refine done_ (by kernel_rfl) ?_
  go_wp2_with fail
  go_ret
  exact ⟨rfl, HB5.out⟩
theorem walkTapRoot (ver : Int) (A Ap : Option Addr) (c cp : Nat) (p pr : List Int) (w : World) (hk : ∃ kl, Sha.KRow w kl) (hr : ReadsInt w .u8 A p.length p) (hc : p.length ≤ c) (hrp : ReadsInt w .u8 Ap pr.length pr) (hcp : pr.length ≤ cp) : Calls Tryd.prog 4 #[.int .u8 ver, .slice A p.length c, .slice Ap pr.length cp] w fun e w' => e = .returned (.bool true) ∧ Below w.heap.size w w' := by
  obtain ⟨kl, hkr⟩ := hk
  by_cases c0 : 2147483647 < p.length
  · exact early_p0 ver A Ap c cp p pr w c0
  by_cases c1 : 2147483647 < pr.length
  · exact early_q0 ver A Ap c cp p pr w (by omega) c1
  by_cases c2 : 100000 < p.length
  · exact early_p1 ver A Ap c cp p pr w (by omega) (by omega) c2
  by_cases c3 : 4096 < pr.length
  · exact early_q1 ver A Ap c cp p pr w (by omega) (by omega) c3
  by_cases c4 : pr.length % 32 ≠ 0
  · exact early_r1 ver A Ap c cp p pr w (by omega) (by omega) c4
  exact mainTap ver A Ap c cp p pr w (pr.length / 32) kl (by omega) (by omega) (by omega) hkr hr hc hrp hcp
end Go.Proofs.YtigpdgfhngknhaaDoor.Snk
/- A row whose walk asks the shape of a package's variable; sha256's table has 64 words. -/
namespace Go.Proofs.YtigpdgfhngknhaaDoor.Sha
open Go.RowKit Go.Proofs.YtigpdgfhngknhaaDoorW.PrintWords Go.Proofs.YtigpdgfhngknhaaDoorW.PrintLast
set_option linter.unusedVariables false
set_option linter.unusedSimpArgs false
section
variable {H : Type} {enc : TypeId × Value → H}
theorem returnsInHanded_shaped {a : Assume} {C : Checked} {os : Os} {f : FuncId} {fn : Func} {s : ChangeSpec} {conds : List PathCond} {apart fresh handsOn again : Bool}
    (own : ownKnob C.prog.godebug = none) (started : os.Started) (noInit : C.prog.inits.idxOf? f = none) (hfn : C.prog.funcs[f]? = some fn)
    (witness : ∃ (w : World) (tape : Tape) (i : Input), w.os = os ∧ (w.forCall tape i).Shaped C.prog ∧ i.vars = [] ∧ Input.okWide C.prog (w.forCall tape i) .any w.heap.size f i ∧
      s.pre6 enc C.prog fn conds apart (w.forCall tape i).memory i.args ∧ a.holds C.prog (lone (Frame.enter C.prog f i.args .normal) [] (w.forCall tape i)))
    (contract : ∀ (W : World) (base : Nat) (args : Array Value) (ds gs : List (DataW H)) (before : List MemPlace),
      (∀ (j : Nat) t v, fn.params[j]? = some t → args[j]? = some v → Value.okWide C.prog W .any base t v) →
      DataW.Whole enc C.prog fn.params.toList s.vars apart W args.toList ds gs before →
      conds.all (PathCond.test C.prog ⟨fn.params.toList, ds, s.plain.varTypes C.prog, gs⟩) = true →
      (DataW.weightsEach C.prog (fn.params.toList ++ s.plain.varTypes C.prog) (ds ++ gs)).all (· ≤ reachBytes) = true →
      a.holds C.prog (lone (Frame.enter C.prog f args .normal) [] W) → W.ShapedOpen C.prog →
      Calls C.prog f args W fun e W' => ∃ v, e = .returned v ∧ s.post enc C.prog fn apart fresh handsOn again W args v W') :
    ReturnsInHanded a C os f .any (s.pre6 enc C.prog fn conds apart) (s.post enc C.prog fn apart fresh handsOn again) := by
  refine returnsInHanded_of_calls own started noInit witness ?_
  intro w tape i _ hsh _ hok hpre hholds
  obtain ⟨_, _, _, fn', hfn', _, _, _, _, hval⟩ := hok
  have e : fn' = fn := Option.some.inj (hfn'.symm.trans hfn)
  subst e
  obtain ⟨⟨ds, gs, before, hw, hc⟩, hz⟩ := hpre
  have hw' := DataW.Whole.of_heap (w' := w.forCall tape i) (by rfl) hw
  refine (contract (w.forCall tape i) w.heap.size i.args ds gs before hval hw' hc (hz.weights hw) hholds hsh).mono fun e W' ⟨v, he, hp⟩ => ?_
  subst he
  exact ChangeSpec.post_blind hp
end
def intV : Value → Int
  | .int _ n => n
  | _ => 0
set_option maxRecDepth 100000 in
theorem krow_of {w : World} (h : w.ShapedOpen Tryd.prog) : ∃ kl, KRow w kl := by
  obtain ⟨cs, hh, hs, hr⟩ := h.1 6 (List.replicate 64 (Value.int .u32 0)).toArray 158 (of_decide_eq_true (by kernel_rfl)) (by kernel_rfl)
  obtain ⟨ts, hts, hlen, hall⟩ := hr (by kernel_rfl)
  rw [show Tryd.prog.cellTypes Tryd.prog.depth 158 = some (List.replicate 64 23) by kernel_rfl] at hts
  cases hts
  have hsz : cs.size = 64 := hs
  have key : ∀ j, j < 64 → ∃ n, cs[j]? = some (.int .u32 n) := by
    intro j hj
    obtain ⟨u, hu, hok⟩ := hall j cs[j] (by simp [hsz, hj])
    rw [List.length_replicate, Nat.mod_eq_of_lt hj, List.getElem?_replicate, if_pos hj] at hu
    cases hu
    have hv : cs[j]? = some cs[j] := by simp [hsz, hj]
    unfold Cell.ok at hok
    rw [Tryd.underlying23] at hok
    cases hx : cs[j] <;> rw [hx] at hok hv <;> simp at hok
    obtain ⟨rfl, _⟩ := hok
    exact ⟨_, hv⟩
  refine ⟨(List.range 64).map fun j => intV (cs.getD j undef), fun j hj => ?_⟩
  obtain ⟨n, hn⟩ := key j hj
  have e : ((List.range 64).map fun j => intV (cs.getD j undef)).getD j 0 = n := by
    rw [List.getD_eq_getElem?_getD, List.getElem?_map, List.getElem?_range hj]
    simp [hn, intV]
  rw [e]
  exact cell_of hh hn
end Go.Proofs.YtigpdgfhngknhaaDoor.Sha
/- A tied row whose walk asks the shape of a package's variable. -/
namespace Go.Proofs.YtigpdgfhngknhaaDoor.Sha
open Go.RowKit
theorem returnsInHanded_shaped_and {H : Type} {enc : TypeId × Value → H} {a : Assume} {C : Checked} {os : Os} {f : FuncId} {fn : Func} {s : ChangeSpec} {conds : List PathCond} {apart fresh handsOn again : Bool} {X : World → Array Value → Prop}
    (hX : ∀ (w w' : World) (args : Array Value), w.heap = w'.heap → X w args → X w' args)
    (own : ownKnob C.prog.godebug = none) (started : os.Started) (noInit : C.prog.inits.idxOf? f = none) (hfn : C.prog.funcs[f]? = some fn)
    (witness : ∃ (w : World) (tape : Tape) (i : Input), w.os = os ∧ (w.forCall tape i).Shaped C.prog ∧ i.vars = [] ∧ Input.okWide C.prog (w.forCall tape i) .any w.heap.size f i ∧
      ((s.pre enc C.prog fn conds apart (w.forCall tape i).memory i.args ∧ X (w.forCall tape i).memory i.args) ∧ sizedMet enc C.prog fn (OpenSpec.ofChange s) apart (w.forCall tape i).memory i.args) ∧ a.holds C.prog (lone (Frame.enter C.prog f i.args .normal) [] (w.forCall tape i)))
    (contract : ∀ (W : World) (base : Nat) (args : Array Value) (ds gs : List (DataW H)) (before : List MemPlace),
      (∀ (j : Nat) t v, fn.params[j]? = some t → args[j]? = some v → Value.okWide C.prog W .any base t v) →
      DataW.Whole enc C.prog fn.params.toList s.vars apart W args.toList ds gs before →
      conds.all (PathCond.test C.prog ⟨fn.params.toList, ds, s.plain.varTypes C.prog, gs⟩) = true →
      (DataW.weightsEach C.prog (fn.params.toList ++ s.plain.varTypes C.prog) (ds ++ gs)).all (· ≤ reachBytes) = true → X W args →
      a.holds C.prog (lone (Frame.enter C.prog f args .normal) [] W) → W.ShapedOpen C.prog →
      Calls C.prog f args W fun e W' => ∃ v, e = .returned v ∧ s.post enc C.prog fn apart fresh handsOn again W args v W') :
    ReturnsInHanded a C os f .any (fun w args => (s.pre enc C.prog fn conds apart w args ∧ X w args) ∧ sizedMet enc C.prog fn (OpenSpec.ofChange s) apart w args) (s.post enc C.prog fn apart fresh handsOn again) := by
  refine returnsInHanded_of_calls own started noInit witness ?_
  intro w tape i _ hsh _ hok hpre hholds
  obtain ⟨_, _, _, fn', hfn', _, _, _, _, hval⟩ := hok
  have e : fn' = fn := Option.some.inj (hfn'.symm.trans hfn)
  subst e
  obtain ⟨⟨⟨ds, gs, before, hw, hc⟩, hx⟩, hz⟩ := hpre
  have hw' := DataW.Whole.of_heap (w' := w.forCall tape i) (by rfl) hw
  refine (contract (w.forCall tape i) w.heap.size i.args ds gs before hval hw' hc (hz.weights hw) (hX _ _ _ (by rfl) hx) hholds hsh).mono fun e W' ⟨v, he, hp⟩ => ?_
  subst he
  exact ChangeSpec.post_blind hp
end Go.Proofs.YtigpdgfhngknhaaDoor.Sha
/- FnTapRoot: the root to which a proof leads from a leaf is that of the reference, for every version, script and proof; where bytes.ErrTooLarge reads as the program's text lays it (the card ties it). -/
namespace Go.Proofs.YtigpdgfhngknhaaDoor.fnTapRoot
open Go.ChangeShapes Go.WideShapes Go.ChangeAt Go.RowKit Go.Proofs.YtigpdgfhngknhaaDoorW.PrintWords Go.Proofs.YtigpdgfhngknhaaDoorW.PrintLast Go.Proofs.YtigpdgfhngknhaaDoor.Snk Go.Proofs.YtigpdgfhngknhaaDoor
open Go.ChangeMaps (open_string shut_string)
set_option linter.unusedVariables false
theorem own : ownKnob Tryd.prog.godebug = none := by kernel_rfl
theorem laidOut : laidOutB Tryd.prog = true := by kernel_rfl
def IsRow (k : IntKind) (w : World) (a : Option Addr) (len cap : Nat) (zs : List Int) : Prop :=
  (a = none ∧ len = 0 ∧ cap = 0 ∧ zs = []) ∨
  ∃ x, a = some x ∧ len ≤ cap ∧ cap ≤ maxLen ∧ zs.length = cap ∧ (∀ i, i < zs.length → w.cell? (x.add i) = some (.int k (zs.getD i 0))) ∧ ∀ n ∈ zs, (Lit.int k n).wf = true
/-- The door's own heap meets the condition. -/
theorem door_met (os : Os) (args : Array Value) : laidMetH Tryd.prog Rows.fnTapRootRow.laid ((World.doorLaid Tryd.prog 90 os).forCall (fun _ _ => 0) ⟨#[], args, []⟩).memory :=
  laidMetH_of_parts3 (fuel := 8) (laidMet_of_run' 8 (by kernel_rfl) (by kernel_rfl)) (by kernel_rfl) (by kernel_rfl)
set_option maxRecDepth 100000 in
theorem lifted (os : Os) (started : os.Started) (H : Type) (enc : TypeId × Value → H) :
    ReturnsInHanded {} Tryd.checked os 4 .any (fun w args => (Rows.fnTapRootSpec.pre enc Tryd.prog Tryd.f4 [] false w args ∧ laidMetH Tryd.prog Rows.fnTapRootRow.laid w) ∧ sizedMet enc Tryd.prog Tryd.f4 (OpenSpec.ofChange Rows.fnTapRootSpec) false w args)
      (Rows.fnTapRootSpec.post enc Tryd.prog Tryd.f4 false true false false) := by
  refine Sha.returnsInHanded_shaped_and (C := Tryd.checked) (X := fun w _ => laidMetH Tryd.prog Rows.fnTapRootRow.laid w) (fun _ _ _ hh h => h.of_heap hh) own started (by kernel_rfl) Tryd.func4
    (ChangeSpec.witness_shaped (enc := enc) (C := Tryd.checked) (os := os) (X := fun w _ => laidMetH Tryd.prog Rows.fnTapRootRow.laid w) false (World.doorLaid Tryd.prog 90 os) #[.int .u8 0, .slice none 0 0, .slice none 0 0] 8 rfl (World.shaped_of_RefB (by kernel_rfl) (by kernel_rfl)) (by kernel_rfl) (by kernel_rfl) (by kernel_rfl) (door_met os _)) ?_
  intro W base args ds gs before hval0 hW hcnd hsz0 hL _ hsh
  have hsz : (DataW.weightsEach Tryd.prog (Tryd.f4.params.toList ++ Rows.fnTapRootSpec.plain.varTypes Tryd.prog) (ds ++ gs)).all (· ≤ reachBytes) = true := hsz0
  have hval : ∀ (j : Nat) t v, Tryd.f4.params[j]? = some t → args[j]? = some v → Value.okWide Tryd.prog W .any base t v := hval0
  have hW' := hW
  obtain ⟨p, q, hA0, hV, rfl, hfz, hnd⟩ := hW
  have hA : DataW.TrodAll enc Tryd.prog W 0 (fun _ => true) true Tryd.f4.params.toList args.toList ds p := hA0
  rw [Tryd.params4] at hA hval hsz
  obtain ⟨v0, vs0, d0, ds0, p0, q0, hargs, rfl, rfl, h0, r0⟩ := trodAll_cons hA
  obtain ⟨v1, vs1, d1, ds1, p1, q1, rfl, rfl, rfl, h1, r1⟩ := trodAll_cons r0
  obtain ⟨v2, vs2, d2, ds2, p2, q2, rfl, rfl, rfl, h2, r2⟩ := trodAll_cons r1
  obtain ⟨rfl, rfl, rfl⟩ := trodAll_nil r2
  obtain rfl : args = #[v0, v1, v2] := by cases args; simp_all
  obtain ⟨rfl, rfl⟩ := trodVars_none hV
  have k0 := h0
  have lt0 : ∀ x ∈ p0, x.block < W.heap.size := by obtain ⟨m, hm⟩ := k0; exact DataW.trod_lt m _ _ _ hm
  obtain ⟨a0, rfl, rfl, rfl, w0⟩ := open_int Tryd.underlying5 (hval 0 5 v0 rfl rfl) h0
  have k1 := h1
  have lt1 : ∀ x ∈ p1, x.block < W.heap.size := by obtain ⟨m, hm⟩ := k1; exact DataW.trod_lt m _ _ _ hm
  obtain ⟨a1, len1, cap1, rfl⟩ := okWide_slice Tryd.underlying26 (hval 1 26 v1 rfl rfl)
  obtain ⟨z1, w1⟩ : ∃ zs, IsRow .u8 W a1 len1 cap1 zs := by
    obtain ⟨fuel, hf⟩ := h1
    rcases open_ints Tryd.underlying26 Tryd.underlying5 (by kernel_rfl) hf with ⟨hcs, _⟩ | ⟨x, l, c, zs, hcs, _, hl, hm, hz, _, hcell, hwz⟩
    · simp [Value.cells] at hcs
      obtain ⟨rfl, rfl, rfl⟩ := hcs
      exact ⟨[], .inl ⟨rfl, rfl, rfl, rfl⟩⟩
    · simp [Value.cells] at hcs
      obtain ⟨rfl, rfl, rfl⟩ := hcs
      exact ⟨zs, .inr ⟨_, rfl, hl, hm, by simpa using hz, hcell, hwz⟩⟩
  obtain ⟨l1, rfl, hr1, hm1, hw1, hc1⟩ := ReadsInt.ofRowC w1
  have hB1 : ∀ d ∈ l1, 0 ≤ d ∧ d < 256 := fun d hd => by have := bounds_u8 (hw1 d hd); omega
  have k2 := h2
  have lt2 : ∀ x ∈ p2, x.block < W.heap.size := by obtain ⟨m, hm⟩ := k2; exact DataW.trod_lt m _ _ _ hm
  obtain ⟨a2, len2, cap2, rfl⟩ := okWide_slice Tryd.underlying26 (hval 2 26 v2 rfl rfl)
  obtain ⟨z2, w2⟩ : ∃ zs, IsRow .u8 W a2 len2 cap2 zs := by
    obtain ⟨fuel, hf⟩ := h2
    rcases open_ints Tryd.underlying26 Tryd.underlying5 (by kernel_rfl) hf with ⟨hcs, _⟩ | ⟨x, l, c, zs, hcs, _, hl, hm, hz, _, hcell, hwz⟩
    · simp [Value.cells] at hcs
      obtain ⟨rfl, rfl, rfl⟩ := hcs
      exact ⟨[], .inl ⟨rfl, rfl, rfl, rfl⟩⟩
    · simp [Value.cells] at hcs
      obtain ⟨rfl, rfl, rfl⟩ := hcs
      exact ⟨zs, .inr ⟨_, rfl, hl, hm, by simpa using hz, hcell, hwz⟩⟩
  obtain ⟨l2, rfl, hr2, hm2, hw2, hc2⟩ := ReadsInt.ofRowC w2
  have hB2 : ∀ d ∈ l2, 0 ≤ d ∧ d < 256 := fun d hd => by have := bounds_u8 (hw2 d hd); omega
  refine (walkTapRoot a0 a1 a2 cap1 cap2 l1 l2 W (Sha.krow_of hsh) hr1 hc1 hr2 hc2).mono fun e W' ⟨he, bel⟩ => ?_
  subst he
  exact ⟨_, rfl, _, _, _, [], _, [], hW', trodAll_mk1 (shut_bool Tryd.underlying4 _), (trodAll_cons_mk (Below.trod laidOut (by kernel_rfl) (of_decide_eq_true (by kernel_rfl)) k0 bel lt0) (trodAll_cons_mk (Below.trod laidOut (by kernel_rfl) (of_decide_eq_true (by kernel_rfl)) k1 bel lt1) (trodAll_cons_mk (Below.trod laidOut (by kernel_rfl) (of_decide_eq_true (by kernel_rfl)) k2 bel lt2) trodAll_mk0))), rfl, bel.frame _, fun h => by cases h⟩
theorem over : Rows.fnTapRootRow.holds Tryd.pinned (OpenSpec.ofChange Rows.fnTapRootSpec) :=
  OpenClaim.holds_of_wide 4 Tryd.f4 rfl rfl rfl rfl rfl rfl rfl ⟨rfl, rfl, rfl, rfl, rfl⟩ rfl rfl rfl rfl rfl (by kernel_rfl) Tryd.func4 (by kernel_rfl)
    (of_decide_eq_true (by kernel_rfl)) (by unfold Func.isWrapper; first | (rw [if_pos (by decide +kernel)]; kernel_rfl) | (rw [if_neg (by decide +kernel)]; exact ⟨rfl, rfl⟩))
    (fun os started H enc _ => lifted os started H enc)
theorem proved : Rows.FnTapRootCardSaid :=
  Claim7.holds_tied_plain_at .later [] [.sentinel] true (true, "4874447272aa5874ef9c0399724f01fcc1a31933dc834f09f1dff3b3419cb314") true
    over (fun _ h => by cases h) (by kernel_rfl) (fun _ h => by cases h) fnTapRoot_row_tie rfl ⟨rfl, rfl⟩ (by kernel_rfl) rfl
    (fun f fn hf hfn => by
      obtain rfl : f = 4 := Option.some.inj ((show Tryd.prog.funcNamed "pub-mintmark/laws.FnTapRoot" = some 4 by kernel_rfl).symm.trans hf) |>.symm
      obtain rfl : fn = Tryd.f4 := (Option.some.inj (Tryd.func4.symm.trans hfn)).symm
      exact ⟨by kernel_rfl, fun j t ht => by
        rw [Tryd.params4] at ht
        have hm : t ∈ [5, 26] := by
          have h1 := Array.mem_of_getElem? ht
          simp at h1 ⊢
          omega
        have hall : ([5, 26].all fun u => !Tryd.prog.wantsStandIn u) = true := by kernel_rfl
        exact (show Tryd.prog.wantsStandIn t = false by simpa using List.all_eq_true.1 hall t hm)⟩)
    (by kernel_rfl)
#print axioms proved
end Go.Proofs.YtigpdgfhngknhaaDoor.fnTapRoot
