/- sha256: the hash of what a function writes. -/
import Derived.Deep.QuietTactic
import Derived.BigQuiet
import Derived.Test.YtigpdgfhngknhaaDoorK0
import Derived.Test.YtigpdgfhngknhaaDoorK2
namespace Go.Proofs.YtigpdgfhngknhaaDoor.Sha
open Go.RowKit Go.Proofs.YtigpdgfhngknhaaDoorW.PrintWords Go.Proofs.YtigpdgfhngknhaaDoorW.PrintLast Go.Proofs.YtigpdgfhngknhaaDoorW.PrintMore Go.Proofs.YtigpdgfhngknhaaDoor.QFnTapRoot
set_option linter.unusedVariables false
set_option linter.unusedSimpArgs false
theorem mk32 (w : World) : (Instr.makeSlice 26 (.int .i64 0) (.int .i64 32)).run Tryd.prog w = .ok (.slice (some ⟨w.heap.size, 0, none⟩) 0 32) (w.alloc (.cells (byteC (List.replicate 32 0)).toArray 5)) := by kernel_rfl
theorem mk_op {P : Program} {w w' : World} {ρ : Operand → Value} {o : Oper} (t : TypeId) (l c : Operand) (ho : o.op = .makeSlice t l c) (L C v : Value) (hl : ρ l = L) (hc : ρ c = C) (hr : (Instr.makeSlice t L C).run P w = .ok v w') : (execOp ρ o).run P w = .ok (.value v) w' := by
  unfold execOp
  simp [ho, hl, hc, hr, Result.andThen]
theorem arr32 (g : Nat) (w : World) : (Instr.arrayAt 49 (.slice (some ⟨g, 0, none⟩) 32 32)).run Tryd.prog w = .ok (.pointer (some ⟨g, 0, none⟩)) w := by kernel_rfl
theorem resetS (g : Nat) (kl bs : List Int) (len : Int) (w : World) (h : DigS w g kl bs len) : Calls Tryd.prog 65 #[.pointer (some ⟨g, 0, none⟩)] w fun e w' => e = .returned (.tuple #[]) ∧ DigS w' g kl [] 0 ∧ Only g w w' := by
  obtain ⟨xs, h1, h2⟩ := h.st
  exact (resetC g _ _ _ _ w h1).mono fun e w' ⟨he, h3, h4⟩ => ⟨he, ⟨⟨xs, h3, by simp⟩⟩, h4⟩
set_option maxRecDepth 100000 in
set_option maxHeartbeats 4000000 in
/-- The hash, twice, of what a function writes (R: what it leaves). -/
theorem rawC (f : FuncId) (fn : Func) (hf : Tryd.prog.funcs[f]? = some fn) (hname : (fn.name == "runtime.NumGoroutine") = false) (hbd : fn.body.isSome = true) (first cap : Array Value) (kl bs : List Int) (w : World) (hn : bs.length ≤ 100000000000) (hk : KRow w kl)
    (hser : ∀ g w2, Below w.heap.size w w2 → w.heap.size ≤ g → DigS w2 g kl [] 0 → KRow w2 kl → Calls Tryd.prog f ((first ++ #[hv g]) ++ cap) w2 fun e w' => (∃ v, e = .returned v) ∧ DigS w' g kl bs (bs.length : Int) ∧ Only g w2 w') :
    Calls Tryd.prog 34 #[.func (.func f) first cap] w fun e w' => e = .returned (.agg (byteC (shaD kl bs)).toArray) ∧ Below w.heap.size w w' := by
  have HK := Aside0.mk hk
  have HKL := Aside0.mk hk.lt
  have HN := Aside0.mk hn
  have HSE := Aside0.mk hser
  have hl1 := shaL_len kl bs
  have hl2 := shaD_len kl bs
  have hsd : shaD kl bs = shaL kl (shaL kl bs) := rfl
  have HS1 : Aside0 (∀ g gs w2, DigS w2 g kl bs (bs.length : Int) → KRow w2 kl → 6 < w2.heap.size → w2.heap[gs]? = some (.cells (byteC (List.replicate 32 0)).toArray 5 (0, 0)) → Calls Tryd.prog 104 #[.pointer (some ⟨g, 0, none⟩), .slice (some ⟨gs, 0, none⟩) 0 32] w2 fun e w' => e = .returned (.slice (some ⟨gs, 0, none⟩) 32 32) ∧ w'.heap[gs]? = some (.cells (byteC (shaL kl bs)).toArray 5 (0, 0)) ∧ Only gs w2 w') := ⟨fun g gs w2 h1 h2 h3 h4 => sumRoom g gs 5 _ (by rw [byteC_len, List.length_replicate]) kl bs w2 h1 hn h2 h3 h4⟩
  have HS2 : Aside0 (∀ g gs w2, DigS w2 g kl (shaL kl bs) 32 → KRow w2 kl → 6 < w2.heap.size → w2.heap[gs]? = some (.cells (byteC (shaL kl bs)).toArray 5 (0, 0)) → Calls Tryd.prog 104 #[.pointer (some ⟨g, 0, none⟩), .slice (some ⟨gs, 0, none⟩) 0 32] w2 fun e w' => e = .returned (.slice (some ⟨gs, 0, none⟩) 32 32) ∧ w'.heap[gs]? = some (.cells (byteC (shaD kl bs)).toArray 5 (0, 0)) ∧ Only gs w2 w') := ⟨fun g gs w2 h1 h2 h3 h4 => sumRoom g gs 5 _ (by rw [byteC_len, hl1]) kl (shaL kl bs) w2 (by rw [hl1]; exact h1) (by omega) h2 h3 h4⟩
  have HWR : Aside0 (∀ g gs w2, DigS w2 g kl [] 0 → w2.heap[gs]? = some (.cells (byteC (shaL kl bs)).toArray 5 (0, 0)) → gs ≠ g → KRow w2 kl → g ≠ 6 → Calls Tryd.prog 105 #[.pointer (some ⟨g, 0, none⟩), .slice (some ⟨gs, 0, none⟩) 32 32] w2 fun e w' => (∃ v, e = .returned v) ∧ DigS w' g kl (shaL kl bs) 32 ∧ Only g w2 w') := ⟨fun g gs w2 h1 h2 h3 h4 h5 => by
    have h := writeC g kl [] (shaL kl bs) (some ⟨gs, 0, none⟩) 32 w2 h1 (by have := rds_row h2 h3 32 (by omega) (by omega); rw [List.take_of_length_le (by omega)] at this; rw [hl1]; exact this) (by omega) (by simp only [List.length_nil]; omega) h4 h5
    rw [hl1] at h
    exact h.mono fun e w' ⟨he, h6, h7⟩ => ⟨⟨_, he⟩, by simpa [hl1] using h6, h7⟩⟩
  obtain ⟨h2, hh2⟩ : ∃ h, shaD kl bs = h := ⟨_, rfl⟩
  rw [hh2] at hl2 HS2 ⊢
  obtain ⟨h1, hh1⟩ : ∃ h, shaL kl bs = h := ⟨_, rfl⟩
  rw [hh1] at HS1 HS2 HWR hl1
  have HL1 := Aside0.mk hl1
  have HL2 := Aside0.mk hl2
  obtain ⟨n, hbn⟩ : ∃ n, bs.length = n := ⟨_, rfl⟩
  have HBN := Aside0.mk hbn
  rw [hbn] at HSE HS1
  clear hn hk hser hbn hl1 hl2 hsd hh1 hh2
  have hfn := hf
  have hnn := hname
  have hbb := hbd
  have HF := Aside0.mk hf
  have HNM := Aside0.mk hname
  have HBD := Aside0.mk hbd
  clear hfn hnn hbb hf hname hbd
  go_enter Tryd.func34, Tryd.ntmps34
  go_upto_region 1 with fail
  obtain ⟨r, hr⟩ : ∃ r, w.heap.size = r := ⟨_, rfl⟩
  have HR := Aside0.mk hr
  rw [hr]
  generalize hw1 : World.alloc _ _ = w1
  have HB1 : Aside0 (Below w.heap.size w w1) := ⟨by rw [← hw1]; exact below_alloc (Below.refl _ _) _⟩
  have HR1 : Aside0 (w1.heap[r]? = some (.cells (byteC (List.replicate 32 0)).toArray 49 (0, 0))) := ⟨by rw [← hw1, ← HR.out]; exact row_alloc w _⟩
  clear hw1 hr
  go_upto_region 2 with (go_at_call 46; (with_reducible refine (newH w1).mono ?_); rintro e w2 ⟨rfl, h1, h2⟩; have H1 := Aside0.mk h1; have HB2 := Aside0.mk h2; clear h1 h2)
  obtain ⟨g, hgg⟩ : ∃ g, w1.heap.size = g := ⟨_, rfl⟩
  have HG := Aside0.mk hgg
  rw [hgg] at H1 ⊢
  clear hgg
  have HRG : Aside0 (r < g ∧ w.heap.size ≤ g ∧ 6 < g) := ⟨by have h1 := blk_lt' HR1.out; have h2 := HR.out; have h3 := HG.out; have h4 := HKL.out; omega⟩
  have HBa := Aside0.mk (below_tr HB1.out HB2.out)
  have HC3 := Aside0.mk (HSE.out g w2 HBa.out HRG.out.2.1 (dig_new kl H1.out) (HK.out.below HBa.out))
  go_upto_region 3 with (refine valL_ (some 10) rfl rfl (.tmp 8) rfl f first cap rfl HF.out HNM.out HBD.out ((first ++ #[hv g]) ++ cap) (by simp only [List.map_toArray, List.map_cons, List.map_nil]; rfl) ?_; (with_reducible refine HC3.out.mono ?_); rintro e w3 ⟨⟨v9, rfl⟩, k1, k2⟩; refine ⟨_, rfl, ?_⟩; have HD3 := Aside0.mk k1; have HO3 := Aside0.mk k2; clear k1 k2)
  have HBb := Aside0.mk (HO3.out.below HBa.out HRG.out.2.1 HBa.out.size)
  have HR3 : Aside0 (w3.heap[r]? = some (.cells (byteC (List.replicate 32 0)).toArray 49 (0, 0))) := ⟨by
    have h1 := (HB2.out.block r (blk_lt' HR1.out)).trans HR1.out
    exact (HO3.out.block r (blk_lt' h1) (by have := HRG.out; omega)).trans h1⟩
  go_upto_region 4 with ((with_reducible refine at_dst (N := 11) rfl ?_); refine wpList_run rfl _ (mk_op 26 (.const (.int .i64 0)) (.const (.int .i64 32)) rfl _ _ _ rfl rfl (mk32 w3)) ?_)
  obtain ⟨gb, hgb⟩ : ∃ g, w3.heap.size = g := ⟨_, rfl⟩
  have HGB := Aside0.mk hgb
  rw [hgb]
  generalize hw4 : World.alloc _ _ = w4
  have HB4 : Aside0 (Below w3.heap.size w3 w4) := ⟨by rw [← hw4]; exact below_alloc (Below.refl _ _) _⟩
  have HS4 : Aside0 (w4.heap[gb]? = some (.cells (byteC (List.replicate 32 0)).toArray 5 (0, 0))) := ⟨by rw [← hw4, ← hgb]; exact row_alloc w3 _⟩
  clear hw4 hgb
  have HBc := Aside0.mk (below_tr HBb.out HB4.out)
  have HD4 := Aside0.mk (HD3.out.below HB4.out)
  have HGG : Aside0 (g < gb) := ⟨by obtain ⟨x, h, _⟩ := HD3.out.st; have := blk_lt' h.blk; have := HGB.out; omega⟩
  have HR4 := Aside0.mk ((HB4.out.block r (blk_lt' HR3.out)).trans HR3.out)
  have HC5 := Aside0.mk (HS1.out g gb w4 HD4.out (HK.out.below HBc.out) (Nat.lt_of_lt_of_le HKL.out HBc.out.size) HS4.out)
  unfold hv
  go_upto_region 5 with (refine invL_ (some 14) rfl rfl (.tmp 12) "Sum" rfl 107 _ rfl 104 (mSum _) Tryd.func104 rfl rfl #[.pointer (some ⟨g, 0, none⟩), .slice (some ⟨gb, 0, none⟩) 0 32] (by simp only [List.map_toArray, List.map_cons, List.map_nil]; rfl) ?_; (with_reducible refine HC5.out.mono ?_); rintro e w5 ⟨rfl, k1, k2⟩; refine ⟨_, rfl, ?_⟩; have HS5 := Aside0.mk k1; have HO5 := Aside0.mk k2; clear k1 k2)
  have hgw : w.heap.size ≤ gb := by have := HRG.out; have := HGG.out; omega
  have HBd := Aside0.mk (HO5.out.below HBc.out hgw HBc.out.size)
  have HD5 : Aside0 (DigS w5 g kl bs (n : Int)) := ⟨HD4.out.same (HO5.out.block g (by obtain ⟨x, h, _⟩ := HD4.out.st; exact blk_lt' h.blk) (by have := HGG.out; omega))⟩
  have HR5 := Aside0.mk ((HO5.out.block r (blk_lt' HR4.out) (by have := HRG.out; have := HGG.out; omega)).trans HR4.out)
  have HC6 := Aside0.mk (resetS g kl bs _ w5 HD5.out)
  clear hgw
  go_upto_region 6 with (refine invL_ (some 16) rfl rfl (.tmp 15) "Reset" rfl 107 _ rfl 65 (mReset _) Tryd.func65 rfl rfl #[.pointer (some ⟨g, 0, none⟩)] (by simp only [List.map_toArray, List.map_cons, List.map_nil]; rfl) ?_; (with_reducible refine HC6.out.mono ?_); rintro e w6 ⟨rfl, k1, k2⟩; refine ⟨_, rfl, ?_⟩; have HD6 := Aside0.mk k1; have HO6 := Aside0.mk k2; clear k1 k2)
  have HBe := Aside0.mk (HO6.out.below HBd.out HRG.out.2.1 HBd.out.size)
  have HS6 := Aside0.mk ((HO6.out.block gb (blk_lt' HS5.out) (by have := HGG.out; omega)).trans HS5.out)
  have HR6 := Aside0.mk ((HO6.out.block r (blk_lt' HR5.out) (by have := HRG.out; omega)).trans HR5.out)
  have HC7 := Aside0.mk (HWR.out g gb w6 HD6.out HS6.out (by have := HGG.out; omega) (HK.out.below HBe.out) (by have := HRG.out; omega))
  go_upto_region 7 with (refine invL_ (some 19) rfl rfl (.tmp 17) "Write" rfl 107 _ rfl 105 (mWrite _) Tryd.func105 rfl rfl #[.pointer (some ⟨g, 0, none⟩), .slice (some ⟨gb, 0, none⟩) 32 32] (by simp only [List.map_toArray, List.map_cons, List.map_nil]; rfl) ?_; (with_reducible refine HC7.out.mono ?_); rintro e w7 ⟨⟨v7, rfl⟩, k1, k2⟩; refine ⟨_, rfl, ?_⟩; have HD7 := Aside0.mk k1; have HO7 := Aside0.mk k2; clear k1 k2)
  have HBf := Aside0.mk (HO7.out.below HBe.out HRG.out.2.1 HBe.out.size)
  have HS7 := Aside0.mk ((HO7.out.block gb (blk_lt' HS6.out) (by have := HGG.out; omega)).trans HS6.out)
  have HR7 := Aside0.mk ((HO7.out.block r (blk_lt' HR6.out) (by have := HRG.out; omega)).trans HR6.out)
  have HC8 := Aside0.mk (HS2.out g gb w7 HD7.out (HK.out.below HBf.out) (Nat.lt_of_lt_of_le HKL.out HBf.out.size) HS7.out)
  go_upto_region 8 with (refine invL_ (some 22) rfl rfl (.tmp 20) "Sum" rfl 107 _ rfl 104 (mSum _) Tryd.func104 rfl rfl #[.pointer (some ⟨g, 0, none⟩), .slice (some ⟨gb, 0, none⟩) 0 32] (by simp only [List.map_toArray, List.map_cons, List.map_nil]; rfl) ?_; (with_reducible refine HC8.out.mono ?_); rintro e w8 ⟨rfl, k1, k2⟩; refine ⟨_, rfl, ?_⟩; have HS8 := Aside0.mk k1; have HO8 := Aside0.mk k2; clear k1 k2)
  have HBg := Aside0.mk (HO8.out.below HBf.out (by have := HRG.out; have := HGG.out; omega) HBf.out.size)
  have HR8 := Aside0.mk ((HO8.out.block r (blk_lt' HR7.out) (by have := HRG.out; have := HGG.out; omega)).trans HR7.out)
  have harr := arr32 gb
  go_wp2_with (first
    | ((with_reducible refine at_dst (N := 26) rfl ?_); refine wpList_load_row rfl 49 (.tmp 25) rfl gb rfl 5 _ (0, 0) _ HS8.out Tryd.underlying49 rfl (hash_info _ HL2.out) ?_)
    | (refine wpList_store_row rfl 49 (.tmp 2) (.tmp 26) rfl r (byteC h2).toArray rfl rfl 49 _ HR8.out (hash_info _ HL2.out) (row_size _ HL2.out) (byteC_one _) ?_))
  refine bodyPost_ret_by (results_cell_row rfl _ _ r 49 _ (0, 0) _ (by rfl) (setRow_heap _ _ _ _ _ _ HR8.out) Tryd.underlying49 rfl (hash_info _ HL2.out)) rfl ⟨rfl, below_setRow _ HBg.out (by have := HR.out; omega)⟩
end Go.Proofs.YtigpdgfhngknhaaDoor.Sha
/- A hash out of bytes: SetBytes, NewHash. -/
namespace Go.Proofs.YtigpdgfhngknhaaDoor.Sha
open Go.RowKit Go.Proofs.YtigpdgfhngknhaaDoorW.PrintWords Go.Proofs.YtigpdgfhngknhaaDoorW.PrintLast Go.Proofs.YtigpdgfhngknhaaDoorW.PrintMore Go.Proofs.YtigpdgfhngknhaaDoor.QFnTapRoot
set_option linter.unusedVariables false
set_option linter.unusedSimpArgs false
theorem slice_h (g : Nat) (w : World) : (Instr.sliceAt 49 (.pointer (some ⟨g, 0, none⟩)) none none none).run Tryd.prog w = .ok (.slice (some ⟨g, 0, none⟩) 32 32) w := by kernel_rfl
/-- 32 bytes copied over a row of 32. -/
theorem copy32 {W : World} {ρ : Operand → Value} {o : Oper} (d s : Operand) (ho : o.op = .call { callee := .builtin .copy, args := #[d, s], argTypes := #[26, 26] }) {r dc c : Nat} {A : Option Addr} {p l : List Int} {t : TypeId} (hg : W.heap[r]? = some (.cells (byteC l).toArray t (0, 0))) (hl : l.length = 32)
    (hd : ρ d = .slice (some ⟨r, 0, none⟩) 32 dc) (hs : ρ s = .slice A 32 c) (hp : ReadsInt W .u8 A 32 p) :
    (execOp ρ o).run Tryd.prog W = .ok (.value (.int .i64 32)) (W.setRow r (byteC p).toArray) := by
  have hsz : (Tryd.prog.info? 5).map (·.size) = some 1 := by kernel_rfl
  obtain ⟨hpl, _, hc⟩ := hp
  obtain ⟨ad, rfl, hcc⟩ := hc (by decide)
  have hb : (byteC p).length = 32 := by rw [byteC_len, hpl]
  have hrun := run_copy_row (P := Tryd.prog) W 26 26 o.type 5 r 0 32 dc ad 32 c (byteC l).toArray t (byteC p) Tryd.underlying26 hsz hg (by rw [hb]; rfl) (fun j v hj => ?_) (by rw [hb, List.size_toArray, byteC_len, hl]; exact Nat.le_refl _) (fun v hv => ?_)
  · have e : (byteC l).toArray.toList.take 0 ++ byteC p ++ (byteC l).toArray.toList.drop (0 + (byteC p).length) = byteC p := by
      rw [List.drop_eq_nil_of_le (by rw [hb]; simp [byteC_len, hl]), List.append_nil]; rfl
    rw [e, hb] at hrun
    simp [execOp, ho, resolve, invoke, builtin, hd, hs, hrun, Result.andThen]
    rfl
  · have hjl : j < p.length := by rw [← byteC_len]; exact (List.getElem?_eq_some_iff.1 hj).1
    rw [byteC_at hjl] at hj
    obtain rfl := Option.some.inj hj
    exact hcc j (by omega)
  · unfold byteC at hv
    obtain ⟨x, _, rfl⟩ := List.mem_map.1 hv
    rfl
set_option maxRecDepth 100000 in
set_option maxHeartbeats 4000000 in
theorem setBytesC (g c : Nat) (A : Option Addr) (p l : List Int) (t : TypeId) (w : World) (hr : ReadsInt w .u8 A 32 p) (hl : l.length = 32) (hg : w.heap[g]? = some (.cells (byteC l).toArray t (0, 0))) :
    Calls Tryd.prog 70 #[.pointer (some ⟨g, 0, none⟩), .slice A 32 c] w fun e w' => e = .returned .nilIface ∧ w'.heap[g]? = some (.cells (byteC p).toArray t (0, 0)) ∧ Only g w w' := by
  have hsl := slice_h g
  have HRUN : Aside0 (∀ (ρ : Operand → Value) (o : Oper), o.op = .call { callee := .builtin .copy, args := #[.tmp 13, .tmp 14], argTypes := #[26, 26] } → ρ (.tmp 13) = .slice (some ⟨g, 0, none⟩) 32 32 → ρ (.tmp 14) = .slice A 32 c → (execOp ρ o).run Tryd.prog w = .ok (.value (.int .i64 32)) (w.setRow g (byteC p).toArray)) := ⟨fun ρ o h1 h2 h3 => copy32 (.tmp 13) (.tmp 14) h1 hg hl h2 h3 hr⟩
  have HG := Aside0.mk hg
  obtain ⟨w9, hw9⟩ : ∃ w9, w.setRow g (byteC p).toArray = w9 := ⟨_, rfl⟩
  have HW9 := Aside0.mk hw9
  rw [hw9] at HRUN
  clear hr hl hg hw9
  go_enter Tryd.func70, Tryd.ntmps70
  go_wp2_with ((with_reducible refine at_dst (N := 15) rfl ?_); refine wpList_run rfl _ (HRUN.out _ _ rfl rfl rfl) ?_)
  go_ret
  have hw9 := HW9.out
  subst hw9
  exact ⟨rfl, setRow_heap _ _ _ _ _ _ HG.out, only_setRow _ _ _⟩
set_option maxRecDepth 100000 in
set_option maxHeartbeats 4000000 in
theorem newHashC (c : Nat) (A : Option Addr) (p : List Int) (w : World) (hr : ReadsInt w .u8 A 32 p) :
    Calls Tryd.prog 61 #[.slice A 32 c] w fun e w' => ∃ g, e = .returned (.tuple #[.pointer (some ⟨g, 0, none⟩), .nilIface]) ∧ w'.heap[g]? = some (.cells (byteC p).toArray 49 (0, 0)) ∧ w.heap.size ≤ g ∧ Below w.heap.size w w' := by
  have HC : Aside0 (∀ w1 g, Below w.heap.size w w1 → w1.heap[g]? = some (.cells (byteC (List.replicate 32 0)).toArray 49 (0, 0)) → Calls Tryd.prog 70 #[.pointer (some ⟨g, 0, none⟩), .slice A 32 c] w1 fun e w' => e = .returned .nilIface ∧ w'.heap[g]? = some (.cells (byteC p).toArray 49 (0, 0)) ∧ Only g w1 w') := ⟨fun w1 g h1 h2 => setBytesC g c A p _ _ w1 (hr.below h1) (by rw [List.length_replicate]) h2⟩
  clear hr
  go_enter Tryd.func61, Tryd.ntmps61
  go_upto_region 2 with fail
  obtain ⟨r, hr⟩ : ∃ r, w.heap.size = r := ⟨_, rfl⟩
  have HR := Aside0.mk hr
  rw [hr]
  generalize hw1 : World.alloc _ _ = w1
  have HB1 : Aside0 (Below w.heap.size w w1) := ⟨by rw [← hw1]; exact below_alloc (Below.refl _ _) _⟩
  have HR1 : Aside0 (w1.heap[r]? = some (.cells (byteC (List.replicate 32 0)).toArray 49 (0, 0))) := ⟨by rw [← hw1, ← HR.out]; exact row_alloc w _⟩
  clear hw1 hr
  have HC1 := Aside0.mk (HC.out w1 r HB1.out HR1.out)
  go_wp2_with (go_at_call 70; (with_reducible refine HC1.out.mono ?_); rintro e w2 ⟨rfl, k1, k2⟩; have HR2 := Aside0.mk k1; have HO2 := Aside0.mk k2; clear k1 k2)
  go_ret2
  exact ⟨r, rfl, HR2.out, by have := HR.out; omega, HO2.out.below HB1.out (by have := HR.out; omega) HB1.out.size⟩
end Go.Proofs.YtigpdgfhngknhaaDoor.Sha
/- What bytes are written to, behind an interface. -/
namespace Go.Proofs.YtigpdgfhngknhaaDoor.Snk
open Go.RowKit Go.Proofs.YtigpdgfhngknhaaDoorW.PrintWords Go.Proofs.YtigpdgfhngknhaaDoorW.PrintLast
set_option linter.unusedVariables false
/-- A method value's test for nil. -/
def NilNot (P : Program) (t : TypeId) (v : Value) (name : String) : Prop := ∀ n w, (nilAhead (n + 1) t v name).run P w = .ok (some false) w
theorem nil_run {P : Program} {t : TypeId} {v : Value} {name : String} (h : NilNot P t v name) (w : World) {ρ : Operand → Value} {o : Oper} (x : Operand) (ho : o.op = .nilCheck x) (hx : ρ x = .func (.method name) #[.iface t v] #[]) : (execOp ρ o).run P w = .ok (.value (.func (.method name) #[.iface t v] #[])) w := by
  have h0 : 0 < P.types.size + Made.depth := Nat.lt_of_lt_of_le (show 0 < Made.depth by decide) (Nat.le_add_left _ _)
  obtain ⟨n, hn⟩ : ∃ n, P.types.size + Made.depth = n + 1 := ⟨P.types.size + Made.depth - 1, by omega⟩
  have h1 := h n w
  rw [← hn] at h1
  unfold execOp
  rw [ho]
  show Sem.run _ (match ρ x with | .pointer none | .nilIface | .nilFunc => _ | .func (.method name) first captured => _ | x => _) w = _
  rw [hx]
  simp [h1, Result.andThen]
/-- Things to which bytes can be written: T its type, v the value, f the type's Write. w0: the world ahead of them all. M: how much they take. -/
structure Sink (P : Program) (w0 : World) (T : TypeId) (v : Value) (f : FuncId) (M : Nat) where
  St : World → List Int → Prop
  own : World → Nat → Prop
  meth : Meth P T v "Write" f v
  nil : NilNot P T v "Write"
  below : ∀ {w bs}, St w bs → Below w0.heap.size w0 w
  fresh : ∀ {w bs k}, St w bs → own w k → w0.heap.size ≤ k ∧ k < w.heap.size
  stay : ∀ {w bs w'}, St w bs → Below w0.heap.size w0 w' → (∀ k, own w k → w'.heap[k]? = w.heap[k]?) → St w' bs ∧ ∀ k, own w' k → own w k
  write : ∀ {w bs} {p : List Int} {A : Option Addr} {c n : Nat}, St w bs → p.length = n → bs.length + n ≤ M → n ≤ c → ReadsInt w .u8 A n p → (0 < n → ∀ a, A = some a → ¬ own w a.block) →
    Calls P f #[v, .slice A n c] w fun e w' => e = .returned (.tuple #[.int .i64 (n : Int), .nilIface]) ∧ St w' (bs ++ p) ∧ (w'.os = w.os ∧ w'.tape = w.tape ∧ w'.output = w.output ∧ w.heap.size ≤ w'.heap.size ∧ (∀ k, k < w.heap.size → ¬ own w k → w'.heap[k]? = w.heap[k]?) ∧ ∀ k, own w' k → own w k ∨ w.heap.size ≤ k)
section
variable {P : Program} {w0 : World} {T : TypeId} {v : Value} {f : FuncId} {M : Nat} (S : Sink P w0 T v f M)
/-- What a writer may turn: the sink's own blocks, and what is new. -/
structure Step (w w' : World) : Prop where
  os : w'.os = w.os
  tape : w'.tape = w.tape
  output : w'.output = w.output
  size : w.heap.size ≤ w'.heap.size
  block : ∀ k, k < w.heap.size → ¬ S.own w k → w'.heap[k]? = w.heap[k]?
  grow : ∀ k, S.own w' k → S.own w k ∨ w.heap.size ≤ k
variable {S}
theorem Step.refl (w : World) : Step S w w := ⟨rfl, rfl, rfl, Nat.le_refl _, fun _ _ _ => rfl, fun _ h => .inl h⟩
theorem Step.trans {w w1 w2 : World} (h : Step S w w1) (k : Step S w1 w2) : Step S w w2 :=
  ⟨k.os.trans h.os, k.tape.trans h.tape, k.output.trans h.output, Nat.le_trans h.size k.size, fun i hi ho => (k.block i (Nat.lt_of_lt_of_le hi h.size) (fun hh => (h.grow i hh).elim ho (fun h1 => Nat.not_le.2 hi h1))).trans (h.block i hi ho), fun i hi => by
    rcases k.grow i hi with h1 | h1
    · exact h.grow i h1
    · exact .inr (Nat.le_trans h.size h1)⟩
theorem below_step {w w1 : World} {bs : List Int} (hs : S.St w bs) (hb : Below w.heap.size w w1) : S.St w1 bs ∧ Step S w w1 := by
  have h := S.stay hs ((S.below hs).trans ⟨hb.os, hb.tape, hb.output, hb.size, fun k hk => hb.block k (Nat.lt_of_lt_of_le hk (S.below hs).size)⟩) (fun k hk => hb.block k (S.fresh hs hk).2)
  exact ⟨h.1, hb.os, hb.tape, hb.output, hb.size, fun k hk _ => hb.block k hk, fun k hk => .inl (h.2 k hk)⟩
theorem below_own {w w1 : World} {bs : List Int} (hs : S.St w bs) (hb : Below w.heap.size w w1) (k : Nat) (h : S.own w1 k) : S.own w k :=
  (S.stay hs ((S.below hs).trans ⟨hb.os, hb.tape, hb.output, hb.size, fun k hk => hb.block k (Nat.lt_of_lt_of_le hk (S.below hs).size)⟩) (fun k hk => hb.block k (S.fresh hs hk).2)).2 k h
/-- A block of one's own, made behind wE, turns. -/
theorem only_step {wE w w1 : World} {bs : List Int} {g : Nat} (hs : S.St w bs) (hE : Step S wE w) (hg : wE.heap.size ≤ g) (hg0 : w0.heap.size ≤ g) (hn : ¬ S.own w g) (ho : Only g w w1) : S.St w1 bs ∧ Step S wE w1 ∧ ¬ S.own w1 g := by
  have h := S.stay hs ((S.below hs).trans ⟨ho.os, ho.tape, ho.output, ho.size, fun k hk => ho.block k (Nat.lt_of_lt_of_le hk (S.below hs).size) (by omega)⟩) (fun k hk => ho.block k (S.fresh hs hk).2 (fun e => hn (e ▸ hk)))
  exact ⟨h.1, ⟨ho.os.trans hE.os, ho.tape.trans hE.tape, ho.output.trans hE.output, Nat.le_trans hE.size ho.size, fun k hk hk2 => (ho.block k (Nat.lt_of_lt_of_le hk hE.size) (by omega)).trans (hE.block k hk hk2), fun k hk => hE.grow k (h.2 k hk)⟩, fun hh => hn (h.2 g hh)⟩
/-- A block that is not the sink's stays. -/
theorem Step.kept {w w1 : World} {g : Nat} {x : Obj} (h : Step S w w1) (hn : ¬ S.own w g) (hx : w.heap[g]? = some x) : w1.heap[g]? = some x ∧ ¬ S.own w1 g :=
  ⟨(h.block g (blk_lt' hx) hn).trans hx, fun hh => (h.grow g hh).elim hn (fun h1 => Nat.not_le.2 (blk_lt' hx) h1)⟩
theorem Sink.writeC (S : Sink P w0 T v f M) {w : World} {bs p : List Int} {A : Option Addr} {c n : Nat} (hs : S.St w bs) (hp : p.length = n) (hM : bs.length + n ≤ M) (hc : n ≤ c) (hr : ReadsInt w .u8 A n p) (ho : 0 < n → ∀ a, A = some a → ¬ S.own w a.block) :
    Calls P f #[v, .slice A n c] w fun e w' => e = .returned (.tuple #[.int .i64 (n : Int), .nilIface]) ∧ S.St w' (bs ++ p) ∧ Step S w w' :=
  (S.write hs hp hM hc hr ho).mono fun e w' ⟨h1, h2, h3, h4, h5, h6, h7, h8⟩ => ⟨h1, h2, h3, h4, h5, h6, h7, h8⟩
end
end Go.Proofs.YtigpdgfhngknhaaDoor.Snk
/- sha256 as a thing to which bytes are written. -/
namespace Go.Proofs.YtigpdgfhngknhaaDoor.Sha
open Go.RowKit Go.Proofs.YtigpdgfhngknhaaDoorW.PrintWords Go.Proofs.YtigpdgfhngknhaaDoorW.PrintLast Go.Proofs.YtigpdgfhngknhaaDoorW.PrintMore Go.Proofs.YtigpdgfhngknhaaDoor.QFnTapRoot
set_option linter.unusedVariables false
set_option maxRecDepth 100000 in
theorem nWrite (a : Addr) : Snk.NilNot Tryd.prog 107 (.pointer (some a)) "Write" := fun n w => by kernel_rfl
theorem DigS.lt {w : World} {g : Nat} {kl bs : List Int} {len : Int} (h : DigS w g kl bs len) : g < w.heap.size := by
  obtain ⟨x, h1, _⟩ := h.st
  exact blk_lt' h1.blk
def shaSink (w0 : World) (g : Nat) (kl : List Int) (hk : KRow w0 kl) (hg : w0.heap.size ≤ g) : Snk.Sink Tryd.prog w0 107 (.pointer (some ⟨g, 0, none⟩)) 105 100000000000 where
  St w bs := Below w0.heap.size w0 w ∧ DigS w g kl bs (bs.length : Int)
  own _ k := k = g
  meth := mWrite _
  nil := nWrite _
  below h := h.1
  fresh h hk := by subst hk; exact ⟨hg, h.2.lt⟩
  stay h hb hk := ⟨⟨hb, h.2.same (hk g rfl)⟩, fun k h => h⟩
  write {w bs p A c n} h hp hM hc hr ho := by
    subst hp
    have hK := hk.lt
    refine (writeC g kl bs p A c w h.2 (fun W hW => hr.keep hW.keep (fun ad e h0 hh => ho h0 ad e hh)) hc (by omega) (hk.below h.1) (by omega)).mono fun e w' ⟨he, h5, h6⟩ => ⟨he, ⟨h6.below h.1 hg h.1.size, h5⟩, h6.os, h6.tape, h6.output, h6.size, fun k hk hn => h6.block k hk hn, fun k h => .inl h⟩
end Go.Proofs.YtigpdgfhngknhaaDoor.Sha
/- A tagged hash. -/
namespace Go.Proofs.YtigpdgfhngknhaaDoor.Sha
open Go.RowKit Go.Proofs.YtigpdgfhngknhaaDoorW.PrintWords Go.Proofs.YtigpdgfhngknhaaDoorW.PrintLast Go.Proofs.YtigpdgfhngknhaaDoorW.PrintMore Go.Proofs.YtigpdgfhngknhaaDoor.QFnTapRoot
set_option linter.unusedVariables false
set_option linter.unusedSimpArgs false
def cat (pf : Nat → List Int) : Nat → List Int
  | 0 => []
  | k + 1 => cat pf k ++ pf k
theorem cat_le (pf : Nat → List Int) : ∀ {i k : Nat}, i ≤ k → (cat pf i).length ≤ (cat pf k).length
  | i, 0, h => by obtain rfl : i = 0 := by omega
                  exact Nat.le_refl _
  | i, k + 1, h => by
    by_cases e : i = k + 1
    · subst e; exact Nat.le_refl _
    · have := cat_le pf (i := i) (k := k) (by omega)
      rw [cat, List.length_append]
      omega
/-- What a tagged hash is. -/
def tagL (kl tg ms : List Int) : List Int := shaL kl (shaL kl tg ++ (shaL kl tg ++ ms))
theorem tagL_len (kl tg ms : List Int) : (tagL kl tg ms).length = 32 := shaL_len _ _
theorem slice_32 (g : Nat) (w : World) : (Instr.sliceAt 22 (.pointer (some ⟨g, 0, none⟩)) none none none).run Tryd.prog w = .ok (.slice (some ⟨g, 0, none⟩) 32 32) w := by kernel_rfl
theorem owns32 {w : World} {base : Nat} {v : Value} {hh : List Int} (h : w.ownsRow base 5 1 v 32 (byteC hh)) (hl : hh.length = 32) : ∃ g c, v = .slice (some ⟨g, 0, none⟩) 32 c ∧ ReadsInt w .u8 (some ⟨g, 0, none⟩) 32 hh := by
  obtain ⟨_, ⟨_, h0⟩ | ⟨g, cap, cur, rfl, _, hg, _, _, hs, ht⟩⟩ := h
  · cases h0
  · refine ⟨g, cap, rfl, hl, by decide, fun _ => ⟨_, rfl, fun j hj => ?_⟩⟩
    rw [add_plain]
    refine cell_of hg ?_
    rw [Nat.mul_one] at ht
    rw [← Array.getElem?_toList, ← List.getElem?_take_of_lt hj, ht]
    exact byteC_at (by omega)
theorem nSum (a : Addr) : Snk.NilNot Tryd.prog 107 (.pointer (some a)) "Sum" := fun n w => by kernel_rfl
set_option maxRecDepth 100000 in
set_option maxHeartbeats 8000000 in
theorem taggedC (A : Option Addr) (nt ct : Nat) (tg : List Int) (gm cm k : Nat) (Af : Nat → Option Addr) (nf cf : Nat → Nat) (pf : Nat → List Int) (kl : List Int) (w : World) (ht : ReadsInt w .u8 A nt tg) (hct : nt ≤ ct) (hnt : nt ≤ 1000000) (hk : k ≤ 1000) (hgm : gm < w.heap.size)
    (hm : ∀ i, i < k → w.cell? ⟨gm, i, none⟩ = some (.slice (Af i) (nf i) (cf i)) ∧ ReadsInt w .u8 (Af i) (nf i) (pf i) ∧ nf i ≤ cf i) (hlen : (cat pf k).length ≤ 10000000000) (hkr : KRow w kl) :
    Calls Tryd.prog 51 #[.slice A nt ct, .slice (some ⟨gm, 0, none⟩) k cm] w fun e w' => ∃ g, e = .returned (.pointer (some ⟨g, 0, none⟩)) ∧ w'.heap[g]? = some (.cells (byteC (tagL kl tg (cat pf k))).toArray 49 (0, 0)) ∧ w.heap.size ≤ g ∧ Below w.heap.size w w' := by
  have htl : tg.length = nt := ht.1
  have HK := Aside0.mk hkr
  have HKL := Aside0.mk hkr.lt
  have HM := Aside0.mk hm
  have HGM := Aside0.mk hgm
  have HLEN := Aside0.mk hlen
  have hl1 := shaL_len kl tg
  have hl2 := tagL_len kl tg (cat pf k)
  have HC1 : Aside0 (Calls Tryd.prog 36 #[.slice A nt ct] w fun e w' => e = .returned (.agg (byteC (shaL kl tg)).toArray) ∧ Below w.heap.size w w') := ⟨by
    have h := sum256C A ct tg kl w (by rw [htl]; exact ht) (by omega) (by omega) hkr
    rw [htl] at h
    exact h⟩
  have HWR : Aside0 (∀ g r w2 bs, DigS w2 g kl bs (bs.length : Int) → bs.length ≤ 1000 → w2.heap[r]? = some (.cells (byteC (shaL kl tg)).toArray 22 (0, 0)) → r ≠ g → KRow w2 kl → g ≠ 6 → Calls Tryd.prog 105 #[.pointer (some ⟨g, 0, none⟩), .slice (some ⟨r, 0, none⟩) 32 32] w2 fun e w' => e = .returned (.tuple #[.int .i64 32, .nilIface]) ∧ DigS w' g kl (bs ++ shaL kl tg) ((bs ++ shaL kl tg).length : Int) ∧ Only g w2 w') := ⟨fun g r w2 bs h1 h2 h3 h4 h5 h6 => by
    have h := writeC g kl bs (shaL kl tg) (some ⟨r, 0, none⟩) 32 w2 h1 (by have := rds_row h3 h4 32 (by omega) (by omega); rw [List.take_of_length_le (by omega)] at this; rw [hl1]; exact this) (by omega) (by omega) h5 h6
    rw [hl1] at h
    exact h⟩
  have HNH : Aside0 (∀ w2 A c, ReadsInt w2 .u8 A 32 (tagL kl tg (cat pf k)) → Calls Tryd.prog 61 #[.slice A 32 c] w2 fun e w' => ∃ g, e = .returned (.tuple #[.pointer (some ⟨g, 0, none⟩), .nilIface]) ∧ w'.heap[g]? = some (.cells (byteC (tagL kl tg (cat pf k))).toArray 49 (0, 0)) ∧ w2.heap.size ≤ g ∧ Below w2.heap.size w2 w') := ⟨fun w2 A c h => newHashC c A _ w2 h⟩
  have HSU : Aside0 (∀ g w2, DigS w2 g kl (shaL kl tg ++ (shaL kl tg ++ cat pf k)) ((shaL kl tg ++ (shaL kl tg ++ cat pf k)).length : Int) → KRow w2 kl → 6 < w2.heap.size → Calls Tryd.prog 104 #[.pointer (some ⟨g, 0, none⟩), .slice none 0 0] w2 fun e w' => ∃ v, e = .returned v ∧ w'.ownsRow w2.heap.size 5 1 v 32 (byteC (tagL kl tg (cat pf k))) ∧ Below w2.heap.size w2 w') := ⟨fun g w2 h1 h2 h3 => sumNil g kl _ w2 h1 (by simp only [List.length_append, hl1]; omega) h2 h3⟩
  obtain ⟨hh, hhh⟩ : ∃ x, tagL kl tg (cat pf k) = x := ⟨_, rfl⟩
  rw [hhh] at hl2 HSU HNH ⊢
  obtain ⟨h1, hh1⟩ : ∃ h, shaL kl tg = h := ⟨_, rfl⟩
  rw [hh1] at HC1 HWR HSU hl1
  have HL1 := Aside0.mk hl1
  have HL2 := Aside0.mk hl2
  have hki : (k : Int) ≤ 1000 := by omega
  clear ht hct hnt hm hlen hkr hl1 hl2 hhh hh1 htl hgm
  go_enter Tryd.func51, Tryd.ntmps51
  go_upto_region 2 with (first
    | (go_at_call 36; (with_reducible refine HC1.out.mono ?_); rintro e w1 ⟨rfl, k1⟩; have HB1 := Aside0.mk k1; clear k1)
    | (refine wpList_store_row rfl 22 (.tmp 5) (.tmp 13) rfl w1.heap.size (byteC h1).toArray rfl rfl 22 _ (row_alloc w1 _) (row32_info _ HL1.out) (row_size _ HL1.out) (byteC_one _) ?_))
  obtain ⟨r1, hr1⟩ : ∃ g, w1.heap.size = g := ⟨_, rfl⟩
  have HR1 := Aside0.mk hr1
  rw [hr1]
  generalize hw2 : World.setRow _ _ _ = w2
  have HB2 : Aside0 (Below w1.heap.size w1 w2) := ⟨by rw [← hw2, ← hr1]; exact below_setRow _ (below_alloc (Below.refl _ _) _) (Nat.le_refl _)⟩
  have HG2 : Aside0 (w2.heap[r1]? = some (.cells (byteC h1).toArray 22 (0, 0))) := ⟨by rw [← hw2, ← hr1]; exact setRow_heap _ _ _ _ _ _ (row_alloc w1 _)⟩
  clear hr1 hw2
  have HBa := Aside0.mk (below_tr HB1.out HB2.out)
  go_upto_region 3 with (go_at_call 46; (with_reducible refine (newH w2).mono ?_); rintro e w3 ⟨rfl, k1, k2⟩; have H3 := Aside0.mk k1; have HB3 := Aside0.mk k2; clear k1 k2)
  obtain ⟨g, hgg⟩ : ∃ g, w2.heap.size = g := ⟨_, rfl⟩
  have HG := Aside0.mk hgg
  rw [hgg] at H3 ⊢
  clear hgg
  have HRG : Aside0 (r1 < g ∧ w.heap.size ≤ r1 ∧ 6 < g ∧ gm < g) := ⟨by have h1 := blk_lt' HG2.out; have h2 := HR1.out; have h3 := HG.out; have h4 := HKL.out; have h5 := HB1.out.size; have h6 := HGM.out; omega⟩
  have HBb := Aside0.mk (below_tr HBa.out HB3.out)
  have HG3 := Aside0.mk ((HB3.out.block r1 (blk_lt' HG2.out)).trans HG2.out)
  have HK3 := Aside0.mk (HK.out.below HBb.out)
  have HC3 := Aside0.mk (HWR.out g r1 w3.drew [] ((dig_new kl H3.out).same (w1 := w3.drew) rfl) (by decide) HG3.out (by have := HRG.out; omega) (HK3.out) (by have := HRG.out; omega))
  have hs32 := slice_32 r1
  unfold hv
  refine start_ (n := 6) (S := fun w' => True) (ds := []) #[false, false, false, false, false, false] (by kernel_rfl) rfl rfl trivial (fun hHeld => ?_)
  refine pure_ (i := 0) (N := some 15) (v := ?_) (a' := ?_) #[true, false, false, false, false, false] rfl rfl (by kernel_rfl) (fun _ _ _ h => h) (Or.inl ⟨by rfl, ?_⟩) ?_ ?_
  rotate_left
  · intro w'
    go_simp
    with_reducible rfl
  rotate_left
  · simp only [Act.put, List.setIfInBounds_toArray, List.set_cons_zero, List.set_cons_succ, i64_w, i32_w]
    rfl
  refine pure_ (i := 1) (N := some 16) (v := ?_) (a' := ?_) #[true, true, false, false, false, false] rfl rfl (by kernel_rfl) (fun _ _ _ h => h) (Or.inl ⟨by rfl, ?_⟩) ?_ ?_
  rotate_left
  · intro w'
    go_simp
    with_reducible rfl
  rotate_left
  · simp only [Act.put, List.setIfInBounds_toArray, List.set_cons_zero, List.set_cons_succ, i64_w, i32_w]
    rfl
  refine pure_ (i := 2) (N := some 17) (v := ?_) (a' := ?_) #[true, true, true, false, false, false] rfl rfl (by kernel_rfl) (fun _ _ _ h => h) (Or.inl ⟨by rfl, ?_⟩) ?_ ?_
  rotate_left
  · intro w'
    go_simp
    with_reducible rfl
  rotate_left
  · simp only [Act.put, List.setIfInBounds_toArray, List.set_cons_zero, List.set_cons_succ, i64_w, i32_w]
    rfl
  refine pure_ (i := 3) (N := some 18) (v := ?_) (a' := ?_) #[true, true, true, true, false, false] rfl rfl (by kernel_rfl) (fun _ _ _ h => h) (Or.inl ⟨by rfl, ?_⟩) ?_ ?_
  rotate_left
  · intro w'
    refine Snk.nil_run (nWrite ⟨g, 0, none⟩) _ (.tmp 17) ?_ ?_ <;> rfl
  rotate_left
  · simp only [Act.put, List.setIfInBounds_toArray, List.set_cons_zero, List.set_cons_succ, i64_w, i32_w]
    rfl
  refine pure_ (i := 4) (N := some 19) (v := ?_) (a' := ?_) #[true, true, true, true, true, false] rfl rfl (by kernel_rfl) (fun _ _ _ h => h) (Or.inl ⟨by rfl, ?_⟩) ?_ ?_
  rotate_left
  · intro w'
    go_simp
    with_reducible rfl
  rotate_left
  · simp only [Act.put, List.setIfInBounds_toArray, List.set_cons_zero, List.set_cons_succ, i64_w, i32_w]
    rfl
  refine one_ (i := 5) (N := some 20) #[true, true, true, true, true, true] rfl rfl (by kernel_rfl) (by decide) (fun K hK => ?_)
  refine goesI_ (by rfl) rfl (.tmp 19) "Write" rfl 107 _ rfl 105 (mWrite _) Tryd.func105 rfl rfl #[.pointer (some ⟨g, 0, none⟩), .slice (some ⟨r1, 0, none⟩) 32 32] (by (try simp only [List.map_toArray, List.map_cons, List.map_nil]); first | done | rfl | (simp only [List.length_drop, List.length_take]; rfl)) ?_
  with_reducible refine HC3.out.mono ?_
  rintro e w4 ⟨rfl, k1, k2⟩
  refine ⟨_, rfl, ?_⟩
  have HDw4 := Aside0.mk k1
  have HOw4 := Aside0.mk k2
  clear k1 k2
  refine hK.out _ _ trivial (fun hHeld => ?_)
  clear hK K
  refine norm_ (a' := ?_) ?_ ?_
  rotate_left
  · show Act.put _ (some 20) _ = _
    simp only [Act.put, List.setIfInBounds_toArray, List.set_cons_zero, List.set_cons_succ, i64_w, i32_w]
    rfl
  refine done_ (by kernel_rfl) ?_
  have HG4 := Aside0.mk ((HOw4.out.block r1 (blk_lt' HG3.out) (by have := HRG.out; omega)).trans HG3.out)
  have HBc := Aside0.mk (HOw4.out.below (below_drew HBb.out) (by have := HRG.out; omega) HBb.out.size)
  have HK4 := Aside0.mk (HK.out.below HBc.out)
  have HC4 := Aside0.mk (HWR.out g r1 w4.drew ([] ++ h1) (HDw4.out.same (w1 := w4.drew) rfl) (by rw [List.nil_append, HL1.out]; decide) HG4.out (by have := HRG.out; omega) HK4.out (by have := HRG.out; omega))
  go_upto_region 4 with fail
  refine start_ (n := 6) (S := fun w' => True) (ds := []) #[false, false, false, false, false, false] (by kernel_rfl) rfl rfl trivial (fun hHeld => ?_)
  refine pure_ (i := 0) (N := some 21) (v := ?_) (a' := ?_) #[true, false, false, false, false, false] rfl rfl (by kernel_rfl) (fun _ _ _ h => h) (Or.inl ⟨by rfl, ?_⟩) ?_ ?_
  rotate_left
  · intro w'
    go_simp
    with_reducible rfl
  rotate_left
  · simp only [Act.put, List.setIfInBounds_toArray, List.set_cons_zero, List.set_cons_succ, i64_w, i32_w]
    rfl
  refine pure_ (i := 1) (N := some 22) (v := ?_) (a' := ?_) #[true, true, false, false, false, false] rfl rfl (by kernel_rfl) (fun _ _ _ h => h) (Or.inl ⟨by rfl, ?_⟩) ?_ ?_
  rotate_left
  · intro w'
    go_simp
    with_reducible rfl
  rotate_left
  · simp only [Act.put, List.setIfInBounds_toArray, List.set_cons_zero, List.set_cons_succ, i64_w, i32_w]
    rfl
  refine pure_ (i := 2) (N := some 23) (v := ?_) (a' := ?_) #[true, true, true, false, false, false] rfl rfl (by kernel_rfl) (fun _ _ _ h => h) (Or.inl ⟨by rfl, ?_⟩) ?_ ?_
  rotate_left
  · intro w'
    go_simp
    with_reducible rfl
  rotate_left
  · simp only [Act.put, List.setIfInBounds_toArray, List.set_cons_zero, List.set_cons_succ, i64_w, i32_w]
    rfl
  refine pure_ (i := 3) (N := some 24) (v := ?_) (a' := ?_) #[true, true, true, true, false, false] rfl rfl (by kernel_rfl) (fun _ _ _ h => h) (Or.inl ⟨by rfl, ?_⟩) ?_ ?_
  rotate_left
  · intro w'
    refine Snk.nil_run (nWrite ⟨g, 0, none⟩) _ (.tmp 23) ?_ ?_ <;> rfl
  rotate_left
  · simp only [Act.put, List.setIfInBounds_toArray, List.set_cons_zero, List.set_cons_succ, i64_w, i32_w]
    rfl
  refine pure_ (i := 4) (N := some 25) (v := ?_) (a' := ?_) #[true, true, true, true, true, false] rfl rfl (by kernel_rfl) (fun _ _ _ h => h) (Or.inl ⟨by rfl, ?_⟩) ?_ ?_
  rotate_left
  · intro w'
    go_simp
    with_reducible rfl
  rotate_left
  · simp only [Act.put, List.setIfInBounds_toArray, List.set_cons_zero, List.set_cons_succ, i64_w, i32_w]
    rfl
  refine one_ (i := 5) (N := some 26) #[true, true, true, true, true, true] rfl rfl (by kernel_rfl) (by decide) (fun K hK => ?_)
  refine goesI_ (by rfl) rfl (.tmp 25) "Write" rfl 107 _ rfl 105 (mWrite _) Tryd.func105 rfl rfl #[.pointer (some ⟨g, 0, none⟩), .slice (some ⟨r1, 0, none⟩) 32 32] (by (try simp only [List.map_toArray, List.map_cons, List.map_nil]); first | done | rfl | (simp only [List.length_drop, List.length_take]; rfl)) ?_
  with_reducible refine HC4.out.mono ?_
  rintro e w5 ⟨rfl, k1, k2⟩
  refine ⟨_, rfl, ?_⟩
  have HDw5 := Aside0.mk k1
  have HOw5 := Aside0.mk k2
  clear k1 k2
  refine hK.out _ _ trivial (fun hHeld => ?_)
  clear hK K
  refine norm_ (a' := ?_) ?_ ?_
  rotate_left
  · show Act.put _ (some 26) _ = _
    simp only [Act.put, List.setIfInBounds_toArray, List.set_cons_zero, List.set_cons_succ, i64_w, i32_w]
    rfl
  refine done_ (by kernel_rfl) ?_
  have HBd := Aside0.mk (HOw5.out.below (below_drew HBc.out) (by have := HRG.out; omega) HBc.out.size)
  have HD5 : Aside0 (DigS w5 g kl (h1 ++ (h1 ++ cat pf 0)) ((h1 ++ (h1 ++ cat pf 0)).length : Int)) := ⟨by have := HDw5.out; rw [List.nil_append] at this; rw [show cat pf 0 = [] from rfl, List.append_nil]; exact this⟩
  clear hs32
  go_upto_region 6 with fail
  have HBd0 := HBd
  go_loopw [29] (fun v29 wr => ∃ i : Nat, i ≤ k ∧ v29 = .int .i64 i ∧ Aside0 (DigS wr g kl (h1 ++ (h1 ++ cat pf i)) ((h1 ++ (h1 ++ cat pf i)).length : Int)) ∧ Aside0 (Below w.heap.size w wr)) (fun v29 _ => k - (intOf v29).toNat)
  case atStart => exact ⟨0, Nat.zero_le _, rfl, HD5, HBd0⟩
  case round =>
    clear HD5 HBd0 HBd HDw5 HOw5 HC4 HDw4 HOw4 HG4 HK4 HBc HC3 HK3 HG3 HBb HB3 H3 HBa HG2 HB2 HB1 HC1
    obtain ⟨i, hi, rfl, HDi, HBi⟩ := hrel
    have HI := Aside0.mk hi
    by_cases hlt : i < k
    · have hlti : (i : Int) < k := by omega
      have HLT := Aside0.mk hlt
      have hcell : wr.cell? ⟨gm, i, none⟩ = some (.slice (Af i) (nf i) (cf i)) := pw_cell_below HBi.out (HM.out i hlt).1
      have HC : Aside0 (Calls Tryd.prog 105 #[.pointer (some ⟨g, 0, none⟩), .slice (Af i) (nf i) (cf i)] wr fun e w' => (∃ v, e = .returned v) ∧ DigS w' g kl (h1 ++ (h1 ++ cat pf (i + 1))) ((h1 ++ (h1 ++ cat pf (i + 1))).length : Int) ∧ Only g wr w') := ⟨by
        obtain ⟨_, q2, q3⟩ := HM.out i hlt
        have hpl : (pf i).length = nf i := q2.1
        have hle := cat_le pf (i := i + 1) (k := k) (by omega)
        rw [cat, List.length_append] at hle
        have h := writeC g kl (h1 ++ (h1 ++ cat pf i)) (pf i) (Af i) (cf i) wr HDi.out (by rw [hpl]; exact rds_below q2 HBi.out (by have := HRG.out; omega)) (by omega) (by have := HLEN.out; simp only [List.length_append, HL1.out]; omega) (HK.out.below HBi.out) (by have := HRG.out; omega)
        rw [hpl, List.append_assoc, List.append_assoc] at h
        exact h.mono fun e w' ⟨he, h6, h7⟩ => ⟨⟨_, he⟩, h6, h7⟩⟩
      clear hi hlt
      go_wp2_with (refine invL_ (some 35) rfl rfl (.tmp 33) "Write" rfl 107 _ rfl 105 (mWrite _) Tryd.func105 rfl rfl #[.pointer (some ⟨g, 0, none⟩), .slice (Af i) (nf i) (cf i)] (by simp only [List.map_toArray, List.map_cons, List.map_nil]; rfl) ?_; (with_reducible refine HC.out.mono ?_); rintro e w6 ⟨⟨v9, rfl⟩, k1, k2⟩; refine ⟨_, rfl, ?_⟩; have HD6 := Aside0.mk k1; have HO6 := Aside0.mk k2; clear k1 k2)
      go_roundw
      case rel => exact ⟨i + 1, by have := HLT.out; omega, by go_num, HD6, ⟨HO6.out.below HBi.out (by have := HRG.out; omega) HBi.out.size⟩⟩
      case measure => simp [intOf]; have := HLT.out; omega
    · obtain rfl : i = k := by omega
      have hge : ¬ (i : Int) < i := by omega
      have HCS := Aside0.mk (HSU.out g wr HDi.out (HK.out.below HBi.out) (Nat.lt_of_lt_of_le HKL.out HBi.out.size))
      go_upto_region 11 with (refine invL_ (some 38) rfl rfl (.tmp 37) "Sum" rfl 107 _ rfl 104 (mSum _) Tryd.func104 rfl rfl #[.pointer (some ⟨g, 0, none⟩), .slice none 0 0] (by simp only [List.map_toArray, List.map_cons, List.map_nil]; rfl) ?_; (with_reducible refine HCS.out.mono ?_); rintro e w6 ⟨v, rfl, k1, k2⟩; refine ⟨_, rfl, ?_⟩; obtain ⟨gs, cs, rfl, k3⟩ := owns32 k1 HL2.out; have HR6 := Aside0.mk k3; have HB6 := Aside0.mk k2; clear k1 k2 k3)
      have HC7 := Aside0.mk (HNH.out w6 _ cs HR6.out)
      go_wp2_with (go_at_call 61; (with_reducible refine HC7.out.mono ?_); rintro e w7 ⟨g9, rfl, k1, k2, k3⟩; have H7 := Aside0.mk k1; have HG7 := Aside0.mk k2; have HB7 := Aside0.mk k3; clear k1 k2 k3)
      go_ret
      exact ⟨g9, rfl, H7.out, by have h1 := HG7.out; have h2 := HB6.out.size; have h3 := HBi.out.size; omega, below_tr (below_tr HBi.out HB6.out) HB7.out⟩
end Go.Proofs.YtigpdgfhngknhaaDoor.Sha
/- Rows of bytes as cells. -/
namespace Go.Proofs.YtigpdgfhngknhaaDoor.Snk
open Go.RowKit Go.Proofs.YtigpdgfhngknhaaDoorW.PrintWords
def byteC (l : List Int) : List Value := l.map (Value.int .u8)
theorem byteC_len (l : List Int) : (byteC l).length = l.length := List.length_map _
theorem byteC_at {l : List Int} {j : Nat} (h : j < l.length) : (byteC l)[j]? = some (.int .u8 (l.getD j 0)) := by
  unfold byteC
  rw [List.getElem?_map, List.getD_eq_getElem?_getD, List.getElem?_eq_getElem h]; rfl
theorem byteC_set (l : List Int) (j : Nat) (v : Int) : (byteC l).set j (.int .u8 v) = byteC (l.set j v) := by unfold byteC; rw [List.map_set]
theorem row_set {l : List Int} {t : TypeId} {W : World} {g : Nat} (h : W.heap[g]? = some (.cells (byteC l).toArray t (0, 0))) (j : Nat) (v : Int) : (W.setCell ⟨g, j, none⟩ (.int .u8 v)).heap[g]? = some (.cells (byteC (l.set j v)).toArray t (0, 0)) := by
  rw [heap_set_same h (j := j) (.int .u8 v), List.setIfInBounds_toArray, byteC_set]
theorem row_cell {l : List Int} {t : TypeId} {W : World} {g : Nat} (h : W.heap[g]? = some (.cells (byteC l).toArray t (0, 0))) (j : Nat) (hj : j < l.length) : W.cell? ⟨g, j, none⟩ = some (.int .u8 (l.getD j 0)) :=
  cell_of h (by rw [List.getElem?_toArray]; exact byteC_at hj)
end Go.Proofs.YtigpdgfhngknhaaDoor.Snk
/- Four bytes laid down, the least first. -/
namespace Go.Proofs.YtigpdgfhngknhaaDoor.Snk
open Go.RowKit Go.Proofs.YtigpdgfhngknhaaDoorW.PrintWords Go.Proofs.YtigpdgfhngknhaaDoorW.PrintLast Go.Proofs.YtigpdgfhngknhaaDoorW.PrintMore
set_option linter.unusedVariables false
set_option linter.unusedSimpArgs false
def lput4 (l : List Int) (o : Nat) (v : Int) : List Int := ((((l.set o (v % 256)).set (o + 1) ((v / 256) % 256)).set (o + 2) ((v / 65536) % 256)).set (o + 3) ((v / 16777216) % 256))
def le4 (v : Int) : List Int := [v % 256, (v / 256) % 256, (v / 65536) % 256, (v / 16777216) % 256]
theorem lput4_len (l : List Int) (o : Nat) (v : Int) : (lput4 l o v).length = l.length := by unfold lput4; simp only [List.length_set]
theorem lput4_take (l : List Int) (v : Int) (hl : 4 ≤ l.length) : (lput4 l 0 v).take 4 = le4 v := by
  match l, hl with
  | a :: b :: c :: d :: r, _ => rfl
set_option maxRecDepth 100000 in
set_option maxHeartbeats 4000000 in
theorem lput4C (g o n c : Nat) (l : List Int) (t : TypeId) (v : Int) (E : Value) (w : World) (h : w.heap[g]? = some (.cells (byteC l).toArray t (0, 0))) (ho : o + 4 ≤ l.length) (hn : 4 ≤ n) :
    Calls Tryd.prog 53 #[.agg #[], .slice (some ⟨g, o, none⟩) n c, .int .u32 v] w fun e w' => e = .returned (.tuple #[]) ∧ w'.heap[g]? = some (.cells (byteC (lput4 l o v)).toArray t (0, 0)) ∧ Only g w w' := by
  have hn1 : 3 < (n : Int) := by omega
  have GW := Aside0.mk h
  have HO := Aside0.mk ho
  clear h ho
  go_enter Tryd.func53, Tryd.ntmps53
  go_upto_region 1 with fail
  generalize hv0 : World.alloc _ _ = v0
  have O0 : Aside0 (Only g w v0) := ⟨by rw [← hv0]; exact (Only.refl g w).alloc _⟩
  have G0 : Aside0 (v0.heap[g]? = some (.cells (byteC l).toArray t (0, 0))) := ⟨by rw [← hv0]; exact heap_alloc_lt GW.out _⟩
  clear hv0
  have z9 := row_cell G0.out (o + 3) (by have := HO.out; omega)
  go_upto_region 2 with fail
  clear z9
  have z0 := row_cell G0.out (o) (by have := HO.out; (try simp only [List.length_set]); omega)
  have f0 := frozen_of G0.out (o)
  go_upto_region 3 with fail
  generalize hv1 : World.setCell _ _ _ = v1
  have G1 : Aside0 (v1.heap[g]? = some (.cells (byteC (l.set o (v % 256))).toArray t (0, 0))) := ⟨by rw [← hv1]; exact row_set G0.out _ _⟩
  have O1 : Aside0 (Only g w v1) := ⟨by rw [← hv1]; exact O0.out.set _ _⟩
  clear hv1 z0 f0
  have z1 := row_cell G1.out (o + 1) (by have := HO.out; (try simp only [List.length_set]); omega)
  have f1 := frozen_of G1.out (o + 1)
  go_upto_region 4 with fail
  generalize hv2 : World.setCell _ _ _ = v2
  have G2 : Aside0 (v2.heap[g]? = some (.cells (byteC ((l.set o (v % 256)).set (o + 1) ((v / 256) % 256))).toArray t (0, 0))) := ⟨by rw [← hv2]; exact row_set G1.out _ _⟩
  have O2 : Aside0 (Only g w v2) := ⟨by rw [← hv2]; exact O1.out.set _ _⟩
  clear hv2 z1 f1
  have z2 := row_cell G2.out (o + 2) (by have := HO.out; (try simp only [List.length_set]); omega)
  have f2 := frozen_of G2.out (o + 2)
  go_upto_region 5 with fail
  generalize hv3 : World.setCell _ _ _ = v3
  have G3 : Aside0 (v3.heap[g]? = some (.cells (byteC (((l.set o (v % 256)).set (o + 1) ((v / 256) % 256)).set (o + 2) ((v / 65536) % 256))).toArray t (0, 0))) := ⟨by rw [← hv3]; exact row_set G2.out _ _⟩
  have O3 : Aside0 (Only g w v3) := ⟨by rw [← hv3]; exact O2.out.set _ _⟩
  clear hv3 z2 f2
  have z3 := row_cell G3.out (o + 3) (by have := HO.out; (try simp only [List.length_set]); omega)
  have f3 := frozen_of G3.out (o + 3)
  go_wp2_with fail
  go_end0
  exact ⟨rfl, row_set G3.out _ _, O3.out.set _ _⟩
end Go.Proofs.YtigpdgfhngknhaaDoor.Snk
/- Bytes of a number laid down, the least first. -/
namespace Go.Proofs.YtigpdgfhngknhaaDoor.Snk
open Go.RowKit Go.Proofs.YtigpdgfhngknhaaDoorW.PrintWords Go.Proofs.YtigpdgfhngknhaaDoorW.PrintLast Go.Proofs.YtigpdgfhngknhaaDoorW.PrintMore
set_option linter.unusedVariables false
set_option linter.unusedSimpArgs false
def lput2 (l : List Int) (o : Nat) (v : Int) : List Int := ((l.set o (v % 256)).set (o + 1) ((v / 256) % 256))
def le2 (v : Int) : List Int := [v % 256, (v / 256) % 256]
theorem lput2_len (l : List Int) (o : Nat) (v : Int) : (lput2 l o v).length = l.length := by unfold lput2; simp only [List.length_set]
theorem lput2_take (l : List Int) (v : Int) (hl : 2 ≤ l.length) : (lput2 l 0 v).take 2 = le2 v := by
  match l, hl with
  | a0 :: a1 :: r, _ => rfl
set_option maxRecDepth 100000 in
set_option maxHeartbeats 4000000 in
theorem lput2C (g o n c : Nat) (l : List Int) (t : TypeId) (v : Int) (E : Value) (w : World) (h : w.heap[g]? = some (.cells (byteC l).toArray t (0, 0))) (ho : o + 2 ≤ l.length) (hn : 2 ≤ n) :
    Calls Tryd.prog 72 #[.agg #[], .slice (some ⟨g, o, none⟩) n c, .int .u16 v] w fun e w' => e = .returned (.tuple #[]) ∧ w'.heap[g]? = some (.cells (byteC (lput2 l o v)).toArray t (0, 0)) ∧ Only g w w' := by
  have hn1 : 1 < (n : Int) := by omega
  have GW := Aside0.mk h
  have HO := Aside0.mk ho
  clear h ho
  go_enter Tryd.func72, Tryd.ntmps72
  go_upto_region 1 with fail
  generalize hv0 : World.alloc _ _ = v0
  have O0 : Aside0 (Only g w v0) := ⟨by rw [← hv0]; exact (Only.refl g w).alloc _⟩
  have G0 : Aside0 (v0.heap[g]? = some (.cells (byteC l).toArray t (0, 0))) := ⟨by rw [← hv0]; exact heap_alloc_lt GW.out _⟩
  clear hv0
  have z9 := row_cell G0.out (o + 1) (by have := HO.out; omega)
  go_upto_region 2 with fail
  clear z9
  have z0 := row_cell G0.out (o) (by have := HO.out; (try simp only [List.length_set]); omega)
  have f0 := frozen_of G0.out (o)
  go_upto_region 3 with fail
  generalize hv1 : World.setCell _ _ _ = v1
  have G1 : Aside0 (v1.heap[g]? = some (.cells (byteC (l.set o (v % 256))).toArray t (0, 0))) := ⟨by rw [← hv1]; exact row_set G0.out _ _⟩
  have O1 : Aside0 (Only g w v1) := ⟨by rw [← hv1]; exact O0.out.set _ _⟩
  clear hv1 z0 f0
  have z1 := row_cell G1.out (o + 1) (by have := HO.out; (try simp only [List.length_set]); omega)
  have f1 := frozen_of G1.out (o + 1)
  go_wp2_with fail
  go_end0
  exact ⟨rfl, row_set G1.out _ _, O1.out.set _ _⟩
end Go.Proofs.YtigpdgfhngknhaaDoor.Snk
/- A header is written. -/
namespace Go.Proofs.YtigpdgfhngknhaaDoor.Snk
open Go.RowKit Go.Proofs.YtigpdgfhngknhaaDoorW.PrintWords Go.Proofs.YtigpdgfhngknhaaDoorW.PrintLast Go.Proofs.YtigpdgfhngknhaaDoorW.PrintMore
set_option linter.unusedVariables false
set_option linter.unusedSimpArgs false
theorem add_any (g o j : Nat) : (⟨g, o, none⟩ : Addr).add j = ⟨g, o + j, none⟩ := by
  unfold Addr.add
  split
  · rename_i h; rw [h]; rfl
  · rfl
/-- A header's numbers. -/
structure HdV where
  v : Int
  p : List Int
  r : List Int
  t : Int
  b : Int
  n : Int
structure HdV.ok (h : HdV) : Prop where
  v0 : -2147483648 ≤ h.v
  v1 : h.v < 2147483648
  p : h.p.length = 32
  r : h.r.length = 32
  t0 : 0 ≤ h.t
  t1 : h.t < 4294967296
  b0 : 0 ≤ h.b
  b1 : h.b < 4294967296
  n0 : 0 ≤ h.n
  n1 : h.n < 4294967296
def HdV.bytes (h : HdV) : List Int := le4 (h.v % 4294967296) ++ (h.p ++ (h.r ++ (le4 h.t ++ (le4 h.b ++ le4 h.n))))
/-- A header of the text, at the head of block g. -/
structure HdAt (w : World) (g : Nat) (h : HdV) : Prop where
  v : w.cell? ⟨g, 0, none⟩ = some (.int .i32 h.v)
  p : ∀ j, j < 32 → w.cell? ⟨g, 1 + j, none⟩ = some (.int .u8 (h.p.getD j 0))
  r : ∀ j, j < 32 → w.cell? ⟨g, 33 + j, none⟩ = some (.int .u8 (h.r.getD j 0))
  t : w.cell? ⟨g, 65, none⟩ = some (.int .i64 h.t)
  b : w.cell? ⟨g, 66, none⟩ = some (.int .u32 h.b)
  n : w.cell? ⟨g, 67, none⟩ = some (.int .u32 h.n)
theorem HdAt.below {w w1 : World} {g : Nat} {h : HdV} (k : HdAt w g h) (hb : Below w.heap.size w w1) : HdAt w1 g h :=
  ⟨pw_cell_below hb k.v, fun j hj => pw_cell_below hb (k.p j hj), fun j hj => pw_cell_below hb (k.r j hj), pw_cell_below hb k.t, pw_cell_below hb k.b, pw_cell_below hb k.n⟩
theorem HdAt.readP {w : World} {g : Nat} {h : HdV} (k : HdAt w g h) (ho : h.ok) : ReadsInt w .u8 (some ⟨g, 1, none⟩) 32 h.p := ⟨ho.p, by decide, fun _ => ⟨_, rfl, fun j hj => by rw [add_any]; exact k.p j hj⟩⟩
theorem HdAt.readR {w : World} {g : Nat} {h : HdV} (k : HdAt w g h) (ho : h.ok) : ReadsInt w .u8 (some ⟨g, 33, none⟩) 32 h.r := ⟨ho.r, by decide, fun _ => ⟨_, rfl, fun j hj => by rw [add_any]; exact k.r j hj⟩⟩
theorem HdAt.lt {w : World} {g : Nat} {h : HdV} (k : HdAt w g h) : g < w.heap.size := World.block_lt_of_cell? w _ k.v
theorem read4 {w : World} {g : Nat} {l : List Int} {t : TypeId} (h : w.heap[g]? = some (.cells (byteC l).toArray t (0, 0))) (hl : l.length = 8) : ReadsInt w .u8 (some ⟨g, 0, none⟩) 4 (l.take 4) :=
  ⟨by rw [List.length_take]; omega, by decide, fun _ => ⟨_, rfl, fun j hj => by
    rw [add_any, Nat.zero_add, row_cell h j (by omega), List.getD_eq_getElem?_getD, List.getD_eq_getElem?_getD, List.getElem?_take_of_lt hj]⟩⟩
theorem le4_len (v : Int) : (le4 v).length = 4 := rfl
set_option maxRecDepth 100000 in
theorem timeUnixC (t : Int) (w : World) : Calls Tryd.prog 33 #[.agg #[.int .i64 t]] w fun e w' => e = .returned (.int .i64 t) ∧ Below w.heap.size w w' := by
  go_enter Tryd.func33, Tryd.ntmps33
  go_wp2_with fail
  go_ret
  exact ⟨rfl, below_alloc (Below.refl _ _) _⟩
set_option maxRecDepth 100000 in
set_option maxHeartbeats 8000000 in
theorem hdrBufC {w0 : World} {T : TypeId} {v : Value} {f M : Nat} (S : Sink Tryd.prog w0 T v f M) {fn : Func} (hf : Tryd.prog.funcs[f]? = some fn) (hname : (fn.name == "runtime.NumGoroutine") = false) (hbd : fn.body.isSome = true) (g gb : Nat) (h : HdV) (ho : h.ok) (hd : HdAt w0 g h) (wE w : World) (bs l : List Int) (tb : TypeId)
    (hs : S.St w bs) (hE : Step S wE w) (hgE : wE.heap.size ≤ gb) (hg0 : w0.heap.size ≤ gb) (hno : ¬ S.own w gb) (hl : l.length = 8) (hrow : w.heap[gb]? = some (.cells (byteC l).toArray tb (0, 0))) (hM : bs.length + 80 ≤ M) :
    Calls Tryd.prog 43 #[.iface T v, .int .u32 0, .pointer (some ⟨g, 0, none⟩), .slice (some ⟨gb, 0, none⟩) 8 8] w fun e w' => e = .returned .nilIface ∧ S.St w' (bs ++ h.bytes) ∧ Step S wE w' := by
  have HF := Aside0.mk hf
  have HNM := Aside0.mk hname
  have HBD := Aside0.mk hbd
  have HO := Aside0.mk ho
  have HD := Aside0.mk hd
  have HM := Aside0.mk hM
  have HGE := Aside0.mk hgE
  have HG0 := Aside0.mk hg0
  have HS0 := Aside0.mk hs
  have HE0 := Aside0.mk hE
  have HN0 := Aside0.mk hno
  have HL0 := Aside0.mk hl
  have HR0 := Aside0.mk hrow
  have HGN : Aside0 (∀ w bs, S.St w bs → ¬ S.own w g) := ⟨fun w bs h1 h2 => absurd (S.fresh h1 h2).1 (Nat.not_le.2 hd.lt)⟩
  have ho1 : 0 ≤ h.t := ho.t0
  have ho2 : h.t < 4294967296 := ho.t1
  have HT : Aside0 (h.t % 4294967296 = h.t) := ⟨by omega⟩
  obtain ⟨bs0, hb0⟩ : ∃ b, b = bs := ⟨_, rfl⟩
  have HB0 := Aside0.mk hb0
  rw [← hb0] at HS0
  clear hf hname hbd hd hM hgE hg0 hs hE hno hl hrow hb0 ho ho1 ho2
  go_enter Tryd.func43, Tryd.ntmps43
  go_upto_region 1 with fail
  have hz0 := (show (w.drew).cell? ⟨g, 0, none⟩ = some (.int .i32 h.v) from (HD.out.below (S.below HS0.out)).v)
  have C1 : Aside0 (w.drew.cell? ⟨g, 0, none⟩ = some (.int .i32 h.v)) := ⟨hz0⟩
  have HRd1 : Aside0 ((World.drew w).heap[gb]? = _) := ⟨HR0.out⟩
  refine start_ (n := 9) (S := fun w' => w'.cell? ⟨g, 0, none⟩ = some (.int .i32 h.v)) (ds := []) #[false, false, false, false, false, false, false, false, false] (by kernel_rfl) rfl rfl C1.out (fun hHeld => ?_)
  refine take_ (i := 0) (N := some 21) (v := ?_) (a' := ?_) #[true, false, false, false, false, false, false, false, false] rfl rfl (by kernel_rfl) (fun _ _ _ h => h) (Or.inl ⟨by rfl, ?_⟩) hHeld ?_ ?_
  rotate_left
  · rintro w' s0
    go_simp
    with_reducible rfl
  rotate_left
  · simp only [Act.put, List.setIfInBounds_toArray, List.set_cons_zero, List.set_cons_succ, i64_w, i32_w]
    rfl
  refine pure_ (i := 1) (N := some 22) (v := ?_) (a' := ?_) #[true, true, false, false, false, false, false, false, false] rfl rfl (by kernel_rfl) (fun _ _ _ h => h) (Or.inl ⟨by rfl, ?_⟩) ?_ ?_
  rotate_left
  · intro w'
    go_simp
    with_reducible rfl
  rotate_left
  · simp only [Act.put, List.setIfInBounds_toArray, List.set_cons_zero, List.set_cons_succ, i64_w, i32_w]
    rfl
  refine pure_ (i := 2) (N := some 23) (v := ?_) (a' := ?_) #[true, true, true, false, false, false, false, false, false] rfl rfl (by kernel_rfl) (fun _ _ _ h => h) (Or.inl ⟨by rfl, ?_⟩) ?_ ?_
  rotate_left
  · intro w'
    go_simp
    with_reducible rfl
  rotate_left
  · simp only [Act.put, List.setIfInBounds_toArray, List.set_cons_zero, List.set_cons_succ, i64_w, i32_w]
    rfl
  refine pure_ (i := 3) (N := some 24) (v := ?_) (a' := ?_) #[true, true, true, true, false, false, false, false, false] rfl rfl (by kernel_rfl) (fun _ _ _ h => h) (Or.inl ⟨by rfl, ?_⟩) ?_ ?_
  rotate_left
  · intro w'
    go_simp
    with_reducible rfl
  rotate_left
  · simp only [Act.put, List.setIfInBounds_toArray, List.set_cons_zero, List.set_cons_succ, i64_w, i32_w]
    rfl
  refine pure_ (i := 4) (N := some 25) (v := ?_) (a' := ?_) #[true, true, true, true, true, false, false, false, false] rfl rfl (by kernel_rfl) (fun _ _ _ h => h) (Or.inl ⟨by rfl, ?_⟩) ?_ ?_
  rotate_left
  · intro w'
    go_simp
    with_reducible rfl
  rotate_left
  · simp only [Act.put, List.setIfInBounds_toArray, List.set_cons_zero, List.set_cons_succ, i64_w, i32_w]
    rfl
  refine pure_ (i := 5) (N := some 26) (v := ?_) (a' := ?_) #[true, true, true, true, true, true, false, false, false] rfl rfl (by kernel_rfl) (fun _ _ _ h => h) (Or.inl ⟨by rfl, ?_⟩) ?_ ?_
  rotate_left
  · intro w'
    go_simp
    with_reducible rfl
  rotate_left
  · simp only [Act.put, List.setIfInBounds_toArray, List.set_cons_zero, List.set_cons_succ, i64_w, i32_w]
    rfl
  refine take_ (i := 6) (N := some 27) (v := ?_) (a' := ?_) #[true, true, true, true, true, true, true, false, false] rfl rfl (by kernel_rfl) (fun _ _ _ h => h) (Or.inl ⟨by rfl, ?_⟩) hHeld ?_ ?_
  rotate_left
  · rintro w' s0
    go_simp
    with_reducible rfl
  rotate_left
  · simp only [Act.put, List.setIfInBounds_toArray, List.set_cons_zero, List.set_cons_succ, i64_w, i32_w]
    rfl
  refine pure_ (i := 7) (N := some 28) (v := ?_) (a' := ?_) #[true, true, true, true, true, true, true, true, false] rfl rfl (by kernel_rfl) (fun _ _ _ h => h) (Or.inl ⟨by rfl, ?_⟩) ?_ ?_
  rotate_left
  · intro w'
    go_simp
    with_reducible rfl
  rotate_left
  · simp only [Act.put, List.setIfInBounds_toArray, List.set_cons_zero, List.set_cons_succ, i64_w, i32_w]
    rfl
  refine one_ (i := 8) (N := some 29) #[true, true, true, true, true, true, true, true, true] rfl rfl (by kernel_rfl) (by decide) (fun K hK => ?_)
  refine goes_ Tryd.func53 (by kernel_rfl) rfl #[.agg #[], .slice (some ⟨gb, 0, none⟩) 4 8, .int .u32 (h.v % 4294967296)] (by rfl) rfl rfl (by (try simp only [List.map_toArray, List.map_cons, List.map_nil]); first | done | rfl | (simp only [List.length_drop, List.length_take]; rfl)) ?_
  with_reducible refine (lput4C gb 0 4 8 _ _ (h.v % 4294967296) (.agg #[]) _ HRd1.out (by rw [HL0.out]; decide) (by decide)).mono ?_
  rintro e v1 ⟨rfl, k1, k2⟩
  refine ⟨_, rfl, ?_⟩
  have HR1 := Aside0.mk k1
  have P1 : Aside0 (Only gb w v1) := ⟨⟨k2.os, k2.tape, k2.output, k2.size, k2.block⟩⟩
  clear k1 k2
  refine hK.out _ _ (by have := P1.out; exact this.cell (p := ⟨g, 0, none⟩) (by intro e; have h1 : g = gb := e; have h2 := HD.out.lt; have h3 := HG0.out; omega) hHeld) (fun hHeld => ?_)
  clear hK K
  refine norm_ (a' := ?_) ?_ ?_
  rotate_left
  · show Act.put _ (some 29) _ = _
    simp only [Act.put, List.setIfInBounds_toArray, List.set_cons_zero, List.set_cons_succ, i64_w, i32_w]
    rfl
  refine done_ (by kernel_rfl) ?_
  obtain ⟨hs1, he1, hn1⟩ := only_step HS0.out HE0.out HGE.out HG0.out HN0.out P1.out
  have HS1 := Aside0.mk hs1
  have HE1 := Aside0.mk he1
  have HN1 := Aside0.mk hn1
  have HL1 : Aside0 ((lput4 l 0 (h.v % 4294967296)).length = 8) := ⟨by rw [lput4_len]; exact HL0.out⟩
  clear hs1 he1 hn1 hHeld
  clear hz0
  go_upto_region 2 with fail
  obtain ⟨q2, hq2⟩ : ∃ q, q = le4 (h.v % 4294967296) := ⟨_, rfl⟩
  have HQ2 := Aside0.mk hq2
  have HW2 : Aside0 (Calls Tryd.prog f #[v, .slice (some ⟨gb, 0, none⟩) 4 8] (World.drew v1) fun e w' => e = .returned (.tuple #[.int .i64 4, .nilIface]) ∧ S.St w' (bs0 ++ q2) ∧ Step S v1 w') := ⟨by
    subst hq2
    have b0 := below_step HS1.out (show Below v1.heap.size v1 v1.drew from ⟨rfl, rfl, rfl, Nat.le_refl _, fun _ _ => rfl⟩)
    exact (S.writeC b0.1 (le4_len _) (by have h1 := HM.out; have h2 := HB0.out; have h3 := HO.out.p; have h4 := HO.out.r; subst h2; (try simp only [List.length_append, le4_len, List.length_take]); omega) (by decide) (by have := read4 (w := v1) HR1.out HL1.out; rw [lput4_take _ _ (by have := HL1.out; rw [lput4_len] at this; omega)] at this; exact this) (fun _ a e hw => by obtain rfl := Option.some.inj e; exact HN1.out (b0.2.grow gb hw |>.elim id (fun h => absurd (blk_lt' HR1.out) (Nat.not_lt.2 h))))).mono fun e w' ⟨h1, h2, h3⟩ => ⟨h1, h2, b0.2.trans h3⟩⟩
  clear hq2
  have hnl : ∀ W : World, True := fun _ => trivial
  clear hnl
  refine start_ (n := 12) (S := fun w' => True) (ds := []) #[false, false, false, false, false, false, false, false, false, false, false, false] (by kernel_rfl) rfl rfl trivial (fun hHeld => ?_)
  refine pure_ (i := 0) (N := some 31) (v := ?_) (a' := ?_) #[true, false, false, false, false, false, false, false, false, false, false, false] rfl rfl (by kernel_rfl) (fun _ _ _ h => h) (Or.inl ⟨by rfl, ?_⟩) ?_ ?_
  rotate_left
  · intro w'
    go_simp
    with_reducible rfl
  rotate_left
  · simp only [Act.put, List.setIfInBounds_toArray, List.set_cons_zero, List.set_cons_succ, i64_w, i32_w]
    rfl
  refine pure_ (i := 1) (N := some 32) (v := ?_) (a' := ?_) #[true, true, false, false, false, false, false, false, false, false, false, false] rfl rfl (by kernel_rfl) (fun _ _ _ h => h) (Or.inl ⟨by rfl, ?_⟩) ?_ ?_
  rotate_left
  · intro w'
    go_simp
    with_reducible rfl
  rotate_left
  · simp only [Act.put, List.setIfInBounds_toArray, List.set_cons_zero, List.set_cons_succ, i64_w, i32_w]
    rfl
  refine pure_ (i := 2) (N := some 33) (v := ?_) (a' := ?_) #[true, true, true, false, false, false, false, false, false, false, false, false] rfl rfl (by kernel_rfl) (fun _ _ _ h => h) (Or.inl ⟨by rfl, ?_⟩) ?_ ?_
  rotate_left
  · intro w'
    go_simp
    with_reducible rfl
  rotate_left
  · simp only [Act.put, List.setIfInBounds_toArray, List.set_cons_zero, List.set_cons_succ, i64_w, i32_w]
    rfl
  refine pure_ (i := 3) (N := some 34) (v := ?_) (a' := ?_) #[true, true, true, true, false, false, false, false, false, false, false, false] rfl rfl (by kernel_rfl) (fun _ _ _ h => h) (Or.inl ⟨by rfl, ?_⟩) ?_ ?_
  rotate_left
  · intro w'
    go_simp
    with_reducible rfl
  rotate_left
  · simp only [Act.put, List.setIfInBounds_toArray, List.set_cons_zero, List.set_cons_succ, i64_w, i32_w]
    rfl
  refine pure_ (i := 4) (N := some 35) (v := ?_) (a' := ?_) #[true, true, true, true, true, false, false, false, false, false, false, false] rfl rfl (by kernel_rfl) (fun _ _ _ h => h) (Or.inl ⟨by rfl, ?_⟩) ?_ ?_
  rotate_left
  · intro w'
    refine nil_run S.nil _ (.tmp 34) ?_ ?_ <;> rfl
  rotate_left
  · simp only [Act.put, List.setIfInBounds_toArray, List.set_cons_zero, List.set_cons_succ, i64_w, i32_w]
    rfl
  refine pure_ (i := 5) (N := some 36) (v := ?_) (a' := ?_) #[true, true, true, true, true, true, false, false, false, false, false, false] rfl rfl (by kernel_rfl) (fun _ _ _ h => h) (Or.inl ⟨by rfl, ?_⟩) ?_ ?_
  rotate_left
  · intro w'
    go_simp
    with_reducible rfl
  rotate_left
  · simp only [Act.put, List.setIfInBounds_toArray, List.set_cons_zero, List.set_cons_succ, i64_w, i32_w]
    rfl
  refine one_ (i := 6) (N := some 37) #[true, true, true, true, true, true, true, false, false, false, false, false] rfl rfl (by kernel_rfl) (by decide) (fun K hK => ?_)
  refine goesI_ (by rfl) rfl (.tmp 36) "Write" rfl T v rfl f S.meth HF.out HNM.out HBD.out #[v, .slice (some ⟨gb, 0, none⟩) 4 8] (by (try simp only [List.map_toArray, List.map_cons, List.map_nil]); first | done | rfl | (simp only [List.length_drop, List.length_take]; rfl)) ?_
  with_reducible refine HW2.out.mono ?_
  rintro e v2 ⟨rfl, k1, k2⟩
  refine ⟨_, rfl, ?_⟩
  have HS2 := Aside0.mk k1
  have X2 := Aside0.mk k2
  clear k1 k2
  refine hK.out _ _ trivial (fun hHeld => ?_)
  clear hK K
  refine norm_ (a' := ?_) ?_ ?_
  rotate_left
  · show Act.put _ (some 37) _ = _
    simp only [Act.put, List.setIfInBounds_toArray, List.set_cons_zero, List.set_cons_succ, i64_w, i32_w]
    rfl
  refine pure_ (i := 7) (N := some 30) (v := ?_) (a' := ?_) #[true, true, true, true, true, true, true, true, false, false, false, false] rfl rfl (by kernel_rfl) (fun _ _ _ h => h) (Or.inl ⟨by rfl, ?_⟩) ?_ ?_
  rotate_left
  · intro w'
    go_simp
    with_reducible rfl
  rotate_left
  · simp only [Act.put, List.setIfInBounds_toArray, List.set_cons_zero, List.set_cons_succ, i64_w, i32_w]
    rfl
  refine pure_ (i := 8) (N := some 38) (v := ?_) (a' := ?_) #[true, true, true, true, true, true, true, true, true, false, false, false] rfl rfl (by kernel_rfl) (fun _ _ _ h => h) (Or.inl ⟨by rfl, ?_⟩) ?_ ?_
  rotate_left
  · intro w'
    go_simp
    with_reducible rfl
  rotate_left
  · simp only [Act.put, List.setIfInBounds_toArray, List.set_cons_zero, List.set_cons_succ, i64_w, i32_w]
    rfl
  refine pure_ (i := 9) (N := some 39) (v := ?_) (a' := ?_) #[true, true, true, true, true, true, true, true, true, true, false, false] rfl rfl (by kernel_rfl) (fun _ _ _ h => h) (Or.inl ⟨by rfl, ?_⟩) ?_ ?_
  rotate_left
  · intro w'
    go_simp
    with_reducible rfl
  rotate_left
  · simp only [Act.put, List.setIfInBounds_toArray, List.set_cons_zero, List.set_cons_succ, i64_w, i32_w]
    rfl
  refine pure_ (i := 10) (N := some 9) (v := ?_) (a' := ?_) #[true, true, true, true, true, true, true, true, true, true, true, false] rfl rfl (by kernel_rfl) (fun _ _ _ h => h) (Or.inl ⟨by rfl, ?_⟩) ?_ ?_
  rotate_left
  · intro w'
    go_simp
    with_reducible rfl
  rotate_left
  · simp only [Act.put, List.setIfInBounds_toArray, List.set_cons_zero, List.set_cons_succ, i64_w, i32_w]
    rfl
  refine pure_ (i := 11) (N := some 10) (v := ?_) (a' := ?_) #[true, true, true, true, true, true, true, true, true, true, true, true] rfl rfl (by kernel_rfl) (fun _ _ _ h => h) (Or.inl ⟨by rfl, ?_⟩) ?_ ?_
  rotate_left
  · intro w'
    go_simp
    with_reducible rfl
  rotate_left
  · simp only [Act.put, List.setIfInBounds_toArray, List.set_cons_zero, List.set_cons_succ, i64_w, i32_w]
    rfl
  refine done_ (by kernel_rfl) ?_
  have HE2 := Aside0.mk (HE1.out.trans X2.out)
  have kr2 := X2.out.kept HN1.out HR1.out
  have HR2 := Aside0.mk kr2.1
  have HN2 := Aside0.mk kr2.2
  have HL2 := HL1
  clear kr2
  go_upto_region 5 with fail
  obtain ⟨q3, hq3⟩ : ∃ q, q = h.p := ⟨_, rfl⟩
  have HQ3 := Aside0.mk hq3
  have HW3 : Aside0 (Calls Tryd.prog f #[v, .slice (some ⟨g, 1, none⟩) 32 32] (World.drew v2) fun e w' => e = .returned (.tuple #[.int .i64 32, .nilIface]) ∧ S.St w' ((bs0 ++ q2) ++ q3) ∧ Step S v2 w') := ⟨by
    subst hq3
    have b0 := below_step HS2.out (show Below v2.heap.size v2 v2.drew from ⟨rfl, rfl, rfl, Nat.le_refl _, fun _ _ => rfl⟩)
    exact (S.writeC b0.1 HO.out.p (by have h1 := HM.out; have h2 := HB0.out; have h3 := HO.out.p; have h4 := HO.out.r; subst h2; have hq2 := congrArg List.length HQ2.out; (try simp only [le4_len] at hq2); (try simp only [List.length_append, le4_len, List.length_take]); omega) (by decide) (((HD.out.below (S.below HS2.out))).readP HO.out) (fun _ a e hw => by obtain rfl := Option.some.inj e; exact HGN.out _ _ b0.1 hw)).mono fun e w' ⟨h1, h2, h3⟩ => ⟨h1, h2, b0.2.trans h3⟩⟩
  clear hq3
  have hnl : ∀ W : World, True := fun _ => trivial
  clear hnl
  refine start_ (n := 14) (S := fun w' => True) (ds := []) #[false, false, false, false, false, false, false, false, false, false, false, false, false, false] (by kernel_rfl) rfl rfl trivial (fun hHeld => ?_)
  refine pure_ (i := 0) (N := some 44) (v := ?_) (a' := ?_) #[true, false, false, false, false, false, false, false, false, false, false, false, false, false] rfl rfl (by kernel_rfl) (fun _ _ _ h => h) (Or.inl ⟨by rfl, ?_⟩) ?_ ?_
  rotate_left
  · intro w'
    go_simp
    with_reducible rfl
  rotate_left
  · simp only [Act.put, List.setIfInBounds_toArray, List.set_cons_zero, List.set_cons_succ, i64_w, i32_w]
    rfl
  refine pure_ (i := 1) (N := some 45) (v := ?_) (a' := ?_) #[true, true, false, false, false, false, false, false, false, false, false, false, false, false] rfl rfl (by kernel_rfl) (fun _ _ _ h => h) (Or.inl ⟨by rfl, ?_⟩) ?_ ?_
  rotate_left
  · intro w'
    go_simp
    with_reducible rfl
  rotate_left
  · simp only [Act.put, List.setIfInBounds_toArray, List.set_cons_zero, List.set_cons_succ, i64_w, i32_w]
    rfl
  refine pure_ (i := 2) (N := some 46) (v := ?_) (a' := ?_) #[true, true, true, false, false, false, false, false, false, false, false, false, false, false] rfl rfl (by kernel_rfl) (fun _ _ _ h => h) (Or.inl ⟨by rfl, ?_⟩) ?_ ?_
  rotate_left
  · intro w'
    go_simp
    with_reducible rfl
  rotate_left
  · simp only [Act.put, List.setIfInBounds_toArray, List.set_cons_zero, List.set_cons_succ, i64_w, i32_w]
    rfl
  refine pure_ (i := 3) (N := some 47) (v := ?_) (a' := ?_) #[true, true, true, true, false, false, false, false, false, false, false, false, false, false] rfl rfl (by kernel_rfl) (fun _ _ _ h => h) (Or.inl ⟨by rfl, ?_⟩) ?_ ?_
  rotate_left
  · intro w'
    go_simp
    with_reducible rfl
  rotate_left
  · simp only [Act.put, List.setIfInBounds_toArray, List.set_cons_zero, List.set_cons_succ, i64_w, i32_w]
    rfl
  refine pure_ (i := 4) (N := some 48) (v := ?_) (a' := ?_) #[true, true, true, true, true, false, false, false, false, false, false, false, false, false] rfl rfl (by kernel_rfl) (fun _ _ _ h => h) (Or.inl ⟨by rfl, ?_⟩) ?_ ?_
  rotate_left
  · intro w'
    go_simp
    with_reducible rfl
  rotate_left
  · simp only [Act.put, List.setIfInBounds_toArray, List.set_cons_zero, List.set_cons_succ, i64_w, i32_w]
    rfl
  refine pure_ (i := 5) (N := some 49) (v := ?_) (a' := ?_) #[true, true, true, true, true, true, false, false, false, false, false, false, false, false] rfl rfl (by kernel_rfl) (fun _ _ _ h => h) (Or.inl ⟨by rfl, ?_⟩) ?_ ?_
  rotate_left
  · intro w'
    go_simp
    with_reducible rfl
  rotate_left
  · simp only [Act.put, List.setIfInBounds_toArray, List.set_cons_zero, List.set_cons_succ, i64_w, i32_w]
    rfl
  refine pure_ (i := 6) (N := some 50) (v := ?_) (a' := ?_) #[true, true, true, true, true, true, true, false, false, false, false, false, false, false] rfl rfl (by kernel_rfl) (fun _ _ _ h => h) (Or.inl ⟨by rfl, ?_⟩) ?_ ?_
  rotate_left
  · intro w'
    refine nil_run S.nil _ (.tmp 49) ?_ ?_ <;> rfl
  rotate_left
  · simp only [Act.put, List.setIfInBounds_toArray, List.set_cons_zero, List.set_cons_succ, i64_w, i32_w]
    rfl
  refine pure_ (i := 7) (N := some 51) (v := ?_) (a' := ?_) #[true, true, true, true, true, true, true, true, false, false, false, false, false, false] rfl rfl (by kernel_rfl) (fun _ _ _ h => h) (Or.inl ⟨by rfl, ?_⟩) ?_ ?_
  rotate_left
  · intro w'
    go_simp
    with_reducible rfl
  rotate_left
  · simp only [Act.put, List.setIfInBounds_toArray, List.set_cons_zero, List.set_cons_succ, i64_w, i32_w]
    rfl
  refine one_ (i := 8) (N := some 52) #[true, true, true, true, true, true, true, true, true, false, false, false, false, false] rfl rfl (by kernel_rfl) (by decide) (fun K hK => ?_)
  refine goesI_ (by rfl) rfl (.tmp 51) "Write" rfl T v rfl f S.meth HF.out HNM.out HBD.out #[v, .slice (some ⟨g, 1, none⟩) 32 32] (by (try simp only [List.map_toArray, List.map_cons, List.map_nil]); first | done | rfl | (simp only [List.length_drop, List.length_take]; rfl)) ?_
  with_reducible refine HW3.out.mono ?_
  rintro e v3 ⟨rfl, k1, k2⟩
  refine ⟨_, rfl, ?_⟩
  have HS3 := Aside0.mk k1
  have X3 := Aside0.mk k2
  clear k1 k2
  refine hK.out _ _ trivial (fun hHeld => ?_)
  clear hK K
  refine norm_ (a' := ?_) ?_ ?_
  rotate_left
  · show Act.put _ (some 52) _ = _
    simp only [Act.put, List.setIfInBounds_toArray, List.set_cons_zero, List.set_cons_succ, i64_w, i32_w]
    rfl
  refine pure_ (i := 9) (N := some 43) (v := ?_) (a' := ?_) #[true, true, true, true, true, true, true, true, true, true, false, false, false, false] rfl rfl (by kernel_rfl) (fun _ _ _ h => h) (Or.inl ⟨by rfl, ?_⟩) ?_ ?_
  rotate_left
  · intro w'
    go_simp
    with_reducible rfl
  rotate_left
  · simp only [Act.put, List.setIfInBounds_toArray, List.set_cons_zero, List.set_cons_succ, i64_w, i32_w]
    rfl
  refine pure_ (i := 10) (N := some 53) (v := ?_) (a' := ?_) #[true, true, true, true, true, true, true, true, true, true, true, false, false, false] rfl rfl (by kernel_rfl) (fun _ _ _ h => h) (Or.inl ⟨by rfl, ?_⟩) ?_ ?_
  rotate_left
  · intro w'
    go_simp
    with_reducible rfl
  rotate_left
  · simp only [Act.put, List.setIfInBounds_toArray, List.set_cons_zero, List.set_cons_succ, i64_w, i32_w]
    rfl
  refine pure_ (i := 11) (N := some 54) (v := ?_) (a' := ?_) #[true, true, true, true, true, true, true, true, true, true, true, true, false, false] rfl rfl (by kernel_rfl) (fun _ _ _ h => h) (Or.inl ⟨by rfl, ?_⟩) ?_ ?_
  rotate_left
  · intro w'
    go_simp
    with_reducible rfl
  rotate_left
  · simp only [Act.put, List.setIfInBounds_toArray, List.set_cons_zero, List.set_cons_succ, i64_w, i32_w]
    rfl
  refine pure_ (i := 12) (N := some 11) (v := ?_) (a' := ?_) #[true, true, true, true, true, true, true, true, true, true, true, true, true, false] rfl rfl (by kernel_rfl) (fun _ _ _ h => h) (Or.inl ⟨by rfl, ?_⟩) ?_ ?_
  rotate_left
  · intro w'
    go_simp
    with_reducible rfl
  rotate_left
  · simp only [Act.put, List.setIfInBounds_toArray, List.set_cons_zero, List.set_cons_succ, i64_w, i32_w]
    rfl
  refine pure_ (i := 13) (N := some 12) (v := ?_) (a' := ?_) #[true, true, true, true, true, true, true, true, true, true, true, true, true, true] rfl rfl (by kernel_rfl) (fun _ _ _ h => h) (Or.inl ⟨by rfl, ?_⟩) ?_ ?_
  rotate_left
  · intro w'
    go_simp
    with_reducible rfl
  rotate_left
  · simp only [Act.put, List.setIfInBounds_toArray, List.set_cons_zero, List.set_cons_succ, i64_w, i32_w]
    rfl
  refine done_ (by kernel_rfl) ?_
  have HE3 := Aside0.mk (HE2.out.trans X3.out)
  have kr3 := X3.out.kept HN2.out HR2.out
  have HR3 := Aside0.mk kr3.1
  have HN3 := Aside0.mk kr3.2
  have HL3 := HL2
  clear kr3
  go_upto_region 8 with fail
  obtain ⟨q4, hq4⟩ : ∃ q, q = h.r := ⟨_, rfl⟩
  have HQ4 := Aside0.mk hq4
  have HW4 : Aside0 (Calls Tryd.prog f #[v, .slice (some ⟨g, 33, none⟩) 32 32] (World.drew v3) fun e w' => e = .returned (.tuple #[.int .i64 32, .nilIface]) ∧ S.St w' (((bs0 ++ q2) ++ q3) ++ q4) ∧ Step S v3 w') := ⟨by
    subst hq4
    have b0 := below_step HS3.out (show Below v3.heap.size v3 v3.drew from ⟨rfl, rfl, rfl, Nat.le_refl _, fun _ _ => rfl⟩)
    exact (S.writeC b0.1 HO.out.r (by have h1 := HM.out; have h2 := HB0.out; have h3 := HO.out.p; have h4 := HO.out.r; subst h2; have hq2 := congrArg List.length HQ2.out; (try simp only [le4_len] at hq2);  have hq3 := congrArg List.length HQ3.out; (try simp only [le4_len] at hq3); (try simp only [List.length_append, le4_len, List.length_take]); omega) (by decide) (((HD.out.below (S.below HS3.out))).readR HO.out) (fun _ a e hw => by obtain rfl := Option.some.inj e; exact HGN.out _ _ b0.1 hw)).mono fun e w' ⟨h1, h2, h3⟩ => ⟨h1, h2, b0.2.trans h3⟩⟩
  clear hq4
  have hnl : ∀ W : World, True := fun _ => trivial
  clear hnl
  refine start_ (n := 14) (S := fun w' => True) (ds := []) #[false, false, false, false, false, false, false, false, false, false, false, false, false, false] (by kernel_rfl) rfl rfl trivial (fun hHeld => ?_)
  refine pure_ (i := 0) (N := some 59) (v := ?_) (a' := ?_) #[true, false, false, false, false, false, false, false, false, false, false, false, false, false] rfl rfl (by kernel_rfl) (fun _ _ _ h => h) (Or.inl ⟨by rfl, ?_⟩) ?_ ?_
  rotate_left
  · intro w'
    go_simp
    with_reducible rfl
  rotate_left
  · simp only [Act.put, List.setIfInBounds_toArray, List.set_cons_zero, List.set_cons_succ, i64_w, i32_w]
    rfl
  refine pure_ (i := 1) (N := some 60) (v := ?_) (a' := ?_) #[true, true, false, false, false, false, false, false, false, false, false, false, false, false] rfl rfl (by kernel_rfl) (fun _ _ _ h => h) (Or.inl ⟨by rfl, ?_⟩) ?_ ?_
  rotate_left
  · intro w'
    go_simp
    with_reducible rfl
  rotate_left
  · simp only [Act.put, List.setIfInBounds_toArray, List.set_cons_zero, List.set_cons_succ, i64_w, i32_w]
    rfl
  refine pure_ (i := 2) (N := some 61) (v := ?_) (a' := ?_) #[true, true, true, false, false, false, false, false, false, false, false, false, false, false] rfl rfl (by kernel_rfl) (fun _ _ _ h => h) (Or.inl ⟨by rfl, ?_⟩) ?_ ?_
  rotate_left
  · intro w'
    go_simp
    with_reducible rfl
  rotate_left
  · simp only [Act.put, List.setIfInBounds_toArray, List.set_cons_zero, List.set_cons_succ, i64_w, i32_w]
    rfl
  refine pure_ (i := 3) (N := some 62) (v := ?_) (a' := ?_) #[true, true, true, true, false, false, false, false, false, false, false, false, false, false] rfl rfl (by kernel_rfl) (fun _ _ _ h => h) (Or.inl ⟨by rfl, ?_⟩) ?_ ?_
  rotate_left
  · intro w'
    go_simp
    with_reducible rfl
  rotate_left
  · simp only [Act.put, List.setIfInBounds_toArray, List.set_cons_zero, List.set_cons_succ, i64_w, i32_w]
    rfl
  refine pure_ (i := 4) (N := some 63) (v := ?_) (a' := ?_) #[true, true, true, true, true, false, false, false, false, false, false, false, false, false] rfl rfl (by kernel_rfl) (fun _ _ _ h => h) (Or.inl ⟨by rfl, ?_⟩) ?_ ?_
  rotate_left
  · intro w'
    go_simp
    with_reducible rfl
  rotate_left
  · simp only [Act.put, List.setIfInBounds_toArray, List.set_cons_zero, List.set_cons_succ, i64_w, i32_w]
    rfl
  refine pure_ (i := 5) (N := some 64) (v := ?_) (a' := ?_) #[true, true, true, true, true, true, false, false, false, false, false, false, false, false] rfl rfl (by kernel_rfl) (fun _ _ _ h => h) (Or.inl ⟨by rfl, ?_⟩) ?_ ?_
  rotate_left
  · intro w'
    go_simp
    with_reducible rfl
  rotate_left
  · simp only [Act.put, List.setIfInBounds_toArray, List.set_cons_zero, List.set_cons_succ, i64_w, i32_w]
    rfl
  refine pure_ (i := 6) (N := some 65) (v := ?_) (a' := ?_) #[true, true, true, true, true, true, true, false, false, false, false, false, false, false] rfl rfl (by kernel_rfl) (fun _ _ _ h => h) (Or.inl ⟨by rfl, ?_⟩) ?_ ?_
  rotate_left
  · intro w'
    refine nil_run S.nil _ (.tmp 64) ?_ ?_ <;> rfl
  rotate_left
  · simp only [Act.put, List.setIfInBounds_toArray, List.set_cons_zero, List.set_cons_succ, i64_w, i32_w]
    rfl
  refine pure_ (i := 7) (N := some 66) (v := ?_) (a' := ?_) #[true, true, true, true, true, true, true, true, false, false, false, false, false, false] rfl rfl (by kernel_rfl) (fun _ _ _ h => h) (Or.inl ⟨by rfl, ?_⟩) ?_ ?_
  rotate_left
  · intro w'
    go_simp
    with_reducible rfl
  rotate_left
  · simp only [Act.put, List.setIfInBounds_toArray, List.set_cons_zero, List.set_cons_succ, i64_w, i32_w]
    rfl
  refine one_ (i := 8) (N := some 67) #[true, true, true, true, true, true, true, true, true, false, false, false, false, false] rfl rfl (by kernel_rfl) (by decide) (fun K hK => ?_)
  refine goesI_ (by rfl) rfl (.tmp 66) "Write" rfl T v rfl f S.meth HF.out HNM.out HBD.out #[v, .slice (some ⟨g, 33, none⟩) 32 32] (by (try simp only [List.map_toArray, List.map_cons, List.map_nil]); first | done | rfl | (simp only [List.length_drop, List.length_take]; rfl)) ?_
  with_reducible refine HW4.out.mono ?_
  rintro e v4 ⟨rfl, k1, k2⟩
  refine ⟨_, rfl, ?_⟩
  have HS4 := Aside0.mk k1
  have X4 := Aside0.mk k2
  clear k1 k2
  refine hK.out _ _ trivial (fun hHeld => ?_)
  clear hK K
  refine norm_ (a' := ?_) ?_ ?_
  rotate_left
  · show Act.put _ (some 67) _ = _
    simp only [Act.put, List.setIfInBounds_toArray, List.set_cons_zero, List.set_cons_succ, i64_w, i32_w]
    rfl
  refine pure_ (i := 9) (N := some 58) (v := ?_) (a' := ?_) #[true, true, true, true, true, true, true, true, true, true, false, false, false, false] rfl rfl (by kernel_rfl) (fun _ _ _ h => h) (Or.inl ⟨by rfl, ?_⟩) ?_ ?_
  rotate_left
  · intro w'
    go_simp
    with_reducible rfl
  rotate_left
  · simp only [Act.put, List.setIfInBounds_toArray, List.set_cons_zero, List.set_cons_succ, i64_w, i32_w]
    rfl
  refine pure_ (i := 10) (N := some 68) (v := ?_) (a' := ?_) #[true, true, true, true, true, true, true, true, true, true, true, false, false, false] rfl rfl (by kernel_rfl) (fun _ _ _ h => h) (Or.inl ⟨by rfl, ?_⟩) ?_ ?_
  rotate_left
  · intro w'
    go_simp
    with_reducible rfl
  rotate_left
  · simp only [Act.put, List.setIfInBounds_toArray, List.set_cons_zero, List.set_cons_succ, i64_w, i32_w]
    rfl
  refine pure_ (i := 11) (N := some 69) (v := ?_) (a' := ?_) #[true, true, true, true, true, true, true, true, true, true, true, true, false, false] rfl rfl (by kernel_rfl) (fun _ _ _ h => h) (Or.inl ⟨by rfl, ?_⟩) ?_ ?_
  rotate_left
  · intro w'
    go_simp
    with_reducible rfl
  rotate_left
  · simp only [Act.put, List.setIfInBounds_toArray, List.set_cons_zero, List.set_cons_succ, i64_w, i32_w]
    rfl
  refine pure_ (i := 12) (N := some 13) (v := ?_) (a' := ?_) #[true, true, true, true, true, true, true, true, true, true, true, true, true, false] rfl rfl (by kernel_rfl) (fun _ _ _ h => h) (Or.inl ⟨by rfl, ?_⟩) ?_ ?_
  rotate_left
  · intro w'
    go_simp
    with_reducible rfl
  rotate_left
  · simp only [Act.put, List.setIfInBounds_toArray, List.set_cons_zero, List.set_cons_succ, i64_w, i32_w]
    rfl
  refine pure_ (i := 13) (N := some 14) (v := ?_) (a' := ?_) #[true, true, true, true, true, true, true, true, true, true, true, true, true, true] rfl rfl (by kernel_rfl) (fun _ _ _ h => h) (Or.inl ⟨by rfl, ?_⟩) ?_ ?_
  rotate_left
  · intro w'
    go_simp
    with_reducible rfl
  rotate_left
  · simp only [Act.put, List.setIfInBounds_toArray, List.set_cons_zero, List.set_cons_succ, i64_w, i32_w]
    rfl
  refine done_ (by kernel_rfl) ?_
  have HE4 := Aside0.mk (HE3.out.trans X4.out)
  have kr4 := X4.out.kept HN3.out HR3.out
  have HR4 := Aside0.mk kr4.1
  have HN4 := Aside0.mk kr4.2
  have HL4 := HL3
  clear kr4
  go_upto_region 11 with fail
  have hz4 := (show (v4.drew).cell? ⟨g, 65, none⟩ = some (.int .i64 h.t) from (HD.out.below (S.below HS4.out)).t)
  have C5 : Aside0 (v4.drew.cell? ⟨g, 65, none⟩ = some (.int .i64 h.t)) := ⟨hz4⟩
  have HRd5 : Aside0 ((World.drew v4).heap[gb]? = _) := ⟨HR4.out⟩
  refine start_ (n := 10) (S := fun w' => w'.cell? ⟨g, 65, none⟩ = some (.int .i64 h.t)) (ds := []) #[false, false, false, false, false, false, false, false, false, false] (by kernel_rfl) rfl rfl C5.out (fun hHeld => ?_)
  refine take_ (i := 0) (N := some 73) (v := ?_) (a' := ?_) #[true, false, false, false, false, false, false, false, false, false] rfl rfl (by kernel_rfl) (fun _ _ _ h => h) (Or.inl ⟨by rfl, ?_⟩) hHeld ?_ ?_
  rotate_left
  · rintro w' s0
    go_simp
    with_reducible rfl
  rotate_left
  · simp only [Act.put, List.setIfInBounds_toArray, List.set_cons_zero, List.set_cons_succ, i64_w, i32_w]
    rfl
  refine pure_ (i := 1) (N := some 74) (v := ?_) (a' := ?_) #[true, true, false, false, false, false, false, false, false, false] rfl rfl (by kernel_rfl) (fun _ _ _ h => h) (Or.inl ⟨by rfl, ?_⟩) ?_ ?_
  rotate_left
  · intro w'
    go_simp
    with_reducible rfl
  rotate_left
  · simp only [Act.put, List.setIfInBounds_toArray, List.set_cons_zero, List.set_cons_succ, i64_w, i32_w]
    rfl
  refine pure_ (i := 2) (N := some 75) (v := ?_) (a' := ?_) #[true, true, true, false, false, false, false, false, false, false] rfl rfl (by kernel_rfl) (fun _ _ _ h => h) (Or.inl ⟨by rfl, ?_⟩) ?_ ?_
  rotate_left
  · intro w'
    go_simp
    with_reducible rfl
  rotate_left
  · simp only [Act.put, List.setIfInBounds_toArray, List.set_cons_zero, List.set_cons_succ, i64_w, i32_w]
    rfl
  refine pure_ (i := 3) (N := some 76) (v := ?_) (a' := ?_) #[true, true, true, true, false, false, false, false, false, false] rfl rfl (by kernel_rfl) (fun _ _ _ h => h) (Or.inl ⟨by rfl, ?_⟩) ?_ ?_
  rotate_left
  · intro w'
    go_simp
    with_reducible rfl
  rotate_left
  · simp only [Act.put, List.setIfInBounds_toArray, List.set_cons_zero, List.set_cons_succ, i64_w, i32_w]
    rfl
  refine pure_ (i := 4) (N := some 77) (v := ?_) (a' := ?_) #[true, true, true, true, true, false, false, false, false, false] rfl rfl (by kernel_rfl) (fun _ _ _ h => h) (Or.inl ⟨by rfl, ?_⟩) ?_ ?_
  rotate_left
  · intro w'
    go_simp
    with_reducible rfl
  rotate_left
  · simp only [Act.put, List.setIfInBounds_toArray, List.set_cons_zero, List.set_cons_succ, i64_w, i32_w]
    rfl
  refine pure_ (i := 5) (N := some 78) (v := ?_) (a' := ?_) #[true, true, true, true, true, true, false, false, false, false] rfl rfl (by kernel_rfl) (fun _ _ _ h => h) (Or.inl ⟨by rfl, ?_⟩) ?_ ?_
  rotate_left
  · intro w'
    go_simp
    with_reducible rfl
  rotate_left
  · simp only [Act.put, List.setIfInBounds_toArray, List.set_cons_zero, List.set_cons_succ, i64_w, i32_w]
    rfl
  refine take_ (i := 6) (N := some 79) (v := ?_) (a' := ?_) #[true, true, true, true, true, true, true, false, false, false] rfl rfl (by kernel_rfl) (fun _ _ _ h => h) (Or.inl ⟨by rfl, ?_⟩) hHeld ?_ ?_
  rotate_left
  · rintro w' s0
    go_simp
    with_reducible rfl
  rotate_left
  · simp only [Act.put, List.setIfInBounds_toArray, List.set_cons_zero, List.set_cons_succ, i64_w, i32_w]
    rfl
  refine one_ (i := 7) (N := some 80) #[true, true, true, true, true, true, true, true, false, false] rfl rfl (by kernel_rfl) (by decide) (fun K hK => ?_)
  refine goes_ Tryd.func33 (by kernel_rfl) rfl #[.agg #[.int .i64 h.t]] (by rfl) rfl rfl (by (try simp only [List.map_toArray, List.map_cons, List.map_nil]); first | done | rfl | (simp only [List.length_drop, List.length_take]; rfl)) ?_
  with_reducible refine (timeUnixC h.t _).mono ?_
  rintro e wt ⟨rfl, k1⟩
  refine ⟨_, rfl, ?_⟩
  have HRe5 := Aside0.mk ((k1.block gb (blk_lt' HRd5.out)).trans HRd5.out)
  have PT5 : Aside0 (Below v4.heap.size v4 wt) := ⟨⟨k1.os, k1.tape, k1.output, k1.size, k1.block⟩⟩
  have CT : wt.cell? ⟨g, 65, none⟩ = some (.int .i64 h.t) := pw_cell_below k1 hHeld
  clear k1
  refine hK.out _ _ CT (fun hHeld => ?_)
  clear hK K
  refine norm_ (a' := ?_) ?_ ?_
  rotate_left
  · show Act.put _ (some 80) _ = _
    simp only [Act.put, List.setIfInBounds_toArray, List.set_cons_zero, List.set_cons_succ, i64_w, i32_w]
    rfl
  refine pure_ (i := 8) (N := some 81) (v := ?_) (a' := ?_) #[true, true, true, true, true, true, true, true, true, false] rfl rfl (by kernel_rfl) (fun _ _ _ h => h) (Or.inl ⟨by rfl, ?_⟩) ?_ ?_
  rotate_left
  · intro w'
    go_simp
    with_reducible rfl
  rotate_left
  · simp only [Act.put, List.setIfInBounds_toArray, List.set_cons_zero, List.set_cons_succ, i64_w, i32_w]
    rfl
  refine one_ (i := 9) (N := some 82) #[true, true, true, true, true, true, true, true, true, true] rfl rfl (by kernel_rfl) (by decide) (fun K hK => ?_)
  refine goes_ Tryd.func53 (by kernel_rfl) rfl #[.agg #[], .slice (some ⟨gb, 0, none⟩) 4 8, .int .u32 (h.t % 4294967296)] (by rfl) rfl rfl (by (try simp only [List.map_toArray, List.map_cons, List.map_nil]); first | done | rfl | (simp only [List.length_drop, List.length_take]; rfl)) ?_
  with_reducible refine (lput4C gb 0 4 8 _ _ (h.t % 4294967296) (.agg #[]) _ HRe5.out (by rw [HL4.out]; decide) (by decide)).mono ?_
  rintro e v5 ⟨rfl, k1, k2⟩
  refine ⟨_, rfl, ?_⟩
  have HR5 := Aside0.mk k1
  have P5 : Aside0 (Only gb v4 v5) := ⟨(Only.of_below (g := gb) PT5.out).trans ⟨k2.os, k2.tape, k2.output, k2.size, k2.block⟩⟩
  have K2 := k2
  clear k1
  refine hK.out _ _ (by have := K2; exact this.cell (p := ⟨g, 65, none⟩) (by intro e; have h1 : g = gb := e; have h2 := HD.out.lt; have h3 := HG0.out; omega) hHeld) (fun hHeld => ?_)
  clear hK K
  refine norm_ (a' := ?_) ?_ ?_
  rotate_left
  · show Act.put _ (some 82) _ = _
    simp only [Act.put, List.setIfInBounds_toArray, List.set_cons_zero, List.set_cons_succ, i64_w, i32_w]
    rfl
  refine done_ (by kernel_rfl) ?_
  obtain ⟨hs5, he5, hn5⟩ := only_step HS4.out HE4.out HGE.out HG0.out HN4.out P5.out
  have HS5 := Aside0.mk hs5
  have HE5 := Aside0.mk he5
  have HN5 := Aside0.mk hn5
  have HL5 : Aside0 ((lput4 (lput4 l 0 (h.v % 4294967296)) 0 (h.t % 4294967296)).length = 8) := ⟨by rw [lput4_len]; exact HL4.out⟩
  clear K2
  clear hs5 he5 hn5 hHeld
  clear hz4
  go_upto_region 12 with fail
  obtain ⟨q6, hq6⟩ : ∃ q, q = le4 (h.t % 4294967296) := ⟨_, rfl⟩
  have HQ6 := Aside0.mk hq6
  have HW6 : Aside0 (Calls Tryd.prog f #[v, .slice (some ⟨gb, 0, none⟩) 4 8] (World.drew v5) fun e w' => e = .returned (.tuple #[.int .i64 4, .nilIface]) ∧ S.St w' ((((bs0 ++ q2) ++ q3) ++ q4) ++ q6) ∧ Step S v5 w') := ⟨by
    subst hq6
    have b0 := below_step HS5.out (show Below v5.heap.size v5 v5.drew from ⟨rfl, rfl, rfl, Nat.le_refl _, fun _ _ => rfl⟩)
    exact (S.writeC b0.1 (le4_len _) (by have h1 := HM.out; have h2 := HB0.out; have h3 := HO.out.p; have h4 := HO.out.r; subst h2; have hq2 := congrArg List.length HQ2.out; (try simp only [le4_len] at hq2);  have hq3 := congrArg List.length HQ3.out; (try simp only [le4_len] at hq3);  have hq4 := congrArg List.length HQ4.out; (try simp only [le4_len] at hq4); (try simp only [List.length_append, le4_len, List.length_take]); omega) (by decide) (by have := read4 (w := v5) HR5.out HL5.out; rw [lput4_take _ _ (by have := HL5.out; rw [lput4_len] at this; omega)] at this; exact this) (fun _ a e hw => by obtain rfl := Option.some.inj e; exact HN5.out (b0.2.grow gb hw |>.elim id (fun h => absurd (blk_lt' HR5.out) (Nat.not_lt.2 h))))).mono fun e w' ⟨h1, h2, h3⟩ => ⟨h1, h2, b0.2.trans h3⟩⟩
  clear hq6
  have hnl : ∀ W : World, True := fun _ => trivial
  clear hnl
  refine start_ (n := 12) (S := fun w' => True) (ds := []) #[false, false, false, false, false, false, false, false, false, false, false, false] (by kernel_rfl) rfl rfl trivial (fun hHeld => ?_)
  refine pure_ (i := 0) (N := some 84) (v := ?_) (a' := ?_) #[true, false, false, false, false, false, false, false, false, false, false, false] rfl rfl (by kernel_rfl) (fun _ _ _ h => h) (Or.inl ⟨by rfl, ?_⟩) ?_ ?_
  rotate_left
  · intro w'
    go_simp
    with_reducible rfl
  rotate_left
  · simp only [Act.put, List.setIfInBounds_toArray, List.set_cons_zero, List.set_cons_succ, i64_w, i32_w]
    rfl
  refine pure_ (i := 1) (N := some 85) (v := ?_) (a' := ?_) #[true, true, false, false, false, false, false, false, false, false, false, false] rfl rfl (by kernel_rfl) (fun _ _ _ h => h) (Or.inl ⟨by rfl, ?_⟩) ?_ ?_
  rotate_left
  · intro w'
    go_simp
    with_reducible rfl
  rotate_left
  · simp only [Act.put, List.setIfInBounds_toArray, List.set_cons_zero, List.set_cons_succ, i64_w, i32_w]
    rfl
  refine pure_ (i := 2) (N := some 86) (v := ?_) (a' := ?_) #[true, true, true, false, false, false, false, false, false, false, false, false] rfl rfl (by kernel_rfl) (fun _ _ _ h => h) (Or.inl ⟨by rfl, ?_⟩) ?_ ?_
  rotate_left
  · intro w'
    go_simp
    with_reducible rfl
  rotate_left
  · simp only [Act.put, List.setIfInBounds_toArray, List.set_cons_zero, List.set_cons_succ, i64_w, i32_w]
    rfl
  refine pure_ (i := 3) (N := some 87) (v := ?_) (a' := ?_) #[true, true, true, true, false, false, false, false, false, false, false, false] rfl rfl (by kernel_rfl) (fun _ _ _ h => h) (Or.inl ⟨by rfl, ?_⟩) ?_ ?_
  rotate_left
  · intro w'
    go_simp
    with_reducible rfl
  rotate_left
  · simp only [Act.put, List.setIfInBounds_toArray, List.set_cons_zero, List.set_cons_succ, i64_w, i32_w]
    rfl
  refine pure_ (i := 4) (N := some 88) (v := ?_) (a' := ?_) #[true, true, true, true, true, false, false, false, false, false, false, false] rfl rfl (by kernel_rfl) (fun _ _ _ h => h) (Or.inl ⟨by rfl, ?_⟩) ?_ ?_
  rotate_left
  · intro w'
    refine nil_run S.nil _ (.tmp 87) ?_ ?_ <;> rfl
  rotate_left
  · simp only [Act.put, List.setIfInBounds_toArray, List.set_cons_zero, List.set_cons_succ, i64_w, i32_w]
    rfl
  refine pure_ (i := 5) (N := some 89) (v := ?_) (a' := ?_) #[true, true, true, true, true, true, false, false, false, false, false, false] rfl rfl (by kernel_rfl) (fun _ _ _ h => h) (Or.inl ⟨by rfl, ?_⟩) ?_ ?_
  rotate_left
  · intro w'
    go_simp
    with_reducible rfl
  rotate_left
  · simp only [Act.put, List.setIfInBounds_toArray, List.set_cons_zero, List.set_cons_succ, i64_w, i32_w]
    rfl
  refine one_ (i := 6) (N := some 90) #[true, true, true, true, true, true, true, false, false, false, false, false] rfl rfl (by kernel_rfl) (by decide) (fun K hK => ?_)
  refine goesI_ (by rfl) rfl (.tmp 89) "Write" rfl T v rfl f S.meth HF.out HNM.out HBD.out #[v, .slice (some ⟨gb, 0, none⟩) 4 8] (by (try simp only [List.map_toArray, List.map_cons, List.map_nil]); first | done | rfl | (simp only [List.length_drop, List.length_take]; rfl)) ?_
  with_reducible refine HW6.out.mono ?_
  rintro e v6 ⟨rfl, k1, k2⟩
  refine ⟨_, rfl, ?_⟩
  have HS6 := Aside0.mk k1
  have X6 := Aside0.mk k2
  clear k1 k2
  refine hK.out _ _ trivial (fun hHeld => ?_)
  clear hK K
  refine norm_ (a' := ?_) ?_ ?_
  rotate_left
  · show Act.put _ (some 90) _ = _
    simp only [Act.put, List.setIfInBounds_toArray, List.set_cons_zero, List.set_cons_succ, i64_w, i32_w]
    rfl
  refine pure_ (i := 7) (N := some 83) (v := ?_) (a' := ?_) #[true, true, true, true, true, true, true, true, false, false, false, false] rfl rfl (by kernel_rfl) (fun _ _ _ h => h) (Or.inl ⟨by rfl, ?_⟩) ?_ ?_
  rotate_left
  · intro w'
    go_simp
    with_reducible rfl
  rotate_left
  · simp only [Act.put, List.setIfInBounds_toArray, List.set_cons_zero, List.set_cons_succ, i64_w, i32_w]
    rfl
  refine pure_ (i := 8) (N := some 91) (v := ?_) (a' := ?_) #[true, true, true, true, true, true, true, true, true, false, false, false] rfl rfl (by kernel_rfl) (fun _ _ _ h => h) (Or.inl ⟨by rfl, ?_⟩) ?_ ?_
  rotate_left
  · intro w'
    go_simp
    with_reducible rfl
  rotate_left
  · simp only [Act.put, List.setIfInBounds_toArray, List.set_cons_zero, List.set_cons_succ, i64_w, i32_w]
    rfl
  refine pure_ (i := 9) (N := some 92) (v := ?_) (a' := ?_) #[true, true, true, true, true, true, true, true, true, true, false, false] rfl rfl (by kernel_rfl) (fun _ _ _ h => h) (Or.inl ⟨by rfl, ?_⟩) ?_ ?_
  rotate_left
  · intro w'
    go_simp
    with_reducible rfl
  rotate_left
  · simp only [Act.put, List.setIfInBounds_toArray, List.set_cons_zero, List.set_cons_succ, i64_w, i32_w]
    rfl
  refine pure_ (i := 10) (N := some 15) (v := ?_) (a' := ?_) #[true, true, true, true, true, true, true, true, true, true, true, false] rfl rfl (by kernel_rfl) (fun _ _ _ h => h) (Or.inl ⟨by rfl, ?_⟩) ?_ ?_
  rotate_left
  · intro w'
    go_simp
    with_reducible rfl
  rotate_left
  · simp only [Act.put, List.setIfInBounds_toArray, List.set_cons_zero, List.set_cons_succ, i64_w, i32_w]
    rfl
  refine pure_ (i := 11) (N := some 16) (v := ?_) (a' := ?_) #[true, true, true, true, true, true, true, true, true, true, true, true] rfl rfl (by kernel_rfl) (fun _ _ _ h => h) (Or.inl ⟨by rfl, ?_⟩) ?_ ?_
  rotate_left
  · intro w'
    go_simp
    with_reducible rfl
  rotate_left
  · simp only [Act.put, List.setIfInBounds_toArray, List.set_cons_zero, List.set_cons_succ, i64_w, i32_w]
    rfl
  refine done_ (by kernel_rfl) ?_
  have HE6 := Aside0.mk (HE5.out.trans X6.out)
  have kr6 := X6.out.kept HN5.out HR5.out
  have HR6 := Aside0.mk kr6.1
  have HN6 := Aside0.mk kr6.2
  have HL6 := HL5
  clear kr6
  go_upto_region 15 with fail
  have hz6 := (show (v6.drew).cell? ⟨g, 66, none⟩ = some (.int .u32 h.b) from (HD.out.below (S.below HS6.out)).b)
  have C7 : Aside0 (v6.drew.cell? ⟨g, 66, none⟩ = some (.int .u32 h.b)) := ⟨hz6⟩
  have HRd7 : Aside0 ((World.drew v6).heap[gb]? = _) := ⟨HR6.out⟩
  refine start_ (n := 8) (S := fun w' => w'.cell? ⟨g, 66, none⟩ = some (.int .u32 h.b)) (ds := []) #[false, false, false, false, false, false, false, false] (by kernel_rfl) rfl rfl C7.out (fun hHeld => ?_)
  refine take_ (i := 0) (N := some 96) (v := ?_) (a' := ?_) #[true, false, false, false, false, false, false, false] rfl rfl (by kernel_rfl) (fun _ _ _ h => h) (Or.inl ⟨by rfl, ?_⟩) hHeld ?_ ?_
  rotate_left
  · rintro w' s0
    go_simp
    with_reducible rfl
  rotate_left
  · simp only [Act.put, List.setIfInBounds_toArray, List.set_cons_zero, List.set_cons_succ, i64_w, i32_w]
    rfl
  refine pure_ (i := 1) (N := some 97) (v := ?_) (a' := ?_) #[true, true, false, false, false, false, false, false] rfl rfl (by kernel_rfl) (fun _ _ _ h => h) (Or.inl ⟨by rfl, ?_⟩) ?_ ?_
  rotate_left
  · intro w'
    go_simp
    with_reducible rfl
  rotate_left
  · simp only [Act.put, List.setIfInBounds_toArray, List.set_cons_zero, List.set_cons_succ, i64_w, i32_w]
    rfl
  refine pure_ (i := 2) (N := some 98) (v := ?_) (a' := ?_) #[true, true, true, false, false, false, false, false] rfl rfl (by kernel_rfl) (fun _ _ _ h => h) (Or.inl ⟨by rfl, ?_⟩) ?_ ?_
  rotate_left
  · intro w'
    go_simp
    with_reducible rfl
  rotate_left
  · simp only [Act.put, List.setIfInBounds_toArray, List.set_cons_zero, List.set_cons_succ, i64_w, i32_w]
    rfl
  refine pure_ (i := 3) (N := some 99) (v := ?_) (a' := ?_) #[true, true, true, true, false, false, false, false] rfl rfl (by kernel_rfl) (fun _ _ _ h => h) (Or.inl ⟨by rfl, ?_⟩) ?_ ?_
  rotate_left
  · intro w'
    go_simp
    with_reducible rfl
  rotate_left
  · simp only [Act.put, List.setIfInBounds_toArray, List.set_cons_zero, List.set_cons_succ, i64_w, i32_w]
    rfl
  refine pure_ (i := 4) (N := some 100) (v := ?_) (a' := ?_) #[true, true, true, true, true, false, false, false] rfl rfl (by kernel_rfl) (fun _ _ _ h => h) (Or.inl ⟨by rfl, ?_⟩) ?_ ?_
  rotate_left
  · intro w'
    go_simp
    with_reducible rfl
  rotate_left
  · simp only [Act.put, List.setIfInBounds_toArray, List.set_cons_zero, List.set_cons_succ, i64_w, i32_w]
    rfl
  refine pure_ (i := 5) (N := some 101) (v := ?_) (a' := ?_) #[true, true, true, true, true, true, false, false] rfl rfl (by kernel_rfl) (fun _ _ _ h => h) (Or.inl ⟨by rfl, ?_⟩) ?_ ?_
  rotate_left
  · intro w'
    go_simp
    with_reducible rfl
  rotate_left
  · simp only [Act.put, List.setIfInBounds_toArray, List.set_cons_zero, List.set_cons_succ, i64_w, i32_w]
    rfl
  refine take_ (i := 6) (N := some 102) (v := ?_) (a' := ?_) #[true, true, true, true, true, true, true, false] rfl rfl (by kernel_rfl) (fun _ _ _ h => h) (Or.inl ⟨by rfl, ?_⟩) hHeld ?_ ?_
  rotate_left
  · rintro w' s0
    go_simp
    with_reducible rfl
  rotate_left
  · simp only [Act.put, List.setIfInBounds_toArray, List.set_cons_zero, List.set_cons_succ, i64_w, i32_w]
    rfl
  refine one_ (i := 7) (N := some 103) #[true, true, true, true, true, true, true, true] rfl rfl (by kernel_rfl) (by decide) (fun K hK => ?_)
  refine goes_ Tryd.func53 (by kernel_rfl) rfl #[.agg #[], .slice (some ⟨gb, 0, none⟩) 4 8, .int .u32 (h.b)] (by rfl) rfl rfl (by (try simp only [List.map_toArray, List.map_cons, List.map_nil]); first | done | rfl | (simp only [List.length_drop, List.length_take]; rfl)) ?_
  with_reducible refine (lput4C gb 0 4 8 _ _ (h.b) (.agg #[]) _ HRd7.out (by rw [HL6.out]; decide) (by decide)).mono ?_
  rintro e v7 ⟨rfl, k1, k2⟩
  refine ⟨_, rfl, ?_⟩
  have HR7 := Aside0.mk k1
  have P7 : Aside0 (Only gb v6 v7) := ⟨⟨k2.os, k2.tape, k2.output, k2.size, k2.block⟩⟩
  clear k1 k2
  refine hK.out _ _ (by have := P7.out; exact this.cell (p := ⟨g, 66, none⟩) (by intro e; have h1 : g = gb := e; have h2 := HD.out.lt; have h3 := HG0.out; omega) hHeld) (fun hHeld => ?_)
  clear hK K
  refine norm_ (a' := ?_) ?_ ?_
  rotate_left
  · show Act.put _ (some 103) _ = _
    simp only [Act.put, List.setIfInBounds_toArray, List.set_cons_zero, List.set_cons_succ, i64_w, i32_w]
    rfl
  refine done_ (by kernel_rfl) ?_
  obtain ⟨hs7, he7, hn7⟩ := only_step HS6.out HE6.out HGE.out HG0.out HN6.out P7.out
  have HS7 := Aside0.mk hs7
  have HE7 := Aside0.mk he7
  have HN7 := Aside0.mk hn7
  have HL7 : Aside0 ((lput4 (lput4 (lput4 l 0 (h.v % 4294967296)) 0 (h.t % 4294967296)) 0 (h.b)).length = 8) := ⟨by rw [lput4_len]; exact HL6.out⟩
  clear hs7 he7 hn7 hHeld
  clear hz6
  go_upto_region 16 with fail
  obtain ⟨q8, hq8⟩ : ∃ q, q = le4 (h.b) := ⟨_, rfl⟩
  have HQ8 := Aside0.mk hq8
  have HW8 : Aside0 (Calls Tryd.prog f #[v, .slice (some ⟨gb, 0, none⟩) 4 8] (World.drew v7) fun e w' => e = .returned (.tuple #[.int .i64 4, .nilIface]) ∧ S.St w' (((((bs0 ++ q2) ++ q3) ++ q4) ++ q6) ++ q8) ∧ Step S v7 w') := ⟨by
    subst hq8
    have b0 := below_step HS7.out (show Below v7.heap.size v7 v7.drew from ⟨rfl, rfl, rfl, Nat.le_refl _, fun _ _ => rfl⟩)
    exact (S.writeC b0.1 (le4_len _) (by have h1 := HM.out; have h2 := HB0.out; have h3 := HO.out.p; have h4 := HO.out.r; subst h2; have hq2 := congrArg List.length HQ2.out; (try simp only [le4_len] at hq2);  have hq3 := congrArg List.length HQ3.out; (try simp only [le4_len] at hq3);  have hq4 := congrArg List.length HQ4.out; (try simp only [le4_len] at hq4);  have hq6 := congrArg List.length HQ6.out; (try simp only [le4_len] at hq6); (try simp only [List.length_append, le4_len, List.length_take]); omega) (by decide) (by have := read4 (w := v7) HR7.out HL7.out; rw [lput4_take _ _ (by have := HL7.out; rw [lput4_len] at this; omega)] at this; exact this) (fun _ a e hw => by obtain rfl := Option.some.inj e; exact HN7.out (b0.2.grow gb hw |>.elim id (fun h => absurd (blk_lt' HR7.out) (Nat.not_lt.2 h))))).mono fun e w' ⟨h1, h2, h3⟩ => ⟨h1, h2, b0.2.trans h3⟩⟩
  clear hq8
  have hnl : ∀ W : World, True := fun _ => trivial
  clear hnl
  refine start_ (n := 12) (S := fun w' => True) (ds := []) #[false, false, false, false, false, false, false, false, false, false, false, false] (by kernel_rfl) rfl rfl trivial (fun hHeld => ?_)
  refine pure_ (i := 0) (N := some 105) (v := ?_) (a' := ?_) #[true, false, false, false, false, false, false, false, false, false, false, false] rfl rfl (by kernel_rfl) (fun _ _ _ h => h) (Or.inl ⟨by rfl, ?_⟩) ?_ ?_
  rotate_left
  · intro w'
    go_simp
    with_reducible rfl
  rotate_left
  · simp only [Act.put, List.setIfInBounds_toArray, List.set_cons_zero, List.set_cons_succ, i64_w, i32_w]
    rfl
  refine pure_ (i := 1) (N := some 106) (v := ?_) (a' := ?_) #[true, true, false, false, false, false, false, false, false, false, false, false] rfl rfl (by kernel_rfl) (fun _ _ _ h => h) (Or.inl ⟨by rfl, ?_⟩) ?_ ?_
  rotate_left
  · intro w'
    go_simp
    with_reducible rfl
  rotate_left
  · simp only [Act.put, List.setIfInBounds_toArray, List.set_cons_zero, List.set_cons_succ, i64_w, i32_w]
    rfl
  refine pure_ (i := 2) (N := some 107) (v := ?_) (a' := ?_) #[true, true, true, false, false, false, false, false, false, false, false, false] rfl rfl (by kernel_rfl) (fun _ _ _ h => h) (Or.inl ⟨by rfl, ?_⟩) ?_ ?_
  rotate_left
  · intro w'
    go_simp
    with_reducible rfl
  rotate_left
  · simp only [Act.put, List.setIfInBounds_toArray, List.set_cons_zero, List.set_cons_succ, i64_w, i32_w]
    rfl
  refine pure_ (i := 3) (N := some 108) (v := ?_) (a' := ?_) #[true, true, true, true, false, false, false, false, false, false, false, false] rfl rfl (by kernel_rfl) (fun _ _ _ h => h) (Or.inl ⟨by rfl, ?_⟩) ?_ ?_
  rotate_left
  · intro w'
    go_simp
    with_reducible rfl
  rotate_left
  · simp only [Act.put, List.setIfInBounds_toArray, List.set_cons_zero, List.set_cons_succ, i64_w, i32_w]
    rfl
  refine pure_ (i := 4) (N := some 109) (v := ?_) (a' := ?_) #[true, true, true, true, true, false, false, false, false, false, false, false] rfl rfl (by kernel_rfl) (fun _ _ _ h => h) (Or.inl ⟨by rfl, ?_⟩) ?_ ?_
  rotate_left
  · intro w'
    refine nil_run S.nil _ (.tmp 108) ?_ ?_ <;> rfl
  rotate_left
  · simp only [Act.put, List.setIfInBounds_toArray, List.set_cons_zero, List.set_cons_succ, i64_w, i32_w]
    rfl
  refine pure_ (i := 5) (N := some 110) (v := ?_) (a' := ?_) #[true, true, true, true, true, true, false, false, false, false, false, false] rfl rfl (by kernel_rfl) (fun _ _ _ h => h) (Or.inl ⟨by rfl, ?_⟩) ?_ ?_
  rotate_left
  · intro w'
    go_simp
    with_reducible rfl
  rotate_left
  · simp only [Act.put, List.setIfInBounds_toArray, List.set_cons_zero, List.set_cons_succ, i64_w, i32_w]
    rfl
  refine one_ (i := 6) (N := some 111) #[true, true, true, true, true, true, true, false, false, false, false, false] rfl rfl (by kernel_rfl) (by decide) (fun K hK => ?_)
  refine goesI_ (by rfl) rfl (.tmp 110) "Write" rfl T v rfl f S.meth HF.out HNM.out HBD.out #[v, .slice (some ⟨gb, 0, none⟩) 4 8] (by (try simp only [List.map_toArray, List.map_cons, List.map_nil]); first | done | rfl | (simp only [List.length_drop, List.length_take]; rfl)) ?_
  with_reducible refine HW8.out.mono ?_
  rintro e v8 ⟨rfl, k1, k2⟩
  refine ⟨_, rfl, ?_⟩
  have HS8 := Aside0.mk k1
  have X8 := Aside0.mk k2
  clear k1 k2
  refine hK.out _ _ trivial (fun hHeld => ?_)
  clear hK K
  refine norm_ (a' := ?_) ?_ ?_
  rotate_left
  · show Act.put _ (some 111) _ = _
    simp only [Act.put, List.setIfInBounds_toArray, List.set_cons_zero, List.set_cons_succ, i64_w, i32_w]
    rfl
  refine pure_ (i := 7) (N := some 104) (v := ?_) (a' := ?_) #[true, true, true, true, true, true, true, true, false, false, false, false] rfl rfl (by kernel_rfl) (fun _ _ _ h => h) (Or.inl ⟨by rfl, ?_⟩) ?_ ?_
  rotate_left
  · intro w'
    go_simp
    with_reducible rfl
  rotate_left
  · simp only [Act.put, List.setIfInBounds_toArray, List.set_cons_zero, List.set_cons_succ, i64_w, i32_w]
    rfl
  refine pure_ (i := 8) (N := some 112) (v := ?_) (a' := ?_) #[true, true, true, true, true, true, true, true, true, false, false, false] rfl rfl (by kernel_rfl) (fun _ _ _ h => h) (Or.inl ⟨by rfl, ?_⟩) ?_ ?_
  rotate_left
  · intro w'
    go_simp
    with_reducible rfl
  rotate_left
  · simp only [Act.put, List.setIfInBounds_toArray, List.set_cons_zero, List.set_cons_succ, i64_w, i32_w]
    rfl
  refine pure_ (i := 9) (N := some 113) (v := ?_) (a' := ?_) #[true, true, true, true, true, true, true, true, true, true, false, false] rfl rfl (by kernel_rfl) (fun _ _ _ h => h) (Or.inl ⟨by rfl, ?_⟩) ?_ ?_
  rotate_left
  · intro w'
    go_simp
    with_reducible rfl
  rotate_left
  · simp only [Act.put, List.setIfInBounds_toArray, List.set_cons_zero, List.set_cons_succ, i64_w, i32_w]
    rfl
  refine pure_ (i := 10) (N := some 17) (v := ?_) (a' := ?_) #[true, true, true, true, true, true, true, true, true, true, true, false] rfl rfl (by kernel_rfl) (fun _ _ _ h => h) (Or.inl ⟨by rfl, ?_⟩) ?_ ?_
  rotate_left
  · intro w'
    go_simp
    with_reducible rfl
  rotate_left
  · simp only [Act.put, List.setIfInBounds_toArray, List.set_cons_zero, List.set_cons_succ, i64_w, i32_w]
    rfl
  refine pure_ (i := 11) (N := some 18) (v := ?_) (a' := ?_) #[true, true, true, true, true, true, true, true, true, true, true, true] rfl rfl (by kernel_rfl) (fun _ _ _ h => h) (Or.inl ⟨by rfl, ?_⟩) ?_ ?_
  rotate_left
  · intro w'
    go_simp
    with_reducible rfl
  rotate_left
  · simp only [Act.put, List.setIfInBounds_toArray, List.set_cons_zero, List.set_cons_succ, i64_w, i32_w]
    rfl
  refine done_ (by kernel_rfl) ?_
  have HE8 := Aside0.mk (HE7.out.trans X8.out)
  have kr8 := X8.out.kept HN7.out HR7.out
  have HR8 := Aside0.mk kr8.1
  have HN8 := Aside0.mk kr8.2
  have HL8 := HL7
  clear kr8
  go_upto_region 19 with fail
  have hz8 := (show (v8.drew).cell? ⟨g, 67, none⟩ = some (.int .u32 h.n) from (HD.out.below (S.below HS8.out)).n)
  have C9 : Aside0 (v8.drew.cell? ⟨g, 67, none⟩ = some (.int .u32 h.n)) := ⟨hz8⟩
  have HRd9 : Aside0 ((World.drew v8).heap[gb]? = _) := ⟨HR8.out⟩
  refine start_ (n := 8) (S := fun w' => w'.cell? ⟨g, 67, none⟩ = some (.int .u32 h.n)) (ds := []) #[false, false, false, false, false, false, false, false] (by kernel_rfl) rfl rfl C9.out (fun hHeld => ?_)
  refine take_ (i := 0) (N := some 117) (v := ?_) (a' := ?_) #[true, false, false, false, false, false, false, false] rfl rfl (by kernel_rfl) (fun _ _ _ h => h) (Or.inl ⟨by rfl, ?_⟩) hHeld ?_ ?_
  rotate_left
  · rintro w' s0
    go_simp
    with_reducible rfl
  rotate_left
  · simp only [Act.put, List.setIfInBounds_toArray, List.set_cons_zero, List.set_cons_succ, i64_w, i32_w]
    rfl
  refine pure_ (i := 1) (N := some 118) (v := ?_) (a' := ?_) #[true, true, false, false, false, false, false, false] rfl rfl (by kernel_rfl) (fun _ _ _ h => h) (Or.inl ⟨by rfl, ?_⟩) ?_ ?_
  rotate_left
  · intro w'
    go_simp
    with_reducible rfl
  rotate_left
  · simp only [Act.put, List.setIfInBounds_toArray, List.set_cons_zero, List.set_cons_succ, i64_w, i32_w]
    rfl
  refine pure_ (i := 2) (N := some 119) (v := ?_) (a' := ?_) #[true, true, true, false, false, false, false, false] rfl rfl (by kernel_rfl) (fun _ _ _ h => h) (Or.inl ⟨by rfl, ?_⟩) ?_ ?_
  rotate_left
  · intro w'
    go_simp
    with_reducible rfl
  rotate_left
  · simp only [Act.put, List.setIfInBounds_toArray, List.set_cons_zero, List.set_cons_succ, i64_w, i32_w]
    rfl
  refine pure_ (i := 3) (N := some 120) (v := ?_) (a' := ?_) #[true, true, true, true, false, false, false, false] rfl rfl (by kernel_rfl) (fun _ _ _ h => h) (Or.inl ⟨by rfl, ?_⟩) ?_ ?_
  rotate_left
  · intro w'
    go_simp
    with_reducible rfl
  rotate_left
  · simp only [Act.put, List.setIfInBounds_toArray, List.set_cons_zero, List.set_cons_succ, i64_w, i32_w]
    rfl
  refine pure_ (i := 4) (N := some 121) (v := ?_) (a' := ?_) #[true, true, true, true, true, false, false, false] rfl rfl (by kernel_rfl) (fun _ _ _ h => h) (Or.inl ⟨by rfl, ?_⟩) ?_ ?_
  rotate_left
  · intro w'
    go_simp
    with_reducible rfl
  rotate_left
  · simp only [Act.put, List.setIfInBounds_toArray, List.set_cons_zero, List.set_cons_succ, i64_w, i32_w]
    rfl
  refine pure_ (i := 5) (N := some 122) (v := ?_) (a' := ?_) #[true, true, true, true, true, true, false, false] rfl rfl (by kernel_rfl) (fun _ _ _ h => h) (Or.inl ⟨by rfl, ?_⟩) ?_ ?_
  rotate_left
  · intro w'
    go_simp
    with_reducible rfl
  rotate_left
  · simp only [Act.put, List.setIfInBounds_toArray, List.set_cons_zero, List.set_cons_succ, i64_w, i32_w]
    rfl
  refine take_ (i := 6) (N := some 123) (v := ?_) (a' := ?_) #[true, true, true, true, true, true, true, false] rfl rfl (by kernel_rfl) (fun _ _ _ h => h) (Or.inl ⟨by rfl, ?_⟩) hHeld ?_ ?_
  rotate_left
  · rintro w' s0
    go_simp
    with_reducible rfl
  rotate_left
  · simp only [Act.put, List.setIfInBounds_toArray, List.set_cons_zero, List.set_cons_succ, i64_w, i32_w]
    rfl
  refine one_ (i := 7) (N := some 124) #[true, true, true, true, true, true, true, true] rfl rfl (by kernel_rfl) (by decide) (fun K hK => ?_)
  refine goes_ Tryd.func53 (by kernel_rfl) rfl #[.agg #[], .slice (some ⟨gb, 0, none⟩) 4 8, .int .u32 (h.n)] (by rfl) rfl rfl (by (try simp only [List.map_toArray, List.map_cons, List.map_nil]); first | done | rfl | (simp only [List.length_drop, List.length_take]; rfl)) ?_
  with_reducible refine (lput4C gb 0 4 8 _ _ (h.n) (.agg #[]) _ HRd9.out (by rw [HL8.out]; decide) (by decide)).mono ?_
  rintro e v9 ⟨rfl, k1, k2⟩
  refine ⟨_, rfl, ?_⟩
  have HR9 := Aside0.mk k1
  have P9 : Aside0 (Only gb v8 v9) := ⟨⟨k2.os, k2.tape, k2.output, k2.size, k2.block⟩⟩
  clear k1 k2
  refine hK.out _ _ (by have := P9.out; exact this.cell (p := ⟨g, 67, none⟩) (by intro e; have h1 : g = gb := e; have h2 := HD.out.lt; have h3 := HG0.out; omega) hHeld) (fun hHeld => ?_)
  clear hK K
  refine norm_ (a' := ?_) ?_ ?_
  rotate_left
  · show Act.put _ (some 124) _ = _
    simp only [Act.put, List.setIfInBounds_toArray, List.set_cons_zero, List.set_cons_succ, i64_w, i32_w]
    rfl
  refine done_ (by kernel_rfl) ?_
  obtain ⟨hs9, he9, hn9⟩ := only_step HS8.out HE8.out HGE.out HG0.out HN8.out P9.out
  have HS9 := Aside0.mk hs9
  have HE9 := Aside0.mk he9
  have HN9 := Aside0.mk hn9
  have HL9 : Aside0 ((lput4 (lput4 (lput4 (lput4 l 0 (h.v % 4294967296)) 0 (h.t % 4294967296)) 0 (h.b)) 0 (h.n)).length = 8) := ⟨by rw [lput4_len]; exact HL8.out⟩
  clear hs9 he9 hn9 hHeld
  clear hz8
  go_upto_region 20 with fail
  obtain ⟨q10, hq10⟩ : ∃ q, q = le4 (h.n) := ⟨_, rfl⟩
  have HQ10 := Aside0.mk hq10
  have HW10 : Aside0 (Calls Tryd.prog f #[v, .slice (some ⟨gb, 0, none⟩) 4 8] (World.drew v9) fun e w' => e = .returned (.tuple #[.int .i64 4, .nilIface]) ∧ S.St w' ((((((bs0 ++ q2) ++ q3) ++ q4) ++ q6) ++ q8) ++ q10) ∧ Step S v9 w') := ⟨by
    subst hq10
    have b0 := below_step HS9.out (show Below v9.heap.size v9 v9.drew from ⟨rfl, rfl, rfl, Nat.le_refl _, fun _ _ => rfl⟩)
    exact (S.writeC b0.1 (le4_len _) (by have h1 := HM.out; have h2 := HB0.out; have h3 := HO.out.p; have h4 := HO.out.r; subst h2; have hq2 := congrArg List.length HQ2.out; (try simp only [le4_len] at hq2);  have hq3 := congrArg List.length HQ3.out; (try simp only [le4_len] at hq3);  have hq4 := congrArg List.length HQ4.out; (try simp only [le4_len] at hq4);  have hq6 := congrArg List.length HQ6.out; (try simp only [le4_len] at hq6);  have hq8 := congrArg List.length HQ8.out; (try simp only [le4_len] at hq8); (try simp only [List.length_append, le4_len, List.length_take]); omega) (by decide) (by have := read4 (w := v9) HR9.out HL9.out; rw [lput4_take _ _ (by have := HL9.out; rw [lput4_len] at this; omega)] at this; exact this) (fun _ a e hw => by obtain rfl := Option.some.inj e; exact HN9.out (b0.2.grow gb hw |>.elim id (fun h => absurd (blk_lt' HR9.out) (Nat.not_lt.2 h))))).mono fun e w' ⟨h1, h2, h3⟩ => ⟨h1, h2, b0.2.trans h3⟩⟩
  clear hq10
  have hnl : ∀ W : World, True := fun _ => trivial
  clear hnl
  refine start_ (n := 12) (S := fun w' => True) (ds := []) #[false, false, false, false, false, false, false, false, false, false, false, false] (by kernel_rfl) rfl rfl trivial (fun hHeld => ?_)
  refine pure_ (i := 0) (N := some 126) (v := ?_) (a' := ?_) #[true, false, false, false, false, false, false, false, false, false, false, false] rfl rfl (by kernel_rfl) (fun _ _ _ h => h) (Or.inl ⟨by rfl, ?_⟩) ?_ ?_
  rotate_left
  · intro w'
    go_simp
    with_reducible rfl
  rotate_left
  · simp only [Act.put, List.setIfInBounds_toArray, List.set_cons_zero, List.set_cons_succ, i64_w, i32_w]
    rfl
  refine pure_ (i := 1) (N := some 127) (v := ?_) (a' := ?_) #[true, true, false, false, false, false, false, false, false, false, false, false] rfl rfl (by kernel_rfl) (fun _ _ _ h => h) (Or.inl ⟨by rfl, ?_⟩) ?_ ?_
  rotate_left
  · intro w'
    go_simp
    with_reducible rfl
  rotate_left
  · simp only [Act.put, List.setIfInBounds_toArray, List.set_cons_zero, List.set_cons_succ, i64_w, i32_w]
    rfl
  refine pure_ (i := 2) (N := some 128) (v := ?_) (a' := ?_) #[true, true, true, false, false, false, false, false, false, false, false, false] rfl rfl (by kernel_rfl) (fun _ _ _ h => h) (Or.inl ⟨by rfl, ?_⟩) ?_ ?_
  rotate_left
  · intro w'
    go_simp
    with_reducible rfl
  rotate_left
  · simp only [Act.put, List.setIfInBounds_toArray, List.set_cons_zero, List.set_cons_succ, i64_w, i32_w]
    rfl
  refine pure_ (i := 3) (N := some 129) (v := ?_) (a' := ?_) #[true, true, true, true, false, false, false, false, false, false, false, false] rfl rfl (by kernel_rfl) (fun _ _ _ h => h) (Or.inl ⟨by rfl, ?_⟩) ?_ ?_
  rotate_left
  · intro w'
    go_simp
    with_reducible rfl
  rotate_left
  · simp only [Act.put, List.setIfInBounds_toArray, List.set_cons_zero, List.set_cons_succ, i64_w, i32_w]
    rfl
  refine pure_ (i := 4) (N := some 130) (v := ?_) (a' := ?_) #[true, true, true, true, true, false, false, false, false, false, false, false] rfl rfl (by kernel_rfl) (fun _ _ _ h => h) (Or.inl ⟨by rfl, ?_⟩) ?_ ?_
  rotate_left
  · intro w'
    refine nil_run S.nil _ (.tmp 129) ?_ ?_ <;> rfl
  rotate_left
  · simp only [Act.put, List.setIfInBounds_toArray, List.set_cons_zero, List.set_cons_succ, i64_w, i32_w]
    rfl
  refine pure_ (i := 5) (N := some 131) (v := ?_) (a' := ?_) #[true, true, true, true, true, true, false, false, false, false, false, false] rfl rfl (by kernel_rfl) (fun _ _ _ h => h) (Or.inl ⟨by rfl, ?_⟩) ?_ ?_
  rotate_left
  · intro w'
    go_simp
    with_reducible rfl
  rotate_left
  · simp only [Act.put, List.setIfInBounds_toArray, List.set_cons_zero, List.set_cons_succ, i64_w, i32_w]
    rfl
  refine one_ (i := 6) (N := some 132) #[true, true, true, true, true, true, true, false, false, false, false, false] rfl rfl (by kernel_rfl) (by decide) (fun K hK => ?_)
  refine goesI_ (by rfl) rfl (.tmp 131) "Write" rfl T v rfl f S.meth HF.out HNM.out HBD.out #[v, .slice (some ⟨gb, 0, none⟩) 4 8] (by (try simp only [List.map_toArray, List.map_cons, List.map_nil]); first | done | rfl | (simp only [List.length_drop, List.length_take]; rfl)) ?_
  with_reducible refine HW10.out.mono ?_
  rintro e v10 ⟨rfl, k1, k2⟩
  refine ⟨_, rfl, ?_⟩
  have HS10 := Aside0.mk k1
  have X10 := Aside0.mk k2
  clear k1 k2
  refine hK.out _ _ trivial (fun hHeld => ?_)
  clear hK K
  refine norm_ (a' := ?_) ?_ ?_
  rotate_left
  · show Act.put _ (some 132) _ = _
    simp only [Act.put, List.setIfInBounds_toArray, List.set_cons_zero, List.set_cons_succ, i64_w, i32_w]
    rfl
  refine pure_ (i := 7) (N := some 125) (v := ?_) (a' := ?_) #[true, true, true, true, true, true, true, true, false, false, false, false] rfl rfl (by kernel_rfl) (fun _ _ _ h => h) (Or.inl ⟨by rfl, ?_⟩) ?_ ?_
  rotate_left
  · intro w'
    go_simp
    with_reducible rfl
  rotate_left
  · simp only [Act.put, List.setIfInBounds_toArray, List.set_cons_zero, List.set_cons_succ, i64_w, i32_w]
    rfl
  refine pure_ (i := 8) (N := some 133) (v := ?_) (a' := ?_) #[true, true, true, true, true, true, true, true, true, false, false, false] rfl rfl (by kernel_rfl) (fun _ _ _ h => h) (Or.inl ⟨by rfl, ?_⟩) ?_ ?_
  rotate_left
  · intro w'
    go_simp
    with_reducible rfl
  rotate_left
  · simp only [Act.put, List.setIfInBounds_toArray, List.set_cons_zero, List.set_cons_succ, i64_w, i32_w]
    rfl
  refine pure_ (i := 9) (N := some 134) (v := ?_) (a' := ?_) #[true, true, true, true, true, true, true, true, true, true, false, false] rfl rfl (by kernel_rfl) (fun _ _ _ h => h) (Or.inl ⟨by rfl, ?_⟩) ?_ ?_
  rotate_left
  · intro w'
    go_simp
    with_reducible rfl
  rotate_left
  · simp only [Act.put, List.setIfInBounds_toArray, List.set_cons_zero, List.set_cons_succ, i64_w, i32_w]
    rfl
  refine pure_ (i := 10) (N := some 19) (v := ?_) (a' := ?_) #[true, true, true, true, true, true, true, true, true, true, true, false] rfl rfl (by kernel_rfl) (fun _ _ _ h => h) (Or.inl ⟨by rfl, ?_⟩) ?_ ?_
  rotate_left
  · intro w'
    go_simp
    with_reducible rfl
  rotate_left
  · simp only [Act.put, List.setIfInBounds_toArray, List.set_cons_zero, List.set_cons_succ, i64_w, i32_w]
    rfl
  refine pure_ (i := 11) (N := some 20) (v := ?_) (a' := ?_) #[true, true, true, true, true, true, true, true, true, true, true, true] rfl rfl (by kernel_rfl) (fun _ _ _ h => h) (Or.inl ⟨by rfl, ?_⟩) ?_ ?_
  rotate_left
  · intro w'
    go_simp
    with_reducible rfl
  rotate_left
  · simp only [Act.put, List.setIfInBounds_toArray, List.set_cons_zero, List.set_cons_succ, i64_w, i32_w]
    rfl
  refine done_ (by kernel_rfl) ?_
  have HE10 := Aside0.mk (HE9.out.trans X10.out)
  have kr10 := X10.out.kept HN9.out HR9.out
  have HR10 := Aside0.mk kr10.1
  have HN10 := Aside0.mk kr10.2
  have HL10 := HL9
  clear kr10
  go_wp2_with fail
  go_ret
  refine ⟨rfl, ?_, HE10.out⟩
  have e0 := HB0.out
  have e2 := HQ2.out
  have e3 := HQ3.out
  have e4 := HQ4.out
  have e6 := HQ6.out
  have e8 := HQ8.out
  have e10 := HQ10.out
  have e := HS10.out
  rw [HT.out] at e6
  subst e0 e2 e3 e4 e6 e8 e10
  unfold HdV.bytes
  simpa only [List.append_assoc] using e
end Go.Proofs.YtigpdgfhngknhaaDoor.Snk
