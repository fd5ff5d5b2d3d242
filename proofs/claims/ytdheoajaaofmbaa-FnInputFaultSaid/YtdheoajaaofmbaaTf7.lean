/- The package's small functions over a message: its size without witnesses, a coinbase, a rule's error. -/
import Derived.Test.YtdheoajaaofmbaaTf6
namespace Go.Proofs.Ytdheoajaaofmbaa.QFnScriptPlaces
open Go.RowKit Go.Proofs.YtdheoajaaofmbaaW.PrintWords Go.Proofs.YtdheoajaaofmbaaW.PrintLast Go.Proofs.YtdheoajaaofmbaaW.PrintMore
set_option linter.unusedVariables false
set_option linter.unusedSimpArgs false
/-- A transaction that wraps a message. -/
structure UTx (w : World) (b g : Nat) : Prop where
  blk : w.heap[b]? = some (.cells #[.pointer (some ⟨g, 0, none⟩), .pointer none, .pointer none, .pointer none, .int .i64 (-1), .slice none 0 0] 138 (0, 0))
theorem UTx.below {w w1 : World} {b g : Nat} (h : UTx w b g) (hb : Below w.heap.size w w1) : UTx w1 b g := ⟨(hb.block b (blk_lt' h.blk)).trans h.blk⟩
set_option maxRecDepth 100000 in
theorem msgTxC (b g : Nat) (w : World) (h : UTx w b g) : Calls Try.prog 52 #[.pointer (some ⟨b, 0, none⟩)] w fun e w' => e = .returned (.pointer (some ⟨g, 0, none⟩)) ∧ w = w' := by
  have k0 := cell_of h.blk (j := 0) (v := .pointer (some ⟨g, 0, none⟩)) rfl
  clear h
  go_enter Try.func52, Try.ntmps52
  go_wp2_with fail
  go_ret
  exact ⟨rfl, rfl⟩
set_option maxRecDepth 100000 in
theorem newTxC (g : Nat) (w : World) : Calls Try.prog 57 #[.pointer (some ⟨g, 0, none⟩)] w fun e w' => e = .returned (.pointer (some ⟨w.heap.size, 0, none⟩)) ∧ UTx w' w.heap.size g ∧ Below w.heap.size w w' := by
  have HN := Aside0.mk (heap_alloc_new w (.cells #[.pointer (some ⟨g, 0, none⟩), .pointer none, .pointer none, .pointer none, .int .i64 (-1), .slice none 0 0] 138))
  have HB := Aside0.mk (below_alloc (Below.refl w.heap.size w) (.cells #[.pointer (some ⟨g, 0, none⟩), .pointer none, .pointer none, .pointer none, .int .i64 (-1), .slice none 0 0] 138))
  go_enter Try.func57, Try.ntmps57
  go_wp2_with fail
  go_ret
  exact ⟨rfl, ⟨HN.out⟩, HB.out⟩
set_option maxRecDepth 100000 in
set_option maxHeartbeats 4000000 in
theorem utilTxC (v lock : Int) (Ai : Option Addr) (ci : Nat) (ins : List S35) (Ao : Option Addr) (co : Nat) (outs : List S41) (w : World) (hi : Kd.C k35 w Ai ins.length ins) (hci : ins.length ≤ ci) (ho : Kd.C k41 w Ao outs.length outs) (hco : outs.length ≤ co) (hf : TxFit ins outs) :
    Calls Try.prog 34 #[.agg #[.int .i32 v, .slice Ai ins.length ci, .slice Ao outs.length co, .int .u32 lock]] w fun e w' => ∃ b g A1 c1 A2 c2, e = .returned (.pointer (some ⟨b, 0, none⟩)) ∧ UTx w' b g ∧ Msg w' g v lock ins outs A1 c1 A2 c2 ∧ Below w.heap.size w w' := by
  have HI := Aside0.mk hi
  have HO := Aside0.mk ho
  clear hi ho
  go_enter Try.func34, Try.ntmps34
  go_wp2_with (first
    | (go_at_call 24; (with_reducible refine (txOfC v lock Ai ci ins Ao co outs _ (Kd.C_below HI.out (below_alloc (Below.refl _ _) _)) hci (Kd.C_below HO.out (below_alloc (Below.refl _ _) _)) hco hf).mono ?_); rintro e w2 ⟨g, A1, c1, A2, c2, rfl, hm, hg, hb⟩; have HM := Aside0.mk hm; have HB := Aside0.mk ((below_alloc (Below.refl w.heap.size w) _).trans (hb.mono (by simp))); clear hm hg hb)
    | (go_at_call 57; (with_reducible refine (newTxC g _).mono ?_); rintro e w3 ⟨rfl, hu, hb⟩; have HU := Aside0.mk hu; have HM2 := Aside0.mk (HM.out.below hb); have HB2 := Aside0.mk (HB.out.trans (hb.mono HB.out.size)); clear hu hb))
  go_ret
  exact ⟨_, g, A1, c1, A2, c2, rfl, HU.out, HM2.out, HB2.out⟩
set_option maxRecDepth 100000 in
set_option maxHeartbeats 8000000 in
theorem outSizeC (g n : Nat) (A1 : Option Addr) (c1 : Nat) (w : World) (hc : w.cell? ⟨g, 1, none⟩ = some (.slice A1 n c1)) (hn : n ≤ 1000000) :
    Calls Try.prog 70 #[.pointer (some ⟨g, 0, none⟩)] w fun e w' => e = .returned (.int .i64 (8 + varL (n : Int) + n)) ∧ Below w.heap.size w w' := by
  have hv := varL_range (n : Int)
  have hu : IntKind.u64.wrap (n : Int) = (n : Int) := by show (n : Int) % 18446744073709551616 = _; omega
  have hq1 : wrap64 (8 + varL (n : Int)) = 8 + varL (n : Int) := by unfold wrap64; omega
  have hq2 : wrap64 (8 + varL (n : Int) + (n : Int)) = 8 + varL (n : Int) + n := by unfold wrap64; omega
  have HS : Aside0 (w.drew.cell? ⟨g, 1, none⟩ = some (.slice A1 n c1)) := ⟨hc⟩
  have HQ := Aside0.mk (And.intro hq1 hq2)
  clear hv hq1 hq2
  go_enter Try.func70, Try.ntmps70
  go_upto_region 1 with fail
  refine start_ (n := 15) (S := fun w' => w'.cell? ⟨g, 1, none⟩ = some (.slice A1 n c1)) (ds := []) #[false, false, false, false, false, false, false, false, false, false, false, false, false, false, false] (by kernel_rfl) rfl rfl HS.out (fun hHeld => ?_)
  refine pure_ (i := 0) (N := some 3) (v := ?_) (a' := ?_) #[true, false, false, false, false, false, false, false, false, false, false, false, false, false, false] rfl rfl (by kernel_rfl) (fun _ _ _ h => h) (Or.inl ⟨by rfl, ?_⟩) ?_ ?_
  rotate_left
  · intro w'
    go_simp
    with_reducible rfl
  rotate_left
  · simp only [Act.put, List.setIfInBounds_toArray, List.set_cons_zero, List.set_cons_succ, i64_w, i32_w]
    rfl
  refine pure_ (i := 1) (N := some 4) (v := ?_) (a' := ?_) #[true, true, false, false, false, false, false, false, false, false, false, false, false, false, false] rfl rfl (by kernel_rfl) (fun _ _ _ h => h) (Or.inl ⟨by rfl, ?_⟩) ?_ ?_
  rotate_left
  · intro w'
    go_simp
    with_reducible rfl
  rotate_left
  · simp only [Act.put, List.setIfInBounds_toArray, List.set_cons_zero, List.set_cons_succ, i64_w, i32_w]
    rfl
  refine pure_ (i := 2) (N := some 5) (v := ?_) (a' := ?_) #[true, true, true, false, false, false, false, false, false, false, false, false, false, false, false] rfl rfl (by kernel_rfl) (fun _ _ _ h => h) (Or.inl ⟨by rfl, ?_⟩) ?_ ?_
  rotate_left
  · intro w'
    go_simp
    with_reducible rfl
  rotate_left
  · simp only [Act.put, List.setIfInBounds_toArray, List.set_cons_zero, List.set_cons_succ, i64_w, i32_w]
    rfl
  refine take_ (i := 3) (N := some 6) (v := ?_) (a' := ?_) #[true, true, true, true, false, false, false, false, false, false, false, false, false, false, false] rfl rfl (by kernel_rfl) (fun _ _ _ h => h) (Or.inl ⟨by rfl, ?_⟩) hHeld ?_ ?_
  rotate_left
  · rintro w' s0
    go_simp
    with_reducible rfl
  rotate_left
  · simp only [Act.put, List.setIfInBounds_toArray, List.set_cons_zero, List.set_cons_succ, i64_w, i32_w]
    rfl
  refine pure_ (i := 4) (N := some 7) (v := ?_) (a' := ?_) #[true, true, true, true, true, false, false, false, false, false, false, false, false, false, false] rfl rfl (by kernel_rfl) (fun _ _ _ h => h) (Or.inl ⟨by rfl, ?_⟩) ?_ ?_
  rotate_left
  · intro w'
    go_simp
    with_reducible rfl
  rotate_left
  · simp only [Act.put, List.setIfInBounds_toArray, List.set_cons_zero, List.set_cons_succ, i64_w, i32_w]
    rfl
  refine pure_ (i := 5) (N := some 8) (v := ?_) (a' := ?_) #[true, true, true, true, true, true, false, false, false, false, false, false, false, false, false] rfl rfl (by kernel_rfl) (fun _ _ _ h => h) (Or.inl ⟨by rfl, ?_⟩) ?_ ?_
  rotate_left
  · intro w'
    go_simp
    try rw [hu]
    with_reducible rfl
  rotate_left
  · simp only [Act.put, List.setIfInBounds_toArray, List.set_cons_zero, List.set_cons_succ, i64_w, i32_w]
    rfl
  refine pure_ (i := 8) (N := some 11) (v := ?_) (a' := ?_) #[true, true, true, true, true, true, false, false, true, false, false, false, false, false, false] rfl rfl (by kernel_rfl) (fun _ _ _ h => h) (Or.inl ⟨by rfl, ?_⟩) ?_ ?_
  rotate_left
  · intro w'
    go_simp
    with_reducible rfl
  rotate_left
  · simp only [Act.put, List.setIfInBounds_toArray, List.set_cons_zero, List.set_cons_succ, i64_w, i32_w]
    rfl
  refine pure_ (i := 9) (N := some 12) (v := ?_) (a' := ?_) #[true, true, true, true, true, true, false, false, true, true, false, false, false, false, false] rfl rfl (by kernel_rfl) (fun _ _ _ h => h) (Or.inl ⟨by rfl, ?_⟩) ?_ ?_
  rotate_left
  · intro w'
    go_simp
    with_reducible rfl
  rotate_left
  · simp only [Act.put, List.setIfInBounds_toArray, List.set_cons_zero, List.set_cons_succ, i64_w, i32_w]
    rfl
  refine pure_ (i := 10) (N := some 13) (v := ?_) (a' := ?_) #[true, true, true, true, true, true, false, false, true, true, true, false, false, false, false] rfl rfl (by kernel_rfl) (fun _ _ _ h => h) (Or.inl ⟨by rfl, ?_⟩) ?_ ?_
  rotate_left
  · intro w'
    go_simp
    with_reducible rfl
  rotate_left
  · simp only [Act.put, List.setIfInBounds_toArray, List.set_cons_zero, List.set_cons_succ, i64_w, i32_w]
    rfl
  refine take_ (i := 11) (N := some 14) (v := ?_) (a' := ?_) #[true, true, true, true, true, true, false, false, true, true, true, true, false, false, false] rfl rfl (by kernel_rfl) (fun _ _ _ h => h) (Or.inl ⟨by rfl, ?_⟩) hHeld ?_ ?_
  rotate_left
  · rintro w' s0
    go_simp
    with_reducible rfl
  rotate_left
  · simp only [Act.put, List.setIfInBounds_toArray, List.set_cons_zero, List.set_cons_succ, i64_w, i32_w]
    rfl
  refine pure_ (i := 12) (N := some 15) (v := ?_) (a' := ?_) #[true, true, true, true, true, true, false, false, true, true, true, true, true, false, false] rfl rfl (by kernel_rfl) (fun _ _ _ h => h) (Or.inl ⟨by rfl, ?_⟩) ?_ ?_
  rotate_left
  · intro w'
    go_simp
    with_reducible rfl
  rotate_left
  · simp only [Act.put, List.setIfInBounds_toArray, List.set_cons_zero, List.set_cons_succ, i64_w, i32_w]
    rfl
  refine one_ (i := 6) (N := some 9) #[true, true, true, true, true, true, true, false, true, true, true, true, true, false, false] rfl rfl (by kernel_rfl) (by decide) (fun K hK => ?_)
  refine goes_ Try.func49 (by kernel_rfl) rfl #[.int .u64 (n : Int)] (by rfl) rfl rfl (by (try simp only [List.map_toArray, List.map_cons, List.map_nil]); first | done | rfl | (simp only [List.length_drop, List.length_take]; rfl)) ?_
  with_reducible refine (btcdwire_VarIntSerializeSize.calls (n : Int) (varL (n : Int)) _ (vsf _)).mono ?_
  rintro e w2 ⟨rfl, hd⟩
  refine ⟨_, rfl, ?_⟩
  have HB := Aside0.mk ((below_drew (Below.refl w.heap.size w)).trans hd.below)
  refine hK.out _ _ (pw_cell_below hd.below hHeld) (fun hHeld => ?_)
  clear hK K
  refine norm_ (a' := ?_) ?_ ?_
  rotate_left
  · show Act.put _ (some 9) _ = _
    simp only [Act.put, List.setIfInBounds_toArray, List.set_cons_zero, List.set_cons_succ, i64_w, i32_w]
    rfl
  refine pure_ (i := 7) (N := some 10) (v := ?_) (a' := ?_) #[true, true, true, true, true, true, true, true, true, true, true, true, true, false, false] rfl rfl (by kernel_rfl) (fun _ _ _ h => h) (Or.inl ⟨by rfl, ?_⟩) ?_ ?_
  rotate_left
  · intro w'
    go_simp
    with_reducible rfl
  rotate_left
  · simp only [Act.put, List.setIfInBounds_toArray, List.set_cons_zero, List.set_cons_succ, i64_w, i32_w]
    rfl
  refine pure_ (i := 13) (N := some 16) (v := ?_) (a' := ?_) #[true, true, true, true, true, true, true, true, true, true, true, true, true, true, false] rfl rfl (by kernel_rfl) (fun _ _ _ h => h) (Or.inl ⟨by rfl, ?_⟩) ?_ ?_
  rotate_left
  · intro w'
    go_simp
    with_reducible rfl
  rotate_left
  · simp only [Act.put, List.setIfInBounds_toArray, List.set_cons_zero, List.set_cons_succ, i64_w, i32_w]
    rfl
  refine pure_ (i := 14) (N := some 2) (v := ?_) (a' := ?_) #[true, true, true, true, true, true, true, true, true, true, true, true, true, true, true] rfl rfl (by kernel_rfl) (fun _ _ _ h => h) (Or.inl ⟨by rfl, ?_⟩) ?_ ?_
  rotate_left
  · intro w'
    go_simp
    with_reducible rfl
  rotate_left
  · simp only [Act.put, List.setIfInBounds_toArray, List.set_cons_zero, List.set_cons_succ, i64_w, i32_w]
    rfl
  refine done_ (by kernel_rfl) ?_
  go_wp2_with fail
  go_ret
  exact ⟨by rw [HQ.out.1, HQ.out.2]; rfl, HB.out⟩
def outS (y : S41) : Int := 8 + varL (y.f1.length : Int) + y.f1.length
def sumO : List S41 → Int
  | [] => 0
  | y :: ys => outS y + sumO ys
theorem sumO_snoc (l : List S41) (y : S41) : sumO (l ++ [y]) = sumO l + outS y := by
  induction l with
  | nil => simp [sumO]
  | cons x xs ih => simp only [List.cons_append, sumO, ih]; omega
theorem sumO_range (l : List S41) (h : ∀ y ∈ l, y.f1.length ≤ 1000000) : 0 ≤ sumO l ∧ sumO l ≤ l.length * 2000000 := by
  induction l with
  | nil => simp [sumO]
  | cons y ys ih =>
    have h1 := ih (fun x hx => h x (List.mem_cons_of_mem _ hx))
    have h2 := h y List.mem_cons_self
    have h3 := varL_range (y.f1.length : Int)
    simp only [sumO, outS, List.length_cons]
    omega
/-- The size without witnesses. -/
def baseI (ins : List S35) (outs : List S41) : Int := 8 + varL (ins.length : Int) + varL (outs.length : Int) + sumI ins + sumO outs
set_option maxRecDepth 100000 in
set_option maxHeartbeats 8000000 in
theorem baseSizeC (g : Nat) (v lock : Int) (ins : List S35) (outs : List S41) (A1 : Option Addr) (c1 : Nat) (A2 : Option Addr) (c2 : Nat) (w : World) (hm : Msg w g v lock ins outs A1 c1 A2 c2) (hf : TxFit ins outs) :
    Calls Try.prog 68 #[.pointer (some ⟨g, 0, none⟩)] w fun e w' => e = .returned (.int .i64 (baseI ins outs)) ∧ Below w.heap.size w w' := by
  have HM := Aside0.mk hm
  have HF := Aside0.mk hf
  have hu1 : IntKind.u64.wrap (ins.length : Int) = (ins.length : Int) := by have := hf.n1; show (ins.length : Int) % 18446744073709551616 = _; omega
  have hu2 : IntKind.u64.wrap (outs.length : Int) = (outs.length : Int) := by have := hf.n2; show (outs.length : Int) % 18446744073709551616 = _; omega
  obtain ⟨ni, hni⟩ : ∃ n, ins.length = n := ⟨_, rfl⟩
  obtain ⟨no, hno⟩ : ∃ n, outs.length = n := ⟨_, rfl⟩
  have HS : Aside0 (w.drew.cell? ⟨g, 1, none⟩ = some (.slice A1 ni c1) ∧ w.drew.cell? ⟨g, 2, none⟩ = some (.slice A2 no c2)) := ⟨by rw [← hni, ← hno]; exact ⟨cell_of hm.blk (j := 1) rfl, cell_of hm.blk (j := 2) rfl⟩⟩
  have hv1 := varL_range (ni : Int)
  have hv2 := varL_range (no : Int)
  have hq1 : wrap64 (8 + varL (ni : Int)) = 8 + varL (ni : Int) := by unfold wrap64; omega
  have hq2 : wrap64 (8 + varL (ni : Int) + varL (no : Int)) = 8 + varL (ni : Int) + varL (no : Int) := by unfold wrap64; omega
  have HQ := Aside0.mk (And.intro hq1 hq2)
  rw [hni] at hu1
  rw [hno] at hu2
  have HNI := Aside0.mk hni
  have HNO := Aside0.mk hno
  have HV := Aside0.mk (And.intro hv1 hv2)
  clear hm hf hv1 hv2 hq1 hq2 hni hno
  go_enter Try.func68, Try.ntmps68
  go_upto_region 1 with fail
  refine start_ (n := 17) (S := fun w' => w'.cell? ⟨g, 1, none⟩ = some (.slice A1 ni c1) ∧ w'.cell? ⟨g, 2, none⟩ = some (.slice A2 no c2)) (ds := []) #[false, false, false, false, false, false, false, false, false, false, false, false, false, false, false, false, false] (by kernel_rfl) rfl rfl HS.out (fun hHeld => ?_)
  refine pure_ (i := 0) (N := some 8) (v := ?_) (a' := ?_) #[true, false, false, false, false, false, false, false, false, false, false, false, false, false, false, false, false] rfl rfl (by kernel_rfl) (fun _ _ _ h => h) (Or.inl ⟨by rfl, ?_⟩) ?_ ?_
  rotate_left
  · intro w'
    go_simp
    with_reducible rfl
  rotate_left
  · simp only [Act.put, List.setIfInBounds_toArray, List.set_cons_zero, List.set_cons_succ, i64_w, i32_w]
    rfl
  refine pure_ (i := 1) (N := some 9) (v := ?_) (a' := ?_) #[true, true, false, false, false, false, false, false, false, false, false, false, false, false, false, false, false] rfl rfl (by kernel_rfl) (fun _ _ _ h => h) (Or.inl ⟨by rfl, ?_⟩) ?_ ?_
  rotate_left
  · intro w'
    go_simp
    with_reducible rfl
  rotate_left
  · simp only [Act.put, List.setIfInBounds_toArray, List.set_cons_zero, List.set_cons_succ, i64_w, i32_w]
    rfl
  refine pure_ (i := 2) (N := some 10) (v := ?_) (a' := ?_) #[true, true, true, false, false, false, false, false, false, false, false, false, false, false, false, false, false] rfl rfl (by kernel_rfl) (fun _ _ _ h => h) (Or.inl ⟨by rfl, ?_⟩) ?_ ?_
  rotate_left
  · intro w'
    go_simp
    with_reducible rfl
  rotate_left
  · simp only [Act.put, List.setIfInBounds_toArray, List.set_cons_zero, List.set_cons_succ, i64_w, i32_w]
    rfl
  refine take_ (i := 3) (N := some 11) (v := ?_) (a' := ?_) #[true, true, true, true, false, false, false, false, false, false, false, false, false, false, false, false, false] rfl rfl (by kernel_rfl) (fun _ _ _ h => h) (Or.inl ⟨by rfl, ?_⟩) hHeld ?_ ?_
  rotate_left
  · rintro w' ⟨s0, s1⟩
    go_simp
    with_reducible rfl
  rotate_left
  · simp only [Act.put, List.setIfInBounds_toArray, List.set_cons_zero, List.set_cons_succ, i64_w, i32_w]
    rfl
  refine pure_ (i := 4) (N := some 12) (v := ?_) (a' := ?_) #[true, true, true, true, true, false, false, false, false, false, false, false, false, false, false, false, false] rfl rfl (by kernel_rfl) (fun _ _ _ h => h) (Or.inl ⟨by rfl, ?_⟩) ?_ ?_
  rotate_left
  · intro w'
    go_simp
    with_reducible rfl
  rotate_left
  · simp only [Act.put, List.setIfInBounds_toArray, List.set_cons_zero, List.set_cons_succ, i64_w, i32_w]
    rfl
  refine pure_ (i := 5) (N := some 13) (v := ?_) (a' := ?_) #[true, true, true, true, true, true, false, false, false, false, false, false, false, false, false, false, false] rfl rfl (by kernel_rfl) (fun _ _ _ h => h) (Or.inl ⟨by rfl, ?_⟩) ?_ ?_
  rotate_left
  · intro w'
    go_simp
    try rw [hu1]
    with_reducible rfl
  rotate_left
  · simp only [Act.put, List.setIfInBounds_toArray, List.set_cons_zero, List.set_cons_succ, i64_w, i32_w]
    rfl
  refine pure_ (i := 8) (N := some 16) (v := ?_) (a' := ?_) #[true, true, true, true, true, true, false, false, true, false, false, false, false, false, false, false, false] rfl rfl (by kernel_rfl) (fun _ _ _ h => h) (Or.inl ⟨by rfl, ?_⟩) ?_ ?_
  rotate_left
  · intro w'
    go_simp
    with_reducible rfl
  rotate_left
  · simp only [Act.put, List.setIfInBounds_toArray, List.set_cons_zero, List.set_cons_succ, i64_w, i32_w]
    rfl
  refine pure_ (i := 9) (N := some 17) (v := ?_) (a' := ?_) #[true, true, true, true, true, true, false, false, true, true, false, false, false, false, false, false, false] rfl rfl (by kernel_rfl) (fun _ _ _ h => h) (Or.inl ⟨by rfl, ?_⟩) ?_ ?_
  rotate_left
  · intro w'
    go_simp
    with_reducible rfl
  rotate_left
  · simp only [Act.put, List.setIfInBounds_toArray, List.set_cons_zero, List.set_cons_succ, i64_w, i32_w]
    rfl
  refine pure_ (i := 10) (N := some 18) (v := ?_) (a' := ?_) #[true, true, true, true, true, true, false, false, true, true, true, false, false, false, false, false, false] rfl rfl (by kernel_rfl) (fun _ _ _ h => h) (Or.inl ⟨by rfl, ?_⟩) ?_ ?_
  rotate_left
  · intro w'
    go_simp
    with_reducible rfl
  rotate_left
  · simp only [Act.put, List.setIfInBounds_toArray, List.set_cons_zero, List.set_cons_succ, i64_w, i32_w]
    rfl
  refine take_ (i := 11) (N := some 19) (v := ?_) (a' := ?_) #[true, true, true, true, true, true, false, false, true, true, true, true, false, false, false, false, false] rfl rfl (by kernel_rfl) (fun _ _ _ h => h) (Or.inl ⟨by rfl, ?_⟩) hHeld ?_ ?_
  rotate_left
  · rintro w' ⟨s0, s1⟩
    go_simp
    with_reducible rfl
  rotate_left
  · simp only [Act.put, List.setIfInBounds_toArray, List.set_cons_zero, List.set_cons_succ, i64_w, i32_w]
    rfl
  refine pure_ (i := 12) (N := some 20) (v := ?_) (a' := ?_) #[true, true, true, true, true, true, false, false, true, true, true, true, true, false, false, false, false] rfl rfl (by kernel_rfl) (fun _ _ _ h => h) (Or.inl ⟨by rfl, ?_⟩) ?_ ?_
  rotate_left
  · intro w'
    go_simp
    with_reducible rfl
  rotate_left
  · simp only [Act.put, List.setIfInBounds_toArray, List.set_cons_zero, List.set_cons_succ, i64_w, i32_w]
    rfl
  refine pure_ (i := 13) (N := some 21) (v := ?_) (a' := ?_) #[true, true, true, true, true, true, false, false, true, true, true, true, true, true, false, false, false] rfl rfl (by kernel_rfl) (fun _ _ _ h => h) (Or.inl ⟨by rfl, ?_⟩) ?_ ?_
  rotate_left
  · intro w'
    go_simp
    try rw [hu2]
    with_reducible rfl
  rotate_left
  · simp only [Act.put, List.setIfInBounds_toArray, List.set_cons_zero, List.set_cons_succ, i64_w, i32_w]
    rfl
  refine one_ (i := 6) (N := some 14) #[true, true, true, true, true, true, true, false, true, true, true, true, true, true, false, false, false] rfl rfl (by kernel_rfl) (by decide) (fun K hK => ?_)
  refine goes_ Try.func49 (by kernel_rfl) rfl #[.int .u64 (ni : Int)] (by rfl) rfl rfl (by (try simp only [List.map_toArray, List.map_cons, List.map_nil]); first | done | rfl | (simp only [List.length_drop, List.length_take]; rfl)) ?_
  with_reducible refine (btcdwire_VarIntSerializeSize.calls (ni : Int) (varL (ni : Int)) _ (vsf _)).mono ?_
  rintro e w2 ⟨rfl, hd⟩
  refine ⟨_, rfl, ?_⟩
  have HB := Aside0.mk ((below_drew (Below.refl w.heap.size w)).trans hd.below)
  refine hK.out _ _ (⟨pw_cell_below hd.below hHeld.1, pw_cell_below hd.below hHeld.2⟩) (fun hHeld => ?_)
  clear hK K
  refine norm_ (a' := ?_) ?_ ?_
  rotate_left
  · show Act.put _ (some 14) _ = _
    simp only [Act.put, List.setIfInBounds_toArray, List.set_cons_zero, List.set_cons_succ, i64_w, i32_w]
    rfl
  refine pure_ (i := 7) (N := some 15) (v := ?_) (a' := ?_) #[true, true, true, true, true, true, true, true, true, true, true, true, true, true, false, false, false] rfl rfl (by kernel_rfl) (fun _ _ _ h => h) (Or.inl ⟨by rfl, ?_⟩) ?_ ?_
  rotate_left
  · intro w'
    go_simp
    with_reducible rfl
  rotate_left
  · simp only [Act.put, List.setIfInBounds_toArray, List.set_cons_zero, List.set_cons_succ, i64_w, i32_w]
    rfl
  refine one_ (i := 14) (N := some 22) #[true, true, true, true, true, true, true, true, true, true, true, true, true, true, true, false, false] rfl rfl (by kernel_rfl) (by decide) (fun K hK => ?_)
  refine goes_ Try.func49 (by kernel_rfl) rfl #[.int .u64 (no : Int)] (by rfl) rfl rfl (by (try simp only [List.map_toArray, List.map_cons, List.map_nil]); first | done | rfl | (simp only [List.length_drop, List.length_take]; rfl)) ?_
  with_reducible refine (btcdwire_VarIntSerializeSize.calls (no : Int) (varL (no : Int)) _ (vsf _)).mono ?_
  rintro e w3 ⟨rfl, hd⟩
  refine ⟨_, rfl, ?_⟩
  have HB2 := Aside0.mk (HB.out.trans (hd.below.mono HB.out.size))
  refine hK.out _ _ (⟨pw_cell_below hd.below hHeld.1, pw_cell_below hd.below hHeld.2⟩) (fun hHeld => ?_)
  clear hK K
  refine norm_ (a' := ?_) ?_ ?_
  rotate_left
  · show Act.put _ (some 22) _ = _
    simp only [Act.put, List.setIfInBounds_toArray, List.set_cons_zero, List.set_cons_succ, i64_w, i32_w]
    rfl
  refine pure_ (i := 15) (N := some 23) (v := ?_) (a' := ?_) #[true, true, true, true, true, true, true, true, true, true, true, true, true, true, true, true, false] rfl rfl (by kernel_rfl) (fun _ _ _ h => h) (Or.inl ⟨by rfl, ?_⟩) ?_ ?_
  rotate_left
  · intro w'
    go_simp
    with_reducible rfl
  rotate_left
  · simp only [Act.put, List.setIfInBounds_toArray, List.set_cons_zero, List.set_cons_succ, i64_w, i32_w]
    rfl
  refine pure_ (i := 16) (N := some 3) (v := ?_) (a' := ?_) #[true, true, true, true, true, true, true, true, true, true, true, true, true, true, true, true, true] rfl rfl (by kernel_rfl) (fun _ _ _ h => h) (Or.inl ⟨by rfl, ?_⟩) ?_ ?_
  rotate_left
  · intro w'
    go_simp
    with_reducible rfl
  rotate_left
  · simp only [Act.put, List.setIfInBounds_toArray, List.set_cons_zero, List.set_cons_succ, i64_w, i32_w]
    rfl
  refine done_ (by kernel_rfl) ?_
  rw [HQ.out.1, HQ.out.2]
  obtain ⟨hd, hhd⟩ : ∃ z, 8 + varL (ni : Int) + varL (no : Int) = z := ⟨_, rfl⟩
  have HHE : Aside0 (baseI ins outs = hd + sumI ins + sumO outs) := ⟨by unfold baseI; rw [HNI.out, HNO.out, hhd]⟩
  have HHD : Aside0 (0 ≤ hd ∧ hd ≤ 26) := ⟨by have := HV.out; omega⟩
  rw [hhd]
  clear hhd hu1 hu2
  have HM1 := Aside0.mk (HM.out.below HB2.out)
  have kb1 := cell_of HM1.out.blk (j := 1) (v := .slice A1 ins.length c1) rfl
  go_wp2_with fail
  go_loopg [3, 29] (ins.length + 1) (fun kq p3 p29 w' => ∃ i : Nat, p29 = .int .i64 (i : Int) ∧ p3 = .int .i64 (hd + sumI (ins.take i)) ∧ Aside0 (i ≤ ins.length ∧ ins.length + 1 ≤ i + kq) ∧ Aside0 (Below w.heap.size w w'))
  case atStart => exact ⟨0, by rfl, by rw [List.take_zero]; show _ = Value.int .i64 (hd + 0); rw [Int.add_zero], ⟨by omega⟩, HB2⟩
  case round =>
    clear kb1
    obtain ⟨i, rfl, rfl, HK, HWe⟩ := hrel
    by_cases hlt : i < ins.length
    · have hi1 : (i : Int) < (ins.length : Int) := by omega
      have hi2 : (i : Int) < (ni : Int) := by rw [← HNI.out]; exact hi1
      obtain ⟨ad, g0, B1, d1, B2, d2, e1, hx, hx1, hx2, hn1, hn2⟩ := in_ptr (HM.out.below HWe.out).g1 i rfl hlt
      subst e1
      clear hx2 hn1 hn2
      have hfx := (HF.out.i1 _ (List.getElem_mem hlt)).1
      have hsr := sumI_range (ins.take i) (fun x hx => (HF.out.i1 x (List.mem_of_mem_take hx)).1)
      have hln : (ins.take i).length ≤ 1000000 := by rw [List.length_take]; have := HF.out.n1; omega
      obtain ⟨n, hn⟩ : ∃ n, (ins[i]).f1.length = n := ⟨_, rfl⟩
      have HTK : Aside0 (sumI (ins.take (i + 1)) = sumI (ins.take i) + (40 + varL (n : Int) + n)) := ⟨by rw [List.take_succ_eq_append_getElem hlt, sumI_snoc]; unfold inS; rw [hn]⟩
      rw [hn] at hx1 hfx
      have hvn := varL_range (n : Int)
      obtain ⟨sm, hsm⟩ : ∃ z, sumI (ins.take i) = z := ⟨_, rfl⟩
      rw [hsm] at hsr HTK ⊢
      have hw1 : wrap64 ((i : Int) + 1) = ((i + 1 : Nat) : Int) := by have := HF.out.n1; unfold wrap64; omega
      have hhd := HHD.out
      have hq4 : wrap64 (hd + sm + (40 + varL (n : Int) + (n : Int))) = hd + sm + (40 + varL (n : Int) + (n : Int)) := by unfold wrap64; omega
      have HHI := Aside0.mk hlt
      clear hsr hln hn hsm hhd hvn hlt
      go_wp2_with (go_at_call 50; (with_reducible refine (inSizeC g0 n B1 d1 wr hx1 hfx).mono ?_); rintro e w2 ⟨rfl, hb2⟩; have HB3 := Aside0.mk hb2; clear hb2)
      go_roundg (gk - 1)
      case measure => exact meas1 HK.out HHI.out
      case rel => exact ⟨i + 1, by first | rfl | (rw [hw1]; done), by rw [HTK.out, ← Int.add_assoc hd sm, hq4], ⟨meas2 HK.out HHI.out⟩, ⟨HWe.out.trans (HB3.out.mono HWe.out.size)⟩⟩
    · have hi1 : ¬ (i : Int) < (ins.length : Int) := by omega
      have hi2 : ¬ (i : Int) < (ni : Int) := by rw [← HNI.out]; exact hi1
      have hii : i = ins.length := by have := HK.out; omega
      subst hii
      rw [List.take_length]
      have hsr := sumI_range ins (fun x hx => (HF.out.i1 x hx).1)
      have HN0 : Aside0 (0 ≤ hd + sumI ins ∧ hd + sumI ins ≤ 3000000000000) := ⟨by have := HHD.out; have := HF.out.n1; omega⟩
      obtain ⟨n0, hn0⟩ : ∃ z, hd + sumI ins = z := ⟨_, rfl⟩
      rw [hn0] at HN0 HHE ⊢
      have kb2 := cell_of (HM.out.below HWe.out).blk (j := 2) (v := .slice A2 outs.length c2) rfl
      clear hsr hn0 HHD HK hi1
      go_wp2_with fail
      go_loopg [3, 43] (outs.length + 1) (fun kq p3 p43 w' => ∃ i : Nat, p43 = .int .i64 (i : Int) ∧ p3 = .int .i64 (n0 + sumO (outs.take i)) ∧ Aside0 (i ≤ outs.length ∧ outs.length + 1 ≤ i + kq) ∧ Aside0 (Below w.heap.size w w'))
      case atStart => exact ⟨0, by rfl, by rw [List.take_zero]; show _ = Value.int .i64 (n0 + 0); rw [Int.add_zero], ⟨by omega⟩, HWe⟩
      case round =>
        clear kb2
        obtain ⟨i, rfl, rfl, HK, HWf⟩ := hrel
        by_cases hlt : i < outs.length
        · have hi1 : (i : Int) < (outs.length : Int) := by omega
          have hi2 : (i : Int) < (no : Int) := by rw [← HNO.out]; exact hi1
          obtain ⟨ad, g0, B1, d1, e1, hx, hx0, hx1, h8, h9⟩ := out_ptr (HM.out.below HWf.out).g2 i rfl hlt
          subst e1
          clear hx0 h8 h9
          have hfx := HF.out.o1 _ (List.getElem_mem hlt)
          have hsr := sumO_range (outs.take i) (fun x hx => HF.out.o1 x (List.mem_of_mem_take hx))
          have hln : (outs.take i).length ≤ 1000000 := by rw [List.length_take]; have := HF.out.n2; omega
          obtain ⟨n, hn⟩ : ∃ n, (outs[i]).f1.length = n := ⟨_, rfl⟩
          have HTK : Aside0 (sumO (outs.take (i + 1)) = sumO (outs.take i) + (8 + varL (n : Int) + n)) := ⟨by rw [List.take_succ_eq_append_getElem hlt, sumO_snoc]; unfold outS; rw [hn]⟩
          rw [hn] at hx1 hfx
          have hvn := varL_range (n : Int)
          obtain ⟨sm, hsm⟩ : ∃ z, sumO (outs.take i) = z := ⟨_, rfl⟩
          rw [hsm] at hsr HTK ⊢
          have hw1 : wrap64 ((i : Int) + 1) = ((i + 1 : Nat) : Int) := by have := HF.out.n2; unfold wrap64; omega
          have hhd := HN0.out
          have hq4 : wrap64 (n0 + sm + (8 + varL (n : Int) + (n : Int))) = n0 + sm + (8 + varL (n : Int) + (n : Int)) := by unfold wrap64; omega
          have HHI := Aside0.mk hlt
          clear hsr hln hn hsm hhd hvn hlt
          go_wp2_with (go_at_call 70; (with_reducible refine (outSizeC g0 n B1 d1 wr hx1 hfx).mono ?_); rintro e w2 ⟨rfl, hb2⟩; have HB3 := Aside0.mk hb2; clear hb2)
          go_roundg (gk - 1)
          case measure => exact meas1 HK.out HHI.out
          case rel => exact ⟨i + 1, by first | rfl | (rw [hw1]; done), by rw [HTK.out, ← Int.add_assoc n0 sm, hq4], ⟨meas2 HK.out HHI.out⟩, ⟨HWf.out.trans (HB3.out.mono HWf.out.size)⟩⟩
        · have hi1 : ¬ (i : Int) < (outs.length : Int) := by omega
          have hi2 : ¬ (i : Int) < (no : Int) := by rw [← HNO.out]; exact hi1
          have hii : i = outs.length := by have := HK.out; omega
          subst hii
          rw [List.take_length]
          go_wp2_with fail
          go_ret
          exact ⟨by rw [HHE.out]; rfl, HWf.out⟩
set_option maxRecDepth 100000 in
theorem strippedC (g : Nat) (v lock : Int) (ins : List S35) (outs : List S41) (A1 : Option Addr) (c1 : Nat) (A2 : Option Addr) (c2 : Nat) (w : World) (hm : Msg w g v lock ins outs A1 c1 A2 c2) (hf : TxFit ins outs) :
    Calls Try.prog 54 #[.pointer (some ⟨g, 0, none⟩)] w fun e w' => e = .returned (.int .i64 (baseI ins outs)) ∧ Below w.heap.size w w' := by
  obtain ⟨z, hz⟩ : ∃ z, baseI ins outs = z := ⟨_, rfl⟩
  have HC : Aside0 (Calls Try.prog 68 #[.pointer (some ⟨g, 0, none⟩)] w fun e w' => e = .returned (.int .i64 z) ∧ Below w.heap.size w w') := ⟨by rw [← hz]; exact baseSizeC g v lock ins outs A1 c1 A2 c2 w hm hf⟩
  rw [hz]
  clear hm hf hz
  go_enter Try.func54, Try.ntmps54
  go_wp2_with (go_at_call 68; (with_reducible refine HC.out.mono ?_); rintro e w2 ⟨rfl, hb2⟩; have HB3 := Aside0.mk hb2; clear hb2)
  go_ret
  exact ⟨rfl, HB3.out⟩
set_option maxRecDepth 100000 in
theorem ruleErrC (c : Int) (d : ByteArray) (w : World) : Calls Try.prog 53 #[.int .i64 c, .string d] w fun e w' => e = .returned (.agg #[.int .i64 c, .string d]) ∧ Below w.heap.size w w' := by
  go_enter Try.func53, Try.ntmps53
  go_wp2_with fail
  refine bodyPost_ret (v := .agg #[.int .i64 c, .string d]) (by simp [results, Try.results53, go_sem]) rfl ⟨rfl, below_alloc (Below.refl _ _) _⟩
end Go.Proofs.Ytdheoajaaofmbaa.QFnScriptPlaces
